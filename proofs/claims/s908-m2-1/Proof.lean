import JvmDerived
import JvmDerived.Pilot.@@N@@Statement
import JvmDerived.Pilot.@@N@@Code
set_option linter.unusedVariables false
set_option linter.unusedSimpArgs false
namespace Jvm.Pilot.@@N@@
open Jvm Jvm.ClassFile Sem Op Lib Jvm.Free Jvm.Stand Jvm.LawKit Jvm.RoadKit Bundle Jvm.Pilot.@@N@@.Jvm.D
/-! OwnKit: one predicate for where a walk stands (Wk), one for what is still to be shown (Wp), and a lemma a step, in continuation form. -/
section OwnKit
variable {p : Program} {l : Launch} {e : Env} {R : Room} {s : State} {vm0 : Vm} {m : MethodId} {args : Array Value} {below : List Frame} {meth : Method} {c : Code} {Z : State} {own : String} {n0 : Nat} {B : ByteArray} {ML : Nat} {ret : Option FieldType} {T : State} {h : Heap} {locs : List Loc} {cells slots : Nat} {a0 : Array Value} {Post : Outcome → State → Prop} {pc : Nat} {L : Array Slot} {S : List Value}
/-- where a walk stands -/
def Wk (p : Program) (l : Launch) (e : Env) (R : Room) (s : State) (vm0 : Vm) (m : MethodId) (args : Array Value) (below : List Frame) (meth : Method) (c : Code) (Z : State) (own : String) (n0 : Nat) (B : ByteArray) (ML : Nat) (ret : Option FieldType) (T : State) (h : Heap) (locs : List Loc) (cells slots : Nat) : Prop :=
  Stand p l e R (s.setVm vm0) m args below meth c T locs cells slots ∧ s.Since vm0 h.size ∧ Z.Warmed39 vm0 ∧ vm0.findClass own = some m.cls ∧ T.heap = h ∧ Fr n0 locs ∧ p.tables.exec = Jvm.exec ∧ c.code = B ∧ c.maxLocals = ML ∧ meth.sig.returnType = ret ∧ meth.locks = false
/-- what is still to be shown -/
def Wp (p : Program) (e : Env) (below : List Frame) (Post : Outcome → State → Prop) (T : State) (g : JFrame) : Prop :=
  ∃ s₂ o, Steps p.tables e below (T.setTop g) s₂ ∧ s₂.status = .running ∧ Ended s₂ below o ∧ Post o s₂
theorem Wp.imp {T' : State} {g g' : JFrame} (w : Wp p e below Post T' g') (k : ∀ t, Steps p.tables e below (T'.setTop g') t → Steps p.tables e below (T.setTop g) t) : Wp p e below Post T g := by
  obtain ⟨s₂, o, h1, r⟩ := w
  exact ⟨s₂, o, k _ h1, r⟩
theorem Wk.st (W : Wk p l e R s vm0 m args below meth c Z own n0 B ML ret T h locs cells slots) : Stand p l e R (s.setVm vm0) m args below meth c T locs cells slots := W.1
theorem Wk.here (W : Wk p l e R s vm0 m args below meth c Z own n0 B ML ret T h locs cells slots) : At T m c below := W.1.here
theorem Wk.since (W : Wk p l e R s vm0 m args below meth c Z own n0 B ML ret T h locs cells slots) : s.Since vm0 h.size := W.2.1
theorem Wk.wZ (W : Wk p l e R s vm0 m args below meth c Z own n0 B ML ret T h locs cells slots) : Z.Warmed39 (s.setVm vm0).vm := W.2.2.1
theorem Wk.own' (W : Wk p l e R s vm0 m args below meth c Z own n0 B ML ret T h locs cells slots) : (s.setVm vm0).vm.findClass own = some m.cls := W.2.2.2.1
theorem Wk.heap (W : Wk p l e R s vm0 m args below meth c Z own n0 B ML ret T h locs cells slots) : T.heap = h := W.2.2.2.2.1
theorem Wk.fr (W : Wk p l e R s vm0 m args below meth c Z own n0 B ML ret T h locs cells slots) : Fr n0 locs := W.2.2.2.2.2.1
theorem Wk.exec (W : Wk p l e R s vm0 m args below meth c Z own n0 B ML ret T h locs cells slots) : p.tables.exec = Jvm.exec := W.2.2.2.2.2.2.1
theorem Wk.bytes (W : Wk p l e R s vm0 m args below meth c Z own n0 B ML ret T h locs cells slots) : c.code = B := W.2.2.2.2.2.2.2.1
theorem Wk.ml (W : Wk p l e R s vm0 m args below meth c Z own n0 B ML ret T h locs cells slots) : c.maxLocals = ML := W.2.2.2.2.2.2.2.2.1
theorem Wk.ret' (W : Wk p l e R s vm0 m args below meth c Z own n0 B ML ret T h locs cells slots) : meth.sig.returnType = ret := W.2.2.2.2.2.2.2.2.2.1
theorem Wk.lk (W : Wk p l e R s vm0 m args below meth c Z own n0 B ML ret T h locs cells slots) : meth.locks = false := W.2.2.2.2.2.2.2.2.2.2
/-- on to a later state, the tables' base as it was -/
theorem Wk.on {T' : State} {h' : Heap} {locs' : List Loc} {cells' slots' : Nat} (W : Wk p l e R s vm0 m args below meth c Z own n0 B ML ret T h locs cells slots) (X : Stand p l e R (s.setVm vm0) m args below meth c T' locs' cells' slots') (e' : T'.heap = h') (g : h.size ≤ h'.size) (N : Fr n0 locs') : Wk p l e R s vm0 m args below meth c Z own n0 B ML ret T' h' locs' cells' slots' :=
  ⟨X, ⟨W.since.1, W.since.2.mono g⟩, W.wZ, W.own', e', N, W.exec, W.bytes, W.ml, W.ret', W.lk⟩
/-- fewer cells and slots than are booked -/
theorem Wk.mono {cells' slots' : Nat} (W : Wk p l e R s vm0 m args below meth c Z own n0 B ML ret T h locs cells slots) (hc : cells ≤ cells') (hn : slots ≤ slots') : Wk p l e R s vm0 m args below meth c Z own n0 B ML ret T h locs cells' slots' := W.on (W.st.mono hc hn) W.heap (Nat.le_refl _) W.fr

theorem w_iload (W : Wk p l e R s vm0 m args below meth c Z own n0 B ML ret T h locs cells slots) {k : Nat} {v : Int32} (hd : decode B pc = .ok (.iload k, 2)) (hl : L[k]? = some (.val (.int v))) (hr : Wp p e below Post T (mkF m (pc + 2) L (.int v :: S))) : Wp p e below Post T (mkF m pc L S) :=
  hr.imp fun t q => XS.iload W.here W.exec rfl (hb W.bytes hd) hl q
theorem w_iloadN (W : Wk p l e R s vm0 m args below meth c Z own n0 B ML ret T h locs cells slots) {k : Fin 4} {v : Int32} (hd : decode B pc = .ok (.iload_n k, 1)) (hl : L[k.val]? = some (.val (.int v))) (hr : Wp p e below Post T (mkF m (pc + 1) L (.int v :: S))) : Wp p e below Post T (mkF m pc L S) :=
  hr.imp fun t q => XS.iloadN W.here W.exec rfl (hb W.bytes hd) hl q
theorem w_istore (W : Wk p l e R s vm0 m args below meth c Z own n0 B ML ret T h locs cells slots) {k : Nat} {v : Int32} {L' : Array Slot} (hd : decode B pc = .ok (.istore k, 2)) (hl : storeLocals L k (.int v) = some L') (hr : Wp p e below Post T (mkF m (pc + 2) L' S)) : Wp p e below Post T (mkF m pc L (.int v :: S)) :=
  hr.imp fun t q => XS.istore W.here W.exec rfl (hb W.bytes hd) rfl hl q
theorem w_istoreN (W : Wk p l e R s vm0 m args below meth c Z own n0 B ML ret T h locs cells slots) {k : Fin 4} {v : Int32} {L' : Array Slot} (hd : decode B pc = .ok (.istore_n k, 1)) (hl : storeLocals L k.val (.int v) = some L') (hr : Wp p e below Post T (mkF m (pc + 1) L' S)) : Wp p e below Post T (mkF m pc L (.int v :: S)) :=
  hr.imp fun t q => XS.istoreN W.here W.exec rfl (hb W.bytes hd) rfl hl q
theorem w_lload (W : Wk p l e R s vm0 m args below meth c Z own n0 B ML ret T h locs cells slots) {k : Nat} {v : Int64} (hd : decode B pc = .ok (.lload k, 2)) (hl : L[k]? = some (.val (.long v))) (hr : Wp p e below Post T (mkF m (pc + 2) L (.long v :: S))) : Wp p e below Post T (mkF m pc L S) :=
  hr.imp fun t q => XS.lload W.here W.exec rfl (hb W.bytes hd) hl q
theorem w_lloadN (W : Wk p l e R s vm0 m args below meth c Z own n0 B ML ret T h locs cells slots) {k : Fin 4} {v : Int64} (hd : decode B pc = .ok (.lload_n k, 1)) (hl : L[k.val]? = some (.val (.long v))) (hr : Wp p e below Post T (mkF m (pc + 1) L (.long v :: S))) : Wp p e below Post T (mkF m pc L S) :=
  hr.imp fun t q => XS.lloadN W.here W.exec rfl (hb W.bytes hd) hl q
theorem w_lstore (W : Wk p l e R s vm0 m args below meth c Z own n0 B ML ret T h locs cells slots) {k : Nat} {v : Int64} {L' : Array Slot} (hd : decode B pc = .ok (.lstore k, 2)) (hl : storeLocals L k (.long v) = some L') (hr : Wp p e below Post T (mkF m (pc + 2) L' S)) : Wp p e below Post T (mkF m pc L (.long v :: S)) :=
  hr.imp fun t q => XS.lstore W.here W.exec rfl (hb W.bytes hd) rfl hl q
theorem w_lstoreN (W : Wk p l e R s vm0 m args below meth c Z own n0 B ML ret T h locs cells slots) {k : Fin 4} {v : Int64} {L' : Array Slot} (hd : decode B pc = .ok (.lstore_n k, 1)) (hl : storeLocals L k.val (.long v) = some L') (hr : Wp p e below Post T (mkF m (pc + 1) L' S)) : Wp p e below Post T (mkF m pc L (.long v :: S)) :=
  hr.imp fun t q => XS.lstoreN W.here W.exec rfl (hb W.bytes hd) rfl hl q
theorem w_aload (W : Wk p l e R s vm0 m args below meth c Z own n0 B ML ret T h locs cells slots) {k : Nat} {v : Value} (hd : decode B pc = .ok (.aload k, 2)) (hl : L[k]? = some (.val v)) (hv : v.isRef = true) (hr : Wp p e below Post T (mkF m (pc + 2) L (v :: S))) : Wp p e below Post T (mkF m pc L S) :=
  hr.imp fun t q => XS.aload W.here W.exec rfl (hb W.bytes hd) hl hv q
theorem w_aloadN (W : Wk p l e R s vm0 m args below meth c Z own n0 B ML ret T h locs cells slots) {k : Fin 4} {v : Value} (hd : decode B pc = .ok (.aload_n k, 1)) (hl : L[k.val]? = some (.val v)) (hv : v.isRef = true) (hr : Wp p e below Post T (mkF m (pc + 1) L (v :: S))) : Wp p e below Post T (mkF m pc L S) :=
  hr.imp fun t q => XS.aloadN W.here W.exec rfl (hb W.bytes hd) hl hv q
theorem w_astore (W : Wk p l e R s vm0 m args below meth c Z own n0 B ML ret T h locs cells slots) {k : Nat} {v : Value} {L' : Array Slot} (hd : decode B pc = .ok (.astore k, 2)) (hv : v.isRef = true) (hl : storeLocals L k v = some L') (hr : Wp p e below Post T (mkF m (pc + 2) L' S)) : Wp p e below Post T (mkF m pc L (v :: S)) :=
  hr.imp fun t q => XS.astore W.here W.exec rfl (hb W.bytes hd) rfl hv hl q
theorem w_astoreN (W : Wk p l e R s vm0 m args below meth c Z own n0 B ML ret T h locs cells slots) {k : Fin 4} {v : Value} {L' : Array Slot} (hd : decode B pc = .ok (.astore_n k, 1)) (hv : v.isRef = true) (hl : storeLocals L k.val v = some L') (hr : Wp p e below Post T (mkF m (pc + 1) L' S)) : Wp p e below Post T (mkF m pc L (v :: S)) :=
  hr.imp fun t q => XS.astoreN W.here W.exec rfl (hb W.bytes hd) rfl hv hl q
theorem w_iconst (W : Wk p l e R s vm0 m args below meth c Z own n0 B ML ret T h locs cells slots) {i : Int} {z : Int32} (hd : decode B pc = .ok (.iconst i, 1)) (hz : Int32.ofInt i = z) (hr : Wp p e below Post T (mkF m (pc + 1) L (.int z :: S))) : Wp p e below Post T (mkF m pc L S) := by
  subst hz; exact hr.imp fun t q => XS.iconst W.here W.exec rfl (hb W.bytes hd)  q
theorem w_bipush (W : Wk p l e R s vm0 m args below meth c Z own n0 B ML ret T h locs cells slots) {i : Int} {z : Int32} (hd : decode B pc = .ok (.bipush i, 2)) (hz : (Int8.ofInt i).toInt32 = z) (hr : Wp p e below Post T (mkF m (pc + 2) L (.int z :: S))) : Wp p e below Post T (mkF m pc L S) := by
  subst hz; exact hr.imp fun t q => XS.bipush W.here W.exec rfl (hb W.bytes hd)  q
theorem w_sipush (W : Wk p l e R s vm0 m args below meth c Z own n0 B ML ret T h locs cells slots) {i : Int} {z : Int32} (hd : decode B pc = .ok (.sipush i, 3)) (hz : (Int16.ofInt i).toInt32 = z) (hr : Wp p e below Post T (mkF m (pc + 3) L (.int z :: S))) : Wp p e below Post T (mkF m pc L S) := by
  subst hz; exact hr.imp fun t q => XS.sipush W.here W.exec rfl (hb W.bytes hd)  q
theorem w_iadd (W : Wk p l e R s vm0 m args below meth c Z own n0 B ML ret T h locs cells slots) {x y : Int32} {z : Int32} (hd : decode B pc = .ok (.iadd, 1)) (hz : x + y = z) (hr : Wp p e below Post T (mkF m (pc + 1) L (.int z :: S))) : Wp p e below Post T (mkF m pc L (.int y :: .int x :: S)) := by
  subst hz; exact hr.imp fun t q => XS.iadd W.here W.exec rfl (hb W.bytes hd) rfl q
theorem w_isub (W : Wk p l e R s vm0 m args below meth c Z own n0 B ML ret T h locs cells slots) {x y : Int32} {z : Int32} (hd : decode B pc = .ok (.isub, 1)) (hz : x - y = z) (hr : Wp p e below Post T (mkF m (pc + 1) L (.int z :: S))) : Wp p e below Post T (mkF m pc L (.int y :: .int x :: S)) := by
  subst hz; exact hr.imp fun t q => XS.isub W.here W.exec rfl (hb W.bytes hd) rfl q
theorem w_imul (W : Wk p l e R s vm0 m args below meth c Z own n0 B ML ret T h locs cells slots) {x y : Int32} {z : Int32} (hd : decode B pc = .ok (.imul, 1)) (hz : x * y = z) (hr : Wp p e below Post T (mkF m (pc + 1) L (.int z :: S))) : Wp p e below Post T (mkF m pc L (.int y :: .int x :: S)) := by
  subst hz; exact hr.imp fun t q => XS.imul W.here W.exec rfl (hb W.bytes hd) rfl q
theorem w_iand (W : Wk p l e R s vm0 m args below meth c Z own n0 B ML ret T h locs cells slots) {x y : Int32} {z : Int32} (hd : decode B pc = .ok (.iand, 1)) (hz : x &&& y = z) (hr : Wp p e below Post T (mkF m (pc + 1) L (.int z :: S))) : Wp p e below Post T (mkF m pc L (.int y :: .int x :: S)) := by
  subst hz; exact hr.imp fun t q => XS.iand W.here W.exec rfl (hb W.bytes hd) rfl q
theorem w_ior (W : Wk p l e R s vm0 m args below meth c Z own n0 B ML ret T h locs cells slots) {x y : Int32} {z : Int32} (hd : decode B pc = .ok (.ior, 1)) (hz : x ||| y = z) (hr : Wp p e below Post T (mkF m (pc + 1) L (.int z :: S))) : Wp p e below Post T (mkF m pc L (.int y :: .int x :: S)) := by
  subst hz; exact hr.imp fun t q => XS.ior W.here W.exec rfl (hb W.bytes hd) rfl q
theorem w_ixor (W : Wk p l e R s vm0 m args below meth c Z own n0 B ML ret T h locs cells slots) {x y : Int32} {z : Int32} (hd : decode B pc = .ok (.ixor, 1)) (hz : x ^^^ y = z) (hr : Wp p e below Post T (mkF m (pc + 1) L (.int z :: S))) : Wp p e below Post T (mkF m pc L (.int y :: .int x :: S)) := by
  subst hz; exact hr.imp fun t q => XS.ixor W.here W.exec rfl (hb W.bytes hd) rfl q
theorem w_ladd (W : Wk p l e R s vm0 m args below meth c Z own n0 B ML ret T h locs cells slots) {x y : Int64} {z : Int64} (hd : decode B pc = .ok (.ladd, 1)) (hz : x + y = z) (hr : Wp p e below Post T (mkF m (pc + 1) L (.long z :: S))) : Wp p e below Post T (mkF m pc L (.long y :: .long x :: S)) := by
  subst hz; exact hr.imp fun t q => XS.ladd W.here W.exec rfl (hb W.bytes hd) rfl q
theorem w_lsub (W : Wk p l e R s vm0 m args below meth c Z own n0 B ML ret T h locs cells slots) {x y : Int64} {z : Int64} (hd : decode B pc = .ok (.lsub, 1)) (hz : x - y = z) (hr : Wp p e below Post T (mkF m (pc + 1) L (.long z :: S))) : Wp p e below Post T (mkF m pc L (.long y :: .long x :: S)) := by
  subst hz; exact hr.imp fun t q => XS.lsub W.here W.exec rfl (hb W.bytes hd) rfl q
theorem w_lmul (W : Wk p l e R s vm0 m args below meth c Z own n0 B ML ret T h locs cells slots) {x y : Int64} {z : Int64} (hd : decode B pc = .ok (.lmul, 1)) (hz : x * y = z) (hr : Wp p e below Post T (mkF m (pc + 1) L (.long z :: S))) : Wp p e below Post T (mkF m pc L (.long y :: .long x :: S)) := by
  subst hz; exact hr.imp fun t q => XS.lmul W.here W.exec rfl (hb W.bytes hd) rfl q
theorem w_land (W : Wk p l e R s vm0 m args below meth c Z own n0 B ML ret T h locs cells slots) {x y : Int64} {z : Int64} (hd : decode B pc = .ok (.land, 1)) (hz : x &&& y = z) (hr : Wp p e below Post T (mkF m (pc + 1) L (.long z :: S))) : Wp p e below Post T (mkF m pc L (.long y :: .long x :: S)) := by
  subst hz; exact hr.imp fun t q => XS.land W.here W.exec rfl (hb W.bytes hd) rfl q
theorem w_lor (W : Wk p l e R s vm0 m args below meth c Z own n0 B ML ret T h locs cells slots) {x y : Int64} {z : Int64} (hd : decode B pc = .ok (.lor, 1)) (hz : x ||| y = z) (hr : Wp p e below Post T (mkF m (pc + 1) L (.long z :: S))) : Wp p e below Post T (mkF m pc L (.long y :: .long x :: S)) := by
  subst hz; exact hr.imp fun t q => XS.lor W.here W.exec rfl (hb W.bytes hd) rfl q
theorem w_lxor (W : Wk p l e R s vm0 m args below meth c Z own n0 B ML ret T h locs cells slots) {x y : Int64} {z : Int64} (hd : decode B pc = .ok (.lxor, 1)) (hz : x ^^^ y = z) (hr : Wp p e below Post T (mkF m (pc + 1) L (.long z :: S))) : Wp p e below Post T (mkF m pc L (.long y :: .long x :: S)) := by
  subst hz; exact hr.imp fun t q => XS.lxor W.here W.exec rfl (hb W.bytes hd) rfl q
theorem w_ishl (W : Wk p l e R s vm0 m args below meth c Z own n0 B ML ret T h locs cells slots) {x y : Int32} {z : Int32} (hd : decode B pc = .ok (.ishl, 1)) (hz : x <<< (y &&& 31) = z) (hr : Wp p e below Post T (mkF m (pc + 1) L (.int z :: S))) : Wp p e below Post T (mkF m pc L (.int y :: .int x :: S)) := by
  subst hz; exact hr.imp fun t q => XS.ishl W.here W.exec rfl (hb W.bytes hd) rfl q
theorem w_ishr (W : Wk p l e R s vm0 m args below meth c Z own n0 B ML ret T h locs cells slots) {x y : Int32} {z : Int32} (hd : decode B pc = .ok (.ishr, 1)) (hz : x >>> (y &&& 31) = z) (hr : Wp p e below Post T (mkF m (pc + 1) L (.int z :: S))) : Wp p e below Post T (mkF m pc L (.int y :: .int x :: S)) := by
  subst hz; exact hr.imp fun t q => XS.ishr W.here W.exec rfl (hb W.bytes hd) rfl q
theorem w_iushr (W : Wk p l e R s vm0 m args below meth c Z own n0 B ML ret T h locs cells slots) {x y : Int32} {z : Int32} (hd : decode B pc = .ok (.iushr, 1)) (hz : (x.toUInt32 >>> (y &&& 31).toUInt32).toInt32 = z) (hr : Wp p e below Post T (mkF m (pc + 1) L (.int z :: S))) : Wp p e below Post T (mkF m pc L (.int y :: .int x :: S)) := by
  subst hz; exact hr.imp fun t q => XS.iushr W.here W.exec rfl (hb W.bytes hd) rfl q
theorem w_lshl (W : Wk p l e R s vm0 m args below meth c Z own n0 B ML ret T h locs cells slots) {x : Int64} {y : Int32} {z : Int64} (hd : decode B pc = .ok (.lshl, 1)) (hz : x <<< (y &&& 0x3f).toInt64 = z) (hr : Wp p e below Post T (mkF m (pc + 1) L (.long z :: S))) : Wp p e below Post T (mkF m pc L (.int y :: .long x :: S)) := by
  subst hz; exact hr.imp fun t q => XS.lshl W.here W.exec rfl (hb W.bytes hd) rfl q
theorem w_lshr (W : Wk p l e R s vm0 m args below meth c Z own n0 B ML ret T h locs cells slots) {x : Int64} {y : Int32} {z : Int64} (hd : decode B pc = .ok (.lshr, 1)) (hz : x >>> (y &&& 0x3f).toInt64 = z) (hr : Wp p e below Post T (mkF m (pc + 1) L (.long z :: S))) : Wp p e below Post T (mkF m pc L (.int y :: .long x :: S)) := by
  subst hz; exact hr.imp fun t q => XS.lshr W.here W.exec rfl (hb W.bytes hd) rfl q
theorem w_lushr (W : Wk p l e R s vm0 m args below meth c Z own n0 B ML ret T h locs cells slots) {x : Int64} {y : Int32} {z : Int64} (hd : decode B pc = .ok (.lushr, 1)) (hz : (x.toUInt64 >>> (y &&& 0x3f).toInt64.toUInt64).toInt64 = z) (hr : Wp p e below Post T (mkF m (pc + 1) L (.long z :: S))) : Wp p e below Post T (mkF m pc L (.int y :: .long x :: S)) := by
  subst hz; exact hr.imp fun t q => XS.lushr W.here W.exec rfl (hb W.bytes hd) rfl q
theorem w_ineg (W : Wk p l e R s vm0 m args below meth c Z own n0 B ML ret T h locs cells slots) {x : Int32} {z : Int32} (hd : decode B pc = .ok (.ineg, 1)) (hz : -x = z) (hr : Wp p e below Post T (mkF m (pc + 1) L (.int z :: S))) : Wp p e below Post T (mkF m pc L (.int x :: S)) := by
  subst hz; exact hr.imp fun t q => XS.ineg W.here W.exec rfl (hb W.bytes hd) rfl q
theorem w_lneg (W : Wk p l e R s vm0 m args below meth c Z own n0 B ML ret T h locs cells slots) {x : Int64} {z : Int64} (hd : decode B pc = .ok (.lneg, 1)) (hz : -x = z) (hr : Wp p e below Post T (mkF m (pc + 1) L (.long z :: S))) : Wp p e below Post T (mkF m pc L (.long x :: S)) := by
  subst hz; exact hr.imp fun t q => XS.lneg W.here W.exec rfl (hb W.bytes hd) rfl q
theorem w_i2l (W : Wk p l e R s vm0 m args below meth c Z own n0 B ML ret T h locs cells slots) {x : Int32} {z : Int64} (hd : decode B pc = .ok (.i2l, 1)) (hz : x.toInt64 = z) (hr : Wp p e below Post T (mkF m (pc + 1) L (.long z :: S))) : Wp p e below Post T (mkF m pc L (.int x :: S)) := by
  subst hz; exact hr.imp fun t q => XS.i2l W.here W.exec rfl (hb W.bytes hd) rfl q
theorem w_l2i (W : Wk p l e R s vm0 m args below meth c Z own n0 B ML ret T h locs cells slots) {x : Int64} {z : Int32} (hd : decode B pc = .ok (.l2i, 1)) (hz : x.toInt32 = z) (hr : Wp p e below Post T (mkF m (pc + 1) L (.int z :: S))) : Wp p e below Post T (mkF m pc L (.long x :: S)) := by
  subst hz; exact hr.imp fun t q => XS.l2i W.here W.exec rfl (hb W.bytes hd) rfl q
theorem w_i2b (W : Wk p l e R s vm0 m args below meth c Z own n0 B ML ret T h locs cells slots) {x : Int32} {z : Int32} (hd : decode B pc = .ok (.i2b, 1)) (hz : x.toInt8.toInt32 = z) (hr : Wp p e below Post T (mkF m (pc + 1) L (.int z :: S))) : Wp p e below Post T (mkF m pc L (.int x :: S)) := by
  subst hz; exact hr.imp fun t q => XS.i2b W.here W.exec rfl (hb W.bytes hd) rfl q
theorem w_i2c (W : Wk p l e R s vm0 m args below meth c Z own n0 B ML ret T h locs cells slots) {x : Int32} {z : Int32} (hd : decode B pc = .ok (.i2c, 1)) (hz : x.toUInt32.toUInt16.toUInt32.toInt32 = z) (hr : Wp p e below Post T (mkF m (pc + 1) L (.int z :: S))) : Wp p e below Post T (mkF m pc L (.int x :: S)) := by
  subst hz; exact hr.imp fun t q => XS.i2c W.here W.exec rfl (hb W.bytes hd) rfl q
theorem w_i2s (W : Wk p l e R s vm0 m args below meth c Z own n0 B ML ret T h locs cells slots) {x : Int32} {z : Int32} (hd : decode B pc = .ok (.i2s, 1)) (hz : x.toInt16.toInt32 = z) (hr : Wp p e below Post T (mkF m (pc + 1) L (.int z :: S))) : Wp p e below Post T (mkF m pc L (.int x :: S)) := by
  subst hz; exact hr.imp fun t q => XS.i2s W.here W.exec rfl (hb W.bytes hd) rfl q
theorem w_lcmp (W : Wk p l e R s vm0 m args below meth c Z own n0 B ML ret T h locs cells slots) {x y : Int64} {z : Int32} (hd : decode B pc = .ok (.lcmp, 1)) (hz : lcmpW x y = z) (hr : Wp p e below Post T (mkF m (pc + 1) L (.int z :: S))) : Wp p e below Post T (mkF m pc L (.long y :: .long x :: S)) := by
  subst hz; exact hr.imp fun t q => XS.lcmp W.here W.exec rfl (hb W.bytes hd) rfl q
theorem w_idiv (W : Wk p l e R s vm0 m args below meth c Z own n0 B ML ret T h locs cells slots) {x y : Int32} {z : Int32} (hd : decode B pc = .ok (.idiv, 1)) (hy : y ≠ 0) (hz : x / y = z) (hr : Wp p e below Post T (mkF m (pc + 1) L (.int z :: S))) : Wp p e below Post T (mkF m pc L (.int y :: .int x :: S)) := by
  subst hz; exact hr.imp fun t q => XS.idiv W.here W.exec rfl (hb W.bytes hd) rfl hy q
theorem w_irem (W : Wk p l e R s vm0 m args below meth c Z own n0 B ML ret T h locs cells slots) {x y z : Int32} (hd : decode B pc = .ok (.irem, 1)) (hy : y ≠ 0) (hz : x % y = z) (hr : Wp p e below Post T (mkF m (pc + 1) L (.int z :: S))) : Wp p e below Post T (mkF m pc L (.int y :: .int x :: S)) := by
  subst hz; exact hr.imp fun t q => iremM W.st W.exec rfl (hb W.bytes hd) rfl hy q
theorem w_lconst (W : Wk p l e R s vm0 m args below meth c Z own n0 B ML ret T h locs cells slots) {k : Fin 2} {z : Int64} (hd : decode B pc = .ok (.lconst k, 1)) (hz : (Int64.ofNat k.val) = z) (hr : Wp p e below Post T (mkF m (pc + 1) L (.long z :: S))) : Wp p e below Post T (mkF m pc L S) := by
  subst hz; exact hr.imp fun t q => XS.lconst W.here W.exec rfl (hb W.bytes hd) q
theorem w_aconstNull (W : Wk p l e R s vm0 m args below meth c Z own n0 B ML ret T h locs cells slots)  (hd : decode B pc = .ok (.aconst_null, 1)) (hr : Wp p e below Post T (mkF m (pc + 1) L (.null :: S))) : Wp p e below Post T (mkF m pc L S) :=
  hr.imp fun t q => XS.aconstNull W.here W.exec rfl (hb W.bytes hd)  q
theorem w_dup (W : Wk p l e R s vm0 m args below meth c Z own n0 B ML ret T h locs cells slots) {v : Value} (hd : decode B pc = .ok (.dup, 1)) (hc : v.category = 1) (hr : Wp p e below Post T (mkF m (pc + 1) L (v :: v :: S))) : Wp p e below Post T (mkF m pc L (v :: S)) :=
  hr.imp fun t q => XS.dup W.here W.exec rfl (hb W.bytes hd) rfl hc q
theorem w_pop (W : Wk p l e R s vm0 m args below meth c Z own n0 B ML ret T h locs cells slots) {v : Value} (hd : decode B pc = .ok (.pop, 1)) (hc : v.category = 1) (hr : Wp p e below Post T (mkF m (pc + 1) L S)) : Wp p e below Post T (mkF m pc L (v :: S)) :=
  hr.imp fun t q => XS.pop W.here W.exec rfl (hb W.bytes hd) rfl hc q
theorem w_dupX1 (W : Wk p l e R s vm0 m args below meth c Z own n0 B ML ret T h locs cells slots) {v w : Value} (hd : decode B pc = .ok (.dup_x1, 1)) (hc : v.category = 1) (hc' : w.category = 1) (hr : Wp p e below Post T (mkF m (pc + 1) L (v :: w :: v :: S))) : Wp p e below Post T (mkF m pc L (v :: w :: S)) :=
  hr.imp fun t q => XS.dupX1 W.here W.exec rfl (hb W.bytes hd) rfl hc hc' q
theorem w_dup2 (W : Wk p l e R s vm0 m args below meth c Z own n0 B ML ret T h locs cells slots) {v w : Value} (hd : decode B pc = .ok (.dup2, 1)) (hc : v.category = 1) (hc' : w.category = 1) (hr : Wp p e below Post T (mkF m (pc + 1) L (v :: w :: v :: w :: S))) : Wp p e below Post T (mkF m pc L (v :: w :: S)) :=
  hr.imp fun t q => XT.dup2 W.here W.exec rfl (hb W.bytes hd) rfl hc hc' q
theorem w_iinc (W : Wk p l e R s vm0 m args below meth c Z own n0 B ML ret T h locs cells slots) {k : Nat} {cst : Int} {x z : Int32} {L' : Array Slot} (hd : decode B pc = .ok (.iinc k cst, 3)) (hl : L[k]? = some (.val (.int x))) (hz : x + Int32.ofInt cst = z) (hl' : storeLocals L k (.int z) = some L') (hr : Wp p e below Post T (mkF m (pc + 3) L' S)) : Wp p e below Post T (mkF m pc L S) := by
  subst hz; exact hr.imp fun t q => XS.iinc W.here W.exec rfl (hb W.bytes hd) hl hl' q
theorem w_goto (W : Wk p l e R s vm0 m args below meth c Z own n0 B ML ret T h locs cells slots) {o : Int} {pc' : Nat} (hd : decode B pc = .ok (.goto o, 3)) (hp : (pc : Int) + o = (pc' : Int)) (hr : Wp p e below Post T (mkF m pc' L S)) : Wp p e below Post T (mkF m pc L S) :=
  hr.imp fun t q => XS.goto W.here W.exec rfl (pc0 := pc) rfl (hb W.bytes hd) (by omega) (by omega) q
theorem w_icmpeq (W : Wk p l e R s vm0 m args below meth c Z own n0 B ML ret T h locs cells slots) {x y : Int32} {o : Int} {pc' : Nat} (hd : decode B pc = .ok (.if_icmp .eq o, 3)) (hp : (pc : Int) + o = (pc' : Int)) (k1 : x = y → Wp p e below Post T (mkF m pc' L S)) (k2 : ¬ (x = y) → Wp p e below Post T (mkF m (pc + 3) L S)) : Wp p e below Post T (mkF m pc L (.int y :: .int x :: S)) := by
  by_cases hq : x = y
  · exact (k1 hq).imp fun t q => XS.icmpYes W.here W.exec rfl (pc0 := pc) rfl (hb W.bytes hd) rfl (teq hq).1 (by omega) (by omega) q
  · exact (k2 hq).imp fun t q => XS.icmpNo W.here W.exec rfl (hb W.bytes hd) rfl (feq hq).1 q
theorem w_ifeq (W : Wk p l e R s vm0 m args below meth c Z own n0 B ML ret T h locs cells slots) {x : Int32} {o : Int} {pc' : Nat} (hd : decode B pc = .ok (.ifCond .eq o, 3)) (hp : (pc : Int) + o = (pc' : Int)) (k1 : x = 0 → Wp p e below Post T (mkF m pc' L S)) (k2 : ¬ (x = 0) → Wp p e below Post T (mkF m (pc + 3) L S)) : Wp p e below Post T (mkF m pc L (.int x :: S)) := by
  by_cases hq : x = 0
  · exact (k1 hq).imp fun t q => XS.ifYes W.here W.exec rfl (pc0 := pc) rfl (hb W.bytes hd) rfl ((if0 _ _).trans (teq hq).1) (by omega) (by omega) q
  · exact (k2 hq).imp fun t q => XS.ifNo W.here W.exec rfl (hb W.bytes hd) rfl ((if0 _ _).trans (feq hq).1) q
theorem w_icmpne (W : Wk p l e R s vm0 m args below meth c Z own n0 B ML ret T h locs cells slots) {x y : Int32} {o : Int} {pc' : Nat} (hd : decode B pc = .ok (.if_icmp .ne o, 3)) (hp : (pc : Int) + o = (pc' : Int)) (k1 : ¬ (x = y) → Wp p e below Post T (mkF m pc' L S)) (k2 : x = y → Wp p e below Post T (mkF m (pc + 3) L S)) : Wp p e below Post T (mkF m pc L (.int y :: .int x :: S)) := by
  by_cases hq : x = y
  · exact (k2 hq).imp fun t q => XS.icmpNo W.here W.exec rfl (hb W.bytes hd) rfl (teq hq).2 q
  · exact (k1 hq).imp fun t q => XS.icmpYes W.here W.exec rfl (pc0 := pc) rfl (hb W.bytes hd) rfl (feq hq).2 (by omega) (by omega) q
theorem w_ifne (W : Wk p l e R s vm0 m args below meth c Z own n0 B ML ret T h locs cells slots) {x : Int32} {o : Int} {pc' : Nat} (hd : decode B pc = .ok (.ifCond .ne o, 3)) (hp : (pc : Int) + o = (pc' : Int)) (k1 : ¬ (x = 0) → Wp p e below Post T (mkF m pc' L S)) (k2 : x = 0 → Wp p e below Post T (mkF m (pc + 3) L S)) : Wp p e below Post T (mkF m pc L (.int x :: S)) := by
  by_cases hq : x = 0
  · exact (k2 hq).imp fun t q => XS.ifNo W.here W.exec rfl (hb W.bytes hd) rfl ((if0 _ _).trans (teq hq).2) q
  · exact (k1 hq).imp fun t q => XS.ifYes W.here W.exec rfl (pc0 := pc) rfl (hb W.bytes hd) rfl ((if0 _ _).trans (feq hq).2) (by omega) (by omega) q
theorem w_icmplt (W : Wk p l e R s vm0 m args below meth c Z own n0 B ML ret T h locs cells slots) {x y : Int32} {o : Int} {pc' : Nat} (hd : decode B pc = .ok (.if_icmp .lt o, 3)) (hp : (pc : Int) + o = (pc' : Int)) (k1 : x < y → Wp p e below Post T (mkF m pc' L S)) (k2 : ¬ (x < y) → Wp p e below Post T (mkF m (pc + 3) L S)) : Wp p e below Post T (mkF m pc L (.int y :: .int x :: S)) := by
  by_cases hq : x < y
  · exact (k1 hq).imp fun t q => XS.icmpYes W.here W.exec rfl (pc0 := pc) rfl (hb W.bytes hd) rfl (tlt hq).1 (by omega) (by omega) q
  · exact (k2 hq).imp fun t q => XS.icmpNo W.here W.exec rfl (hb W.bytes hd) rfl (flt hq).1 q
theorem w_iflt (W : Wk p l e R s vm0 m args below meth c Z own n0 B ML ret T h locs cells slots) {x : Int32} {o : Int} {pc' : Nat} (hd : decode B pc = .ok (.ifCond .lt o, 3)) (hp : (pc : Int) + o = (pc' : Int)) (k1 : x < 0 → Wp p e below Post T (mkF m pc' L S)) (k2 : ¬ (x < 0) → Wp p e below Post T (mkF m (pc + 3) L S)) : Wp p e below Post T (mkF m pc L (.int x :: S)) := by
  by_cases hq : x < 0
  · exact (k1 hq).imp fun t q => XS.ifYes W.here W.exec rfl (pc0 := pc) rfl (hb W.bytes hd) rfl ((if0 _ _).trans (tlt hq).1) (by omega) (by omega) q
  · exact (k2 hq).imp fun t q => XS.ifNo W.here W.exec rfl (hb W.bytes hd) rfl ((if0 _ _).trans (flt hq).1) q
theorem w_icmpge (W : Wk p l e R s vm0 m args below meth c Z own n0 B ML ret T h locs cells slots) {x y : Int32} {o : Int} {pc' : Nat} (hd : decode B pc = .ok (.if_icmp .ge o, 3)) (hp : (pc : Int) + o = (pc' : Int)) (k1 : ¬ (x < y) → Wp p e below Post T (mkF m pc' L S)) (k2 : x < y → Wp p e below Post T (mkF m (pc + 3) L S)) : Wp p e below Post T (mkF m pc L (.int y :: .int x :: S)) := by
  by_cases hq : x < y
  · exact (k2 hq).imp fun t q => XS.icmpNo W.here W.exec rfl (hb W.bytes hd) rfl (tlt hq).2.1 q
  · exact (k1 hq).imp fun t q => XS.icmpYes W.here W.exec rfl (pc0 := pc) rfl (hb W.bytes hd) rfl (flt hq).2.1 (by omega) (by omega) q
theorem w_ifge (W : Wk p l e R s vm0 m args below meth c Z own n0 B ML ret T h locs cells slots) {x : Int32} {o : Int} {pc' : Nat} (hd : decode B pc = .ok (.ifCond .ge o, 3)) (hp : (pc : Int) + o = (pc' : Int)) (k1 : ¬ (x < 0) → Wp p e below Post T (mkF m pc' L S)) (k2 : x < 0 → Wp p e below Post T (mkF m (pc + 3) L S)) : Wp p e below Post T (mkF m pc L (.int x :: S)) := by
  by_cases hq : x < 0
  · exact (k2 hq).imp fun t q => XS.ifNo W.here W.exec rfl (hb W.bytes hd) rfl ((if0 _ _).trans (tlt hq).2.1) q
  · exact (k1 hq).imp fun t q => XS.ifYes W.here W.exec rfl (pc0 := pc) rfl (hb W.bytes hd) rfl ((if0 _ _).trans (flt hq).2.1) (by omega) (by omega) q
theorem w_icmpgt (W : Wk p l e R s vm0 m args below meth c Z own n0 B ML ret T h locs cells slots) {x y : Int32} {o : Int} {pc' : Nat} (hd : decode B pc = .ok (.if_icmp .gt o, 3)) (hp : (pc : Int) + o = (pc' : Int)) (k1 : y < x → Wp p e below Post T (mkF m pc' L S)) (k2 : ¬ (y < x) → Wp p e below Post T (mkF m (pc + 3) L S)) : Wp p e below Post T (mkF m pc L (.int y :: .int x :: S)) := by
  by_cases hq : y < x
  · exact (k1 hq).imp fun t q => XS.icmpYes W.here W.exec rfl (pc0 := pc) rfl (hb W.bytes hd) rfl (tlt hq).2.2.1 (by omega) (by omega) q
  · exact (k2 hq).imp fun t q => XS.icmpNo W.here W.exec rfl (hb W.bytes hd) rfl (flt hq).2.2.1 q
theorem w_ifgt (W : Wk p l e R s vm0 m args below meth c Z own n0 B ML ret T h locs cells slots) {x : Int32} {o : Int} {pc' : Nat} (hd : decode B pc = .ok (.ifCond .gt o, 3)) (hp : (pc : Int) + o = (pc' : Int)) (k1 : 0 < x → Wp p e below Post T (mkF m pc' L S)) (k2 : ¬ (0 < x) → Wp p e below Post T (mkF m (pc + 3) L S)) : Wp p e below Post T (mkF m pc L (.int x :: S)) := by
  by_cases hq : 0 < x
  · exact (k1 hq).imp fun t q => XS.ifYes W.here W.exec rfl (pc0 := pc) rfl (hb W.bytes hd) rfl ((if0 _ _).trans (tlt hq).2.2.1) (by omega) (by omega) q
  · exact (k2 hq).imp fun t q => XS.ifNo W.here W.exec rfl (hb W.bytes hd) rfl ((if0 _ _).trans (flt hq).2.2.1) q
theorem w_icmple (W : Wk p l e R s vm0 m args below meth c Z own n0 B ML ret T h locs cells slots) {x y : Int32} {o : Int} {pc' : Nat} (hd : decode B pc = .ok (.if_icmp .le o, 3)) (hp : (pc : Int) + o = (pc' : Int)) (k1 : ¬ (y < x) → Wp p e below Post T (mkF m pc' L S)) (k2 : y < x → Wp p e below Post T (mkF m (pc + 3) L S)) : Wp p e below Post T (mkF m pc L (.int y :: .int x :: S)) := by
  by_cases hq : y < x
  · exact (k2 hq).imp fun t q => XS.icmpNo W.here W.exec rfl (hb W.bytes hd) rfl (tlt hq).2.2.2 q
  · exact (k1 hq).imp fun t q => XS.icmpYes W.here W.exec rfl (pc0 := pc) rfl (hb W.bytes hd) rfl (flt hq).2.2.2 (by omega) (by omega) q
theorem w_ifle (W : Wk p l e R s vm0 m args below meth c Z own n0 B ML ret T h locs cells slots) {x : Int32} {o : Int} {pc' : Nat} (hd : decode B pc = .ok (.ifCond .le o, 3)) (hp : (pc : Int) + o = (pc' : Int)) (k1 : ¬ (0 < x) → Wp p e below Post T (mkF m pc' L S)) (k2 : 0 < x → Wp p e below Post T (mkF m (pc + 3) L S)) : Wp p e below Post T (mkF m pc L (.int x :: S)) := by
  by_cases hq : 0 < x
  · exact (k2 hq).imp fun t q => XS.ifNo W.here W.exec rfl (hb W.bytes hd) rfl ((if0 _ _).trans (tlt hq).2.2.2) q
  · exact (k1 hq).imp fun t q => XS.ifYes W.here W.exec rfl (pc0 := pc) rfl (hb W.bytes hd) rfl ((if0 _ _).trans (flt hq).2.2.2) (by omega) (by omega) q
theorem w_ifnullY (W : Wk p l e R s vm0 m args below meth c Z own n0 B ML ret T h locs cells slots) {b : Addr} {o : Int} {pc' : Nat} (hd : decode B pc = .ok (.ifnull o, 3)) (hp : (pc : Int) + o = (pc' : Int)) (hr : Wp p e below Post T (mkF m pc' L S)) : Wp p e below Post T (mkF m pc L (.null :: S)) :=
  hr.imp fun t q => XS.ifnullYes W.here W.exec rfl (pc0 := pc) rfl (hb W.bytes hd) rfl (by omega) (by omega) q
theorem w_ifnullN (W : Wk p l e R s vm0 m args below meth c Z own n0 B ML ret T h locs cells slots) {b : Addr} {o : Int} (hd : decode B pc = .ok (.ifnull o, 3)) (hr : Wp p e below Post T (mkF m (pc + 3) L S)) : Wp p e below Post T (mkF m pc L (.ref b :: S)) :=
  hr.imp fun t q => XS.ifnullNo W.here W.exec rfl (hb W.bytes hd) rfl q
theorem w_ifnonnullY (W : Wk p l e R s vm0 m args below meth c Z own n0 B ML ret T h locs cells slots) {b : Addr} {o : Int} {pc' : Nat} (hd : decode B pc = .ok (.ifnonnull o, 3)) (hp : (pc : Int) + o = (pc' : Int)) (hr : Wp p e below Post T (mkF m pc' L S)) : Wp p e below Post T (mkF m pc L (.ref b :: S)) :=
  hr.imp fun t q => XS.ifnonnullYes W.here W.exec rfl (pc0 := pc) rfl (hb W.bytes hd) rfl (by omega) (by omega) q
theorem w_ifnonnullN (W : Wk p l e R s vm0 m args below meth c Z own n0 B ML ret T h locs cells slots) {b : Addr} {o : Int} (hd : decode B pc = .ok (.ifnonnull o, 3)) (hr : Wp p e below Post T (mkF m (pc + 3) L S)) : Wp p e below Post T (mkF m pc L (.null :: S)) :=
  hr.imp fun t q => XS.ifnonnullNo W.here W.exec rfl (hb W.bytes hd) rfl q
theorem w_acmp (W : Wk p l e R s vm0 m args below meth c Z own n0 B ML ret T h locs cells slots) {cd : ACond} {x y : Value} {o : Int} {pc' : Nat} (same : Bool) (h1 : x.isRef = true) (h2 : y.isRef = true) (hd : decode B pc = .ok (.if_acmp cd o, 3)) (hq : decide (x = y) = same) (ho : 0 ≤ (pc : Int) + o) (hp : pc' = if acV cd same = true then ((pc : Int) + o).toNat else pc + 3) (hr : Wp p e below Post T (mkF m pc' L S)) : Wp p e below Post T (mkF m pc L (y :: x :: S)) :=
  hr.imp fun t q => Jvm.RoadKit.acmp (g := mkF m pc L (y :: x :: S)) W.st W.exec rfl h1 h2 (pc0 := pc) rfl (hb W.bytes hd) rfl hq ho hp q
theorem w_ldcI (W : Wk p l e R s vm0 m args below meth c Z own n0 B ML ret T h locs cells slots) {index : Nat} {v : Int32} (w : (Jvm.Cond.constant own index v).before a0 Z = true) (hd : decode B pc = .ok (.ldc index, 2)) (hr : Wp p e below Post T (mkF m (pc + 2) L (.int v :: S))) : Wp p e below Post T (mkF m pc L S) :=
  hr.imp fun t q => W.st.ldcInt W.exec W.own' (mvT W.wZ w) (g := mkF m pc L S) rfl (hb W.bytes hd) t q
theorem w_ldc2L (W : Wk p l e R s vm0 m args below meth c Z own n0 B ML ret T h locs cells slots) {index : Nat} {v : Int64} (w : (Jvm.Cond.constantLong own index v).before a0 Z = true) (hd : decode B pc = .ok (.ldc2_w index, 3)) (hr : Wp p e below Post T (mkF m (pc + 3) L (.long v :: S))) : Wp p e below Post T (mkF m pc L S) :=
  hr.imp fun t q => W.st.ldc2Long W.exec W.own' (mvT W.wZ w) (g := mkF m pc L S) rfl (hb W.bytes hd) t q
/-! the ends -/
/-- what a body that interns nothing leaves -/
def PoN (n0 : Nat) (s : State) (kc ks : Nat) (Q : Option Value → Heap → Prop) (o : Outcome) (t : State) : Prop := ∃ v Ls, o = .returned v ∧ (Q v t.heap ∧ Fr n0 Ls) ∧ FrameEnd s o t Ls kc ks
theorem endN {kc ks : Nat} {Q : Option Value → Heap → Prop} (W : Wk p l e R s s.vm m args below meth c Z own n0 B ML ret T h locs cells slots) {v : Option Value} {g : JFrame} (hv : ret = none → v = none) (hc : cells ≤ kc) (hk : slots ≤ ks) (hq : Q v h)
    (k : ∀ fs, (∀ (f : JFrame) (acts : List Action), f.method = m → f.locked = none → f.entered = [] → (doReturn e (T.setTop f) acts v).1 = T.setFrames fs) → Steps p.tables e below (T.setTop g) (T.setFrames fs)) : Wp p e below (PoN n0 s kc ks Q) T g := by
  have hlk := W.lk
  obtain ⟨fs, hr, hrun, hended, hW, hsame⟩ := W.st.leave (v := v) (fun q => hv (W.ret'.symm.trans q))
  have hh : (T.setFrames fs).heap = h := W.heap
  exact ⟨_, _, k fs hr, hrun, hended, v, locs, rfl, ⟨by rw [hh]; exact hq, W.fr⟩, ⟨_, rfl⟩, hW, hsame.mono hc hk⟩
theorem rV (W : Wk p l e R s vm0 m args below meth c Z own n0 B ML ret T h locs cells slots) (hret : ret = none) (hd : decode B pc = .ok (.return_, 1)) {fs : List Frame} (hr : ∀ (f : JFrame) (acts : List Action), f.method = m → f.locked = none → f.entered = [] → (doReturn e (T.setTop f) acts none).1 = T.setFrames fs) : Steps p.tables e below (T.setTop (mkF m pc L [])) (T.setFrames fs) :=
  W.st.returnOut W.exec (W.ret'.trans hret) (hb W.bytes hd) hr
theorem rI {z : Int32} (W : Wk p l e R s vm0 m args below meth c Z own n0 B ML ret T h locs cells slots) (hret : ret = some .int) (hd : decode B pc = .ok (.ireturn, 1)) {fs : List Frame} (hr : ∀ (f : JFrame) (acts : List Action), f.method = m → f.locked = none → f.entered = [] → (doReturn e (T.setTop f) acts (some (.int z))).1 = T.setFrames fs) : Steps p.tables e below (T.setTop (mkF m pc L (.int z :: S))) (T.setFrames fs) :=
  retOut W.st W.exec (W.ret'.trans hret) rfl (Or.inl ⟨rfl, Or.inl rfl, z, rfl⟩) (hb W.bytes hd) hr
theorem rL {z : Int64} (W : Wk p l e R s vm0 m args below meth c Z own n0 B ML ret T h locs cells slots) (hret : ret = some .long) (hd : decode B pc = .ok (.lreturn, 1)) {fs : List Frame} (hr : ∀ (f : JFrame) (acts : List Action), f.method = m → f.locked = none → f.entered = [] → (doReturn e (T.setTop f) acts (some (.long z))).1 = T.setFrames fs) : Steps p.tables e below (T.setTop (mkF m pc L (.long z :: S))) (T.setFrames fs) :=
  retOut W.st W.exec (W.ret'.trans hret) rfl (Or.inr (Or.inl ⟨rfl, rfl, z, rfl⟩)) (hb W.bytes hd) hr
theorem rA {v : Value} {t : FieldType} (W : Wk p l e R s vm0 m args below meth c Z own n0 B ML ret T h locs cells slots) (hret : ret = some t) (ht : t.isReference = true) (hv : v.isRef = true) (hd : decode B pc = .ok (.areturn, 1)) {fs : List Frame} (hr : ∀ (f : JFrame) (acts : List Action), f.method = m → f.locked = none → f.entered = [] → (doReturn e (T.setTop f) acts (some v)).1 = T.setFrames fs) : Steps p.tables e below (T.setTop (mkF m pc L (v :: S))) (T.setFrames fs) :=
  retOut W.st W.exec (W.ret'.trans hret) (by cases v <;> cases t <;> first | rfl | (simp [Value.isRef] at hv) | (simp [FieldType.isReference] at ht)) (Or.inr (Or.inr (Or.inr (Or.inr ⟨rfl, ht, hv⟩)))) (hb W.bytes hd) hr
theorem rN {z z' : Int32} {t : FieldType} (W : Wk p l e R s vm0 m args below meth c Z own n0 B ML ret T h locs cells slots) (hret : ret = some t) (ht : t = .boolean ∨ t = .byte ∨ t = .char ∨ t = .short) (hz : nar t z = z') (hd : decode B pc = .ok (.ireturn, 1)) {fs : List Frame} (hr : ∀ (f : JFrame) (acts : List Action), f.method = m → f.locked = none → f.entered = [] → (doReturn e (T.setTop f) acts (some (.int z'))).1 = T.setFrames fs) : Steps p.tables e below (T.setTop (mkF m pc L (.int z :: S))) (T.setFrames fs) := by
  subst hz; exact retN W.st W.exec (W.ret'.trans hret) ht (hb W.bytes hd) hr
/-! a contract of a body that interns nothing; its entry; a call by it -/
def CtN (l : Launch) (Z : State) (y : MethodName) (B : ByteArray) (ML : Nat) (ret : Option FieldType) (rm : Room) (n0 : Nat) (as : Array Value) (h : Heap) (Q : Option Value → Heap → Prop) : Prop :=
  ∀ ws : List Jvm.Cond, MetFree l y (head1 (Jvm.Cond.code y B ML ret :: ws) rm) (fun a U => a = as ∧ Z.Warmed39 U.vm ∧ U.heap = h) (fun _ _ _ _ _ => True) (fun _ U o U' => ∃ v Ls, o = .returned v ∧ (Q v U'.heap ∧ Fr n0 Ls) ∧ FrameEnd U o U' Ls rm.cells rm.slots)
theorem CtN.of {y : MethodName} {rm : Room} {as : Array Value} {Q : Option Value → Heap → Prop} (hpl : plainFor y = true)
    (k : ∀ p e s m below meth c T, Wk p l e rm s s.vm m as below meth c Z y.cls n0 B ML ret T h [] 0 0 → meth.name = y.name → Wp p e below (PoN n0 s rm.cells rm.slots Q) T (entryFrame m as ML)) : CtN l Z y B ML ret rm n0 as h Q := by
  intro ws
  refine MetFree.of_bodySF hpl hisR ?_
  intro p e s m args below meth c s₁ Bd hml0 hP hK
  obtain ⟨rfl, hZ, hh⟩ := hP
  have hown : s.vm.findClass y.cls = some m.cls := findClass_of_methodNamed Bd.named
  have hnm := (name_of_methodNamed Bd.named Bd.method).1
  have X0 : Stand p l e rm s m args below meth c s₁ [] 0 0 := Stand.of_body Bd
  have e0 : s₁.heap = h := by rw [← hh, Bd.state]; rfl
  exact k p e s m below meth c s₁ ⟨X0, (State.WarmedH.refl s).since h.size, hZ, hown, e0, Fr.nil n0, Bd.exec, Bd.bytes, hml0, Bd.returns, Bd.notSynchronized⟩ hnm
theorem CtN.grow {y : MethodName} {rm : Room} {as : Array Value} {Q : Option Value → Heap → Prop} (C : CtN l Z y B ML ret rm n0 as h Q) : CtN l Z y B ML ret rm n0 as h (fun v h' => Q v h' ∧ h.size ≤ h'.size) := by
  intro ws p e ha hc hk s m args below hf happ hP hK
  obtain ⟨n, o, h1, h2, h3, v, Ls, e1, ⟨q1, q2⟩, fe⟩ := C ws p e ha hc hk s m args below hf happ hP hK
  exact ⟨n, o, h1, h2, h3, v, Ls, e1, ⟨⟨q1, by rw [← hP.2.2]; exact fe.2.2.2.1⟩, q2⟩, fe⟩
theorem CtN.imp {y : MethodName} {rm : Room} {as : Array Value} {Q Q' : Option Value → Heap → Prop} (C : CtN l Z y B ML ret rm n0 as h Q) (k : ∀ v h', Q v h' → Q' v h') : CtN l Z y B ML ret rm n0 as h Q' := by
  intro ws p e ha hc hk s m args below hf happ hP hK
  obtain ⟨n, o, h1, h2, h3, v, Ls, e1, ⟨q1, q2⟩, fe⟩ := C ws p e ha hc hk s m args below hf happ hP hK
  exact ⟨n, o, h1, h2, h3, v, Ls, e1, ⟨k _ _ q1, q2⟩, fe⟩
theorem w_callS {y : MethodName} {yB : ByteArray} {yML : Nat} {yret : Option FieldType} {rm : Room} {as : Array Value} {Q : Option Value → Heap → Prop} (W : Wk p l e R s vm0 m args below meth c Z own n0 B ML ret T h locs cells slots) {index : Nat} (C : CtN l Z y yB yML yret rm n0 as h Q)
    (w1 : (Jvm.Cond.methodLink own index y).before a0 Z = true) (w2 : (Jvm.Cond.static y).before a0 Z = true) (w3 : (Jvm.Cond.initialized y.cls).before a0 Z = true) (w4 : (Jvm.Cond.code y yB yML yret).before a0 Z = true)
    (hy : y.cls ≠ "java/lang/invoke/MethodHandle" ∧ y.cls ≠ "java/lang/invoke/VarHandle") (Wd : Nat) (hf : rm.frames + 1 ≤ R.frames) (hl : Wd + (yML + 11) + rm.locals ≤ R.locals) (hc : cells + rm.cells ≤ R.cells) (hs : slots + rm.slots ≤ R.slots)
    {argsL rest : List Value} {ps : List FieldType} {r : Option FieldType} (hpd : parseMethodDescriptor y.desc = some ⟨ps, r⟩) (hlen : argsL.length = ps.length) (has : as = argsL.toArray) (hS : S = argsL.reverse ++ rest) (hW : (rest.map fun v => v.category).sum = Wd) (hL : L.size = ML)
    (hd : decode B pc = .ok (.invokestatic index, 3))
    (k : ∀ T' h' locs' v, Wk p l e R s vm0 m args below meth c Z own n0 B ML ret T' h' locs' (cells + rm.cells) (slots + rm.slots) → Q v h' → Wp p e below Post T' (mkF m (pc + 3) L (v.toList ++ rest))) : Wp p e below Post T (mkF m pc L S) := by
  subst has
  have hZ := W.wZ
  obtain ⟨v, vm₁, ⟨T', L', k', n'⟩, -, X', ⟨Lc, hQ, l1, y1, z1⟩, st⟩ := Jvm.LawKit.callS W.st W.exec (y := y) W.own' (mvT hZ w1) (mvT hZ w2) (mvT hZ w3) (mvT hZ w4) hy (backOf (W := Wd) (Q := fun v h' Ls => (Q v h' ∧ h.size ≤ h'.size) ∧ Fr n0 Ls) (C.grow []) hZ w4 w3 hf hl) (g := mkF m pc L S) rfl (hL.trans W.ml.symm) (argsL := argsL) (rest := rest) (lenOf hpd hlen) hS (by show 2 * 0 + _ ≤ _; rw [hW]; omega) (hb W.bytes hd) (fun _ _ => ⟨rfl, W.heap, hc, hs⟩)
  dsimp only [Pt.U, Pt.locs, Pt.cells, Pt.slots] at X' l1 y1 z1 st hQ
  subst l1 y1 z1
  exact (k T' T'.heap _ v (W.on X' rfl hQ.1.2 (W.fr.app hQ.2)) hQ.1.1).imp fun t q => st t q
theorem Wp.cast {g g' : JFrame} (q : g = g') (w : Wp p e below Post T g') : Wp p e below Post T g := q ▸ w
theorem n_rV {kc ks : Nat} {Q : Option Value → Heap → Prop} (W : Wk p l e R s s.vm m args below meth c Z own n0 B ML ret T h locs cells slots) (hret : ret = none) (hd : decode B pc = .ok (.return_, 1)) (hc : cells ≤ kc) (hk : slots ≤ ks) (hq : Q none h) : Wp p e below (PoN n0 s kc ks Q) T (mkF m pc L []) := endN W (fun _ => rfl) hc hk hq fun fs hr => rV W hret hd hr
theorem n_rI {kc ks : Nat} {Q : Option Value → Heap → Prop} {z : Int32} (W : Wk p l e R s s.vm m args below meth c Z own n0 B ML ret T h locs cells slots) (hret : ret = some .int) (hd : decode B pc = .ok (.ireturn, 1)) (hc : cells ≤ kc) (hk : slots ≤ ks) (hq : Q (some (.int z)) h) : Wp p e below (PoN n0 s kc ks Q) T (mkF m pc L (.int z :: S)) := endN W (fun q => by rw [hret] at q; cases q) hc hk hq fun fs hr => rI W hret hd hr
theorem n_rL {kc ks : Nat} {Q : Option Value → Heap → Prop} {z : Int64} (W : Wk p l e R s s.vm m args below meth c Z own n0 B ML ret T h locs cells slots) (hret : ret = some .long) (hd : decode B pc = .ok (.lreturn, 1)) (hc : cells ≤ kc) (hk : slots ≤ ks) (hq : Q (some (.long z)) h) : Wp p e below (PoN n0 s kc ks Q) T (mkF m pc L (.long z :: S)) := endN W (fun q => by rw [hret] at q; cases q) hc hk hq fun fs hr => rL W hret hd hr
theorem n_rA {kc ks : Nat} {Q : Option Value → Heap → Prop} {v : Value} {t : FieldType} (W : Wk p l e R s s.vm m args below meth c Z own n0 B ML ret T h locs cells slots) (hret : ret = some t) (ht : t.isReference = true) (hv : v.isRef = true) (hd : decode B pc = .ok (.areturn, 1)) (hc : cells ≤ kc) (hk : slots ≤ ks) (hq : Q (some v) h) : Wp p e below (PoN n0 s kc ks Q) T (mkF m pc L (v :: S)) := endN W (fun q => by rw [hret] at q; cases q) hc hk hq fun fs hr => rA W hret ht hv hd hr
theorem n_rN {kc ks : Nat} {Q : Option Value → Heap → Prop} {z z' : Int32} {t : FieldType} (W : Wk p l e R s s.vm m args below meth c Z own n0 B ML ret T h locs cells slots) (hret : ret = some t) (ht : t = .boolean ∨ t = .byte ∨ t = .char ∨ t = .short) (hz : nar t z = z') (hd : decode B pc = .ok (.ireturn, 1)) (hc : cells ≤ kc) (hk : slots ≤ ks) (hq : Q (some (.int z')) h) : Wp p e below (PoN n0 s kc ks Q) T (mkF m pc L (.int z :: S)) := endN W (fun q => by rw [hret] at q; cases q) hc hk hq fun fs hr => rN W hret ht hz hd hr

end OwnKit

/-! OwnKit, second part: the heap, calls of constructors and instance methods, literals -/
section OwnKit2
variable {p : Program} {l : Launch} {e : Env} {R : Room} {s : State} {vm0 : Vm} {m : MethodId} {args : Array Value} {below : List Frame} {meth : Method} {c : Code} {Z : State} {own : String} {n0 : Nat} {B : ByteArray} {ML : Nat} {ret : Option FieldType} {T : State} {h : Heap} {locs : List Loc} {cells slots : Nat} {a0 : Array Value} {Post : Outcome → State → Prop} {pc : Nat} {L : Array Slot} {S : List Value}
theorem w_getf (W : Wk p l e R s vm0 m args below meth c Z own n0 B ML ret T h locs cells slots) {R0 O n d host : String} {index : Nat} {a : Addr} {v : Value} (w : (Jvm.Cond.fieldLink own index R0 n d).before a0 Z = true ∨ (Jvm.Cond.fieldLinkNest own index R0 n d host).before a0 Z = true) (via : Via Z R0 O n d) (F : Fld Z h a O n d v) (hd : decode B pc = .ok (.getfield index, 3))
    (k : ∀ T', Wk p l e R s vm0 m args below meth c Z own n0 B ML ret T' h locs cells slots → Wp p e below Post T' (mkF m (pc + 3) L (v :: S))) : Wp p e below Post T (mkF m pc L (.ref a :: S)) := by
  obtain ⟨T', X', e', st⟩ := getF W.st W.exec W.wZ W.own' w via W.heap F (g := mkF m pc L (.ref a :: S)) rfl rfl (hb W.bytes hd)
  exact (k T' (W.on X' e' (Nat.le_refl _) W.fr)).imp st
theorem w_gets (W : Wk p l e R s vm0 m args below meth c Z own n0 B ML ret T h locs cells slots) {R0 O n d host : String} {index : Nat} {v : Value} (w : (Jvm.Cond.fieldLink own index R0 n d).before a0 Z = true ∨ (Jvm.Cond.fieldLinkNest own index R0 n d host).before a0 Z = true) (via : Via Z R0 O n d) (F : Sta Z h O n d v) (hd : decode B pc = .ok (.getstatic index, 3))
    (k : ∀ T', Wk p l e R s vm0 m args below meth c Z own n0 B ML ret T' h locs cells slots → Wp p e below Post T' (mkF m (pc + 3) L (v :: S))) : Wp p e below Post T (mkF m pc L S) := by
  obtain ⟨T', X', e', st⟩ := getS2 W.st W.exec W.wZ W.own' w via W.heap F (g := mkF m pc L S) rfl (hb W.bytes hd)
  exact (k T' (W.on X' e' (Nat.le_refl _) W.fr)).imp st
theorem w_putf (W : Wk p l e R s vm0 m args below meth c Z own n0 B ML ret T h locs cells slots) {R0 O n d C : String} {index kk : Nat} {ty : FieldType} {a : Addr} {v v' old : Value} (w : (Jvm.Cond.fieldLink own index R0 n d).before a0 Z = true) (via : Via Z R0 O n d) (F : Fld Z h a O n d old) (E : Exa Z h a C) (Lw : (Jvm.Cond.lays C O n d).before a0 Z = true ∨ ((Jvm.Cond.laysFinal C O n d).before a0 Z = true ∧ own = O ∧ meth.name = "<init>")) (wi : (Jvm.Cond.instantiable C kk).before a0 Z = true)
    (hty : parseFieldDescriptor d = some ty) (hn : narrow ty v = v') (hf : fits ty v' = true) (hna : n0 ≤ a) (hd : decode B pc = .ok (.putfield index, 3))
    (k : ∀ T' h' locs', Wk p l e R s vm0 m args below meth c Z own n0 B ML ret T' h' locs' cells slots → Wr h h' a (Jvm.RoadKit.slotOf Z O n d) v' → Wp p e below Post T' (mkF m (pc + 3) L S)) : Wp p e below Post T (mkF m pc L (v :: .ref a :: S)) := by
  obtain ⟨T', h', X', e', Wr', st⟩ := putFN W.st W.exec W.wZ W.own' w via W.heap F E Lw wi hty hn hf (g := mkF m pc L (v :: .ref a :: S)) rfl rfl (hb W.bytes hd)
  exact (k T' h' _ (W.on X' e' (Nat.le_of_eq Wr'.size.symm) (Fr.snoc X' W.fr hna)) Wr').imp st
theorem w_new (W : Wk p l e R s vm0 m args below meth c Z own n0 B ML ret T h locs cells slots) {C : String} {index n : Nat} (w : (Jvm.Cond.classLink own index C).before a0 Z = true) (wi : (Jvm.Cond.instantiable C n).before a0 Z = true) (wz : (Jvm.Cond.initialized C).before a0 Z = true) (hd : decode B pc = .ok (.new index, 3)) (hc : cells + 1 ≤ R.cells) (hl : slots + n ≤ R.slots)
    (k : ∀ T' h' a, Wk p l e R s vm0 m args below meth c Z own n0 B ML ret T' h' locs (cells + 1) (slots + n) → Ext h h' → a = h.size → Exa Z h' a C → (∀ {O nm d : String} {ty : FieldType}, Laid Z a0 C O nm d → parseFieldDescriptor d = some ty → Fld Z h' a O nm d (defaultValue ty)) → Wp p e below Post T' (mkF m (pc + 3) L (.ref a :: S))) : Wp p e below Post T (mkF m pc L S) := by
  obtain ⟨T', h', X', e', E', A', D', -, st⟩ := newO W.st W.exec W.wZ W.own' w wi wz W.heap (g := mkF m pc L S) rfl (hb W.bytes hd) hc hl
  exact (k T' h' h.size (W.on X' e' E'.1 W.fr) E' rfl A' D').imp st
theorem w_newarr (W : Wk p l e R s vm0 m args below meth c Z own n0 B ML ret T h locs cells slots) {aty : ArrayType} {ty : FieldType} {dv : Value} (w : (Jvm.Cond.arrayClass ty).before a0 Z = true) (hty : newarray.typeOf aty = ty) (hdv : defaultValue ty = dv) {n : Int32} (hd : decode B pc = .ok (.newarray aty, 2)) (hn : ¬ n < 0) (cap : Nat) (hcap : n.toNatClampNeg ≤ cap) (hb8 : cap * 8 ≤ 536870912) (hc : cells + 1 ≤ R.cells) (hl : slots + cap ≤ R.slots)
    (k : ∀ T' h' a kc, Wk p l e R s vm0 m args below meth c Z own n0 B ML ret T' h' locs (cells + 1) (slots + cap) → Ext h h' → a = h.size → Arv Z h' a kc ty n [] dv → Wp p e below Post T' (mkF m (pc + 2) L (.ref a :: S))) : Wp p e below Post T (mkF m pc L (.int n :: S)) := by
  subst hty hdv
  obtain ⟨T', h', kc, X', e', E', A', st⟩ := newP W.st W.exec W.wZ w W.heap (g := mkF m pc L (.int n :: S)) rfl (hb W.bytes hd) rfl hn hcap hb8 hc hl
  exact (k T' h' h.size kc (W.on X' e' E'.1 W.fr) E' rfl (Arv.new A' hn)).imp st
theorem w_arrlen (W : Wk p l e R s vm0 m args below meth c Z own n0 B ML ret T h locs cells slots) {a : Addr} {kc : ClassId} {ty : FieldType} {z : Int32} {vs : List Value} {dv : Value} (F : Arv Z h a kc ty z vs dv) (hd : decode B pc = .ok (.arraylength, 1)) (hr : Wp p e below Post T (mkF m (pc + 1) L (.int z :: S))) : Wp p e below Post T (mkF m pc L (.ref a :: S)) := by
  obtain ⟨cl, Ar, -, S1, N1, -, -⟩ := F
  exact hr.imp fun t q => W.st.arraylength W.exec (by rw [W.heap]; exact Ar.1) (State.isArrayOf_alike W.wZ.alike Ar.2.1) (g := mkF m pc L (.ref a :: S)) rfl rfl (hb W.bytes hd) t (by rw [len_of S1 N1]; exact q)
theorem w_caload (W : Wk p l e R s vm0 m args below meth c Z own n0 B ML ret T h locs cells slots) {a : Addr} {kc : ClassId} {z j : Int32} {vs : List Value} {dv v : Value} (F : Arv Z h a kc .char z vs dv) (hj : ¬ j < 0 ∧ j < z) (hv : vs.getD j.toNatClampNeg dv = v) (hd : decode B pc = .ok (.caload, 1)) (hr : Wp p e below Post T (mkF m (pc + 1) L (v :: S))) : Wp p e below Post T (mkF m pc L (.int j :: .ref a :: S)) := by
  obtain ⟨cl, Ar, -, S1, N1, H1, -⟩ := F
  have hin := inb_of S1 hj
  exact hr.imp fun t q => W.st.caload W.exec (j := j) (v := v) (by rw [W.heap]; exact Ar.1) (State.isArrayOf_alike W.wZ.alike Ar.2.1) Ar.2.2 hin (Has.at H1 hin hv) (g := mkF m pc L (.int j :: .ref a :: S)) rfl rfl (hb W.bytes hd) t q
theorem w_baload (W : Wk p l e R s vm0 m args below meth c Z own n0 B ML ret T h locs cells slots) {a : Addr} {kc : ClassId} {z j : Int32} {vs : List Value} {dv v : Value} (F : Arv Z h a kc .byte z vs dv) (hj : ¬ j < 0 ∧ j < z) (hv : vs.getD j.toNatClampNeg dv = v) (hd : decode B pc = .ok (.baload, 1)) (hr : Wp p e below Post T (mkF m (pc + 1) L (v :: S))) : Wp p e below Post T (mkF m pc L (.int j :: .ref a :: S)) := by
  obtain ⟨cl, Ar, -, S1, N1, H1, -⟩ := F
  have hin := inb_of S1 hj
  exact hr.imp fun t q => W.st.baloadBytes W.exec (j := j) (v := v) (by rw [W.heap]; exact Ar.1) (State.isArrayOf_alike W.wZ.alike Ar.2.1) Ar.2.2 hin (Has.at H1 hin hv) (g := mkF m pc L (.int j :: .ref a :: S)) rfl rfl (hb W.bytes hd) t q
theorem w_iaload (W : Wk p l e R s vm0 m args below meth c Z own n0 B ML ret T h locs cells slots) {a : Addr} {kc : ClassId} {z j : Int32} {vs : List Value} {dv v : Value} (F : Arv Z h a kc .int z vs dv) (hj : ¬ j < 0 ∧ j < z) (hv : vs.getD j.toNatClampNeg dv = v) (hd : decode B pc = .ok (.iaload, 1)) (hr : Wp p e below Post T (mkF m (pc + 1) L (v :: S))) : Wp p e below Post T (mkF m pc L (.int j :: .ref a :: S)) := by
  obtain ⟨cl, Ar, -, S1, N1, H1, -⟩ := F
  have hin := inb_of S1 hj
  exact hr.imp fun t q => W.st.iaload W.exec (j := j) (v := v) (by rw [W.heap]; exact Ar.1) (State.isArrayOf_alike W.wZ.alike Ar.2.1) Ar.2.2 hin (Has.at H1 hin hv) (g := mkF m pc L (.int j :: .ref a :: S)) rfl rfl (hb W.bytes hd) t q
theorem w_castore (W : Wk p l e R s vm0 m args below meth c Z own n0 B ML ret T h locs cells slots) {a : Addr} {kc : ClassId} {z j x x' : Int32} {vs : List Value} {dv : Value} (F : Arv Z h a kc .char z vs dv) (hj : ¬ j < 0 ∧ j < z) (i : Nat) (hi : j.toNatClampNeg = i) (hl : i < vs.length) (hx' : nar .char x = x') (hna : n0 ≤ a) (hd : decode B pc = .ok (.castore, 1))
    (k : ∀ T' h' locs', Wk p l e R s vm0 m args below meth c Z own n0 B ML ret T' h' locs' cells slots → Wr h h' a i (.int x') → Arv Z h' a kc .char z (vs.set i (.int x')) dv → Wp p e below Post T' (mkF m (pc + 1) L S)) : Wp p e below Post T (mkF m pc L (.int x :: .int j :: .ref a :: S)) := by
  subst hx' hi
  obtain ⟨cl, Ar, q1, S1, N1, H1, G1⟩ := F
  have hin := inb_of S1 hj
  obtain ⟨T', h', X', e', Wr', st⟩ := stC W.st W.exec W.wZ W.heap Ar (j := j) hin (g := mkF m pc L (.int x :: .int j :: .ref a :: S)) rfl rfl (hb W.bytes hd)
  exact (k T' h' _ (W.on X' e' (Nat.le_of_eq Wr'.size.symm) (Fr.snoc X' W.fr hna)) Wr' (Arv.set Ar q1 S1 N1 H1 G1 (fits_nar_char _) Wr' _ rfl hl)).imp st
theorem w_bastore (W : Wk p l e R s vm0 m args below meth c Z own n0 B ML ret T h locs cells slots) {a : Addr} {kc : ClassId} {z j x x' : Int32} {vs : List Value} {dv : Value} (F : Arv Z h a kc .byte z vs dv) (hj : ¬ j < 0 ∧ j < z) (i : Nat) (hi : j.toNatClampNeg = i) (hl : i < vs.length) (hx' : nar .byte x = x') (hna : n0 ≤ a) (hd : decode B pc = .ok (.bastore, 1))
    (k : ∀ T' h' locs', Wk p l e R s vm0 m args below meth c Z own n0 B ML ret T' h' locs' cells slots → Wr h h' a i (.int x') → Arv Z h' a kc .byte z (vs.set i (.int x')) dv → Wp p e below Post T' (mkF m (pc + 1) L S)) : Wp p e below Post T (mkF m pc L (.int x :: .int j :: .ref a :: S)) := by
  subst hx' hi
  obtain ⟨cl, Ar, q1, S1, N1, H1, G1⟩ := F
  have hin := inb_of S1 hj
  obtain ⟨T', h', X', e', Wr', st⟩ := stB W.st W.exec W.wZ W.heap Ar (j := j) hin (g := mkF m pc L (.int x :: .int j :: .ref a :: S)) rfl rfl (hb W.bytes hd)
  exact (k T' h' _ (W.on X' e' (Nat.le_of_eq Wr'.size.symm) (Fr.snoc X' W.fr hna)) Wr' (Arv.set Ar q1 S1 N1 H1 G1 (fits_nar_byte _) Wr' _ rfl hl)).imp st
theorem w_cast (W : Wk p l e R s vm0 m args below meth c Z own n0 B ML ret T h locs cells slots) {K : String} {index : Nat} {a : Addr} (w : (Jvm.Cond.classLink own index K).before a0 Z = true) (F : Ins Z h a K true) (hd : decode B pc = .ok (.checkcast index, 3))
    (k : ∀ T', Wk p l e R s vm0 m args below meth c Z own n0 B ML ret T' h locs cells slots → Wp p e below Post T' (mkF m (pc + 3) L (.ref a :: S))) : Wp p e below Post T (mkF m pc L (.ref a :: S)) := by
  obtain ⟨T', X', e', st⟩ := castY W.st W.exec W.wZ W.own' w W.heap F (g := mkF m pc L (.ref a :: S)) rfl rfl (hb W.bytes hd)
  exact (k T' (W.on X' e' (Nat.le_refl _) W.fr)).imp st
theorem w_instY (W : Wk p l e R s vm0 m args below meth c Z own n0 B ML ret T h locs cells slots) {K : String} {index : Nat} {a : Addr} (w : (Jvm.Cond.classLink own index K).before a0 Z = true) (F : Ins Z h a K true) (hd : decode B pc = .ok (.instanceof index, 3))
    (k : ∀ T', Wk p l e R s vm0 m args below meth c Z own n0 B ML ret T' h locs cells slots → Wp p e below Post T' (mkF m (pc + 3) L (.int 1 :: S))) : Wp p e below Post T (mkF m pc L (.ref a :: S)) := by
  obtain ⟨T', X', e', st⟩ := instY W.st W.exec W.wZ W.own' w W.heap F (g := mkF m pc L (.ref a :: S)) rfl rfl (hb W.bytes hd)
  exact (k T' (W.on X' e' (Nat.le_refl _) W.fr)).imp st
theorem w_instNo (W : Wk p l e R s vm0 m args below meth c Z own n0 B ML ret T h locs cells slots) {K C : String} {index : Nat} {a : Addr} (w : (Jvm.Cond.classLink own index K).before a0 Z = true) (E : Exa Z h a C) (F : ∃ c t, Z.vm.findClass C = some c ∧ Z.vm.findClass K = some t ∧ Z.vm.assignable c t = false) (hd : decode B pc = .ok (.instanceof index, 3))
    (k : ∀ T', Wk p l e R s vm0 m args below meth c Z own n0 B ML ret T' h locs cells slots → Wp p e below Post T' (mkF m (pc + 3) L (.int 0 :: S))) : Wp p e below Post T (mkF m pc L (.ref a :: S)) := by
  obtain ⟨T', X', e', st⟩ := instNo W.st W.exec W.wZ W.own' w W.heap E F (g := mkF m pc L (.ref a :: S)) rfl rfl (hb W.bytes hd)
  exact (k T' (W.on X' e' (Nat.le_refl _) W.fr)).imp st
theorem w_instNull (W : Wk p l e R s vm0 m args below meth c Z own n0 B ML ret T h locs cells slots) {index : Nat} (hd : decode B pc = .ok (.instanceof index, 3)) (hr : Wp p e below Post T (mkF m (pc + 3) L (.int 0 :: S))) : Wp p e below Post T (mkF m pc L (.null :: S)) :=
  hr.imp fun t q => W.st.instanceofNull W.exec (g := mkF m pc L (.null :: S)) rfl rfl (hb W.bytes hd) t q
theorem w_castNull (W : Wk p l e R s vm0 m args below meth c Z own n0 B ML ret T h locs cells slots) {index : Nat} (hd : decode B pc = .ok (.checkcast index, 3)) (hr : Wp p e below Post T (mkF m (pc + 3) L (.null :: S))) : Wp p e below Post T (mkF m pc L (.null :: S)) :=
  hr.imp fun t q => W.st.checkcastNull W.exec (g := mkF m pc L (.null :: S)) rfl rfl (hb W.bytes hd) t q
theorem w_initO (W : Wk p l e R s vm0 m args below meth c Z own n0 B ML ret T h locs cells slots) {index : Nat} {a : Addr} (w1 : (Jvm.Cond.methodLink own index Lib.objectInit).before a0 Z = true) (w2 : (Jvm.Cond.instanceMethod Lib.objectInit).before a0 Z = true) (w3 : (Jvm.Cond.code Lib.objectInit ⟨#[0xb1]⟩ 1 none).before a0 Z = true) (Wd : Nat) (hW : (S.map fun v => v.category).sum = Wd) (hL : L.size = ML) (hf : 1 ≤ R.frames) (hl : Wd + 12 ≤ R.locals) (hd : decode B pc = .ok (.invokespecial index, 3))
    (k : ∀ T', Wk p l e R s vm0 m args below meth c Z own n0 B ML ret T' h locs cells slots → Wp p e below Post T' (mkF m (pc + 3) L S)) : Wp p e below Post T (mkF m pc L (.ref a :: S)) := by
  obtain ⟨T', X', e', st⟩ := initO W.st W.exec W.wZ W.own' w1 w2 w3 W.heap (g := mkF m pc L (.ref a :: S)) rfl (hL.trans W.ml.symm) rfl (hb W.bytes hd) hf (W := Wd) (by show 2 * 0 + _ ≤ _; rw [hW]; omega) hl
  exact (k T' (W.on X' e' (Nat.le_refl _) W.fr)).imp st
/-! calls by a contract of a body that interns nothing -/
section CallsN
variable {y z : MethodName} {yB : ByteArray} {yML : Nat} {yret : Option FieldType} {rm : Room} {as : Array Value} {Q : Option Value → Heap → Prop} {index : Nat}
theorem w_special (W : Wk p l e R s vm0 m args below meth c Z own n0 B ML ret T h locs cells slots) (C : CtN l Z y yB yML none rm n0 as h Q) (hy1 : y.name = "<init>")
    (w1 : (Jvm.Cond.methodLink own index y).before a0 Z = true) (w2 : (Jvm.Cond.instanceMethod y).before a0 Z = true) (w3 : (Jvm.Cond.initialized y.cls).before a0 Z = true) (w4 : (Jvm.Cond.code y yB yML none).before a0 Z = true)
    (hy : y.cls ≠ "java/lang/invoke/MethodHandle" ∧ y.cls ≠ "java/lang/invoke/VarHandle") (Wd : Nat) (hf : rm.frames + 1 ≤ R.frames) (hl : Wd + (yML + 11) + rm.locals ≤ R.locals) (hc : cells + rm.cells ≤ R.cells) (hs : slots + rm.slots ≤ R.slots)
    {a : Addr} {argsL rest : List Value} {ps : List FieldType} {r : Option FieldType} (hpd : parseMethodDescriptor y.desc = some ⟨ps, r⟩) (hlen : argsL.length = ps.length) (has : as = (.ref a :: argsL).toArray) (hS : S = argsL.reverse ++ .ref a :: rest) (hW : (rest.map fun v => v.category).sum = Wd) (hL : L.size = ML)
    (hd : decode B pc = .ok (.invokespecial index, 3))
    (k : ∀ T' h' locs' v, Wk p l e R s vm0 m args below meth c Z own n0 B ML ret T' h' locs' (cells + rm.cells) (slots + rm.slots) → Q v h' → Wp p e below Post T' (mkF m (pc + 3) L (v.toList ++ rest))) : Wp p e below Post T (mkF m pc L S) := by
  subst has
  have hZ := W.wZ
  obtain ⟨v, vm₁, ⟨T', L', k', n'⟩, -, X', ⟨Lc, hQ, l1, y1, z1⟩, st⟩ := W.st.specialBack W.exec (y := y) hy1 W.own' (mvT hZ w1) (mvT hZ w2) (mvT hZ w4) hy (backOf (W := Wd) (Q := fun v h' Ls => (Q v h' ∧ h.size ≤ h'.size) ∧ Fr n0 Ls) (C.grow []) hZ w4 w3 hf hl) (g := mkF m pc L S) rfl (hL.trans W.ml.symm) (Steps.refl _) (a := a) (argsL := argsL) (rest := rest) (lenOf hpd hlen) hS (by show 2 * 0 + _ ≤ _; rw [hW]; omega) (hb W.bytes hd) (fun _ _ => ⟨rfl, W.heap, hc, hs⟩)
  dsimp only [Pt.U, Pt.locs, Pt.cells, Pt.slots] at X' l1 y1 z1 st hQ
  subst l1 y1 z1
  exact (k T' T'.heap _ v (W.on X' rfl hQ.1.2 (W.fr.app hQ.2)) hQ.1.1).imp fun t q => st.trans q
theorem w_virt (W : Wk p l e R s vm0 m args below meth c Z own n0 B ML ret T h locs cells slots) {C' : String} (C : CtN l Z z yB yML yret rm n0 as h Q)
    (w1 : (Jvm.Cond.methodLink own index y).before a0 Z = true) (w2 : (Jvm.Cond.declares y).before a0 Z = true) (hnf : NotFace (s.setVm vm0) y) (w3 : (Jvm.Cond.selects C' y z).before a0 Z = true) (w4 : (Jvm.Cond.instanceMethod z).before a0 Z = true) (w5 : (Jvm.Cond.initialized z.cls).before a0 Z = true) (w6 : (Jvm.Cond.code z yB yML yret).before a0 Z = true)
    (hy : y.cls ≠ "java/lang/invoke/MethodHandle" ∧ y.cls ≠ "java/lang/invoke/VarHandle") (Wd : Nat) (hf : rm.frames + 1 ≤ R.frames) (hl : Wd + (yML + 11) + rm.locals ≤ R.locals) (hc : cells + rm.cells ≤ R.cells) (hs : slots + rm.slots ≤ R.slots)
    {a : Addr} (E : Exa Z h a C') {argsL rest : List Value} {ps : List FieldType} {r : Option FieldType} (hpd : parseMethodDescriptor y.desc = some ⟨ps, r⟩) (hlen : argsL.length = ps.length) (has : as = (.ref a :: argsL).toArray) (hS : S = argsL.reverse ++ .ref a :: rest) (hW : (rest.map fun v => v.category).sum = Wd) (hL : L.size = ML)
    (hd : decode B pc = .ok (.invokevirtual index, 3))
    (k : ∀ T' h' locs' v, Wk p l e R s vm0 m args below meth c Z own n0 B ML ret T' h' locs' (cells + rm.cells) (slots + rm.slots) → Q v h' → Wp p e below Post T' (mkF m (pc + 3) L (v.toList ++ rest))) : Wp p e below Post T (mkF m pc L S) := by
  subst has
  have hZ := W.wZ
  obtain ⟨cq, kq, qa, qb, qc⟩ := isOf hZ W.heap E
  obtain ⟨v, vm₁, ⟨T', L', k', n'⟩, -, X', ⟨Lc, hQ, l1, y1, z1⟩, st⟩ := W.st.virtualBack W.exec (y := y) (z := z) W.own' (mvT hZ w1) (mvT hZ w2) hnf (mvT hZ w3) (mvT hZ w4) hy (backOf (W := Wd) (Q := fun v h' Ls => (Q v h' ∧ h.size ≤ h'.size) ∧ Fr n0 Ls) (C.grow []) hZ w6 w5 hf hl) qa qc (g := mkF m pc L S) rfl (hL.trans W.ml.symm) (Steps.refl _) (argsL := argsL) (rest := rest) (lenOf hpd hlen) hS (by show 2 * 0 + _ ≤ _; rw [hW]; omega) (hb W.bytes hd) (fun _ _ => ⟨rfl, W.heap, hc, hs⟩)
  dsimp only [Pt.U, Pt.locs, Pt.cells, Pt.slots] at X' l1 y1 z1 st hQ
  subst l1 y1 z1
  exact (k T' T'.heap _ v (W.on X' rfl hQ.1.2 (W.fr.app hQ.2)) hQ.1.1).imp fun t q => st.trans q
theorem w_face (W : Wk p l e R s vm0 m args below meth c Z own n0 B ML ret T h locs cells slots) {C' : String} {count : Nat} (C : CtN l Z z yB yML yret rm n0 as h Q)
    (w1 : (Jvm.Cond.methodLink own index y).before a0 Z = true) (w2 : (Jvm.Cond.declares y).before a0 Z = true) (w2' : (Jvm.Cond.interfaceMethod y.cls y.cls y.name y.desc).before args (s.setVm vm0) = true) (w3 : (Jvm.Cond.selects C' y z).before a0 Z = true) (w4 : (Jvm.Cond.instanceMethod z).before a0 Z = true) (w7 : (Jvm.Cond.publicMethod z).before a0 Z = true) (w8 : (Jvm.Cond.unhidden C' y.name y.desc).before a0 Z = true) (w9 : (Jvm.Cond.castable C' y.cls).before a0 Z = true) (w5 : (Jvm.Cond.initialized z.cls).before a0 Z = true) (w6 : (Jvm.Cond.code z yB yML yret).before a0 Z = true)
    (hy : y.cls ≠ "java/lang/invoke/MethodHandle" ∧ y.cls ≠ "java/lang/invoke/VarHandle") (Wd : Nat) (hf : rm.frames + 1 ≤ R.frames) (hl : Wd + (yML + 11) + rm.locals ≤ R.locals) (hc : cells + rm.cells ≤ R.cells) (hs : slots + rm.slots ≤ R.slots)
    {a : Addr} (E : Exa Z h a C') {argsL rest : List Value} {ps : List FieldType} {r : Option FieldType} (hpd : parseMethodDescriptor y.desc = some ⟨ps, r⟩) (hlen : argsL.length = ps.length) (has : as = (.ref a :: argsL).toArray) (hS : S = argsL.reverse ++ .ref a :: rest) (hW : (rest.map fun v => v.category).sum = Wd) (hL : L.size = ML)
    (hd : decode B pc = .ok (.invokeinterface index count, 5))
    (k : ∀ T' h' locs' v, Wk p l e R s vm0 m args below meth c Z own n0 B ML ret T' h' locs' (cells + rm.cells) (slots + rm.slots) → Q v h' → Wp p e below Post T' (mkF m (pc + 5) L (v.toList ++ rest))) : Wp p e below Post T (mkF m pc L S) := by
  subst has
  have hZ := W.wZ
  obtain ⟨cq, kq, qa, qb, qc⟩ := isOf hZ W.heap E
  obtain ⟨v, vm₁, ⟨T', L', k', n'⟩, -, X', ⟨Lc, hQ, l1, y1, z1⟩, st⟩ := W.st.interfaceBack W.exec (xi := y) (y := z) W.own' (mvT hZ w1) (mvT hZ w2) w2' (mvT hZ w3) (mvT hZ w4) (mvT hZ w7) (mvT hZ w8) (mvT hZ w9) hy (backOf (W := Wd) (Q := fun v h' Ls => (Q v h' ∧ h.size ≤ h'.size) ∧ Fr n0 Ls) (C.grow []) hZ w6 w5 hf hl) qa qb qc (g := mkF m pc L S) rfl (hL.trans W.ml.symm) (Steps.refl _) (argsL := argsL) (rest := rest) (lenOf hpd hlen) hS (by show 2 * 0 + _ ≤ _; rw [hW]; omega) (hb W.bytes hd) (fun _ _ => ⟨rfl, W.heap, hc, hs⟩)
  dsimp only [Pt.U, Pt.locs, Pt.cells, Pt.slots] at X' l1 y1 z1 st hQ
  subst l1 y1 z1
  exact (k T' T'.heap _ v (W.on X' rfl hQ.1.2 (W.fr.app hQ.2)) hQ.1.1).imp fun t q => st.trans q
end CallsN
/-! bodies that may intern -/
def PoW (n0 : Nat) (s : State) (kc ks : Nat) (Q : Option Value → Heap → Vm → Prop) (o : Outcome) (t : State) : Prop := ∃ v Ls, o = .returned v ∧ (Q v t.heap t.vm ∧ Fr n0 Ls) ∧ ReturnedEndW s o t Ls kc ks
theorem endW {kc ks : Nat} {Q : Option Value → Heap → Vm → Prop} (W : Wk p l e R s vm0 m args below meth c Z own n0 B ML ret T h locs cells slots) {v : Option Value} {g : JFrame} (hv : ret = none → v = none) (hc : cells ≤ kc) (hk : slots ≤ ks) (hq : ∀ vm', (s.setVm vm0).WarmedH vm' → Q v h vm')
    (k : ∀ fs, (∀ (f : JFrame) (acts : List Action), f.method = m → f.locked = none → f.entered = [] → (doReturn e (T.setTop f) acts v).1 = T.setFrames fs) → Steps p.tables e below (T.setTop g) (T.setFrames fs)) : Wp p e below (PoW n0 s kc ks Q) T g := by
  have hlk := W.lk
  obtain ⟨fs, hr, hrun, hended, hend⟩ := (W.st.mono hc hk).leaveW W.since (Nat.le_of_eq (congrArg Array.size W.heap).symm) (v := v) (fun q => hv (W.ret'.symm.trans q))
  have hh : (T.setFrames fs).heap = h := W.heap
  exact ⟨_, _, k fs hr, hrun, hended, v, locs, rfl, ⟨by rw [hh]; exact hq _ W.st.warmed, W.fr⟩, hend⟩
theorem x_rV {kc ks : Nat} {Q : Option Value → Heap → Vm → Prop} (W : Wk p l e R s vm0 m args below meth c Z own n0 B ML ret T h locs cells slots) (hret : ret = none) (hd : decode B pc = .ok (.return_, 1)) (hc : cells ≤ kc) (hk : slots ≤ ks) (hq : ∀ vm', (s.setVm vm0).WarmedH vm' → Q none h vm') : Wp p e below (PoW n0 s kc ks Q) T (mkF m pc L []) := endW W (fun _ => rfl) hc hk hq fun fs hr => rV W hret hd hr
theorem x_rI {kc ks : Nat} {Q : Option Value → Heap → Vm → Prop} {z : Int32} (W : Wk p l e R s vm0 m args below meth c Z own n0 B ML ret T h locs cells slots) (hret : ret = some .int) (hd : decode B pc = .ok (.ireturn, 1)) (hc : cells ≤ kc) (hk : slots ≤ ks) (hq : ∀ vm', (s.setVm vm0).WarmedH vm' → Q (some (.int z)) h vm') : Wp p e below (PoW n0 s kc ks Q) T (mkF m pc L (.int z :: S)) := endW W (fun q => by rw [hret] at q; cases q) hc hk hq fun fs hr => rI W hret hd hr
theorem x_rA {kc ks : Nat} {Q : Option Value → Heap → Vm → Prop} {v : Value} {t : FieldType} (W : Wk p l e R s vm0 m args below meth c Z own n0 B ML ret T h locs cells slots) (hret : ret = some t) (ht : t.isReference = true) (hv : v.isRef = true) (hd : decode B pc = .ok (.areturn, 1)) (hc : cells ≤ kc) (hk : slots ≤ ks) (hq : ∀ vm', (s.setVm vm0).WarmedH vm' → Q (some v) h vm') : Wp p e below (PoW n0 s kc ks Q) T (mkF m pc L (v :: S)) := endW W (fun q => by rw [hret] at q; cases q) hc hk hq fun fs hr => rA W hret ht hv hd hr
theorem x_rN {kc ks : Nat} {Q : Option Value → Heap → Vm → Prop} {z z' : Int32} {t : FieldType} (W : Wk p l e R s vm0 m args below meth c Z own n0 B ML ret T h locs cells slots) (hret : ret = some t) (ht : t = .boolean ∨ t = .byte ∨ t = .char ∨ t = .short) (hz : nar t z = z') (hd : decode B pc = .ok (.ireturn, 1)) (hc : cells ≤ kc) (hk : slots ≤ ks) (hq : ∀ vm', (s.setVm vm0).WarmedH vm' → Q (some (.int z')) h vm') : Wp p e below (PoW n0 s kc ks Q) T (mkF m pc L (.int z :: S)) := endW W (fun q => by rw [hret] at q; cases q) hc hk hq fun fs hr => rN W hret ht hz hd hr
/-- a contract of a body that may intern: Vp is asked of the tables at its start, Q tells of those at its end -/
def CtW (l : Launch) (Z : State) (y : MethodName) (B : ByteArray) (ML : Nat) (ret : Option FieldType) (rm : Room) (n0 : Nat) (as : Array Value) (h : Heap) (Vp : Vm → Prop) (Q : Option Value → Heap → Vm → Prop) : Prop :=
  ∀ ws : List Jvm.Cond, MetFree l y (head1 (Jvm.Cond.code y B ML ret :: ws) rm) (fun a U => a = as ∧ Z.Warmed39 U.vm ∧ U.heap = h ∧ Vp U.vm) (fun _ _ _ _ _ => True) (fun _ U o U' => ∃ v Ls, o = .returned v ∧ (Q v U'.heap U'.vm ∧ Fr n0 Ls) ∧ ReturnedEndW U o U' Ls rm.cells rm.slots)
theorem CtW.of {y : MethodName} {rm : Room} {as : Array Value} {Vp : Vm → Prop} {Q : Option Value → Heap → Vm → Prop} (hpl : plainFor y = true)
    (k : ∀ p e s m below meth c T, Wk p l e rm s s.vm m as below meth c Z y.cls n0 B ML ret T h [] 0 0 → meth.name = y.name → s.heap = h → Vp s.vm → Wp p e below (PoW n0 s rm.cells rm.slots Q) T (entryFrame m as ML)) : CtW l Z y B ML ret rm n0 as h Vp Q := by
  intro ws
  refine MetFree.of_bodySF hpl hisR ?_
  intro p e s m args below meth c s₁ Bd hml0 hP hK
  obtain ⟨rfl, hZ, hh, hV⟩ := hP
  have hown : s.vm.findClass y.cls = some m.cls := findClass_of_methodNamed Bd.named
  have hnm := (name_of_methodNamed Bd.named Bd.method).1
  have X0 : Stand p l e rm s m args below meth c s₁ [] 0 0 := Stand.of_body Bd
  have e0 : s₁.heap = h := by rw [← hh, Bd.state]; rfl
  exact k p e s m below meth c s₁ ⟨X0, (State.WarmedH.refl s).since h.size, hZ, hown, e0, Fr.nil n0, Bd.exec, Bd.bytes, hml0, Bd.returns, Bd.notSynchronized⟩ hnm hh hV
theorem CtW.back {y : MethodName} {rm : Room} {as : Array Value} {Vp : Vm → Prop} {Q : Option Value → Heap → Vm → Prop} {len Wd : Nat} (C : CtW l Z y B ML ret rm n0 as h Vp Q)
    (hZ : Z.Warmed39 s.vm) (wc : (Jvm.Cond.code y B ML ret).before a0 Z = true) (wz : (Jvm.Cond.initialized y.cls).before a0 Z = true) (hf : rm.frames + 1 ≤ R.frames) (hl : Wd + (ML + 11) + rm.locals ≤ R.locals) :
    BackS l R p e below s args y len Wd (fun A a => a = as ∧ A.U.heap = h ∧ Vp A.U.vm ∧ A.cells + rm.cells ≤ R.cells ∧ A.slots + rm.slots ≤ R.slots)
      (fun A _ v Bt => ∃ Ls, (Q v Bt.U.heap Bt.U.vm ∧ Fr n0 Ls) ∧ Bt.locs = A.locs ++ Ls ∧ Bt.cells = A.cells + rm.cells ∧ Bt.slots = A.slots + rm.slots) :=
  BackS.of_freeW (bytes := B) (maxL := ML) (ret := ret) (E := fun _ _ o t Ls k n => k = rm.cells ∧ n = rm.slots ∧ ∃ v, o = .returned v ∧ (Q v t.heap t.vm ∧ Fr n0 Ls)) (C []) hf hl
    (fun m meth c A a Y hp => have hU : Z.Warmed39 A.U.vm := wtrans hZ Y.warmed
      ⟨by show (Jvm.Cond.and _ .tt).before a A.U = true; rw [Cond.before_and, mv hU wc]; rfl, mv hU wc, mv hU wz, hp.2.2.2.1, hp.2.2.2.2⟩)
    (fun m meth c A a g mk Y hp => ⟨hp.1, wtrans hZ Y.warmed, hp.2.1, hp.2.2.1⟩) (fun _ _ _ _ _ _ _ _ _ => trivial)
    (fun _ _ _ _ ⟨v, Ls, h1, h2, h3⟩ => ⟨Ls, _, _, h3, rfl, rfl, v, h1, h2⟩)
    (fun m meth c A a g mk v t Ls k n Y hp _ _ ⟨e1, e2, v', e3, e4⟩ => by cases e3; subst e1 e2; exact ⟨Ls, e4, rfl, rfl, rfl⟩)
/-- behind a step that may have interned -/
theorem Wk.onW {vm1 : Vm} {T' : State} {h' : Heap} {locs' : List Loc} {cells' slots' n : Nat} (W : Wk p l e R s vm0 m args below meth c Z own n0 B ML ret T h locs cells slots) (X : Stand p l e R ((s.setVm vm0).setVm vm1) m args below meth c T' locs' cells' slots') (h2 : (s.setVm vm0).Since vm1 n) (e' : T'.heap = h') (g : h.size ≤ n) (g' : n ≤ h'.size) (N : Fr n0 locs') : Wk p l e R s vm1 m args below meth c Z own n0 B ML ret T' h' locs' cells' slots' := by
  have q := W.since.trans h2 g
  exact ⟨X, ⟨q.1, q.2.mono g'⟩, State.Warmed39.trans W.wZ h2.1, (h2.1.alike.findClass _ _).trans W.own', e', N, W.exec, W.bytes, W.ml, W.ret', W.lk⟩
section CallsW
variable {y z : MethodName} {yB : ByteArray} {yML : Nat} {yret : Option FieldType} {rm : Room} {as : Array Value} {Vp : Vm → Prop} {Q : Option Value → Heap → Vm → Prop} {index : Nat}
theorem w_callSW (W : Wk p l e R s vm0 m args below meth c Z own n0 B ML ret T h locs cells slots) (C : CtW l Z y yB yML yret rm n0 as h Vp Q) (hV : ∀ vm', (s.setVm vm0).WarmedH vm' → Vp vm')
    (w1 : (Jvm.Cond.methodLink own index y).before a0 Z = true) (w2 : (Jvm.Cond.static y).before a0 Z = true) (w3 : (Jvm.Cond.initialized y.cls).before a0 Z = true) (w4 : (Jvm.Cond.code y yB yML yret).before a0 Z = true)
    (hy : y.cls ≠ "java/lang/invoke/MethodHandle" ∧ y.cls ≠ "java/lang/invoke/VarHandle") (Wd : Nat) (hf : rm.frames + 1 ≤ R.frames) (hl : Wd + (yML + 11) + rm.locals ≤ R.locals) (hc : cells + rm.cells ≤ R.cells) (hs : slots + rm.slots ≤ R.slots)
    {argsL rest : List Value} {ps : List FieldType} {r : Option FieldType} (hpd : parseMethodDescriptor y.desc = some ⟨ps, r⟩) (hlen : argsL.length = ps.length) (has : as = argsL.toArray) (hS : S = argsL.reverse ++ rest) (hW : (rest.map fun v => v.category).sum = Wd) (hL : L.size = ML)
    (hd : decode B pc = .ok (.invokestatic index, 3))
    (k : ∀ T' h' locs' vm1 v, Wk p l e R s vm1 m args below meth c Z own n0 B ML ret T' h' locs' (cells + rm.cells) (slots + rm.slots) → (s.setVm vm0).Warmed39 vm1 → Q v h' vm1 → Wp p e below Post T' (mkF m (pc + 3) L (v.toList ++ rest))) : Wp p e below Post T (mkF m pc L S) := by
  subst has
  have hZ := W.wZ
  obtain ⟨v, vm₁, ⟨T', L', k', n'⟩, -, X', h2, hg, ⟨Lc, hQ, l1, y1, z1⟩, st⟩ := callSS W.st W.exec (y := y) W.own' (mvT hZ w1) (mvT hZ w2) (mvT hZ w3) (mvT hZ w4) hy (CtW.back (Wd := Wd) C hZ w4 w3 hf hl) (g := mkF m pc L S) rfl (hL.trans W.ml.symm) (argsL := argsL) (rest := rest) (lenOf hpd hlen) hS (by show 2 * 0 + _ ≤ _; rw [hW]; omega) (hb W.bytes hd) (fun vm' q => ⟨rfl, W.heap, hV vm' q, hc, hs⟩)
  dsimp only [Pt.U, Pt.locs, Pt.cells, Pt.slots] at X' l1 y1 z1 st hQ h2 hg
  subst l1 y1 z1
  rw [W.heap] at hg
  exact (k T' T'.heap _ T'.vm v (W.onW X' h2 rfl hg (Nat.le_refl _) (W.fr.app hQ.2)) h2.1 hQ.1).imp fun t q => st.trans q
theorem w_specialW (W : Wk p l e R s vm0 m args below meth c Z own n0 B ML ret T h locs cells slots) (C : CtW l Z y yB yML none rm n0 as h Vp Q) (hV : ∀ vm', (s.setVm vm0).WarmedH vm' → Vp vm') (hy1 : y.name = "<init>")
    (w1 : (Jvm.Cond.methodLink own index y).before a0 Z = true) (w2 : (Jvm.Cond.instanceMethod y).before a0 Z = true) (w3 : (Jvm.Cond.initialized y.cls).before a0 Z = true) (w4 : (Jvm.Cond.code y yB yML none).before a0 Z = true)
    (hy : y.cls ≠ "java/lang/invoke/MethodHandle" ∧ y.cls ≠ "java/lang/invoke/VarHandle") (Wd : Nat) (hf : rm.frames + 1 ≤ R.frames) (hl : Wd + (yML + 11) + rm.locals ≤ R.locals) (hc : cells + rm.cells ≤ R.cells) (hs : slots + rm.slots ≤ R.slots)
    {a : Addr} {argsL rest : List Value} {ps : List FieldType} {r : Option FieldType} (hpd : parseMethodDescriptor y.desc = some ⟨ps, r⟩) (hlen : argsL.length = ps.length) (has : as = (.ref a :: argsL).toArray) (hS : S = argsL.reverse ++ .ref a :: rest) (hW : (rest.map fun v => v.category).sum = Wd) (hL : L.size = ML)
    (hd : decode B pc = .ok (.invokespecial index, 3))
    (k : ∀ T' h' locs' vm1 v, Wk p l e R s vm1 m args below meth c Z own n0 B ML ret T' h' locs' (cells + rm.cells) (slots + rm.slots) → (s.setVm vm0).Warmed39 vm1 → Q v h' vm1 → Wp p e below Post T' (mkF m (pc + 3) L (v.toList ++ rest))) : Wp p e below Post T (mkF m pc L S) := by
  subst has
  have hZ := W.wZ
  obtain ⟨v, vm₁, ⟨T', L', k', n'⟩, -, X', h2, hg, ⟨Lc, hQ, l1, y1, z1⟩, st⟩ := W.st.specialBackS W.exec (y := y) hy1 W.own' (mvT hZ w1) (mvT hZ w2) (mvT hZ w4) hy (CtW.back (Wd := Wd) C hZ w4 w3 hf hl) (g := mkF m pc L S) rfl (hL.trans W.ml.symm) (Steps.refl _) (a := a) (argsL := argsL) (rest := rest) (lenOf hpd hlen) hS (by show 2 * 0 + _ ≤ _; rw [hW]; omega) (hb W.bytes hd) (fun vm' q => ⟨rfl, W.heap, hV vm' q, hc, hs⟩)
  dsimp only [Pt.U, Pt.locs, Pt.cells, Pt.slots] at X' l1 y1 z1 st hQ h2 hg
  subst l1 y1 z1
  rw [W.heap] at hg
  exact (k T' T'.heap _ T'.vm v (W.onW X' h2 rfl hg (Nat.le_refl _) (W.fr.app hQ.2)) h2.1 hQ.1).imp fun t q => st.trans q
theorem w_virtW (W : Wk p l e R s vm0 m args below meth c Z own n0 B ML ret T h locs cells slots) {C' : String} (C : CtW l Z z yB yML yret rm n0 as h Vp Q) (hV : ∀ vm', (s.setVm vm0).WarmedH vm' → Vp vm')
    (w1 : (Jvm.Cond.methodLink own index y).before a0 Z = true) (w2 : (Jvm.Cond.declares y).before a0 Z = true) (hnf : NotFace (s.setVm vm0) y) (w3 : (Jvm.Cond.selects C' y z).before a0 Z = true) (w4 : (Jvm.Cond.instanceMethod z).before a0 Z = true) (w5 : (Jvm.Cond.initialized z.cls).before a0 Z = true) (w6 : (Jvm.Cond.code z yB yML yret).before a0 Z = true)
    (hy : y.cls ≠ "java/lang/invoke/MethodHandle" ∧ y.cls ≠ "java/lang/invoke/VarHandle") (Wd : Nat) (hf : rm.frames + 1 ≤ R.frames) (hl : Wd + (yML + 11) + rm.locals ≤ R.locals) (hc : cells + rm.cells ≤ R.cells) (hs : slots + rm.slots ≤ R.slots)
    {a : Addr} (E : Exa Z h a C') {argsL rest : List Value} {ps : List FieldType} {r : Option FieldType} (hpd : parseMethodDescriptor y.desc = some ⟨ps, r⟩) (hlen : argsL.length = ps.length) (has : as = (.ref a :: argsL).toArray) (hS : S = argsL.reverse ++ .ref a :: rest) (hW : (rest.map fun v => v.category).sum = Wd) (hL : L.size = ML)
    (hd : decode B pc = .ok (.invokevirtual index, 3))
    (k : ∀ T' h' locs' vm1 v, Wk p l e R s vm1 m args below meth c Z own n0 B ML ret T' h' locs' (cells + rm.cells) (slots + rm.slots) → (s.setVm vm0).Warmed39 vm1 → Q v h' vm1 → Wp p e below Post T' (mkF m (pc + 3) L (v.toList ++ rest))) : Wp p e below Post T (mkF m pc L S) := by
  subst has
  have hZ := W.wZ
  obtain ⟨cq, kq, qa, qb, qc⟩ := isOf hZ W.heap E
  obtain ⟨v, vm₁, ⟨T', L', k', n'⟩, -, X', h2, hg, ⟨Lc, hQ, l1, y1, z1⟩, st⟩ := W.st.virtualBackS W.exec (y := y) (z := z) W.own' (mvT hZ w1) (mvT hZ w2) hnf (mvT hZ w3) (mvT hZ w4) hy (CtW.back (Wd := Wd) C hZ w6 w5 hf hl) qa qc (g := mkF m pc L S) rfl (hL.trans W.ml.symm) (Steps.refl _) (argsL := argsL) (rest := rest) (lenOf hpd hlen) hS (by show 2 * 0 + _ ≤ _; rw [hW]; omega) (hb W.bytes hd) (fun vm' q => ⟨rfl, W.heap, hV vm' q, hc, hs⟩)
  dsimp only [Pt.U, Pt.locs, Pt.cells, Pt.slots] at X' l1 y1 z1 st hQ h2 hg
  subst l1 y1 z1
  rw [W.heap] at hg
  exact (k T' T'.heap _ T'.vm v (W.onW X' h2 rfl hg (Nat.le_refl _) (W.fr.app hQ.2)) h2.1 hQ.1).imp fun t q => st.trans q
end CallsW
/-- a literal, whatever it spells -/
theorem w_ldcS (W : Wk p l e R s vm0 m args below meth c Z own n0 B ML ret T h locs cells slots) {index : Nat} {text : String} (w : (Jvm.Cond.stringLink own index text).before a0 Z = true) (wS : ∀ a ∈ Bundle.stringAtoms, a.before a0 Z = true) (n : Nat) (hn : 4 * text.toList.length ≤ n) (hbig : n ≤ 536870912) (hc : cells + 2 ≤ R.cells) (hl : slots + (n + 4) ≤ R.slots) (hd : decode B pc = .ok (.ldc index, 2))
    (k : ∀ T' h' vm1 a, Wk p l e R s vm1 m args below meth c Z own n0 B ML ret T' h' locs (cells + 2) (slots + (n + 4)) → Ext h h' → Wp p e below Post T' (mkF m (pc + 2) L (.ref a :: S))) : Wp p e below Post T (mkF m pc L S) := by
  obtain ⟨a, T', h', k1, X', e', E', hS', hk', hZ', ho', st⟩ := ldcS W.st W.exec W.wZ W.own' w wS W.heap W.since (Nat.le_refl _) (g := mkF m pc L S) rfl (hb W.bytes hd) hn hbig hc hl
  exact (k T' h' T'.vm a ⟨X', ⟨hS'.1, hS'.2.mono hk'⟩, hZ', ho', e', W.fr, W.exec, W.bytes, W.ml, W.ret', W.lk⟩ E').imp st
/-- a literal not yet loaded since the case's start, and what it spells -/
theorem w_ldcSV (W : Wk p l e R s vm0 m args below meth c Z own n0 B ML ret T h locs cells slots) {index : Nat} {text : String} {Ts : List String} (w : (Jvm.Cond.stringLink own index text).before a0 Z = true) (wS : ∀ a ∈ Bundle.stringAtoms, a.before a0 Z = true) (N : Fr s.heap.size locs) (hkeep : ∀ (b : Addr) (cl : Cell), Z.heap[b]? = some cl → s.heap[b]? = some cl) (I : IB Z vm0 Ts) (hnot : text ∉ Ts) (hh : Jvm.Lit.constHeld Z own index) (hcw : Jvm.Lit.compactW.before a0 Z = true)
    {vs : List Value} {z : Int32} (ht : (∀ c ∈ text.toList, c.toNat < 256) ∧ text.toList.map (fun c => Value.int (Jvm.Lit.byteI c.toNat.toUInt16)) = vs) (hz : ¬ z < 0) (hlz : z.toNatClampNeg = vs.length) (n : Nat) (hn : 4 * text.toList.length ≤ n) (hbig : n ≤ 536870912) (hc : cells + 2 ≤ R.cells) (hl : slots + (n + 4) ≤ R.slots) (hd : decode B pc = .ok (.ldc index, 2))
    (k : ∀ T' h' vm1 a b kc, Wk p l e R s vm1 m args below meth c Z own n0 B ML ret T' h' locs (cells + 2) (slots + (n + 4)) → Ext h h' → Exa Z h' a "java/lang/String" → Fld Z h' a "java/lang/String" "coder" "B" (.int 0) → Fld Z h' a "java/lang/String" "value" "[B" (.ref b) → Arv Z h' b kc .byte z vs (.int 0) → IB Z vm1 (text :: Ts) → Lit (s.setVm vm1) own index a → Wp p e below Post T' (mkF m (pc + 2) L (.ref a :: S))) : Wp p e below Post T (mkF m pc L S) := by
  obtain ⟨a, T', h', k1, b, kc, X', e', E', hS', hk', hZ', ho', f1, f2, f3, f4, -, -, f5, f6, st⟩ := ldcSVL W.st W.exec W.wZ W.own' w wS W.heap W.since (Nat.le_refl _) N hkeep I hnot hh hcw ht hz hlz (g := mkF m pc L S) rfl (hb W.bytes hd) hn hbig hc hl
  exact (k T' h' T'.vm a b kc ⟨X', ⟨hS'.1, hS'.2.mono hk'⟩, hZ', ho', e', W.fr, W.exec, W.bytes, W.ml, W.ret', W.lk⟩ E' f1 f2 f3 f4 f5 f6).imp st
theorem w_ldcAgain (W : Wk p l e R s vm0 m args below meth c Z own n0 B ML ret T h locs cells slots) {index : Nat} {text : String} {a : Addr} (w : (Jvm.Cond.stringLink own index text).before a0 Z = true) (Lt : Lit (s.setVm vm0) own index a) (hd : decode B pc = .ok (.ldc index, 2)) (hr : Wp p e below Post T (mkF m (pc + 2) L (.ref a :: S))) : Wp p e below Post T (mkF m pc L S) :=
  hr.imp fun t q => ldcAgain W.st W.exec W.wZ W.own' w Lt (g := mkF m pc L S) rfl (hb W.bytes hd) t q
/-! small facts on heaps -/
theorem own_extKeep {h1 h2 h3 : Heap} {ws : List Addr} (E : Ext h1 h2) (K : Keep h2 h3 ws) (q : ∀ x ∈ ws, h1.size ≤ x) : Ext h1 h3 :=
  ⟨Nat.le_trans E.1 K.1, fun a c hc => K.2.1 a c (E.2 a c hc) fun hm => absurd (Array.getElem?_eq_some_iff.mp hc).1 (Nat.not_lt.mpr (q a hm))⟩
theorem own_extRefl (h1 : Heap) : Ext h1 h1 := ⟨Nat.le_refl _, fun _ _ q => q⟩
theorem own_extTrans {h1 h2 h3 : Heap} (E : Ext h1 h2) (E' : Ext h2 h3) : Ext h1 h3 := ⟨Nat.le_trans E.1 E'.1, fun a c q => E'.2 a c (E.2 a c q)⟩
theorem own_extWr {h1 h2 h3 : Heap} {a : Addr} {sl : Nat} {v : Value} (E : Ext h1 h2) (W : Wr h2 h3 a sl v) (q : h1.size ≤ a) : Ext h1 h3 := own_extKeep E (Keep.of_wr W) (allS q all0)
theorem own_keepOf {h1 h2 : Heap} {ws : List Addr} (E : Ext h1 h2) : Keep h1 h2 ws := (Keep.refl h1 ws).ext E
theorem own_ltNe {a b n : Nat} (q : a < n) (r : n ≤ b) : a ≠ b := Nat.ne_of_lt (Nat.lt_of_lt_of_le q r)
end OwnKit2

/-! small naturals as ints; lists of values; what a String holds -/
theorem own_ltI {i j : Nat} (hi : i < 2147483648) (hj : j < 2147483648) : Int32.ofNat i < Int32.ofNat j ↔ i < j := by
  rw [Int32.lt_iff_toInt_lt, Int32.toInt_ofNat_of_lt (by omega), Int32.toInt_ofNat_of_lt (by omega)]; omega
theorem own_eqI {i j : Nat} (hi : i < 2147483648) (hj : j < 2147483648) : Int32.ofNat i = Int32.ofNat j ↔ i = j := by
  rw [← Int32.toInt_inj, Int32.toInt_ofNat_of_lt (by omega), Int32.toInt_ofNat_of_lt (by omega)]; omega
theorem own_nn0 {i : Nat} (hi : i < 2147483648) : ¬ Int32.ofNat i < 0 := by
  rw [Int32.lt_iff_toInt_lt, Int32.toInt_ofNat_of_lt (by omega)]; simp
theorem own_clamp {i : Nat} (hi : i < 2147483648) : (Int32.ofNat i).toNatClampNeg = i := by
  rw [Int32.toNatClampNeg, Int32.toInt_ofNat_of_lt (by omega)]; simp
theorem own_one (i : Nat) : Int32.ofNat i + (1 : Int32) = Int32.ofNat (i + 1) := (Int32.ofNat_add i 1).symm
def own_fill (f : Nat → Value) (n k : Nat) : List Value := (List.range n).map fun j => if j < k then f j else .int 0
theorem own_fill_len (f : Nat → Value) (n k : Nat) : (own_fill f n k).length = n := by simp [own_fill]
theorem own_fill_zero (f : Nat → Value) (n : Nat) : own_fill f n 0 = [] ++ List.replicate n (.int 0) := by
  apply List.ext_getElem
  · simp [own_fill]
  · intro i h1 h2; simp [own_fill]
theorem own_fill_set (f : Nat → Value) {n k : Nat} (hk : k < n) : (own_fill f n k).set k (f k) = own_fill f n (k + 1) := by
  apply List.ext_getElem
  · simp [own_fill]
  · intro i h1 h2
    simp only [own_fill, List.getElem_set, List.getElem_map, List.getElem_range]
    by_cases q : k = i
    · subst q; simp
    · rw [if_neg q]
      by_cases r : i < k
      · rw [if_pos r, if_pos (by omega)]
      · rw [if_neg r, if_neg (by omega)]
theorem own_fill_full (f : Nat → Value) (n : Nat) : own_fill f n n = (List.range n).map f := by
  simp only [own_fill]; apply List.map_congr_left; intro j hj; rw [if_pos (List.mem_range.mp hj)]
theorem own_range_map (cs : List Int32) (g : Int32 → Int32) : (List.range cs.length).map (fun j => Value.int (g (cs.getD j 0))) = (cs.map g).map Value.int := by
  apply List.ext_getElem
  · simp
  · intro i h1 h2
    have hi : i < cs.length := by simpa using h1
    simp [List.getD_eq_getElem?_getD, hi]
theorem own_getMap (us : List Int32) {j : Nat} (hj : j < us.length) (d : Value) : (us.map Value.int).getD j d = .int (us.getD j 0) := by
  simp [List.getD_eq_getElem?_getD, hj]
/-- a String: its coder and the bytes of its value -/
def Str (Z : State) (h : Heap) (a : Addr) (co : Int32) (us : List Int32) : Prop :=
  ∃ b k, Exa Z h a "java/lang/String" ∧ Fld Z h a "java/lang/String" "coder" "B" (.int co) ∧ Fld Z h a "java/lang/String" "value" "[B" (.ref b) ∧ Arv Z h b k .byte (Int32.ofNat us.length) (us.map Value.int) (.int 0)
theorem Str.ext {Z : State} {h h' : Heap} {a : Addr} {co : Int32} {us : List Int32} (F : Str Z h a co us) (E : Ext h h') : Str Z h' a co us := by
  obtain ⟨b, k, f1, f2, f3, f4⟩ := F
  exact ⟨b, k, f1.ext E, f2.ext E, f3.ext E, f4.ext E⟩
theorem Str.exa {Z : State} {h : Heap} {a : Addr} {co : Int32} {us : List Int32} (F : Str Z h a co us) : Exa Z h a "java/lang/String" := by
  obtain ⟨b, k, f1, -⟩ := F; exact f1
theorem own_arvUniq {Z : State} {h : Heap} {b : Addr} {k k' : ClassId} {ty : FieldType} {us ws : List Int32} (hu : us.length < 2147483648) (hw : ws.length < 2147483648) (F : Arv Z h b k ty (Int32.ofNat us.length) (us.map Value.int) (.int 0)) (G : Arv Z h b k' ty (Int32.ofNat ws.length) (ws.map Value.int) (.int 0)) : us = ws := by
  obtain ⟨c1, A1, -, s1, -, H1, -⟩ := F
  obtain ⟨c2, A2, -, s2, -, H2, -⟩ := G
  cases A1.1.symm.trans A2.1
  rw [own_clamp hu] at s1
  rw [own_clamp hw] at s2
  have el : us.length = ws.length := s1.symm.trans s2
  apply List.ext_getElem el
  intro i h1 h2
  have e1 := H1 i (by omega)
  have e2 := H2 i (by omega)
  rw [own_getMap us h1] at e1
  rw [own_getMap ws h2] at e2
  have := e1.symm.trans e2
  simp [List.getD_eq_getElem?_getD, h1, h2] at this
  exact this
theorem Str.uniq {Z : State} {h : Heap} {a : Addr} {co co' : Int32} {us ws : List Int32} (hu : us.length < 2147483648) (hw : ws.length < 2147483648) (F : Str Z h a co us) (G : Str Z h a co' ws) : us = ws := by
  obtain ⟨b, k, -, -, f3, f4⟩ := F
  obtain ⟨b', k', -, -, g3, g4⟩ := G
  have e : b = b' := by
    by_cases q : b = b'
    · exact q
    · exact absurd rfl (Fld.ne f3 g3 (fun r => q (Value.ref.inj r)))
  subst e
  exact own_arvUniq hu hw f4 g4
theorem own_staOld {Z : State} {n0 : Nat} {h : Heap} {C n d : String} {v : Value} (O : Old Z n0 h) (F : Sta Z Z.heap C n d v) : Sta Z h C n d v := by
  obtain ⟨cf, i, k, f, st, cell, h1, h2, h3, h4, h5, r⟩ := F
  exact ⟨cf, i, k, f, st, cell, h1, h2, h3, h4, O.2.2 _ _ h5, r⟩
theorem own_oldle {Z : State} {n0 : Nat} {h : Heap} (O : Old Z n0 h) : n0 ≤ h.size := by have h1 := O.1; have h2 := O.2.1; omega
theorem own_narb (x : Int32) : nar .byte (x.toInt8.toInt32) = nar .byte x := by
  show x.toInt8.toInt32.toInt8.toInt32 = x.toInt8.toInt32
  simp
theorem own_coder0 (z : Int32) : nar .byte (((z - z).toUInt32 >>> ((31 : Int32) &&& 31).toUInt32).toInt32).toInt8.toInt32 = 0 := by
  rw [Int32.sub_self]; decide
theorem own_takeS {us ws : List Int32} {i : Nat} (h1 : i < us.length) (h2 : i < ws.length) (hp : us.take i = ws.take i) (hc : us.getD i 0 = ws.getD i 0) : us.take (i + 1) = ws.take (i + 1) := by
  rw [List.take_succ_eq_append_getElem h1, List.take_succ_eq_append_getElem h2, hp]
  simp [List.getD_eq_getElem?_getD, h1, h2] at hc
  rw [hc]
theorem own_ite0 {P : Prop} [Decidable P] (h : (if P then (1 : Int32) else 0) = 0) : (some (Value.int 0)) = some (.int (if P then (1 : Int32) else 0)) := by rw [h]
theorem own_ite1 {P : Prop} [Decidable P] (h : ¬ ((if P then (1 : Int32) else 0) = 0)) : (some (Value.int 1)) = some (.int (if P then (1 : Int32) else 0)) := by
  by_cases q : P
  · rw [if_pos q]
  · rw [if_neg q] at h; exact absurd rfl h
theorem own_cw {Z : State} {a0 : Array Value} {cz : Int32} (G : Sta Z Z.heap "java/lang/String" "COMPACT_STRINGS" "Z" (.int cz)) (hcz : cz ≠ 0) : Jvm.Lit.compactW.before a0 Z = true := by
  have e : (Term.static "java/lang/String" "COMPACT_STRINGS" "Z").eval a0 Z none [] Z = some (.int cz) := Sta.fin (Vm.Alike.refl _) G
  exact Cond.before_iff.mpr (not_i (nay (Cond.eq_ints e (Term.int_eval 0)) hcz))

/-! the literal "" of String's own pool: already loaded (and known), or untouched since the case's start -/
def St (Z : State) (vm : Vm) (h : Heap) : Prop :=
  (∃ a b k, Lit (Z.setVm vm) "java/lang/String" 7 a ∧ Exa Z h a "java/lang/String" ∧ Fld Z h a "java/lang/String" "coder" "B" (.int 0) ∧ Fld Z h a "java/lang/String" "value" "[B" (.ref b) ∧ Arv Z h b k .byte (0 : Int32) [] (.int 0)) ∨ ∃ Ts, IB Z vm Ts ∧ "" ∉ Ts
theorem St.start (Z : State) : St Z Z.vm Z.heap := Or.inr ⟨[], IB.start, by simp⟩
theorem St.warm {Z s : State} {vm0 vm1 : Vm} {h : Heap} (F : St Z vm0 h) (hW : (s.setVm vm0).WarmedH vm1) : St Z vm1 h := by
  rcases F with ⟨a, b, k, L, r⟩ | ⟨Ts, ⟨more, e, hm⟩, hn⟩
  · exact Or.inl ⟨a, b, k, Lit.stays (s := s) L hW.wide, r⟩
  · exact Or.inr ⟨Ts, ⟨more, by rw [hW.interned_eq]; exact e, hm⟩, hn⟩
theorem St.ext {Z : State} {vm : Vm} {h h' : Heap} (F : St Z vm h) (E : Ext h h') : St Z vm h' := by
  rcases F with ⟨a, b, k, L, f1, f2, f3, f4⟩ | q
  · exact Or.inl ⟨a, b, k, L, f1.ext E, f2.ext E, f3.ext E, f4.ext E⟩
  · exact Or.inr q
theorem St.keep {Z : State} {vm : Vm} {h h' : Heap} {a0 : Array Value} {x : Addr} (F : St Z vm h) (K : Keep h h' [x]) (wi : (Jvm.Cond.instantiable "java/lang/String" 4).before a0 Z = true) (Ex : Exa Z h x "java/lang/String") (Fx : Fld Z h x "java/lang/String" "value" "[B" .null) : St Z vm h' := by
  rcases F with ⟨a, b, k, L, f1, f2, f3, f4⟩ | q
  · have n1 : a ≠ x := Fld.ne f3 Fx (fun r => by cases r)
    have n2 : b ≠ x := (Exa.neArv Ex f4 wi).symm
    exact Or.inl ⟨a, b, k, L, f1.keep K, f2.keep K (ninS n1 nin0), f3.keep K (ninS n1 nin0), f4.keep K (ninS n2 nin0)⟩
  · exact Or.inr q

def own_c0 (x : Int32) : Int32 := ((x.toUInt32 >>> ((2 : Int32) &&& 31).toUInt32).toInt32) &&& (255 : Int32)
def own_c1 (x : Int32) : Int32 := ((x.toUInt32 >>> ((10 : Int32) &&& 31).toUInt32).toInt32) &&& (255 : Int32)
def own_cs (x : Int32) : List Int32 := if (x &&& 3) % 3 = 0 then [] else if (x &&& 3) % 3 = 1 then [own_c0 x] else [own_c0 x, own_c1 x]
theorem own_len3 {x n : Int32} (h : (x &&& 3) % 3 = n) : n = 0 ∨ n = 1 ∨ n = 2 := by
  have e1 := c_mask x 3 2 (by decide) (by decide)
  have e2 := (c_irem (x &&& 3) 3 3 (by decide)).1 (by rw [e1]; exact Int.emod_nonneg _ (by decide))
  rw [h] at e2
  have h3 : n.toInt = 0 ∨ n.toInt = 1 ∨ n.toInt = 2 := by omega
  rcases h3 with q | q | q
  · exact Or.inl (Int32.toInt_inj.mp q)
  · exact Or.inr (Or.inl (Int32.toInt_inj.mp q))
  · exact Or.inr (Or.inr (Int32.toInt_inj.mp q))
theorem own_cs0 {x : Int32} (h : (x &&& 3) % 3 = 0) : own_cs x = [] := by rw [own_cs, if_pos h]
theorem own_cs1 {x : Int32} (h : (x &&& 3) % 3 = 1) : own_cs x = [own_c0 x] := by rw [own_cs, h]; rfl
theorem own_cs2 {x : Int32} (h : (x &&& 3) % 3 = 2) : own_cs x = [own_c0 x, own_c1 x] := by rw [own_cs, h]; rfl
theorem own_narc (y : Int32) : nar .char ((y &&& (255 : Int32)).toUInt32.toUInt16.toUInt32.toInt32) = y &&& (255 : Int32) := by
  rw [i2c_mask]; exact i2c_mask y
theorem own_le255 (y : Int32) : ¬ ((255 : Int32) < (y &&& (255 : Int32))) := by
  rw [Int32.lt_iff_toInt_lt, c_mask y 255 8 (by decide) (by decide)]
  have := Int.emod_lt_of_pos y.toInt (b := (2 ^ 8 : Nat)) (by decide)
  have e : (255 : Int32).toInt = 255 := by decide
  rw [e]; omega
theorem own_lat0 (x : Int32) : ∀ c ∈ ([] : List Int32), ¬ ((255 : Int32) < c) := fun c hc => by cases hc
theorem own_lat1 (x : Int32) : ∀ c ∈ [own_c0 x], ¬ ((255 : Int32) < c) := fun c hc => by
  rw [List.mem_singleton.mp hc]; exact own_le255 _
theorem own_lat2 (x : Int32) : ∀ c ∈ [own_c0 x, own_c1 x], ¬ ((255 : Int32) < c) := fun c hc => by
  rcases List.mem_cons.mp hc with rfl | hc
  · exact own_le255 _
  · rw [List.mem_singleton.mp hc]; exact own_le255 _
theorem own_latcs (x : Int32) : ∀ c ∈ own_cs x, ¬ ((255 : Int32) < c) ∧ ¬ (c < 0) := by
  have nn : ∀ y : Int32, ¬ ((y &&& (255 : Int32)) < 0) := fun y => by
    rw [Int32.lt_iff_toInt_lt, c_mask y 255 8 (by decide) (by decide)]
    have := Int.emod_nonneg y.toInt (b := (2 ^ 8 : Nat)) (by decide)
    have e : (0 : Int32).toInt = 0 := by decide
    rw [e]; omega
  intro c hc
  unfold own_cs at hc
  split at hc
  · cases hc
  · split at hc
    · rw [List.mem_singleton.mp hc]; exact ⟨own_le255 _, nn _⟩
    · rcases List.mem_cons.mp hc with rfl | hc
      · exact ⟨own_le255 _, nn _⟩
      · rw [List.mem_singleton.mp hc]; exact ⟨own_le255 _, nn _⟩
/-- a Latin-1 char is told by its byte -/
theorem own_binj {a b : Int32} (ha : ¬ ((255 : Int32) < a)) (ha0 : ¬ a < 0) (hb : ¬ ((255 : Int32) < b)) (hb0 : ¬ b < 0) (h : nar .byte a = nar .byte b) : a = b := by
  have e1 := c_i2b a
  have e2 := c_i2b b
  have h' : a.toInt8.toInt32.toInt = b.toInt8.toInt32.toInt := congrArg Int32.toInt h
  rw [Int32.lt_iff_toInt_lt] at ha ha0 hb hb0
  have e : (255 : Int32).toInt = 255 := by decide
  have z : (0 : Int32).toInt = 0 := by decide
  rw [e] at ha hb; rw [z] at ha0 hb0
  exact Int32.toInt_inj.mp (by omega)
theorem own_mapInj : ∀ {us ws : List Int32}, (∀ c ∈ us, ¬ ((255 : Int32) < c) ∧ ¬ (c < 0)) → (∀ c ∈ ws, ¬ ((255 : Int32) < c) ∧ ¬ (c < 0)) → us.map (nar .byte) = ws.map (nar .byte) → us = ws
  | [], [], _, _, _ => rfl
  | [], _ :: _, _, _, h => by cases h
  | _ :: _, [], _, _, h => by cases h
  | a :: us, b :: ws, hu, hw, h => by
    simp only [List.map_cons, List.cons.injEq] at h
    have ha := hu a (List.mem_cons_self ..)
    have hb := hw b (List.mem_cons_self ..)
    rw [own_binj ha.1 ha.2 hb.1 hb.2 h.1, own_mapInj (fun c hc => hu c (List.mem_cons_of_mem _ hc)) (fun c hc => hw c (List.mem_cons_of_mem _ hc)) h.2]
theorem own_csEq (x y : Int32) : (own_cs x).map (nar .byte) = (own_cs y).map (nar .byte) ↔ own_cs x = own_cs y :=
  ⟨own_mapInj (own_latcs x) (own_latcs y), fun h => by rw [h]⟩
theorem own_len4 (x : Int32) : ((own_cs x).map (nar .byte)).length ≤ 4000 := by
  rw [List.length_map, own_cs]
  split
  · simp
  · split <;> simp
section
variable {x y lx ly : Int32} (hlx : (x &&& 3) % 3 = lx) (hly : (y &&& 3) % 3 = ly)
theorem own_sm0 (hlx : (x &&& 3) % 3 = lx) (hly : (y &&& 3) % 3 = ly) (h : ¬ (lx = ly)) : some (Value.int 0) = some (.int (if own_cs x = own_cs y then (1 : Int32) else 0)) := by
  have : own_cs x ≠ own_cs y := fun q => by
    rcases own_len3 hlx with rfl | rfl | rfl <;> rcases own_len3 hly with rfl | rfl | rfl <;>
      first | exact h rfl | (simp [own_cs, hlx, hly] at q; done) | (rw [own_cs, own_cs, hlx, hly] at q; exact absurd q (by simp))
  rw [if_neg this]
theorem own_sm1 (hlx : (x &&& 3) % 3 = lx) (hly : (y &&& 3) % 3 = ly) (h : lx = ly) (h1 : 0 < lx) (h2 : ¬ (own_c0 x = own_c0 y)) : some (Value.int 0) = some (.int (if own_cs x = own_cs y then (1 : Int32) else 0)) := by
  subst h
  have : own_cs x ≠ own_cs y := fun q => by
    rcases own_len3 hlx with rfl | rfl | rfl
    · exact absurd h1 (by decide)
    · rw [own_cs1 hlx, own_cs1 hly] at q; exact h2 (List.cons.inj q).1
    · rw [own_cs2 hlx, own_cs2 hly] at q; exact h2 (List.cons.inj q).1
  rw [if_neg this]
theorem own_sm2 (hlx : (x &&& 3) % 3 = lx) (hly : (y &&& 3) % 3 = ly) (h : lx = ly) (h1 : 1 < lx) (h2 : ¬ (own_c1 x = own_c1 y)) : some (Value.int 0) = some (.int (if own_cs x = own_cs y then (1 : Int32) else 0)) := by
  subst h
  have : own_cs x ≠ own_cs y := fun q => by
    rcases own_len3 hlx with rfl | rfl | rfl
    · exact absurd h1 (by decide)
    · exact absurd h1 (by decide)
    · rw [own_cs2 hlx, own_cs2 hly] at q; exact h2 (List.cons.inj (List.cons.inj q).2).1
  rw [if_neg this]
theorem own_sm3 (hlx : (x &&& 3) % 3 = lx) (hly : (y &&& 3) % 3 = ly) (h : lx = ly) (h1 : 0 < lx → own_c0 x = own_c0 y) (h2 : 1 < lx → own_c1 x = own_c1 y) : some (Value.int 1) = some (.int (if own_cs x = own_cs y then (1 : Int32) else 0)) := by
  subst h
  have : own_cs x = own_cs y := by
    rcases own_len3 hlx with rfl | rfl | rfl
    · rw [own_cs0 hlx, own_cs0 hly]
    · rw [own_cs1 hlx, own_cs1 hly, h1 (by decide)]
    · rw [own_cs2 hlx, own_cs2 hly, h1 (by decide), h2 (by decide)]
  rw [if_pos this]
end
theorem own_iteZ {P : Prop} [Decidable P] (h : (if P then (1 : Int32) else 0) = 0) : ¬ P := fun q => by rw [if_pos q] at h; exact absurd h (by decide)
theorem own_iteN {P : Prop} [Decidable P] (h : ¬ ((if P then (1 : Int32) else 0) = 0)) : P := by
  by_cases q : P
  · exact q
  · rw [if_neg q] at h; exact absurd rfl h
theorem own_and0 {P Q : Prop} [Decidable P] [Decidable Q] (h : (if P then (1 : Int32) else 0) = 0 ∨ (if Q then (1 : Int32) else 0) = 0) : some (Value.int 0) = some (.int (if P ∧ Q then (1 : Int32) else 0)) := by
  rw [if_neg]
  intro q
  rcases h with h | h
  · exact own_iteZ h q.1
  · exact own_iteZ h q.2
theorem own_and1 {P Q : Prop} [Decidable P] [Decidable Q] (h : ¬ ((if P then (1 : Int32) else 0) = 0)) (h' : ¬ ((if Q then (1 : Int32) else 0) = 0)) : some (Value.int 1) = some (.int (if P ∧ Q then (1 : Int32) else 0)) := by
  rw [if_pos ⟨own_iteN h, own_iteN h'⟩]
theorem own_ex1 {p r q s : Int32} (h : ¬ ((if own_cs p = own_cs r then (1 : Int32) else 0) = 0)) (h' : ¬ ((if own_cs q = own_cs s then (1 : Int32) else 0) = 0)) :
    (if (own_cs p).map (nar .byte) = (own_cs r).map (nar .byte) ∧ (own_cs q).map (nar .byte) = (own_cs s).map (nar .byte) then (1 : Int32) else 0) = 1 := by
  rw [if_pos ⟨(own_csEq p r).mpr (own_iteN h), (own_csEq q s).mpr (own_iteN h')⟩]
theorem own_ex0 {p r q s : Int32} (h : (if own_cs p = own_cs r then (1 : Int32) else 0) = 0 ∨ (if own_cs q = own_cs s then (1 : Int32) else 0) = 0) :
    (if (own_cs p).map (nar .byte) = (own_cs r).map (nar .byte) ∧ (own_cs q).map (nar .byte) = (own_cs s).map (nar .byte) then (1 : Int32) else 0) = 0 := by
  rw [if_neg]
  intro z
  rcases h with h | h
  · exact own_iteZ h ((own_csEq p r).mp z.1)
  · exact own_iteZ h ((own_csEq q s).mp z.2)
theorem own_exS {a b c d : List Int32} {z : Int32} (h : (if a = b ∧ c = d then (1 : Int32) else 0) = z) : (if b = a ∧ d = c then (1 : Int32) else 0) = z := by
  rw [← h]
  by_cases q : a = b ∧ c = d
  · rw [if_pos q, if_pos ⟨q.1.symm, q.2.symm⟩]
  · rw [if_neg q, if_neg (fun r => q ⟨r.1.symm, r.2.symm⟩)]
theorem own_noSub0 {Z : State} {a0 : Array Value} {C O K : String} {n : Nat} (w : (Jvm.Cond.superclass C O).before a0 Z = true) (w0 : (Jvm.Cond.noSuperclass O).before a0 Z = true) (wi : (Jvm.Cond.instantiable K n).before a0 Z = true) (h1 : C ≠ K) (h2 : O ≠ K) : ∃ c t, Z.vm.findClass C = some c ∧ Z.vm.findClass K = some t ∧ Z.vm.assignable c t = false := by
  obtain ⟨t, kt, ht, hkt, hord, hfl, -⟩ := Cond.instantiable_spec wi
  obtain ⟨c, hc⟩ := found_sup w
  obtain ⟨p, k, kp, hp, hk, hkp, hsup, hko, -, hki⟩ := Cond.superclass_spec hc w
  obtain ⟨p', kp', hp', hkp', hns, -, -⟩ := Cond.noSuperclass_spec w0
  cases hp.symm.trans hp'
  cases hkp.symm.trans hkp'
  have nct : c ≠ t := ids_ne hc ht h1
  have npt : p ≠ t := ids_ne hp ht h2
  have hti : kt.isInterface = false := by
    cases q : kt.isInterface
    · rfl
    · rw [q] at hfl; simp at hfl
  have sub2 : ∀ fuel, Z.vm.isSubclassAux fuel p t = false := fun fuel => by
    cases fuel with
    | zero => rfl
    | succ f => simp [Vm.isSubclassAux, npt, hkp, hns]
  have sub1 : ∀ fuel, Z.vm.isSubclassAux fuel c t = false := fun fuel => by
    cases fuel with
    | zero => rfl
    | succ f => simp [Vm.isSubclassAux, nct, hk, hsup, sub2]
  refine ⟨c, t, hc, ht, ?_⟩
  show Z.vm.assignableAux (255 + 1) c t = false
  simp [Vm.assignableAux, nct, hk, hkt, hko, hord, hti, Vm.isSubclass, sub1]

theorem own_wS {Z : State} {a0 : Array Value} (hw : ∀ d ∈ tables_1, d.before a0 Z = true) : ∀ a ∈ Bundle.stringAtoms, a.before a0 Z = true := by
  intro a ha
  simp only [Bundle.stringAtoms, Bundle.sN, List.mem_cons, List.not_mem_nil, or_false] at ha
  rcases ha with rfl | rfl | rfl | rfl | rfl | rfl | rfl
  · exact (hw _ (List.mem_of_getElem? (i := 7) rfl))
  · exact (hw _ (List.mem_of_getElem? (i := 6) rfl))
  · exact (hw _ (List.mem_of_getElem? (i := 19) rfl))
  · exact (hw _ (List.mem_of_getElem? (i := 20) rfl))
  · exact (hw _ (List.mem_of_getElem? (i := 21) rfl))
  · exact (hw _ (List.mem_of_getElem? (i := 22) rfl))
  · exact (hw _ (List.mem_of_getElem? (i := 23) rfl))
theorem ef_6_RIRII (m : MethodId) (x0 : Addr) (x1 : Int32) (x2 : Addr) (x3 : Int32) (x4 : Int32) : entryFrame m #[(.ref x0), (.int x1), (.ref x2), (.int x3), (.int x4)] 7 = mkF m 0 #[.val (.ref x0), .val (.int x1), .val (.ref x2), .val (.int x3), .val (.int x4), .unset, .unset] [] := by first | (simp [entryFrame, mkF, argsToLocals, Value.category]; done) | rfl
theorem d6_0 : decode jdk_52_method_21_code 0 = .ok (.iconst 0, 1) := by decide +kernel
theorem d6_1 : decode jdk_52_method_21_code 1 = .ok (.istore 5, 2) := by decide +kernel
theorem d6_3 : decode jdk_52_method_21_code 3 = .ok (.iload 5, 2) := by decide +kernel
theorem d6_5 : decode jdk_52_method_21_code 5 = .ok (.iload 4, 2) := by decide +kernel
theorem d6_7 : decode jdk_52_method_21_code 7 = .ok (.if_icmp .ge 37, 3) := by decide +kernel
theorem d6_44 : decode jdk_52_method_21_code 44 = .ok (.iload 4, 2) := by decide +kernel
theorem d6_46 : decode jdk_52_method_21_code 46 = .ok (.ireturn, 1) := by decide +kernel
theorem d6_10 : decode jdk_52_method_21_code 10 = .ok (.aload_n 0, 1) := by decide +kernel
theorem d6_11 : decode jdk_52_method_21_code 11 = .ok (.iload_n 1, 1) := by decide +kernel
theorem d6_12 : decode jdk_52_method_21_code 12 = .ok (.caload, 1) := by decide +kernel
theorem d6_13 : decode jdk_52_method_21_code 13 = .ok (.istore 6, 2) := by decide +kernel
theorem d6_15 : decode jdk_52_method_21_code 15 = .ok (.iload 6, 2) := by decide +kernel
theorem d6_17 : decode jdk_52_method_21_code 17 = .ok (.sipush 255, 3) := by decide +kernel
theorem d6_20 : decode jdk_52_method_21_code 20 = .ok (.if_icmp .le 6, 3) := by decide +kernel
theorem d6_26 : decode jdk_52_method_21_code 26 = .ok (.aload_n 2, 1) := by decide +kernel
theorem d6_27 : decode jdk_52_method_21_code 27 = .ok (.iload_n 3, 1) := by decide +kernel
theorem d6_28 : decode jdk_52_method_21_code 28 = .ok (.iload 6, 2) := by decide +kernel
theorem d6_30 : decode jdk_52_method_21_code 30 = .ok (.i2b, 1) := by decide +kernel
theorem d6_31 : decode jdk_52_method_21_code 31 = .ok (.bastore, 1) := by decide +kernel
theorem d6_32 : decode jdk_52_method_21_code 32 = .ok (.iinc 1 1, 3) := by decide +kernel
theorem d6_35 : decode jdk_52_method_21_code 35 = .ok (.iinc 3 1, 3) := by decide +kernel
theorem d6_38 : decode jdk_52_method_21_code 38 = .ok (.iinc 5 1, 3) := by decide +kernel
theorem d6_41 : decode jdk_52_method_21_code 41 = .ok (.goto (-38), 3) := by decide +kernel
theorem pn_java_lang_StringUTF16 : plainName "java/lang/StringUTF16" = true := by first | (simp [plainName, overriddenIn]; done) | decide +kernel
set_option maxRecDepth 65536 in
set_option maxHeartbeats 40000000 in
theorem ctCi (l : Launch) (Z : State) (a0 : Array Value) (hw : ∀ d ∈ tables_1, d.before a0 Z = true) (ca b : Addr) (kca kb : ClassId) (cs : List Int32) (h0 : Heap) (n0 : Nat) (hcs : cs.length ≤ 4000) (hlat : ∀ c ∈ cs, ¬ ((255 : Int32) < c)) (Ca : Arv Z h0 ca kca .char (Int32.ofNat cs.length) (cs.map Value.int) (.int 0)) (Cb : Arv Z h0 b kb .byte (Int32.ofNat cs.length) ([] ++ List.replicate cs.length (.int 0)) (.int 0)) (hne : ca ≠ b) (hnb : n0 ≤ b) :
    CtN l Z (⟨"java/lang/StringUTF16", "compress", "([CI[BII)I"⟩ : MethodName) jdk_52_method_21_code 7 (some .int) ({ frames := 0, cells := 0, slots := 0, locals := 0 } : Room) n0 #[(.ref ca), (.int (0 : Int32)), (.ref b), (.int (0 : Int32)), (.int (Int32.ofNat cs.length))] h0 (fun v h => v = some (.int (Int32.ofNat cs.length)) ∧ Keep h0 h [b] ∧ Arv Z h b kb .byte (Int32.ofNat cs.length) ((cs.map (nar .byte)).map Value.int) (.int 0)) := by
  refine CtN.of (plainFor_of_name pn_java_lang_StringUTF16) ?_
  intro p e s m below meth c T0 W0 hnm
  refine Wp.cast (ef_6_RIRII m ca (0 : Int32) b (0 : Int32) (Int32.ofNat cs.length)) ?_
  have loop : ∀ (r i : Nat) (T : State) (h : Heap) (locs : List Loc) (s6 : Slot) (W : Wk p l e ({ frames := 0, cells := 0, slots := 0, locals := 0 } : Room) s s.vm m #[(.ref ca), (.int (0 : Int32)), (.ref b), (.int (0 : Int32)), (.int (Int32.ofNat cs.length))] below meth c Z "java/lang/StringUTF16" n0 jdk_52_method_21_code 7 (some .int) T h locs 0 0) (hi : i + r = cs.length) (K : Keep h0 h [b]) (V : Arv Z h b kb .byte (Int32.ofNat cs.length) (own_fill (fun j => Value.int (nar .byte (cs.getD j 0))) cs.length i) (.int 0)) (hs6 : s6 = .unset ∨ ∃ w : Int32, s6 = .val (.int w)), Wp p e below (PoN n0 s 0 0 (fun v h => v = some (.int (Int32.ofNat cs.length)) ∧ Keep h0 h [b] ∧ Arv Z h b kb .byte (Int32.ofNat cs.length) ((cs.map (nar .byte)).map Value.int) (.int 0))) T (mkF m 3 #[.val (.ref ca), .val (.int (Int32.ofNat i)), .val (.ref b), .val (.int (Int32.ofNat i)), .val (.int (Int32.ofNat cs.length)), .val (.int (Int32.ofNat i)), s6] []) := by
    intro r
    induction r with
    | zero =>
      intro i T h locs s6 W hi K V hs6
      have hi' : i = cs.length := by omega
      subst hi'
      refine w_iload W d6_3 rfl ?_
      refine w_iload W d6_5 rfl ?_
      refine w_icmpge W (pc' := 44) d6_7 (by decide) (fun c7 => ?_) (fun c7 => ?_)
      · refine w_iload W d6_44 rfl ?_
        exact n_rI W rfl d6_46 (by decide) (by decide) ⟨rfl, K, by rw [own_fill_full, own_range_map] at V; exact V⟩
      · exact absurd c7 (fun q => by rw [own_ltI (by omega) (by omega)] at q; omega)
    | succ r ih =>
      intro i T h locs s6 W hi K V hs6
      have hil : i < cs.length := by omega
      have hc : ¬ ((255 : Int32) < cs.getD i 0) := hlat _ (by rw [List.getD_eq_getElem?_getD, List.getElem?_eq_getElem hil]; exact List.getElem_mem hil)
      refine w_iload W d6_3 rfl ?_
      refine w_iload W d6_5 rfl ?_
      refine w_icmpge W (pc' := 44) d6_7 (by decide) (fun c7 => ?_) (fun c7 => ?_)
      · exact absurd ((own_ltI (by omega) (by omega)).mpr hil) c7
      · refine w_aloadN W d6_10 rfl rfl ?_
        refine w_iloadN W d6_11 rfl ?_
        refine w_caload W (Ca.keep K (ninS hne nin0)) ⟨own_nn0 (by omega), (own_ltI (by omega) (by omega)).mpr hil⟩ (v := (.int (cs.getD i 0))) (by rw [own_clamp (by omega)]; exact own_getMap cs hil _) d6_12 ?_
        refine w_istore W (L' := #[.val (.ref ca), .val (.int (Int32.ofNat i)), .val (.ref b), .val (.int (Int32.ofNat i)), .val (.int (Int32.ofNat cs.length)), .val (.int (Int32.ofNat i)), .val (.int (cs.getD i 0))]) d6_13 (by rcases hs6 with rfl | ⟨w, rfl⟩ <;> rfl) ?_
        refine w_iload W d6_15 rfl ?_
        refine w_sipush W (z := (255 : Int32)) d6_17 (by rfl) ?_
        refine w_icmple W (pc' := 26) d6_20 (by decide) (fun c20 => ?_) (fun c20 => ?_)
        · refine w_aloadN W d6_26 rfl rfl ?_
          refine w_iloadN W d6_27 rfl ?_
          refine w_iload W d6_28 rfl ?_
          refine w_i2b W d6_30 rfl ?_
          refine w_bastore W V ⟨own_nn0 (by omega), (own_ltI (by omega) (by omega)).mpr hil⟩ i (own_clamp (by omega)) (by rw [own_fill_len]; exact hil) (x' := (nar .byte (cs.getD i 0))) (own_narb _) hnb d6_31 ?_
          intro T1 h1 l1 W1 Wr1 V1
          rw [own_fill_set (fun j => Value.int (nar .byte (cs.getD j 0))) hil] at V1
          have K' := K.wr Wr1 (Or.inl (List.mem_cons_self ..))
          refine w_iinc W1 (L' := #[.val (.ref ca), .val (.int ((Int32.ofNat i) + (1 : Int32))), .val (.ref b), .val (.int (Int32.ofNat i)), .val (.int (Int32.ofNat cs.length)), .val (.int (Int32.ofNat i)), .val (.int (cs.getD i 0))]) d6_32 rfl (z := ((Int32.ofNat i) + (1 : Int32))) (by rfl) rfl ?_
          refine w_iinc W1 (L' := #[.val (.ref ca), .val (.int ((Int32.ofNat i) + (1 : Int32))), .val (.ref b), .val (.int ((Int32.ofNat i) + (1 : Int32))), .val (.int (Int32.ofNat cs.length)), .val (.int (Int32.ofNat i)), .val (.int (cs.getD i 0))]) d6_35 rfl (z := ((Int32.ofNat i) + (1 : Int32))) (by rfl) rfl ?_
          refine w_iinc W1 (L' := #[.val (.ref ca), .val (.int ((Int32.ofNat i) + (1 : Int32))), .val (.ref b), .val (.int ((Int32.ofNat i) + (1 : Int32))), .val (.int (Int32.ofNat cs.length)), .val (.int ((Int32.ofNat i) + (1 : Int32))), .val (.int (cs.getD i 0))]) d6_38 rfl (z := ((Int32.ofNat i) + (1 : Int32))) (by rfl) rfl ?_
          refine w_goto W1 (pc' := 3) d6_41 (by decide) ?_
          simp only [own_one]
          exact ih (i + 1) _ _ _ _ W1 (by omega) K' V1 (Or.inr ⟨_, rfl⟩)
        · exact absurd c20 hc
  refine w_iconst W0 (z := (0 : Int32)) d6_0 (by rfl) ?_
  refine w_istore W0 (L' := #[.val (.ref ca), .val (.int (0 : Int32)), .val (.ref b), .val (.int (0 : Int32)), .val (.int (Int32.ofNat cs.length)), .val (.int (0 : Int32)), .unset]) d6_1 rfl ?_
  exact loop cs.length 0 _ _ _ _ W0 (by omega) (Keep.refl _ _) (by rw [own_fill_zero]; exact Cb.pad (fun _ => rfl)) (Or.inl rfl)
theorem ef_5_RII (m : MethodId) (x0 : Addr) (x1 : Int32) (x2 : Int32) : entryFrame m #[(.ref x0), (.int x1), (.int x2)] 6 = mkF m 0 #[.val (.ref x0), .val (.int x1), .val (.int x2), .unset, .unset, .unset] [] := by first | (simp [entryFrame, mkF, argsToLocals, Value.category]; done) | rfl
theorem d5_0 : decode jdk_52_method_16_code 0 = .ok (.iload_n 2, 1) := by decide +kernel
theorem d5_1 : decode jdk_52_method_16_code 1 = .ok (.newarray .byte, 2) := by decide +kernel
theorem d5_3 : decode jdk_52_method_16_code 3 = .ok (.astore_n 3, 1) := by decide +kernel
theorem d5_4 : decode jdk_52_method_16_code 4 = .ok (.aload_n 0, 1) := by decide +kernel
theorem d5_5 : decode jdk_52_method_16_code 5 = .ok (.iload_n 1, 1) := by decide +kernel
theorem d5_6 : decode jdk_52_method_16_code 6 = .ok (.aload_n 3, 1) := by decide +kernel
theorem d5_7 : decode jdk_52_method_16_code 7 = .ok (.iconst 0, 1) := by decide +kernel
theorem d5_8 : decode jdk_52_method_16_code 8 = .ok (.iload_n 2, 1) := by decide +kernel
theorem d5_9 : decode jdk_52_method_16_code 9 = .ok (.invokestatic 115, 3) := by decide +kernel
theorem pd_0 : parseMethodDescriptor "([CI[BII)I" = some ⟨[(.array .char), .int, (.array .byte), .int, .int], some .int⟩ := by decide +kernel
theorem d5_12 : decode jdk_52_method_16_code 12 = .ok (.istore 4, 2) := by decide +kernel
theorem d5_14 : decode jdk_52_method_16_code 14 = .ok (.iload 4, 2) := by decide +kernel
theorem d5_16 : decode jdk_52_method_16_code 16 = .ok (.iload_n 2, 1) := by decide +kernel
theorem d5_17 : decode jdk_52_method_16_code 17 = .ok (.if_icmp .eq 40, 3) := by decide +kernel
theorem d5_57 : decode jdk_52_method_16_code 57 = .ok (.aload_n 3, 1) := by decide +kernel
theorem d5_58 : decode jdk_52_method_16_code 58 = .ok (.areturn, 1) := by decide +kernel
set_option maxRecDepth 65536 in
set_option maxHeartbeats 40000000 in
theorem ctCo (l : Launch) (Z : State) (a0 : Array Value) (hw : ∀ d ∈ tables_1, d.before a0 Z = true) (ca : Addr) (kca : ClassId) (cs : List Int32) (h0 : Heap) (n0 : Nat) (hn0 : n0 ≤ h0.size) (hcs : cs.length ≤ 2) (hlat : ∀ c ∈ cs, ¬ ((255 : Int32) < c)) (Ca : Arv Z h0 ca kca .char (Int32.ofNat cs.length) (cs.map Value.int) (.int 0)) :
    CtN l Z (⟨"java/lang/StringUTF16", "compress", "([CII)[B"⟩ : MethodName) jdk_52_method_16_code 6 (some (.array .byte)) ({ frames := 1, cells := 1, slots := 2, locals := 18 } : Room) n0 #[(.ref ca), (.int (0 : Int32)), (.int (Int32.ofNat cs.length))] h0 (fun v h => ∃ b kb, v = some (.ref b) ∧ Ext h0 h ∧ h0.size ≤ b ∧ Arv Z h b kb .byte (Int32.ofNat cs.length) ((cs.map (nar .byte)).map Value.int) (.int 0)) := by
  refine CtN.of (plainFor_of_name pn_java_lang_StringUTF16) ?_
  intro p e s m below meth c T0 W0 hnm
  refine Wp.cast (ef_5_RII m ca (0 : Int32) (Int32.ofNat cs.length)) ?_
  refine w_iloadN W0 d5_0 rfl ?_
  refine w_newarr W0 (ty := .byte) (dv := (.int 0)) (hw _ (List.mem_of_getElem? (i := 19) rfl)) rfl rfl d5_1 (own_nn0 (by omega)) 2 (by rw [own_clamp (by omega)]; exact hcs) (by decide) (by decide) (by decide) ?_
  intro T1 h1 b k1 W1 E1 g1 V1
  have hb0 : n0 ≤ b := by rw [g1]; exact hn0
  have hne : ca ≠ b := own_ltNe Ca.lt (Nat.le_of_eq g1.symm)
  have V' := V1.pad (pad_rep [] (.int 0) cs.length)
  refine w_astoreN W1 (L' := #[.val (.ref ca), .val (.int (0 : Int32)), .val (.int (Int32.ofNat cs.length)), .val (.ref b), .unset, .unset]) d5_3 rfl rfl ?_
  refine w_aloadN W1 d5_4 rfl rfl ?_
  refine w_iloadN W1 d5_5 rfl ?_
  refine w_aloadN W1 d5_6 rfl rfl ?_
  refine w_iconst W1 (z := (0 : Int32)) d5_7 (by rfl) ?_
  refine w_iloadN W1 d5_8 rfl ?_
  refine w_callS W1 (ctCi l Z a0 hw ca b _ _ cs _ n0 (by omega) hlat (Ca.ext E1) V' hne hb0) (hw _ (List.mem_of_getElem? (i := 31) rfl)) (hw _ (List.mem_of_getElem? (i := 32) rfl)) (hw _ (List.mem_of_getElem? (i := 29) rfl)) (hw _ (List.mem_of_getElem? (i := 33) rfl)) (by decide) 0 (by decide) (by decide) (by decide) (by decide) (argsL := [(.ref ca), (.int (0 : Int32)), (.ref b), (.int (0 : Int32)), (.int (Int32.ofNat cs.length))]) (rest := []) pd_0 rfl rfl rfl rfl rfl d5_9 ?_
  rintro T2 h2 l2 _ W2 ⟨rfl, K, V⟩
  refine w_istore W2 (L' := #[.val (.ref ca), .val (.int (0 : Int32)), .val (.int (Int32.ofNat cs.length)), .val (.ref b), .val (.int (Int32.ofNat cs.length)), .unset]) d5_12 rfl ?_
  refine w_iload W2 d5_14 rfl ?_
  refine w_iloadN W2 d5_16 rfl ?_
  refine w_icmpeq W2 (pc' := 57) d5_17 (by decide) (fun c17 => ?_) (fun c17 => ?_)
  · refine w_aloadN W2 d5_57 rfl rfl ?_
    exact n_rA W2 rfl rfl rfl d5_58 (by decide) (by decide) ⟨b, _, rfl, own_extKeep E1 K (allS (Nat.le_of_eq g1.symm) all0), Nat.le_of_eq g1.symm, V⟩
  · exact absurd rfl c17
theorem ef_7_RI (m : MethodId) (x0 : Addr) (x1 : Int32) : entryFrame m #[(.ref x0), (.int x1)] 2 = mkF m 0 #[.val (.ref x0), .val (.int x1)] [] := by first | (simp [entryFrame, mkF, argsToLocals, Value.category]; done) | rfl
theorem d7_0 : decode jdk_52_method_15_code 0 = .ok (.iload_n 1, 1) := by decide +kernel
theorem d7_1 : decode jdk_52_method_15_code 1 = .ok (.aload_n 0, 1) := by decide +kernel
theorem d7_2 : decode jdk_52_method_15_code 2 = .ok (.arraylength, 1) := by decide +kernel
theorem d7_3 : decode jdk_52_method_15_code 3 = .ok (.isub, 1) := by decide +kernel
theorem d7_4 : decode jdk_52_method_15_code 4 = .ok (.bipush 31, 2) := by decide +kernel
theorem d7_6 : decode jdk_52_method_15_code 6 = .ok (.iushr, 1) := by decide +kernel
theorem d7_7 : decode jdk_52_method_15_code 7 = .ok (.i2b, 1) := by decide +kernel
theorem d7_8 : decode jdk_52_method_15_code 8 = .ok (.ireturn, 1) := by decide +kernel
set_option maxRecDepth 65536 in
set_option maxHeartbeats 40000000 in
theorem ctCf (l : Launch) (Z : State) (a0 : Array Value) (hw : ∀ d ∈ tables_1, d.before a0 Z = true) (b : Addr) (kb : ClassId) (z : Int32) (us : List Value) (h0 : Heap) (n0 : Nat) (Cb : Arv Z h0 b kb .byte z us (.int 0)) :
    CtN l Z (⟨"java/lang/StringUTF16", "coderFromArrayLen", "([BI)B"⟩ : MethodName) jdk_52_method_15_code 2 (some .byte) ({ frames := 0, cells := 0, slots := 0, locals := 0 } : Room) n0 #[(.ref b), (.int z)] h0 (fun v h => v = some (.int 0) ∧ h0 = h) := by
  refine CtN.of (plainFor_of_name pn_java_lang_StringUTF16) ?_
  intro p e s m below meth c T0 W0 hnm
  refine Wp.cast (ef_7_RI m b z) ?_
  refine w_iloadN W0 d7_0 rfl ?_
  refine w_aloadN W0 d7_1 rfl rfl ?_
  refine w_arrlen W0 Cb d7_2 ?_
  refine w_isub W0 d7_3 rfl ?_
  refine w_bipush W0 (z := (31 : Int32)) d7_4 (by rfl) ?_
  refine w_iushr W0 d7_6 rfl ?_
  refine w_i2b W0 d7_7 rfl ?_
  exact n_rN W0 rfl (by simp) (z' := (0 : Int32)) (own_coder0 z) d7_8 (by decide) (by decide) ⟨rfl, rfl⟩
theorem ef_3_RRIIn (m : MethodId) (x0 : Addr) (x1 : Addr) (x2 : Int32) (x3 : Int32) : entryFrame m #[(.ref x0), (.ref x1), (.int x2), (.int x3), .null] 6 = mkF m 0 #[.val (.ref x0), .val (.ref x1), .val (.int x2), .val (.int x3), .val .null, .unset] [] := by first | (simp [entryFrame, mkF, argsToLocals, Value.category]; done) | rfl
theorem d3_0 : decode jdk_42_method_149_code 0 = .ok (.aload_n 0, 1) := by decide +kernel
theorem d3_1 : decode jdk_42_method_149_code 1 = .ok (.invokespecial 1, 3) := by decide +kernel
theorem d3_4 : decode jdk_42_method_149_code 4 = .ok (.iload_n 3, 1) := by decide +kernel
theorem d3_5 : decode jdk_42_method_149_code 5 = .ok (.ifCond .ne 22, 3) := by decide +kernel
theorem d3_27 : decode jdk_42_method_149_code 27 = .ok (.getstatic 38, 3) := by decide +kernel
theorem d3_30 : decode jdk_42_method_149_code 30 = .ok (.ifCond .eq 28, 3) := by decide +kernel
theorem d3_33 : decode jdk_42_method_149_code 33 = .ok (.aload_n 1, 1) := by decide +kernel
theorem d3_34 : decode jdk_42_method_149_code 34 = .ok (.iload_n 2, 1) := by decide +kernel
theorem d3_35 : decode jdk_42_method_149_code 35 = .ok (.iload_n 3, 1) := by decide +kernel
theorem d3_36 : decode jdk_42_method_149_code 36 = .ok (.invokestatic 177, 3) := by decide +kernel
theorem pd_1 : parseMethodDescriptor "([CII)[B" = some ⟨[(.array .char), .int, .int], some (.array .byte)⟩ := by decide +kernel
theorem d3_39 : decode jdk_42_method_149_code 39 = .ok (.astore 5, 2) := by decide +kernel
theorem d3_41 : decode jdk_42_method_149_code 41 = .ok (.aload_n 0, 1) := by decide +kernel
theorem d3_42 : decode jdk_42_method_149_code 42 = .ok (.aload 5, 2) := by decide +kernel
theorem d3_44 : decode jdk_42_method_149_code 44 = .ok (.iload_n 3, 1) := by decide +kernel
theorem d3_45 : decode jdk_42_method_149_code 45 = .ok (.invokestatic 47, 3) := by decide +kernel
theorem pd_2 : parseMethodDescriptor "([BI)B" = some ⟨[(.array .byte), .int], some .byte⟩ := by decide +kernel
theorem d3_48 : decode jdk_42_method_149_code 48 = .ok (.putfield 15, 3) := by decide +kernel
theorem d3_51 : decode jdk_42_method_149_code 51 = .ok (.aload_n 0, 1) := by decide +kernel
theorem d3_52 : decode jdk_42_method_149_code 52 = .ok (.aload 5, 2) := by decide +kernel
theorem d3_54 : decode jdk_42_method_149_code 54 = .ok (.putfield 9, 3) := by decide +kernel
theorem d3_57 : decode jdk_42_method_149_code 57 = .ok (.return_, 1) := by decide +kernel
theorem d3_8 : decode jdk_42_method_149_code 8 = .ok (.aload_n 0, 1) := by decide +kernel
theorem d3_11 : decode jdk_42_method_149_code 11 = .ok (.getfield 9, 3) := by decide +kernel
theorem d3_14 : decode jdk_42_method_149_code 14 = .ok (.putfield 9, 3) := by decide +kernel
theorem d3_17 : decode jdk_42_method_149_code 17 = .ok (.aload_n 0, 1) := by decide +kernel
theorem d3_18 : decode jdk_42_method_149_code 18 = .ok (.ldc 7, 2) := by decide +kernel
theorem d3_20 : decode jdk_42_method_149_code 20 = .ok (.getfield 15, 3) := by decide +kernel
theorem d3_23 : decode jdk_42_method_149_code 23 = .ok (.putfield 15, 3) := by decide +kernel
theorem d3_26 : decode jdk_42_method_149_code 26 = .ok (.return_, 1) := by decide +kernel
theorem d3_9 : decode jdk_42_method_149_code 9 = .ok (.ldc 7, 2) := by decide +kernel
theorem pn_java_lang_String : plainName "java/lang/String" = true := by first | (simp [plainName, overriddenIn]; done) | decide +kernel
set_option maxRecDepth 65536 in
set_option maxHeartbeats 40000000 in
theorem ctS4 (l : Launch) (Z : State) (a0 : Array Value) (hw : ∀ d ∈ tables_1, d.before a0 Z = true) (cz : Int32) (x ca : Addr) (kca : ClassId) (cs : List Int32) (h0 : Heap) (n0 : Nat) (hCH : Jvm.Lit.constHeld Z "java/lang/String" 7) (hcs : cs.length ≤ 2) (hlat : ∀ c ∈ cs, ¬ ((255 : Int32) < c)) (O : Old Z n0 h0) (G : Sta Z Z.heap "java/lang/String" "COMPACT_STRINGS" "Z" (.int cz)) (hcz : cz ≠ 0) (Ex : Exa Z h0 x "java/lang/String") (Fv : Fld Z h0 x "java/lang/String" "value" "[B" .null) (Fc : Fld Z h0 x "java/lang/String" "coder" "B" (.int 0)) (hnx : n0 ≤ x) (Ca : Arv Z h0 ca kca .char (Int32.ofNat cs.length) (cs.map Value.int) (.int 0)) :
    CtW l Z (⟨"java/lang/String", "<init>", "([CIILjava/lang/Void;)V"⟩ : MethodName) jdk_42_method_149_code 6 none ({ frames := 2, cells := 2, slots := 4, locals := 35 } : Room) n0 #[(.ref x), (.ref ca), (.int (0 : Int32)), (.int (Int32.ofNat cs.length)), .null] h0 (fun vm => St Z vm h0) (fun v h vm => v = none ∧ Keep h0 h [x] ∧ Str Z h x 0 (cs.map (nar .byte)) ∧ St Z vm h) := by
  refine CtW.of (plainFor_of_name pn_java_lang_String) ?_
  intro p e s m below meth c T0 W0 hnm hs0 hV
  refine Wp.cast (ef_3_RRIIn m x ca (0 : Int32) (Int32.ofNat cs.length)) ?_
  have hV2 : St Z s.vm h0 := hV
  refine w_aloadN W0 d3_0 rfl rfl ?_
  refine w_initO W0 (hw _ (List.mem_of_getElem? (i := 15) rfl)) (hw _ (List.mem_of_getElem? (i := 16) rfl)) (hw _ (List.mem_of_getElem? (i := 17) rfl)) 0 rfl rfl (by decide) (by decide) d3_1 ?_
  intro T1 W1
  refine w_iloadN W1 d3_4 rfl ?_
  refine w_ifne W1 (pc' := 27) d3_5 (by decide) (fun c5 => ?_) (fun c5 => ?_)
  · refine w_gets W1 (host := "") (Or.inl (hw _ (List.mem_of_getElem? (i := 26) rfl))) Via.refl (own_staOld O G) d3_27 ?_
    intro T2 W2
    refine w_ifeq W2 (pc' := 58) d3_30 (by decide) (fun c30 => ?_) (fun c30 => ?_)
    · exact absurd c30 hcz
    · refine w_aloadN W2 d3_33 rfl rfl ?_
      refine w_iloadN W2 d3_34 rfl ?_
      refine w_iloadN W2 d3_35 rfl ?_
      refine w_callS W2 (ctCo l Z a0 hw ca _ cs _ n0 (own_oldle O) (by omega) hlat Ca) (hw _ (List.mem_of_getElem? (i := 27) rfl)) (hw _ (List.mem_of_getElem? (i := 28) rfl)) (hw _ (List.mem_of_getElem? (i := 29) rfl)) (hw _ (List.mem_of_getElem? (i := 30) rfl)) (by decide) 0 (by decide) (by decide) (by decide) (by decide) (argsL := [(.ref ca), (.int (0 : Int32)), (.int (Int32.ofNat cs.length))]) (rest := []) pd_1 rfl rfl rfl rfl rfl d3_36 ?_
      rintro T3 h3 l3 _ W3 ⟨b, kb, rfl, E, hb, V⟩
      refine w_astore W3 (L' := #[.val (.ref x), .val (.ref ca), .val (.int (0 : Int32)), .val (.int (Int32.ofNat cs.length)), .val .null, .val (.ref b)]) d3_39 rfl rfl ?_
      refine w_aloadN W3 d3_41 rfl rfl ?_
      refine w_aload W3 d3_42 rfl rfl ?_
      refine w_iloadN W3 d3_44 rfl ?_
      refine w_callS W3 (ctCf l Z a0 hw b _ (Int32.ofNat cs.length) _ _ n0 V) (hw _ (List.mem_of_getElem? (i := 34) rfl)) (hw _ (List.mem_of_getElem? (i := 35) rfl)) (hw _ (List.mem_of_getElem? (i := 29) rfl)) (hw _ (List.mem_of_getElem? (i := 36) rfl)) (by decide) 1 (by decide) (by decide) (by decide) (by decide) (argsL := [(.ref b), (.int (Int32.ofNat cs.length))]) (rest := [(.ref x)]) pd_2 rfl rfl rfl rfl rfl d3_45 ?_
      rintro T4 h4 l4 _ W4 ⟨rfl, rfl⟩
      refine w_putf W4 (hw _ (List.mem_of_getElem? (i := 25) rfl)) Via.refl (Fc.ext E) (Ex.ext E) (Or.inr ⟨(hw _ (List.mem_of_getElem? (i := 21) rfl)), rfl, hnm⟩) (hw _ (List.mem_of_getElem? (i := 6) rfl)) (ty := .byte) (v' := (.int (0 : Int32))) (by decide) (by rfl) (by decide) hnx d3_48 ?_
      intro T5 h5 l5 W5 Wr5
      refine w_aloadN W5 d3_51 rfl rfl ?_
      refine w_aload W5 d3_52 rfl rfl ?_
      have Fv1 : Fld Z h5 x "java/lang/String" "value" "[B" .null := (Fv.ext E).other Wr5 (Or.inr (slot_ne (Or.inr (hw _ (List.mem_of_getElem? (i := 20) rfl))) (Or.inr (hw _ (List.mem_of_getElem? (i := 21) rfl))) (by decide) (t := (.array .byte)) (t' := .byte) (by decide) (by decide)))
      have Fc1 := (Fc.ext E).same Wr5
      have hxb : x < b := Nat.lt_of_lt_of_le Ex.lt hb
      have V1 := V.other Wr5 (Nat.ne_of_gt hxb)
      refine w_putf W5 (hw _ (List.mem_of_getElem? (i := 24) rfl)) Via.refl Fv1 ((Ex.ext E).wr Wr5) (Or.inr ⟨(hw _ (List.mem_of_getElem? (i := 20) rfl)), rfl, hnm⟩) (hw _ (List.mem_of_getElem? (i := 6) rfl)) (ty := (.array .byte)) (v' := (.ref b)) (by decide) (by rfl) (rfl) hnx d3_54 ?_
      intro T6 h6 l6 W6 Wr6
      have Kx : Keep h0 h6 [x] := ((own_keepOf E).wr Wr5 (Or.inl (List.mem_cons_self ..))).wr Wr6 (Or.inl (List.mem_cons_self ..))
      have Sx : Str Z h6 x 0 (cs.map (nar .byte)) := ⟨b, kb, (((Ex.ext E).wr Wr5).wr Wr6), Fc1.other Wr6 (Or.inr (slot_ne (Or.inr (hw _ (List.mem_of_getElem? (i := 21) rfl))) (Or.inr (hw _ (List.mem_of_getElem? (i := 20) rfl))) (by decide) (t := .byte) (t' := (.array .byte)) (by decide) (by decide))), Fv1.same Wr6, by rw [List.length_map]; exact V1.other Wr6 (Nat.ne_of_gt hxb)⟩
      exact x_rV W6 rfl d3_57 (by decide) (by decide) (fun vm' hvm' => ⟨rfl, Kx, Sx, St.keep (St.warm hV2 hvm') Kx (hw _ (List.mem_of_getElem? (i := 6) rfl)) Ex Fv⟩)
  · have hcs0 : cs = [] := List.eq_nil_of_length_eq_zero ((own_eqI (j := 0) (by omega) (by omega)).mp c5)
    refine w_aloadN W1 d3_8 rfl rfl ?_
    have J : ∀ (T : State) (h : Heap) (vm : Vm) (locs : List Loc) (W : Wk p l e ({ frames := 2, cells := 2, slots := 4, locals := 35 } : Room) s vm m #[(.ref x), (.ref ca), (.int (0 : Int32)), (.int (Int32.ofNat cs.length)), .null] below meth c Z "java/lang/String" n0 jdk_42_method_149_code 6 none T h locs 2 4) (E : Ext h0 h) (la lb : Addr) (lk : ClassId) (Lt : Lit (s.setVm vm) "java/lang/String" 7 la) (Ea : Exa Z h la "java/lang/String") (Fca : Fld Z h la "java/lang/String" "coder" "B" (.int 0)) (Fva : Fld Z h la "java/lang/String" "value" "[B" (.ref lb)) (Ar : Arv Z h lb lk .byte (0 : Int32) [] (.int 0)), Wp p e below (PoW n0 s 2 4 (fun v h vm => v = none ∧ Keep h0 h [x] ∧ Str Z h x 0 (cs.map (nar .byte)) ∧ St Z vm h)) T (mkF m 11 #[.val (.ref x), .val (.ref ca), .val (.int (0 : Int32)), .val (.int (Int32.ofNat cs.length)), .val .null, .unset] [(.ref la), (.ref x)]) := by
      intro T h vm locs W E la lb lk Lt Ea Fca Fva Ar
      have nx1 : la ≠ x := Fld.ne Fva (Fv.ext E) (fun r => by cases r)
      have nx2 : lb ≠ x := (Exa.neArv (Ex.ext E) Ar (hw _ (List.mem_of_getElem? (i := 6) rfl))).symm
      refine w_getf W (host := "") (Or.inl (hw _ (List.mem_of_getElem? (i := 24) rfl))) Via.refl Fva d3_11 ?_
      intro T7 W7
      refine w_putf W7 (hw _ (List.mem_of_getElem? (i := 24) rfl)) Via.refl (Fv.ext E) (Ex.ext E) (Or.inr ⟨(hw _ (List.mem_of_getElem? (i := 20) rfl)), rfl, hnm⟩) (hw _ (List.mem_of_getElem? (i := 6) rfl)) (ty := (.array .byte)) (v' := (.ref lb)) (by decide) (by rfl) (rfl) hnx d3_14 ?_
      intro T8 h8 l8 W8 Wr8
      refine w_aloadN W8 d3_17 rfl rfl ?_
      refine w_ldcAgain W8 (hw _ (List.mem_of_getElem? (i := 18) rfl)) Lt d3_18 ?_
      refine w_getf W8 (host := "") (Or.inl (hw _ (List.mem_of_getElem? (i := 25) rfl))) Via.refl (Fca.other Wr8 (Or.inl nx1)) d3_20 ?_
      intro T9 W9
      have Fc1 := (Fc.ext E).other Wr8 (Or.inr (slot_ne (Or.inr (hw _ (List.mem_of_getElem? (i := 21) rfl))) (Or.inr (hw _ (List.mem_of_getElem? (i := 20) rfl))) (by decide) (t := .byte) (t' := (.array .byte)) (by decide) (by decide)))
      have Fv1 := (Fv.ext E).same Wr8
      refine w_putf W9 (hw _ (List.mem_of_getElem? (i := 25) rfl)) Via.refl Fc1 ((Ex.ext E).wr Wr8) (Or.inr ⟨(hw _ (List.mem_of_getElem? (i := 21) rfl)), rfl, hnm⟩) (hw _ (List.mem_of_getElem? (i := 6) rfl)) (ty := .byte) (v' := (.int (0 : Int32))) (by decide) (by rfl) (by decide) hnx d3_23 ?_
      intro T10 h10 l10 W10 Wr10
      have Kx : Keep h0 h10 [x] := ((own_keepOf E).wr Wr8 (Or.inl (List.mem_cons_self ..))).wr Wr10 (Or.inl (List.mem_cons_self ..))
      have Ea3 := (Ea.wr Wr8).wr Wr10
      have Fca3 := (Fca.other Wr8 (Or.inl nx1)).other Wr10 (Or.inl nx1)
      have Fva3 := (Fva.other Wr8 (Or.inl nx1)).other Wr10 (Or.inl nx1)
      have Ar3 := (Ar.other Wr8 nx2).other Wr10 nx2
      have Sx : Str Z h10 x 0 (cs.map (nar .byte)) := by subst hcs0; exact ⟨lb, lk, ((Ex.ext E).wr Wr8).wr Wr10, Fc1.same Wr10, Fv1.other Wr10 (Or.inr (slot_ne (Or.inr (hw _ (List.mem_of_getElem? (i := 20) rfl))) (Or.inr (hw _ (List.mem_of_getElem? (i := 21) rfl))) (by decide) (t := (.array .byte)) (t' := .byte) (by decide) (by decide))), Ar3⟩
      exact x_rV W10 rfl d3_26 (by decide) (by decide) (fun vm' hvm' => ⟨rfl, Kx, Sx, Or.inl ⟨la, lb, lk, Lit.stays (s := s) Lt hvm'.wide, Ea3, Fca3, Fva3, Ar3⟩⟩)
    rcases hV with ⟨la, lb, lk, Lt, Ea, Fca, Fva, Ar⟩ | ⟨Ts, I, hnot⟩
    · refine w_ldcAgain W1 (hw _ (List.mem_of_getElem? (i := 18) rfl)) Lt d3_9 ?_
      exact J _ _ _ _ (Wk.mono W1 (by decide) (by decide)) (own_extRefl _) la lb lk Lt Ea Fca Fva Ar
    · refine w_ldcSV W1 (hw _ (List.mem_of_getElem? (i := 18) rfl)) (own_wS hw) (Fr.nil _) (by rw [hs0]; exact O.2.2) I hnot hCH (own_cw G hcz) (vs := []) (z := 0) ⟨by simp, rfl⟩ (by decide) (by decide) 0 (by decide) (by decide) (by decide) (by decide) d3_9 ?_
      intro T1 h1 vm1 la lb lk W1 E1 Ea Fca Fva Ar I1 Lt
      exact J _ _ _ _ W1 E1 la lb lk Lt Ea Fca Fva Ar
theorem ef_2_RR (m : MethodId) (x0 : Addr) (x1 : Addr) : entryFrame m #[(.ref x0), (.ref x1)] 2 = mkF m 0 #[.val (.ref x0), .val (.ref x1)] [] := by first | (simp [entryFrame, mkF, argsToLocals, Value.category]; done) | rfl
theorem d2_0 : decode jdk_42_method_3_code 0 = .ok (.aload_n 0, 1) := by decide +kernel
theorem d2_1 : decode jdk_42_method_3_code 1 = .ok (.aload_n 1, 1) := by decide +kernel
theorem d2_2 : decode jdk_42_method_3_code 2 = .ok (.iconst 0, 1) := by decide +kernel
theorem d2_3 : decode jdk_42_method_3_code 3 = .ok (.aload_n 1, 1) := by decide +kernel
theorem d2_4 : decode jdk_42_method_3_code 4 = .ok (.arraylength, 1) := by decide +kernel
theorem d2_5 : decode jdk_42_method_3_code 5 = .ok (.aconst_null, 1) := by decide +kernel
theorem d2_6 : decode jdk_42_method_3_code 6 = .ok (.invokespecial 27, 3) := by decide +kernel
theorem pd_3 : parseMethodDescriptor "([CIILjava/lang/Void;)V" = some ⟨[(.array .char), .int, .int, (.object "java/lang/Void")], none⟩ := by decide +kernel
theorem d2_9 : decode jdk_42_method_3_code 9 = .ok (.return_, 1) := by decide +kernel
set_option maxRecDepth 65536 in
set_option maxHeartbeats 40000000 in
theorem ctS1 (l : Launch) (Z : State) (a0 : Array Value) (hw : ∀ d ∈ tables_1, d.before a0 Z = true) (cz : Int32) (x ca : Addr) (kca : ClassId) (cs : List Int32) (h0 : Heap) (n0 : Nat) (hCH : Jvm.Lit.constHeld Z "java/lang/String" 7) (hcs : cs.length ≤ 2) (hlat : ∀ c ∈ cs, ¬ ((255 : Int32) < c)) (O : Old Z n0 h0) (G : Sta Z Z.heap "java/lang/String" "COMPACT_STRINGS" "Z" (.int cz)) (hcz : cz ≠ 0) (Ex : Exa Z h0 x "java/lang/String") (Fv : Fld Z h0 x "java/lang/String" "value" "[B" .null) (Fc : Fld Z h0 x "java/lang/String" "coder" "B" (.int 0)) (hnx : n0 ≤ x) (Ca : Arv Z h0 ca kca .char (Int32.ofNat cs.length) (cs.map Value.int) (.int 0)) :
    CtW l Z (⟨"java/lang/String", "<init>", "([C)V"⟩ : MethodName) jdk_42_method_3_code 2 none ({ frames := 3, cells := 2, slots := 4, locals := 52 } : Room) n0 #[(.ref x), (.ref ca)] h0 (fun vm => St Z vm h0) (fun v h vm => v = none ∧ Keep h0 h [x] ∧ Str Z h x 0 (cs.map (nar .byte)) ∧ St Z vm h) := by
  refine CtW.of (plainFor_of_name pn_java_lang_String) ?_
  intro p e s m below meth c T0 W0 hnm hs0 hV
  refine Wp.cast (ef_2_RR m x ca) ?_
  refine w_aloadN W0 d2_0 rfl rfl ?_
  refine w_aloadN W0 d2_1 rfl rfl ?_
  refine w_iconst W0 (z := (0 : Int32)) d2_2 (by rfl) ?_
  refine w_aloadN W0 d2_3 rfl rfl ?_
  refine w_arrlen W0 Ca d2_4 ?_
  refine w_aconstNull W0 d2_5 ?_
  refine w_specialW W0 (ctS4 l Z a0 hw cz x ca _ cs _ n0 hCH hcs hlat O G hcz Ex Fv Fc hnx Ca) (fun vm' q => St.warm hV q) rfl (hw _ (List.mem_of_getElem? (i := 11) rfl)) (hw _ (List.mem_of_getElem? (i := 12) rfl)) (hw _ (List.mem_of_getElem? (i := 7) rfl)) (hw _ (List.mem_of_getElem? (i := 14) rfl)) (by decide) 0 (by decide) (by decide) (by decide) (by decide) (a := x) (argsL := [(.ref ca), (.int (0 : Int32)), (.int (Int32.ofNat cs.length)), .null]) (rest := []) pd_3 rfl rfl rfl rfl rfl d2_6 ?_
  rintro T1 h1 l1 vm1 _ W1 hw1 ⟨rfl, Kx, Sx, St1⟩
  exact x_rV W1 rfl d2_9 (by decide) (by decide) (fun vm' hvm' => ⟨rfl, Kx, Sx, St.warm St1 hvm'⟩)
theorem ef_14_RR (m : MethodId) (x0 : Addr) (x1 : Addr) : entryFrame m #[(.ref x0), (.ref x1)] 3 = mkF m 0 #[.val (.ref x0), .val (.ref x1), .unset] [] := by first | (simp [entryFrame, mkF, argsToLocals, Value.category]; done) | rfl
theorem d14_0 : decode jdk_43_method_13_code 0 = .ok (.aload_n 0, 1) := by decide +kernel
theorem d14_1 : decode jdk_43_method_13_code 1 = .ok (.arraylength, 1) := by decide +kernel
theorem d14_2 : decode jdk_43_method_13_code 2 = .ok (.aload_n 1, 1) := by decide +kernel
theorem d14_3 : decode jdk_43_method_13_code 3 = .ok (.arraylength, 1) := by decide +kernel
theorem d14_4 : decode jdk_43_method_13_code 4 = .ok (.if_icmp .ne 30, 3) := by decide +kernel
theorem d14_34 : decode jdk_43_method_13_code 34 = .ok (.iconst 0, 1) := by decide +kernel
theorem d14_35 : decode jdk_43_method_13_code 35 = .ok (.ireturn, 1) := by decide +kernel
theorem d14_9 : decode jdk_43_method_13_code 9 = .ok (.iload_n 2, 1) := by decide +kernel
theorem d14_10 : decode jdk_43_method_13_code 10 = .ok (.aload_n 0, 1) := by decide +kernel
theorem d14_11 : decode jdk_43_method_13_code 11 = .ok (.arraylength, 1) := by decide +kernel
theorem d14_12 : decode jdk_43_method_13_code 12 = .ok (.if_icmp .ge 20, 3) := by decide +kernel
theorem d14_32 : decode jdk_43_method_13_code 32 = .ok (.iconst 1, 1) := by decide +kernel
theorem d14_33 : decode jdk_43_method_13_code 33 = .ok (.ireturn, 1) := by decide +kernel
theorem d14_15 : decode jdk_43_method_13_code 15 = .ok (.aload_n 0, 1) := by decide +kernel
theorem d14_16 : decode jdk_43_method_13_code 16 = .ok (.iload_n 2, 1) := by decide +kernel
theorem d14_17 : decode jdk_43_method_13_code 17 = .ok (.baload, 1) := by decide +kernel
theorem d14_18 : decode jdk_43_method_13_code 18 = .ok (.aload_n 1, 1) := by decide +kernel
theorem d14_19 : decode jdk_43_method_13_code 19 = .ok (.iload_n 2, 1) := by decide +kernel
theorem d14_20 : decode jdk_43_method_13_code 20 = .ok (.baload, 1) := by decide +kernel
theorem d14_21 : decode jdk_43_method_13_code 21 = .ok (.if_icmp .eq 5, 3) := by decide +kernel
theorem d14_26 : decode jdk_43_method_13_code 26 = .ok (.iinc 2 1, 3) := by decide +kernel
theorem d14_29 : decode jdk_43_method_13_code 29 = .ok (.goto (-20), 3) := by decide +kernel
theorem d14_24 : decode jdk_43_method_13_code 24 = .ok (.iconst 0, 1) := by decide +kernel
theorem d14_25 : decode jdk_43_method_13_code 25 = .ok (.ireturn, 1) := by decide +kernel
theorem d14_7 : decode jdk_43_method_13_code 7 = .ok (.iconst 0, 1) := by decide +kernel
theorem d14_8 : decode jdk_43_method_13_code 8 = .ok (.istore_n 2, 1) := by decide +kernel
theorem pn_java_lang_StringLatin1 : plainName "java/lang/StringLatin1" = true := by first | (simp [plainName, overriddenIn]; done) | decide +kernel
set_option maxRecDepth 65536 in
set_option maxHeartbeats 40000000 in
theorem ctLe (l : Launch) (Z : State) (a0 : Array Value) (hw : ∀ d ∈ tables_1, d.before a0 Z = true) (b1 b2 : Addr) (k1 k2 : ClassId) (us ws : List Int32) (h0 : Heap) (n0 : Nat) (hu : us.length ≤ 4000) (hw2 : ws.length ≤ 4000) (A1 : Arv Z h0 b1 k1 .byte (Int32.ofNat us.length) (us.map Value.int) (.int 0)) (A2 : Arv Z h0 b2 k2 .byte (Int32.ofNat ws.length) (ws.map Value.int) (.int 0)) :
    CtN l Z (⟨"java/lang/StringLatin1", "equals", "([B[B)Z"⟩ : MethodName) jdk_43_method_13_code 3 (some .boolean) ({ frames := 0, cells := 0, slots := 0, locals := 0 } : Room) n0 #[(.ref b1), (.ref b2)] h0 (fun v h => v = some (.int (if us = ws then (1 : Int32) else 0)) ∧ h0 = h) := by
  refine CtN.of (plainFor_of_name pn_java_lang_StringLatin1) ?_
  intro p e s m below meth c T0 W0 hnm
  refine Wp.cast (ef_14_RR m b1 b2) ?_
  refine w_aloadN W0 d14_0 rfl rfl ?_
  refine w_arrlen W0 A1 d14_1 ?_
  refine w_aloadN W0 d14_2 rfl rfl ?_
  refine w_arrlen W0 A2 d14_3 ?_
  refine w_icmpne W0 (pc' := 34) d14_4 (by decide) (fun c4 => ?_) (fun c4 => ?_)
  · have hne : us ≠ ws := fun q => c4 (by rw [q])
    refine w_iconst W0 (z := (0 : Int32)) d14_34 (by rfl) ?_
    exact n_rN W0 rfl (by simp) (z' := (0 : Int32)) (by rfl) d14_35 (by decide) (by decide) ⟨by rw [if_neg hne], rfl⟩
  · have hl : us.length = ws.length := (own_eqI (by omega) (by omega)).mp c4
    have loop : ∀ (r i : Nat) (T : State) (locs : List Loc) (W : Wk p l e ({ frames := 0, cells := 0, slots := 0, locals := 0 } : Room) s s.vm m #[(.ref b1), (.ref b2)] below meth c Z "java/lang/StringLatin1" n0 jdk_43_method_13_code 3 (some .boolean) T h0 locs 0 0) (hi : i + r = us.length) (hp : us.take i = ws.take i), Wp p e below (PoN n0 s 0 0 (fun v h => v = some (.int (if us = ws then (1 : Int32) else 0)) ∧ h0 = h)) T (mkF m 9 #[.val (.ref b1), .val (.ref b2), .val (.int (Int32.ofNat i))] []) := by
      intro r
      induction r with
      | zero =>
        intro i T locs W hi hp
        have heq : us = ws := by rw [List.take_of_length_le (by omega), List.take_of_length_le (by omega)] at hp; exact hp
        refine w_iloadN W d14_9 rfl ?_
        refine w_aloadN W d14_10 rfl rfl ?_
        refine w_arrlen W A1 d14_11 ?_
        refine w_icmpge W (pc' := 32) d14_12 (by decide) (fun c12 => ?_) (fun c12 => ?_)
        · refine w_iconst W (z := (1 : Int32)) d14_32 (by rfl) ?_
          exact n_rN W rfl (by simp) (z' := (1 : Int32)) (by rfl) d14_33 (by decide) (by decide) ⟨by rw [if_pos heq], rfl⟩
        · exact absurd c12 (fun q => by rw [own_ltI (by omega) (by omega)] at q; omega)
      | succ r ih =>
        intro i T locs W hi hp
        have hil : i < us.length := by omega
        have hil2 : i < ws.length := by omega
        have hj : ¬ Int32.ofNat i < 0 ∧ Int32.ofNat i < (Int32.ofNat us.length) := ⟨own_nn0 (by omega), (own_ltI (by omega) (by omega)).mpr hil⟩
        have hj2 : ¬ Int32.ofNat i < 0 ∧ Int32.ofNat i < (Int32.ofNat ws.length) := ⟨own_nn0 (by omega), (own_ltI (by omega) (by omega)).mpr hil2⟩
        refine w_iloadN W d14_9 rfl ?_
        refine w_aloadN W d14_10 rfl rfl ?_
        refine w_arrlen W A1 d14_11 ?_
        refine w_icmpge W (pc' := 32) d14_12 (by decide) (fun c12 => ?_) (fun c12 => ?_)
        · exact absurd hj.2 c12
        · refine w_aloadN W d14_15 rfl rfl ?_
          refine w_iloadN W d14_16 rfl ?_
          refine w_baload W A1 hj (v := (.int (us.getD i 0))) (by rw [own_clamp (by omega)]; exact own_getMap us hil _) d14_17 ?_
          refine w_aloadN W d14_18 rfl rfl ?_
          refine w_iloadN W d14_19 rfl ?_
          refine w_baload W A2 hj2 (v := (.int (ws.getD i 0))) (by rw [own_clamp (by omega)]; exact own_getMap ws hil2 _) d14_20 ?_
          refine w_icmpeq W (pc' := 26) d14_21 (by decide) (fun c21 => ?_) (fun c21 => ?_)
          · refine w_iinc W (L' := #[.val (.ref b1), .val (.ref b2), .val (.int ((Int32.ofNat i) + (1 : Int32)))]) d14_26 rfl (z := ((Int32.ofNat i) + (1 : Int32))) (by rfl) rfl ?_
            refine w_goto W (pc' := 9) d14_29 (by decide) ?_
            simp only [own_one]
            exact ih (i + 1) _ _ W (by omega) (own_takeS hil hil2 hp c21)
          · have hne : us ≠ ws := fun q => c21 (by rw [q])
            refine w_iconst W (z := (0 : Int32)) d14_24 (by rfl) ?_
            exact n_rN W rfl (by simp) (z' := (0 : Int32)) (by rfl) d14_25 (by decide) (by decide) ⟨by rw [if_neg hne], rfl⟩
    refine w_iconst W0 (z := (0 : Int32)) d14_7 (by rfl) ?_
    refine w_istoreN W0 (L' := #[.val (.ref b1), .val (.ref b2), .val (.int (0 : Int32))]) d14_8 rfl ?_
    exact loop us.length 0 _ _ W0 (by omega) rfl
theorem ef_13_RR (m : MethodId) (x0 : Addr) (x1 : Addr) : entryFrame m #[(.ref x0), (.ref x1)] 3 = mkF m 0 #[.val (.ref x0), .val (.ref x1), .unset] [] := by first | (simp [entryFrame, mkF, argsToLocals, Value.category]; done) | rfl
theorem d13_0 : decode jdk_42_method_66_code 0 = .ok (.aload_n 0, 1) := by decide +kernel
theorem d13_1 : decode jdk_42_method_66_code 1 = .ok (.aload_n 1, 1) := by decide +kernel
theorem d13_2 : decode jdk_42_method_66_code 2 = .ok (.if_acmp .ne 5, 3) := by decide +kernel
theorem d13_5 : decode jdk_42_method_66_code 5 = .ok (.iconst 1, 1) := by decide +kernel
theorem d13_6 : decode jdk_42_method_66_code 6 = .ok (.ireturn, 1) := by decide +kernel
theorem d13_7 : decode jdk_42_method_66_code 7 = .ok (.aload_n 1, 1) := by decide +kernel
theorem d13_8 : decode jdk_42_method_66_code 8 = .ok (.instanceof 10, 3) := by decide +kernel
theorem d13_11 : decode jdk_42_method_66_code 11 = .ok (.ifCond .eq 43, 3) := by decide +kernel
theorem d13_14 : decode jdk_42_method_66_code 14 = .ok (.aload_n 1, 1) := by decide +kernel
theorem d13_15 : decode jdk_42_method_66_code 15 = .ok (.checkcast 10, 3) := by decide +kernel
theorem d13_18 : decode jdk_42_method_66_code 18 = .ok (.astore_n 2, 1) := by decide +kernel
theorem d13_19 : decode jdk_42_method_66_code 19 = .ok (.getstatic 38, 3) := by decide +kernel
theorem d13_22 : decode jdk_42_method_66_code 22 = .ok (.ifCond .eq 14, 3) := by decide +kernel
theorem d13_25 : decode jdk_42_method_66_code 25 = .ok (.aload_n 0, 1) := by decide +kernel
theorem d13_26 : decode jdk_42_method_66_code 26 = .ok (.getfield 15, 3) := by decide +kernel
theorem d13_29 : decode jdk_42_method_66_code 29 = .ok (.aload_n 2, 1) := by decide +kernel
theorem d13_30 : decode jdk_42_method_66_code 30 = .ok (.getfield 15, 3) := by decide +kernel
theorem d13_33 : decode jdk_42_method_66_code 33 = .ok (.if_icmp .ne 21, 3) := by decide +kernel
theorem d13_36 : decode jdk_42_method_66_code 36 = .ok (.aload_n 0, 1) := by decide +kernel
theorem d13_37 : decode jdk_42_method_66_code 37 = .ok (.getfield 9, 3) := by decide +kernel
theorem d13_40 : decode jdk_42_method_66_code 40 = .ok (.aload_n 2, 1) := by decide +kernel
theorem d13_41 : decode jdk_42_method_66_code 41 = .ok (.getfield 9, 3) := by decide +kernel
theorem d13_44 : decode jdk_42_method_66_code 44 = .ok (.invokestatic 541, 3) := by decide +kernel
theorem pd_4 : parseMethodDescriptor "([B[B)Z" = some ⟨[(.array .byte), (.array .byte)], some .boolean⟩ := by decide +kernel
theorem d13_47 : decode jdk_42_method_66_code 47 = .ok (.ifCond .eq 7, 3) := by decide +kernel
theorem d13_54 : decode jdk_42_method_66_code 54 = .ok (.iconst 0, 1) := by decide +kernel
theorem d13_55 : decode jdk_42_method_66_code 55 = .ok (.ireturn, 1) := by decide +kernel
theorem d13_50 : decode jdk_42_method_66_code 50 = .ok (.iconst 1, 1) := by decide +kernel
theorem d13_51 : decode jdk_42_method_66_code 51 = .ok (.goto 4, 3) := by decide +kernel
set_option maxRecDepth 65536 in
set_option maxHeartbeats 40000000 in
theorem ctSe (l : Launch) (Z : State) (a0 : Array Value) (hw : ∀ d ∈ tables_1, d.before a0 Z = true) (cz : Int32) (x y : Addr) (us ws : List Int32) (h0 : Heap) (n0 : Nat) (hu : us.length ≤ 4000) (hw2 : ws.length ≤ 4000) (O : Old Z n0 h0) (G : Sta Z Z.heap "java/lang/String" "COMPACT_STRINGS" "Z" (.int cz)) (hcz : cz ≠ 0) (S1 : Str Z h0 x 0 us) (S2 : Str Z h0 y 0 ws) :
    CtN l Z (⟨"java/lang/String", "equals", "(Ljava/lang/Object;)Z"⟩ : MethodName) jdk_42_method_66_code 3 (some .boolean) ({ frames := 1, cells := 0, slots := 0, locals := 14 } : Room) n0 #[(.ref x), (.ref y)] h0 (fun v h => v = some (.int (if us = ws then (1 : Int32) else 0)) ∧ h0 = h) := by
  refine CtN.of (plainFor_of_name pn_java_lang_String) ?_
  intro p e s m below meth c T0 W0 hnm
  refine Wp.cast (ef_13_RR m x y) ?_
  obtain ⟨b1, k1, E1, C1, V1, A1⟩ := id S1
  obtain ⟨b2, k2, E2, C2, V2, A2⟩ := id S2
  refine w_aloadN W0 d13_0 rfl rfl ?_
  refine w_aloadN W0 d13_1 rfl rfl ?_
  by_cases hxy : x = y
  · have heq : us = ws := by subst hxy; exact Str.uniq (by omega) (by omega) S1 S2
    refine w_acmp W0 (pc' := 5) true rfl rfl d13_2 (decide_eq_true (congrArg Value.ref hxy)) (by decide) (by rfl) ?_
    refine w_iconst W0 (z := (1 : Int32)) d13_5 (by rfl) ?_
    exact n_rN W0 rfl (by simp) (z' := (1 : Int32)) (by rfl) d13_6 (by decide) (by decide) ⟨by rw [if_pos heq], rfl⟩
  · refine w_acmp W0 (pc' := 7) false rfl rfl d13_2 (decide_eq_false fun q => hxy (Value.ref.inj q)) (by decide) (by rfl) ?_
    refine w_aloadN W0 d13_7 rfl rfl ?_
    refine w_instY W0 (hw _ (List.mem_of_getElem? (i := 74) rfl)) (Ins.self E2) d13_8 ?_
    intro T1 W1
    refine w_ifeq W1 (pc' := 54) d13_11 (by decide) (fun c11 => absurd c11 (by decide)) (fun c11 => ?_)
    refine w_aloadN W1 d13_14 rfl rfl ?_
    refine w_cast W1 (hw _ (List.mem_of_getElem? (i := 74) rfl)) (Ins.self E2) d13_15 ?_
    intro T2 W2
    refine w_astoreN W2 (L' := #[.val (.ref x), .val (.ref y), .val (.ref y)]) d13_18 rfl rfl ?_
    refine w_gets W2 (host := "") (Or.inl (hw _ (List.mem_of_getElem? (i := 26) rfl))) Via.refl (own_staOld O G) d13_19 ?_
    intro T3 W3
    refine w_ifeq W3 (pc' := 36) d13_22 (by decide) (fun c22 => ?_) (fun c22 => ?_)
    · exact absurd c22 hcz
    · refine w_aloadN W3 d13_25 rfl rfl ?_
      refine w_getf W3 (host := "") (Or.inl (hw _ (List.mem_of_getElem? (i := 25) rfl))) Via.refl C1 d13_26 ?_
      intro T4 W4
      refine w_aloadN W4 d13_29 rfl rfl ?_
      refine w_getf W4 (host := "") (Or.inl (hw _ (List.mem_of_getElem? (i := 25) rfl))) Via.refl C2 d13_30 ?_
      intro T5 W5
      refine w_icmpne W5 (pc' := 54) d13_33 (by decide) (fun c33 => absurd c33 (by decide)) (fun c33 => ?_)
      refine w_aloadN W5 d13_36 rfl rfl ?_
      refine w_getf W5 (host := "") (Or.inl (hw _ (List.mem_of_getElem? (i := 24) rfl))) Via.refl V1 d13_37 ?_
      intro T6 W6
      refine w_aloadN W6 d13_40 rfl rfl ?_
      refine w_getf W6 (host := "") (Or.inl (hw _ (List.mem_of_getElem? (i := 24) rfl))) Via.refl V2 d13_41 ?_
      intro T7 W7
      refine w_callS W7 (ctLe l Z a0 hw b1 b2 _ _ us ws _ n0 hu hw2 A1 A2) (hw _ (List.mem_of_getElem? (i := 75) rfl)) (hw _ (List.mem_of_getElem? (i := 76) rfl)) (hw _ (List.mem_of_getElem? (i := 77) rfl)) (hw _ (List.mem_of_getElem? (i := 78) rfl)) (by decide) 0 (by decide) (by decide) (by decide) (by decide) (argsL := [(.ref b1), (.ref b2)]) (rest := []) pd_4 rfl rfl rfl rfl rfl d13_44 ?_
      rintro T8 h8 l8 _ W8 ⟨rfl, rfl⟩
      refine w_ifeq W8 (pc' := 54) d13_47 (by decide) (fun c47 => ?_) (fun c47 => ?_)
      · refine w_iconst W8 (z := (0 : Int32)) d13_54 (by rfl) ?_
        exact n_rN W8 rfl (by simp) (z' := (0 : Int32)) (by rfl) d13_55 (by decide) (by decide) ⟨own_ite0 c47, rfl⟩
      · refine w_iconst W8 (z := (1 : Int32)) d13_50 (by rfl) ?_
        refine w_goto W8 (pc' := 55) d13_51 (by decide) ?_
        exact n_rN W8 rfl (by simp) (z' := (1 : Int32)) (by rfl) d13_55 (by decide) (by decide) ⟨own_ite1 c47, rfl⟩
theorem ef_1_I (m : MethodId) (x0 : Int32) : entryFrame m #[(.int x0)] 3 = mkF m 0 #[.val (.int x0), .unset, .unset] [] := by first | (simp [entryFrame, mkF, argsToLocals, Value.category]; done) | rfl
theorem d1_0 : decode method_2_code 0 = .ok (.iload_n 0, 1) := by decide +kernel
theorem d1_1 : decode method_2_code 1 = .ok (.iconst 3, 1) := by decide +kernel
theorem d1_2 : decode method_2_code 2 = .ok (.iand, 1) := by decide +kernel
theorem d1_3 : decode method_2_code 3 = .ok (.iconst 3, 1) := by decide +kernel
theorem d1_4 : decode method_2_code 4 = .ok (.irem, 1) := by decide +kernel
theorem d1_5 : decode method_2_code 5 = .ok (.istore_n 1, 1) := by decide +kernel
theorem d1_6 : decode method_2_code 6 = .ok (.iload_n 1, 1) := by decide +kernel
theorem d1_7 : decode method_2_code 7 = .ok (.newarray .char, 2) := by decide +kernel
theorem d1_9 : decode method_2_code 9 = .ok (.astore_n 2, 1) := by decide +kernel
theorem d1_10 : decode method_2_code 10 = .ok (.iload_n 1, 1) := by decide +kernel
theorem d1_11 : decode method_2_code 11 = .ok (.ifCond .le 14, 3) := by decide +kernel
theorem d1_25 : decode method_2_code 25 = .ok (.iload_n 1, 1) := by decide +kernel
theorem d1_26 : decode method_2_code 26 = .ok (.iconst 1, 1) := by decide +kernel
theorem d1_27 : decode method_2_code 27 = .ok (.if_icmp .le 15, 3) := by decide +kernel
theorem d1_42 : decode method_2_code 42 = .ok (.new 7, 3) := by decide +kernel
theorem d1_45 : decode method_2_code 45 = .ok (.dup, 1) := by decide +kernel
theorem d1_46 : decode method_2_code 46 = .ok (.aload_n 2, 1) := by decide +kernel
theorem d1_47 : decode method_2_code 47 = .ok (.invokespecial 9, 3) := by decide +kernel
theorem pd_5 : parseMethodDescriptor "([C)V" = some ⟨[(.array .char)], none⟩ := by decide +kernel
theorem d1_50 : decode method_2_code 50 = .ok (.areturn, 1) := by decide +kernel
theorem d1_14 : decode method_2_code 14 = .ok (.aload_n 2, 1) := by decide +kernel
theorem d1_15 : decode method_2_code 15 = .ok (.iconst 0, 1) := by decide +kernel
theorem d1_16 : decode method_2_code 16 = .ok (.iload_n 0, 1) := by decide +kernel
theorem d1_17 : decode method_2_code 17 = .ok (.iconst 2, 1) := by decide +kernel
theorem d1_18 : decode method_2_code 18 = .ok (.iushr, 1) := by decide +kernel
theorem d1_19 : decode method_2_code 19 = .ok (.sipush 255, 3) := by decide +kernel
theorem d1_22 : decode method_2_code 22 = .ok (.iand, 1) := by decide +kernel
theorem d1_23 : decode method_2_code 23 = .ok (.i2c, 1) := by decide +kernel
theorem d1_24 : decode method_2_code 24 = .ok (.castore, 1) := by decide +kernel
theorem d1_30 : decode method_2_code 30 = .ok (.aload_n 2, 1) := by decide +kernel
theorem d1_31 : decode method_2_code 31 = .ok (.iconst 1, 1) := by decide +kernel
theorem d1_32 : decode method_2_code 32 = .ok (.iload_n 0, 1) := by decide +kernel
theorem d1_33 : decode method_2_code 33 = .ok (.bipush 10, 2) := by decide +kernel
theorem d1_35 : decode method_2_code 35 = .ok (.iushr, 1) := by decide +kernel
theorem d1_36 : decode method_2_code 36 = .ok (.sipush 255, 3) := by decide +kernel
theorem d1_39 : decode method_2_code 39 = .ok (.iand, 1) := by decide +kernel
theorem d1_40 : decode method_2_code 40 = .ok (.i2c, 1) := by decide +kernel
theorem d1_41 : decode method_2_code 41 = .ok (.castore, 1) := by decide +kernel
theorem pn_com_example_binward_binward_engine_BinItemEqualsPinLaw : plainName "com/example/binward/binward/engine/BinItemEqualsPinLaw" = true := by first | (simp [plainName, overriddenIn]; done) | decide +kernel
set_option maxRecDepth 65536 in
set_option maxHeartbeats 40000000 in
theorem ctStr (l : Launch) (Z : State) (a0 : Array Value) (hw : ∀ d ∈ tables_1, d.before a0 Z = true) (cz : Int32) (x : Int32) (h0 : Heap) (n0 : Nat) (hCH : Jvm.Lit.constHeld Z "java/lang/String" 7) (O : Old Z n0 h0) (G : Sta Z Z.heap "java/lang/String" "COMPACT_STRINGS" "Z" (.int cz)) (hcz : cz ≠ 0) :
    CtW l Z (⟨"com/example/binward/binward/engine/BinItemEqualsPinLaw", "str", "(I)Ljava/lang/String;"⟩ : MethodName) method_2_code 3 (some (.object "java/lang/String")) ({ frames := 4, cells := 4, slots := 10, locals := 66 } : Room) n0 #[(.int x)] h0 (fun vm => St Z vm h0) (fun v h vm => ∃ a, v = some (.ref a) ∧ Ext h0 h ∧ h0.size ≤ a ∧ Str Z h a 0 ((own_cs x).map (nar .byte)) ∧ St Z vm h) := by
  refine CtW.of (plainFor_of_name pn_com_example_binward_binward_engine_BinItemEqualsPinLaw) ?_
  intro p e s m below meth c T0 W0 hnm hs0 hV
  refine Wp.cast (ef_1_I m x) ?_
  refine w_iloadN W0 d1_0 rfl ?_
  refine w_iconst W0 (z := (3 : Int32)) d1_1 (by rfl) ?_
  refine w_iand W0 d1_2 rfl ?_
  refine w_iconst W0 (z := (3 : Int32)) d1_3 (by rfl) ?_
  obtain ⟨ln, hln⟩ : ∃ z : Int32, ((x &&& (3 : Int32)) % (3 : Int32)) = z := ⟨_, rfl⟩
  refine w_irem W0 d1_4 (by decide) hln ?_
  rcases own_len3 hln with rfl | rfl | rfl
  · refine w_istoreN W0 (L' := #[.val (.int x), .val (.int (0 : Int32)), .unset]) d1_5 rfl ?_
    refine w_iloadN W0 d1_6 rfl ?_
    refine w_newarr W0 (ty := .char) (dv := (.int 0)) (hw _ (List.mem_of_getElem? (i := 4) rfl)) rfl rfl d1_7 (by decide) 2 (by decide) (by decide) (by decide) (by decide) ?_
    intro T1 h1 ca k1 W1 E1 g1 V1
    have g0 : n0 ≤ ca := by rw [g1]; exact own_oldle O
    have V0 := V1.pad (pad_rep [] (.int 0) 0)
    refine w_astoreN W1 (L' := #[.val (.int x), .val (.int (0 : Int32)), .val (.ref ca)]) d1_9 rfl rfl ?_
    refine w_iloadN W1 d1_10 rfl ?_
    refine w_ifle W1 (pc' := 25) d1_11 (by decide) (fun c11 => ?_) (fun c11 => absurd c11 (by decide))
    refine w_iloadN W1 d1_25 rfl ?_
    refine w_iconst W1 (z := (1 : Int32)) d1_26 (by rfl) ?_
    refine w_icmple W1 (pc' := 42) d1_27 (by decide) (fun c27 => ?_) (fun c27 => absurd c27 (by decide))
    have Ca : Arv Z h1 ca _ .char (Int32.ofNat ([] : List Int32).length) (([] : List Int32).map Value.int) (.int 0) := V0
    have hcs : own_cs x = [] := own_cs0 hln
    refine w_new W1 (hw _ (List.mem_of_getElem? (i := 5) rfl)) (hw _ (List.mem_of_getElem? (i := 6) rfl)) (hw _ (List.mem_of_getElem? (i := 7) rfl)) d1_42 (by decide) (by decide) ?_
    intro T2 h2 sa W2 E2 g2 A2 D2
    have X2 := own_extTrans E1 E2
    have hsa : h0.size ≤ sa := by rw [g2]; exact (E1).1
    have Fv := (D2 (Or.inr (hw _ (List.mem_of_getElem? (i := 20) rfl))) (ty := (.array .byte)) (by decide) : Fld Z h2 _ "java/lang/String" "value" "[B" .null)
    have Fc := (D2 (Or.inr (hw _ (List.mem_of_getElem? (i := 21) rfl))) (ty := .byte) (by decide) : Fld Z h2 _ "java/lang/String" "coder" "B" (.int 0))
    refine w_dup W2 d1_45 rfl ?_
    refine w_aloadN W2 d1_46 rfl rfl ?_
    refine w_specialW W2 (ctS1 l Z a0 hw cz sa ca _ [] _ n0 hCH (Nat.le_of_ble_eq_true rfl) (own_lat0 x) (O.ext X2) G hcz A2 Fv Fc (Nat.le_trans (own_oldle O) hsa) (Ca.ext E2)) (fun vm' q => St.warm (hV.ext X2) q) rfl (hw _ (List.mem_of_getElem? (i := 8) rfl)) (hw _ (List.mem_of_getElem? (i := 9) rfl)) (hw _ (List.mem_of_getElem? (i := 7) rfl)) (hw _ (List.mem_of_getElem? (i := 10) rfl)) (by decide) 1 (by decide) (by decide) (by decide) (by decide) (a := sa) (argsL := [(.ref ca)]) (rest := [(.ref sa)]) pd_5 rfl rfl rfl rfl rfl d1_47 ?_
    rintro T3 h3 l3 vm3 _ W3 hw3 ⟨rfl, Kx, Sx, St1⟩
    exact x_rA W3 rfl rfl rfl d1_50 (by decide) (by decide) (fun vm' hvm' => ⟨sa, rfl, own_extKeep X2 Kx (allS hsa all0), hsa, by rw [hcs]; exact Sx, St.warm St1 hvm'⟩)
  · refine w_istoreN W0 (L' := #[.val (.int x), .val (.int (1 : Int32)), .unset]) d1_5 rfl ?_
    refine w_iloadN W0 d1_6 rfl ?_
    refine w_newarr W0 (ty := .char) (dv := (.int 0)) (hw _ (List.mem_of_getElem? (i := 4) rfl)) rfl rfl d1_7 (by decide) 2 (by decide) (by decide) (by decide) (by decide) ?_
    intro T4 h4 ca k4 W4 E4 g4 V4
    have g0 : n0 ≤ ca := by rw [g4]; exact own_oldle O
    have V0 := V4.pad (pad_rep [] (.int 0) 1)
    refine w_astoreN W4 (L' := #[.val (.int x), .val (.int (1 : Int32)), .val (.ref ca)]) d1_9 rfl rfl ?_
    refine w_iloadN W4 d1_10 rfl ?_
    refine w_ifle W4 (pc' := 25) d1_11 (by decide) (fun c11 => absurd c11 (by decide)) (fun c11 => ?_)
    refine w_aloadN W4 d1_14 rfl rfl ?_
    refine w_iconst W4 (z := (0 : Int32)) d1_15 (by rfl) ?_
    refine w_iloadN W4 d1_16 rfl ?_
    refine w_iconst W4 (z := (2 : Int32)) d1_17 (by rfl) ?_
    refine w_iushr W4 d1_18 rfl ?_
    refine w_sipush W4 (z := (255 : Int32)) d1_19 (by rfl) ?_
    refine w_iand W4 d1_22 rfl ?_
    refine w_i2c W4 d1_23 rfl ?_
    refine w_castore W4 V0 ⟨by decide, by decide⟩ 0 (by decide) (Nat.le_of_ble_eq_true rfl) (x' := (own_c0 x)) (own_narc _) g0 d1_24 ?_
    intro T5 h5 l5 W5 Wr5 V5
    have X5 := own_extWr E4 Wr5 (Nat.le_of_eq g4.symm)
    refine w_iloadN W5 d1_25 rfl ?_
    refine w_iconst W5 (z := (1 : Int32)) d1_26 (by rfl) ?_
    refine w_icmple W5 (pc' := 42) d1_27 (by decide) (fun c27 => ?_) (fun c27 => absurd c27 (by decide))
    have Ca : Arv Z h5 ca _ .char (Int32.ofNat ([own_c0 x] : List Int32).length) (([own_c0 x] : List Int32).map Value.int) (.int 0) := V5
    have hcs : own_cs x = [own_c0 x] := own_cs1 hln
    refine w_new W5 (hw _ (List.mem_of_getElem? (i := 5) rfl)) (hw _ (List.mem_of_getElem? (i := 6) rfl)) (hw _ (List.mem_of_getElem? (i := 7) rfl)) d1_42 (by decide) (by decide) ?_
    intro T6 h6 sa W6 E6 g6 A6 D6
    have X6 := own_extTrans X5 E6
    have hsa : h0.size ≤ sa := by rw [g6]; exact (X5).1
    have Fv := (D6 (Or.inr (hw _ (List.mem_of_getElem? (i := 20) rfl))) (ty := (.array .byte)) (by decide) : Fld Z h6 _ "java/lang/String" "value" "[B" .null)
    have Fc := (D6 (Or.inr (hw _ (List.mem_of_getElem? (i := 21) rfl))) (ty := .byte) (by decide) : Fld Z h6 _ "java/lang/String" "coder" "B" (.int 0))
    refine w_dup W6 d1_45 rfl ?_
    refine w_aloadN W6 d1_46 rfl rfl ?_
    refine w_specialW W6 (ctS1 l Z a0 hw cz sa ca _ [own_c0 x] _ n0 hCH (Nat.le_of_ble_eq_true rfl) (own_lat1 x) (O.ext X6) G hcz A6 Fv Fc (Nat.le_trans (own_oldle O) hsa) (Ca.ext E6)) (fun vm' q => St.warm (hV.ext X6) q) rfl (hw _ (List.mem_of_getElem? (i := 8) rfl)) (hw _ (List.mem_of_getElem? (i := 9) rfl)) (hw _ (List.mem_of_getElem? (i := 7) rfl)) (hw _ (List.mem_of_getElem? (i := 10) rfl)) (by decide) 1 (by decide) (by decide) (by decide) (by decide) (a := sa) (argsL := [(.ref ca)]) (rest := [(.ref sa)]) pd_5 rfl rfl rfl rfl rfl d1_47 ?_
    rintro T7 h7 l7 vm7 _ W7 hw7 ⟨rfl, Kx, Sx, St1⟩
    exact x_rA W7 rfl rfl rfl d1_50 (by decide) (by decide) (fun vm' hvm' => ⟨sa, rfl, own_extKeep X6 Kx (allS hsa all0), hsa, by rw [hcs]; exact Sx, St.warm St1 hvm'⟩)
  · refine w_istoreN W0 (L' := #[.val (.int x), .val (.int (2 : Int32)), .unset]) d1_5 rfl ?_
    refine w_iloadN W0 d1_6 rfl ?_
    refine w_newarr W0 (ty := .char) (dv := (.int 0)) (hw _ (List.mem_of_getElem? (i := 4) rfl)) rfl rfl d1_7 (by decide) 2 (by decide) (by decide) (by decide) (by decide) ?_
    intro T8 h8 ca k8 W8 E8 g8 V8
    have g0 : n0 ≤ ca := by rw [g8]; exact own_oldle O
    have V0 := V8.pad (pad_rep [] (.int 0) 2)
    refine w_astoreN W8 (L' := #[.val (.int x), .val (.int (2 : Int32)), .val (.ref ca)]) d1_9 rfl rfl ?_
    refine w_iloadN W8 d1_10 rfl ?_
    refine w_ifle W8 (pc' := 25) d1_11 (by decide) (fun c11 => absurd c11 (by decide)) (fun c11 => ?_)
    refine w_aloadN W8 d1_14 rfl rfl ?_
    refine w_iconst W8 (z := (0 : Int32)) d1_15 (by rfl) ?_
    refine w_iloadN W8 d1_16 rfl ?_
    refine w_iconst W8 (z := (2 : Int32)) d1_17 (by rfl) ?_
    refine w_iushr W8 d1_18 rfl ?_
    refine w_sipush W8 (z := (255 : Int32)) d1_19 (by rfl) ?_
    refine w_iand W8 d1_22 rfl ?_
    refine w_i2c W8 d1_23 rfl ?_
    refine w_castore W8 V0 ⟨by decide, by decide⟩ 0 (by decide) (Nat.le_of_ble_eq_true rfl) (x' := (own_c0 x)) (own_narc _) g0 d1_24 ?_
    intro T9 h9 l9 W9 Wr9 V9
    have X9 := own_extWr E8 Wr9 (Nat.le_of_eq g8.symm)
    refine w_iloadN W9 d1_25 rfl ?_
    refine w_iconst W9 (z := (1 : Int32)) d1_26 (by rfl) ?_
    refine w_icmple W9 (pc' := 42) d1_27 (by decide) (fun c27 => absurd c27 (by decide)) (fun c27 => ?_)
    refine w_aloadN W9 d1_30 rfl rfl ?_
    refine w_iconst W9 (z := (1 : Int32)) d1_31 (by rfl) ?_
    refine w_iloadN W9 d1_32 rfl ?_
    refine w_bipush W9 (z := (10 : Int32)) d1_33 (by rfl) ?_
    refine w_iushr W9 d1_35 rfl ?_
    refine w_sipush W9 (z := (255 : Int32)) d1_36 (by rfl) ?_
    refine w_iand W9 d1_39 rfl ?_
    refine w_i2c W9 d1_40 rfl ?_
    refine w_castore W9 V9 ⟨by decide, by decide⟩ 1 (by decide) (Nat.le_of_ble_eq_true rfl) (x' := (own_c1 x)) (own_narc _) g0 d1_41 ?_
    intro T10 h10 l10 W10 Wr10 V10
    have X10 := own_extWr X9 Wr10 (Nat.le_of_eq g8.symm)
    have Ca : Arv Z h10 ca _ .char (Int32.ofNat ([own_c0 x, own_c1 x] : List Int32).length) (([own_c0 x, own_c1 x] : List Int32).map Value.int) (.int 0) := V10
    have hcs : own_cs x = [own_c0 x, own_c1 x] := own_cs2 hln
    refine w_new W10 (hw _ (List.mem_of_getElem? (i := 5) rfl)) (hw _ (List.mem_of_getElem? (i := 6) rfl)) (hw _ (List.mem_of_getElem? (i := 7) rfl)) d1_42 (by decide) (by decide) ?_
    intro T11 h11 sa W11 E11 g11 A11 D11
    have X11 := own_extTrans X10 E11
    have hsa : h0.size ≤ sa := by rw [g11]; exact (X10).1
    have Fv := (D11 (Or.inr (hw _ (List.mem_of_getElem? (i := 20) rfl))) (ty := (.array .byte)) (by decide) : Fld Z h11 _ "java/lang/String" "value" "[B" .null)
    have Fc := (D11 (Or.inr (hw _ (List.mem_of_getElem? (i := 21) rfl))) (ty := .byte) (by decide) : Fld Z h11 _ "java/lang/String" "coder" "B" (.int 0))
    refine w_dup W11 d1_45 rfl ?_
    refine w_aloadN W11 d1_46 rfl rfl ?_
    refine w_specialW W11 (ctS1 l Z a0 hw cz sa ca _ [own_c0 x, own_c1 x] _ n0 hCH (Nat.le_of_ble_eq_true rfl) (own_lat2 x) (O.ext X11) G hcz A11 Fv Fc (Nat.le_trans (own_oldle O) hsa) (Ca.ext E11)) (fun vm' q => St.warm (hV.ext X11) q) rfl (hw _ (List.mem_of_getElem? (i := 8) rfl)) (hw _ (List.mem_of_getElem? (i := 9) rfl)) (hw _ (List.mem_of_getElem? (i := 7) rfl)) (hw _ (List.mem_of_getElem? (i := 10) rfl)) (by decide) 1 (by decide) (by decide) (by decide) (by decide) (a := sa) (argsL := [(.ref ca)]) (rest := [(.ref sa)]) pd_5 rfl rfl rfl rfl rfl d1_47 ?_
    rintro T12 h12 l12 vm12 _ W12 hw12 ⟨rfl, Kx, Sx, St1⟩
    exact x_rA W12 rfl rfl rfl d1_50 (by decide) (by decide) (fun vm' hvm' => ⟨sa, rfl, own_extKeep X11 Kx (allS hsa all0), hsa, by rw [hcs]; exact Sx, St.warm St1 hvm'⟩)
theorem ef_11_II (m : MethodId) (x0 : Int32) (x1 : Int32) : entryFrame m #[(.int x0), (.int x1)] 4 = mkF m 0 #[.val (.int x0), .val (.int x1), .unset, .unset] [] := by first | (simp [entryFrame, mkF, argsToLocals, Value.category]; done) | rfl
theorem d11_0 : decode method_3_code 0 = .ok (.iload_n 0, 1) := by decide +kernel
theorem d11_1 : decode method_3_code 1 = .ok (.iconst 3, 1) := by decide +kernel
theorem d11_2 : decode method_3_code 2 = .ok (.iand, 1) := by decide +kernel
theorem d11_3 : decode method_3_code 3 = .ok (.iconst 3, 1) := by decide +kernel
theorem d11_4 : decode method_3_code 4 = .ok (.irem, 1) := by decide +kernel
theorem d11_5 : decode method_3_code 5 = .ok (.istore_n 2, 1) := by decide +kernel
theorem d11_6 : decode method_3_code 6 = .ok (.iload_n 1, 1) := by decide +kernel
theorem d11_7 : decode method_3_code 7 = .ok (.iconst 3, 1) := by decide +kernel
theorem d11_8 : decode method_3_code 8 = .ok (.iand, 1) := by decide +kernel
theorem d11_9 : decode method_3_code 9 = .ok (.iconst 3, 1) := by decide +kernel
theorem d11_10 : decode method_3_code 10 = .ok (.irem, 1) := by decide +kernel
theorem d11_11 : decode method_3_code 11 = .ok (.istore_n 3, 1) := by decide +kernel
theorem d11_12 : decode method_3_code 12 = .ok (.iload_n 2, 1) := by decide +kernel
theorem d11_13 : decode method_3_code 13 = .ok (.iload_n 3, 1) := by decide +kernel
theorem d11_14 : decode method_3_code 14 = .ok (.if_icmp .eq 5, 3) := by decide +kernel
theorem d11_19 : decode method_3_code 19 = .ok (.iload_n 2, 1) := by decide +kernel
theorem d11_20 : decode method_3_code 20 = .ok (.ifCond .le 22, 3) := by decide +kernel
theorem d11_42 : decode method_3_code 42 = .ok (.iload_n 2, 1) := by decide +kernel
theorem d11_43 : decode method_3_code 43 = .ok (.iconst 1, 1) := by decide +kernel
theorem d11_44 : decode method_3_code 44 = .ok (.if_icmp .le 24, 3) := by decide +kernel
theorem d11_68 : decode method_3_code 68 = .ok (.iconst 1, 1) := by decide +kernel
theorem d11_69 : decode method_3_code 69 = .ok (.ireturn, 1) := by decide +kernel
theorem d11_47 : decode method_3_code 47 = .ok (.iload_n 0, 1) := by decide +kernel
theorem d11_48 : decode method_3_code 48 = .ok (.bipush 10, 2) := by decide +kernel
theorem d11_50 : decode method_3_code 50 = .ok (.iushr, 1) := by decide +kernel
theorem d11_51 : decode method_3_code 51 = .ok (.sipush 255, 3) := by decide +kernel
theorem d11_54 : decode method_3_code 54 = .ok (.iand, 1) := by decide +kernel
theorem d11_55 : decode method_3_code 55 = .ok (.iload_n 1, 1) := by decide +kernel
theorem d11_56 : decode method_3_code 56 = .ok (.bipush 10, 2) := by decide +kernel
theorem d11_58 : decode method_3_code 58 = .ok (.iushr, 1) := by decide +kernel
theorem d11_59 : decode method_3_code 59 = .ok (.sipush 255, 3) := by decide +kernel
theorem d11_62 : decode method_3_code 62 = .ok (.iand, 1) := by decide +kernel
theorem d11_63 : decode method_3_code 63 = .ok (.if_icmp .eq 5, 3) := by decide +kernel
theorem d11_66 : decode method_3_code 66 = .ok (.iconst 0, 1) := by decide +kernel
theorem d11_67 : decode method_3_code 67 = .ok (.ireturn, 1) := by decide +kernel
theorem d11_23 : decode method_3_code 23 = .ok (.iload_n 0, 1) := by decide +kernel
theorem d11_24 : decode method_3_code 24 = .ok (.iconst 2, 1) := by decide +kernel
theorem d11_25 : decode method_3_code 25 = .ok (.iushr, 1) := by decide +kernel
theorem d11_26 : decode method_3_code 26 = .ok (.sipush 255, 3) := by decide +kernel
theorem d11_29 : decode method_3_code 29 = .ok (.iand, 1) := by decide +kernel
theorem d11_30 : decode method_3_code 30 = .ok (.iload_n 1, 1) := by decide +kernel
theorem d11_31 : decode method_3_code 31 = .ok (.iconst 2, 1) := by decide +kernel
theorem d11_32 : decode method_3_code 32 = .ok (.iushr, 1) := by decide +kernel
theorem d11_33 : decode method_3_code 33 = .ok (.sipush 255, 3) := by decide +kernel
theorem d11_36 : decode method_3_code 36 = .ok (.iand, 1) := by decide +kernel
theorem d11_37 : decode method_3_code 37 = .ok (.if_icmp .eq 5, 3) := by decide +kernel
theorem d11_40 : decode method_3_code 40 = .ok (.iconst 0, 1) := by decide +kernel
theorem d11_41 : decode method_3_code 41 = .ok (.ireturn, 1) := by decide +kernel
theorem d11_17 : decode method_3_code 17 = .ok (.iconst 0, 1) := by decide +kernel
theorem d11_18 : decode method_3_code 18 = .ok (.ireturn, 1) := by decide +kernel
set_option maxRecDepth 65536 in
set_option maxHeartbeats 40000000 in
theorem ctSame (l : Launch) (Z : State) (a0 : Array Value) (hw : ∀ d ∈ tables_1, d.before a0 Z = true) (x y : Int32) (h0 : Heap) (n0 : Nat)  :
    CtN l Z (⟨"com/example/binward/binward/engine/BinItemEqualsPinLaw", "same", "(II)Z"⟩ : MethodName) method_3_code 4 (some .boolean) ({ frames := 0, cells := 0, slots := 0, locals := 0 } : Room) n0 #[(.int x), (.int y)] h0 (fun v h => v = some (.int (if own_cs x = own_cs y then (1 : Int32) else 0)) ∧ h0 = h) := by
  refine CtN.of (plainFor_of_name pn_com_example_binward_binward_engine_BinItemEqualsPinLaw) ?_
  intro p e s m below meth c T0 W0 hnm
  refine Wp.cast (ef_11_II m x y) ?_
  refine w_iloadN W0 d11_0 rfl ?_
  refine w_iconst W0 (z := (3 : Int32)) d11_1 (by rfl) ?_
  refine w_iand W0 d11_2 rfl ?_
  refine w_iconst W0 (z := (3 : Int32)) d11_3 (by rfl) ?_
  obtain ⟨lx, hlx⟩ : ∃ z : Int32, ((x &&& (3 : Int32)) % (3 : Int32)) = z := ⟨_, rfl⟩
  refine w_irem W0 d11_4 (by decide) hlx ?_
  refine w_istoreN W0 (L' := #[.val (.int x), .val (.int y), .val (.int lx), .unset]) d11_5 rfl ?_
  refine w_iloadN W0 d11_6 rfl ?_
  refine w_iconst W0 (z := (3 : Int32)) d11_7 (by rfl) ?_
  refine w_iand W0 d11_8 rfl ?_
  refine w_iconst W0 (z := (3 : Int32)) d11_9 (by rfl) ?_
  obtain ⟨ly, hly⟩ : ∃ z : Int32, ((y &&& (3 : Int32)) % (3 : Int32)) = z := ⟨_, rfl⟩
  refine w_irem W0 d11_10 (by decide) hly ?_
  refine w_istoreN W0 (L' := #[.val (.int x), .val (.int y), .val (.int lx), .val (.int ly)]) d11_11 rfl ?_
  refine w_iloadN W0 d11_12 rfl ?_
  refine w_iloadN W0 d11_13 rfl ?_
  refine w_icmpeq W0 (pc' := 19) d11_14 (by decide) (fun c14 => ?_) (fun c14 => ?_)
  · refine w_iloadN W0 d11_19 rfl ?_
    refine w_ifle W0 (pc' := 42) d11_20 (by decide) (fun c20 => ?_) (fun c20 => ?_)
    · refine w_iloadN W0 d11_42 rfl ?_
      refine w_iconst W0 (z := (1 : Int32)) d11_43 (by rfl) ?_
      refine w_icmple W0 (pc' := 68) d11_44 (by decide) (fun c44 => ?_) (fun c44 => ?_)
      · have q1 : 0 < lx → own_c0 x = own_c0 y := fun q => absurd q c20
        have q2 : 1 < lx → own_c1 x = own_c1 y := fun q => absurd q c44
        refine w_iconst W0 (z := (1 : Int32)) d11_68 (by rfl) ?_
        exact n_rN W0 rfl (by simp) (z' := (1 : Int32)) (by rfl) d11_69 (by decide) (by decide) ⟨own_sm3 hlx hly c14 q1 q2, rfl⟩
      · refine w_iloadN W0 d11_47 rfl ?_
        refine w_bipush W0 (z := (10 : Int32)) d11_48 (by rfl) ?_
        refine w_iushr W0 d11_50 rfl ?_
        refine w_sipush W0 (z := (255 : Int32)) d11_51 (by rfl) ?_
        refine w_iand W0 d11_54 rfl ?_
        refine w_iloadN W0 d11_55 rfl ?_
        refine w_bipush W0 (z := (10 : Int32)) d11_56 (by rfl) ?_
        refine w_iushr W0 d11_58 rfl ?_
        refine w_sipush W0 (z := (255 : Int32)) d11_59 (by rfl) ?_
        refine w_iand W0 d11_62 rfl ?_
        refine w_icmpeq W0 (pc' := 68) d11_63 (by decide) (fun c63 => ?_) (fun c63 => ?_)
        · have q1 : 0 < lx → own_c0 x = own_c0 y := fun q => absurd q c20
          have q2 : 1 < lx → own_c1 x = own_c1 y := fun _ => c63
          refine w_iconst W0 (z := (1 : Int32)) d11_68 (by rfl) ?_
          exact n_rN W0 rfl (by simp) (z' := (1 : Int32)) (by rfl) d11_69 (by decide) (by decide) ⟨own_sm3 hlx hly c14 q1 q2, rfl⟩
        · refine w_iconst W0 (z := (0 : Int32)) d11_66 (by rfl) ?_
          exact n_rN W0 rfl (by simp) (z' := (0 : Int32)) (by rfl) d11_67 (by decide) (by decide) ⟨own_sm2 hlx hly c14 c44 c63, rfl⟩
    · refine w_iloadN W0 d11_23 rfl ?_
      refine w_iconst W0 (z := (2 : Int32)) d11_24 (by rfl) ?_
      refine w_iushr W0 d11_25 rfl ?_
      refine w_sipush W0 (z := (255 : Int32)) d11_26 (by rfl) ?_
      refine w_iand W0 d11_29 rfl ?_
      refine w_iloadN W0 d11_30 rfl ?_
      refine w_iconst W0 (z := (2 : Int32)) d11_31 (by rfl) ?_
      refine w_iushr W0 d11_32 rfl ?_
      refine w_sipush W0 (z := (255 : Int32)) d11_33 (by rfl) ?_
      refine w_iand W0 d11_36 rfl ?_
      refine w_icmpeq W0 (pc' := 42) d11_37 (by decide) (fun c37 => ?_) (fun c37 => ?_)
      · refine w_iloadN W0 d11_42 rfl ?_
        refine w_iconst W0 (z := (1 : Int32)) d11_43 (by rfl) ?_
        refine w_icmple W0 (pc' := 68) d11_44 (by decide) (fun c44 => ?_) (fun c44 => ?_)
        · have q1 : 0 < lx → own_c0 x = own_c0 y := fun _ => c37
          have q2 : 1 < lx → own_c1 x = own_c1 y := fun q => absurd q c44
          refine w_iconst W0 (z := (1 : Int32)) d11_68 (by rfl) ?_
          exact n_rN W0 rfl (by simp) (z' := (1 : Int32)) (by rfl) d11_69 (by decide) (by decide) ⟨own_sm3 hlx hly c14 q1 q2, rfl⟩
        · refine w_iloadN W0 d11_47 rfl ?_
          refine w_bipush W0 (z := (10 : Int32)) d11_48 (by rfl) ?_
          refine w_iushr W0 d11_50 rfl ?_
          refine w_sipush W0 (z := (255 : Int32)) d11_51 (by rfl) ?_
          refine w_iand W0 d11_54 rfl ?_
          refine w_iloadN W0 d11_55 rfl ?_
          refine w_bipush W0 (z := (10 : Int32)) d11_56 (by rfl) ?_
          refine w_iushr W0 d11_58 rfl ?_
          refine w_sipush W0 (z := (255 : Int32)) d11_59 (by rfl) ?_
          refine w_iand W0 d11_62 rfl ?_
          refine w_icmpeq W0 (pc' := 68) d11_63 (by decide) (fun c63 => ?_) (fun c63 => ?_)
          · have q1 : 0 < lx → own_c0 x = own_c0 y := fun _ => c37
            have q2 : 1 < lx → own_c1 x = own_c1 y := fun _ => c63
            refine w_iconst W0 (z := (1 : Int32)) d11_68 (by rfl) ?_
            exact n_rN W0 rfl (by simp) (z' := (1 : Int32)) (by rfl) d11_69 (by decide) (by decide) ⟨own_sm3 hlx hly c14 q1 q2, rfl⟩
          · refine w_iconst W0 (z := (0 : Int32)) d11_66 (by rfl) ?_
            exact n_rN W0 rfl (by simp) (z' := (0 : Int32)) (by rfl) d11_67 (by decide) (by decide) ⟨own_sm2 hlx hly c14 c44 c63, rfl⟩
      · refine w_iconst W0 (z := (0 : Int32)) d11_40 (by rfl) ?_
        exact n_rN W0 rfl (by simp) (z' := (0 : Int32)) (by rfl) d11_41 (by decide) (by decide) ⟨own_sm1 hlx hly c14 c20 c37, rfl⟩
  · refine w_iconst W0 (z := (0 : Int32)) d11_17 (by rfl) ?_
    exact n_rN W0 rfl (by simp) (z' := (0 : Int32)) (by rfl) d11_18 (by decide) (by decide) ⟨own_sm0 hlx hly c14, rfl⟩
theorem ef_9_R (m : MethodId) (x0 : Addr) : entryFrame m #[(.ref x0)] 1 = mkF m 0 #[.val (.ref x0)] [] := by first | (simp [entryFrame, mkF, argsToLocals, Value.category]; done) | rfl
theorem d9_0 : decode jdk_30_method_1_code 0 = .ok (.aload_n 0, 1) := by decide +kernel
theorem d9_1 : decode jdk_30_method_1_code 1 = .ok (.invokespecial 1, 3) := by decide +kernel
theorem d9_4 : decode jdk_30_method_1_code 4 = .ok (.return_, 1) := by decide +kernel
theorem pn_java_lang_Record : plainName "java/lang/Record" = true := by first | (simp [plainName, overriddenIn]; done) | decide +kernel
set_option maxRecDepth 65536 in
set_option maxHeartbeats 40000000 in
theorem ctRec (l : Launch) (Z : State) (a0 : Array Value) (hw : ∀ d ∈ tables_1, d.before a0 Z = true) (x : Addr) (h0 : Heap) (n0 : Nat)  :
    CtN l Z (⟨"java/lang/Record", "<init>", "()V"⟩ : MethodName) jdk_30_method_1_code 1 none ({ frames := 1, cells := 0, slots := 0, locals := 12 } : Room) n0 #[(.ref x)] h0 (fun v h => v = none ∧ h0 = h) := by
  refine CtN.of (plainFor_of_name pn_java_lang_Record) ?_
  intro p e s m below meth c T0 W0 hnm
  refine Wp.cast (ef_9_R m x) ?_
  refine w_aloadN W0 d9_0 rfl rfl ?_
  refine w_initO W0 (hw _ (List.mem_of_getElem? (i := 48) rfl)) (hw _ (List.mem_of_getElem? (i := 16) rfl)) (hw _ (List.mem_of_getElem? (i := 17) rfl)) 0 rfl rfl (by decide) (by decide) d9_1 ?_
  intro T1 W1
  exact n_rV W1 rfl d9_4 (by decide) (by decide) ⟨rfl, rfl⟩
theorem ef_10_RR (m : MethodId) (x0 : Addr) (x1 : Addr) : entryFrame m #[(.ref x0), (.ref x1)] 2 = mkF m 0 #[.val (.ref x0), .val (.ref x1)] [] := by first | (simp [entryFrame, mkF, argsToLocals, Value.category]; done) | rfl
theorem d10_0 : decode jdk_31_method_11_code 0 = .ok (.aload_n 0, 1) := by decide +kernel
theorem d10_1 : decode jdk_31_method_11_code 1 = .ok (.ifnonnull 12, 3) := by decide +kernel
theorem d10_13 : decode jdk_31_method_11_code 13 = .ok (.aload_n 0, 1) := by decide +kernel
theorem d10_14 : decode jdk_31_method_11_code 14 = .ok (.areturn, 1) := by decide +kernel
theorem pn_java_util_Objects : plainName "java/util/Objects" = true := by first | (simp [plainName, overriddenIn]; done) | decide +kernel
set_option maxRecDepth 65536 in
set_option maxHeartbeats 40000000 in
theorem ctRnn (l : Launch) (Z : State) (a0 : Array Value) (hw : ∀ d ∈ tables_1, d.before a0 Z = true) (x y : Addr) (h0 : Heap) (n0 : Nat)  :
    CtN l Z (⟨"java/util/Objects", "requireNonNull", "(Ljava/lang/Object;Ljava/lang/String;)Ljava/lang/Object;"⟩ : MethodName) jdk_31_method_11_code 2 (some (.object "java/lang/Object")) ({ frames := 0, cells := 0, slots := 0, locals := 0 } : Room) n0 #[(.ref x), (.ref y)] h0 (fun v h => v = some (.ref x) ∧ h0 = h) := by
  refine CtN.of (plainFor_of_name pn_java_util_Objects) ?_
  intro p e s m below meth c T0 W0 hnm
  refine Wp.cast (ef_10_RR m x y) ?_
  refine w_aloadN W0 d10_0 rfl rfl ?_
  refine w_ifnonnullY W0 (pc' := 13) d10_1 (by decide) ?_
  refine w_aloadN W0 d10_13 rfl rfl ?_
  exact n_rA W0 rfl rfl rfl d10_14 (by decide) (by decide) ⟨rfl, rfl⟩
theorem ef_8_RRR (m : MethodId) (x0 : Addr) (x1 : Addr) (x2 : Addr) : entryFrame m #[(.ref x0), (.ref x1), (.ref x2)] 3 = mkF m 0 #[.val (.ref x0), .val (.ref x1), .val (.ref x2)] [] := by first | (simp [entryFrame, mkF, argsToLocals, Value.category]; done) | rfl
theorem d8_0 : decode prog_6_method_1_code 0 = .ok (.aload_n 0, 1) := by decide +kernel
theorem d8_1 : decode prog_6_method_1_code 1 = .ok (.invokespecial 1, 3) := by decide +kernel
theorem pd_6 : parseMethodDescriptor "()V" = some ⟨[], none⟩ := by decide +kernel
theorem d8_4 : decode prog_6_method_1_code 4 = .ok (.aload_n 1, 1) := by decide +kernel
theorem d8_5 : decode prog_6_method_1_code 5 = .ok (.ldc 7, 2) := by decide +kernel
theorem d8_7 : decode prog_6_method_1_code 7 = .ok (.invokestatic 9, 3) := by decide +kernel
theorem pd_7 : parseMethodDescriptor "(Ljava/lang/Object;Ljava/lang/String;)Ljava/lang/Object;" = some ⟨[(.object "java/lang/Object"), (.object "java/lang/String")], some (.object "java/lang/Object")⟩ := by decide +kernel
theorem d8_10 : decode prog_6_method_1_code 10 = .ok (.pop, 1) := by decide +kernel
theorem d8_11 : decode prog_6_method_1_code 11 = .ok (.aload_n 2, 1) := by decide +kernel
theorem d8_12 : decode prog_6_method_1_code 12 = .ok (.ldc 15, 2) := by decide +kernel
theorem d8_14 : decode prog_6_method_1_code 14 = .ok (.invokestatic 9, 3) := by decide +kernel
theorem d8_17 : decode prog_6_method_1_code 17 = .ok (.pop, 1) := by decide +kernel
theorem d8_18 : decode prog_6_method_1_code 18 = .ok (.aload_n 0, 1) := by decide +kernel
theorem d8_19 : decode prog_6_method_1_code 19 = .ok (.aload_n 1, 1) := by decide +kernel
theorem d8_20 : decode prog_6_method_1_code 20 = .ok (.putfield 17, 3) := by decide +kernel
theorem d8_23 : decode prog_6_method_1_code 23 = .ok (.aload_n 0, 1) := by decide +kernel
theorem d8_24 : decode prog_6_method_1_code 24 = .ok (.aload_n 2, 1) := by decide +kernel
theorem d8_25 : decode prog_6_method_1_code 25 = .ok (.putfield 22, 3) := by decide +kernel
theorem d8_28 : decode prog_6_method_1_code 28 = .ok (.return_, 1) := by decide +kernel
theorem pn_com_example_binward_binward_engine_BinItem : plainName "com/example/binward/binward/engine/BinItem" = true := by first | (simp [plainName, overriddenIn]; done) | decide +kernel
set_option maxRecDepth 65536 in
set_option maxHeartbeats 40000000 in
theorem ctBi (l : Launch) (Z : State) (a0 : Array Value) (hw : ∀ d ∈ tables_1, d.before a0 Z = true) (x u w : Addr) (h0 : Heap) (n0 : Nat) (Ex : Exa Z h0 x "com/example/binward/binward/engine/BinItem") (F1 : Fld Z h0 x "com/example/binward/binward/engine/BinItem" "binCode" "Ljava/lang/String;" .null) (F2 : Fld Z h0 x "com/example/binward/binward/engine/BinItem" "itemCode" "Ljava/lang/String;" .null) (hnx : n0 ≤ x) :
    CtW l Z (⟨"com/example/binward/binward/engine/BinItem", "<init>", "(Ljava/lang/String;Ljava/lang/String;)V"⟩ : MethodName) prog_6_method_1_code 3 none ({ frames := 2, cells := 4, slots := 68, locals := 24 } : Room) n0 #[(.ref x), (.ref u), (.ref w)] h0 (fun _ => True) (fun v h vm => v = none ∧ Keep h0 h [x] ∧ Exa Z h x "com/example/binward/binward/engine/BinItem" ∧ Fld Z h x "com/example/binward/binward/engine/BinItem" "binCode" "Ljava/lang/String;" (.ref u) ∧ Fld Z h x "com/example/binward/binward/engine/BinItem" "itemCode" "Ljava/lang/String;" (.ref w)) := by
  refine CtW.of (plainFor_of_name pn_com_example_binward_binward_engine_BinItem) ?_
  intro p e s m below meth c T0 W0 hnm hs0 hV
  refine Wp.cast (ef_8_RRR m x u w) ?_
  refine w_aloadN W0 d8_0 rfl rfl ?_
  refine w_special W0 (ctRec l Z a0 hw x _ n0) rfl (hw _ (List.mem_of_getElem? (i := 43) rfl)) (hw _ (List.mem_of_getElem? (i := 44) rfl)) (hw _ (List.mem_of_getElem? (i := 46) rfl)) (hw _ (List.mem_of_getElem? (i := 47) rfl)) (by decide) 0 (by decide) (by decide) (by decide) (by decide) (a := x) (argsL := []) (rest := []) pd_6 rfl rfl rfl rfl rfl d8_1 ?_
  rintro T1 h1 l1 _ W1 ⟨rfl, rfl⟩
  refine w_aloadN W1 d8_4 rfl rfl ?_
  refine w_ldcS W1 (hw _ (List.mem_of_getElem? (i := 49) rfl)) (own_wS hw) 28 (by decide) (by decide) (by decide) (by decide) d8_5 ?_
  intro T2 h2 vm2 a2 W2 E2
  have E := E2
  refine w_callS W2 (ctRnn l Z a0 hw u a2 _ n0) (hw _ (List.mem_of_getElem? (i := 50) rfl)) (hw _ (List.mem_of_getElem? (i := 51) rfl)) (hw _ (List.mem_of_getElem? (i := 52) rfl)) (hw _ (List.mem_of_getElem? (i := 53) rfl)) (by decide) 0 (by decide) (by decide) (by decide) (by decide) (argsL := [(.ref u), (.ref a2)]) (rest := []) pd_7 rfl rfl rfl rfl rfl d8_7 ?_
  rintro T3 h3 l3 _ W3 ⟨rfl, rfl⟩
  refine w_pop W3 d8_10 rfl ?_
  refine w_aloadN W3 d8_11 rfl rfl ?_
  refine w_ldcS W3 (hw _ (List.mem_of_getElem? (i := 54) rfl)) (own_wS hw) 32 (by decide) (by decide) (by decide) (by decide) d8_12 ?_
  intro T4 h4 vm4 a4 W4 E4
  have E' := own_extTrans E E4
  refine w_callS W4 (ctRnn l Z a0 hw w a4 _ n0) (hw _ (List.mem_of_getElem? (i := 50) rfl)) (hw _ (List.mem_of_getElem? (i := 51) rfl)) (hw _ (List.mem_of_getElem? (i := 52) rfl)) (hw _ (List.mem_of_getElem? (i := 53) rfl)) (by decide) 0 (by decide) (by decide) (by decide) (by decide) (argsL := [(.ref w), (.ref a4)]) (rest := []) pd_7 rfl rfl rfl rfl rfl d8_14 ?_
  rintro T5 h5 l5 _ W5 ⟨rfl, rfl⟩
  refine w_pop W5 d8_17 rfl ?_
  refine w_aloadN W5 d8_18 rfl rfl ?_
  refine w_aloadN W5 d8_19 rfl rfl ?_
  refine w_putf W5 (hw _ (List.mem_of_getElem? (i := 55) rfl)) Via.refl (F1.ext E') (Ex.ext E') (Or.inr ⟨(hw _ (List.mem_of_getElem? (i := 56) rfl)), rfl, hnm⟩) (hw _ (List.mem_of_getElem? (i := 38) rfl)) (ty := (.object "java/lang/String")) (v' := (.ref u)) (by decide) (by rfl) (rfl) hnx d8_20 ?_
  intro T6 h6 l6 W6 Wr6
  refine w_aloadN W6 d8_23 rfl rfl ?_
  refine w_aloadN W6 d8_24 rfl rfl ?_
  have G2 := (F2.ext E').other Wr6 (Or.inr (slot_ne (Or.inr (hw _ (List.mem_of_getElem? (i := 58) rfl))) (Or.inr (hw _ (List.mem_of_getElem? (i := 56) rfl))) (by decide) (t := (.object "java/lang/String")) (t' := (.object "java/lang/String")) (by decide) (by decide)))
  have G1 := (F1.ext E').same Wr6
  refine w_putf W6 (hw _ (List.mem_of_getElem? (i := 57) rfl)) Via.refl G2 ((Ex.ext E').wr Wr6) (Or.inr ⟨(hw _ (List.mem_of_getElem? (i := 58) rfl)), rfl, hnm⟩) (hw _ (List.mem_of_getElem? (i := 38) rfl)) (ty := (.object "java/lang/String")) (v' := (.ref w)) (by decide) (by rfl) (rfl) hnx d8_25 ?_
  intro T7 h7 l7 W7 Wr7
  have Kx : Keep h0 h7 [x] := ((own_keepOf E').wr Wr6 (Or.inl (List.mem_cons_self ..))).wr Wr7 (Or.inl (List.mem_cons_self ..))
  exact x_rV W7 rfl d8_28 (by decide) (by decide) (fun vm' hvm' => ⟨rfl, Kx, ((Ex.ext E').wr Wr6).wr Wr7, G1.other Wr7 (Or.inr (slot_ne (Or.inr (hw _ (List.mem_of_getElem? (i := 56) rfl))) (Or.inr (hw _ (List.mem_of_getElem? (i := 58) rfl))) (by decide) (t := (.object "java/lang/String")) (t' := (.object "java/lang/String")) (by decide) (by decide))), G2.same Wr7⟩)
theorem ef_12_Rn (m : MethodId) (x0 : Addr) : entryFrame m #[(.ref x0), .null] 3 = mkF m 0 #[.val (.ref x0), .val .null, .unset] [] := by first | (simp [entryFrame, mkF, argsToLocals, Value.category]; done) | rfl
theorem d12_0 : decode prog_6_method_2_code 0 = .ok (.aload_n 1, 1) := by decide +kernel
theorem d12_1 : decode prog_6_method_2_code 1 = .ok (.instanceof 18, 3) := by decide +kernel
theorem d12_4 : decode prog_6_method_2_code 4 = .ok (.ifCond .eq 40, 3) := by decide +kernel
theorem d12_44 : decode prog_6_method_2_code 44 = .ok (.iconst 0, 1) := by decide +kernel
theorem d12_45 : decode prog_6_method_2_code 45 = .ok (.ireturn, 1) := by decide +kernel
set_option maxRecDepth 65536 in
set_option maxHeartbeats 40000000 in
theorem ctBeN (l : Launch) (Z : State) (a0 : Array Value) (hw : ∀ d ∈ tables_1, d.before a0 Z = true) (x : Addr) (h0 : Heap) (n0 : Nat)  :
    CtN l Z (⟨"com/example/binward/binward/engine/BinItem", "equals", "(Ljava/lang/Object;)Z"⟩ : MethodName) prog_6_method_2_code 3 (some .boolean) ({ frames := 0, cells := 0, slots := 0, locals := 0 } : Room) n0 #[(.ref x), .null] h0 (fun v h => v = some (.int 0) ∧ h0 = h) := by
  refine CtN.of (plainFor_of_name pn_com_example_binward_binward_engine_BinItem) ?_
  intro p e s m below meth c T0 W0 hnm
  refine Wp.cast (ef_12_Rn m x) ?_
  refine w_aloadN W0 d12_0 rfl rfl ?_
  refine w_instNull W0 d12_1 ?_
  refine w_ifeq W0 (pc' := 44) d12_4 (by decide) (fun c4 => ?_) (fun c4 => absurd c4 (by decide))
  refine w_iconst W0 (z := (0 : Int32)) d12_44 (by rfl) ?_
  exact n_rN W0 rfl (by simp) (z' := (0 : Int32)) (by rfl) d12_45 (by decide) (by decide) ⟨rfl, rfl⟩
theorem own_noSub {Z : State} {a0 : Array Value} (hw : ∀ d ∈ tables_1, d.before a0 Z = true) : ∃ c t, Z.vm.findClass "java/lang/String" = some c ∧ Z.vm.findClass "com/example/binward/binward/engine/BinItem" = some t ∧ Z.vm.assignable c t = false :=
  own_noSub0 (hw _ (List.mem_of_getElem? (i := 79) rfl)) (hw _ (List.mem_of_getElem? (i := 80) rfl)) (hw _ (List.mem_of_getElem? (i := 38) rfl)) (by decide) (by decide)
theorem ef_12_RR (m : MethodId) (x0 : Addr) (x1 : Addr) : entryFrame m #[(.ref x0), (.ref x1)] 3 = mkF m 0 #[.val (.ref x0), .val (.ref x1), .unset] [] := by first | (simp [entryFrame, mkF, argsToLocals, Value.category]; done) | rfl
set_option maxRecDepth 65536 in
set_option maxHeartbeats 40000000 in
theorem ctBeS (l : Launch) (Z : State) (a0 : Array Value) (hw : ∀ d ∈ tables_1, d.before a0 Z = true) (x y : Addr) (h0 : Heap) (n0 : Nat) (Ey : Exa Z h0 y "java/lang/String") :
    CtN l Z (⟨"com/example/binward/binward/engine/BinItem", "equals", "(Ljava/lang/Object;)Z"⟩ : MethodName) prog_6_method_2_code 3 (some .boolean) ({ frames := 0, cells := 0, slots := 0, locals := 0 } : Room) n0 #[(.ref x), (.ref y)] h0 (fun v h => v = some (.int 0) ∧ h0 = h) := by
  refine CtN.of (plainFor_of_name pn_com_example_binward_binward_engine_BinItem) ?_
  intro p e s m below meth c T0 W0 hnm
  refine Wp.cast (ef_12_RR m x y) ?_
  refine w_aloadN W0 d12_0 rfl rfl ?_
  refine w_instNo W0 (hw _ (List.mem_of_getElem? (i := 67) rfl)) Ey (own_noSub hw) d12_1 ?_
  intro T1 W1
  refine w_ifeq W1 (pc' := 44) d12_4 (by decide) (fun c4 => ?_) (fun c4 => absurd c4 (by decide))
  refine w_iconst W1 (z := (0 : Int32)) d12_44 (by rfl) ?_
  exact n_rN W1 rfl (by simp) (z' := (0 : Int32)) (by rfl) d12_45 (by decide) (by decide) ⟨rfl, rfl⟩
theorem d12_7 : decode prog_6_method_2_code 7 = .ok (.aload_n 1, 1) := by decide +kernel
theorem d12_8 : decode prog_6_method_2_code 8 = .ok (.checkcast 18, 3) := by decide +kernel
theorem d12_11 : decode prog_6_method_2_code 11 = .ok (.astore_n 2, 1) := by decide +kernel
theorem d12_12 : decode prog_6_method_2_code 12 = .ok (.aload_n 0, 1) := by decide +kernel
theorem d12_13 : decode prog_6_method_2_code 13 = .ok (.getfield 17, 3) := by decide +kernel
theorem d12_16 : decode prog_6_method_2_code 16 = .ok (.aload_n 2, 1) := by decide +kernel
theorem d12_17 : decode prog_6_method_2_code 17 = .ok (.getfield 17, 3) := by decide +kernel
theorem d12_20 : decode prog_6_method_2_code 20 = .ok (.invokevirtual 24, 3) := by decide +kernel
theorem pd_8 : parseMethodDescriptor "(Ljava/lang/Object;)Z" = some ⟨[(.object "java/lang/Object")], some .boolean⟩ := by decide +kernel
theorem d12_23 : decode prog_6_method_2_code 23 = .ok (.ifCond .eq 21, 3) := by decide +kernel
theorem d12_26 : decode prog_6_method_2_code 26 = .ok (.aload_n 0, 1) := by decide +kernel
theorem d12_27 : decode prog_6_method_2_code 27 = .ok (.getfield 22, 3) := by decide +kernel
theorem d12_30 : decode prog_6_method_2_code 30 = .ok (.aload_n 2, 1) := by decide +kernel
theorem d12_31 : decode prog_6_method_2_code 31 = .ok (.getfield 22, 3) := by decide +kernel
theorem d12_34 : decode prog_6_method_2_code 34 = .ok (.invokevirtual 24, 3) := by decide +kernel
theorem d12_37 : decode prog_6_method_2_code 37 = .ok (.ifCond .eq 7, 3) := by decide +kernel
theorem d12_40 : decode prog_6_method_2_code 40 = .ok (.iconst 1, 1) := by decide +kernel
theorem d12_41 : decode prog_6_method_2_code 41 = .ok (.goto 4, 3) := by decide +kernel
set_option maxRecDepth 65536 in
set_option maxHeartbeats 40000000 in
theorem ctBe (l : Launch) (Z : State) (a0 : Array Value) (hw : ∀ d ∈ tables_1, d.before a0 Z = true) (cz : Int32) (x y u1 u2 w1 w2 : Addr) (us1 us2 ws1 ws2 : List Int32) (h0 : Heap) (n0 : Nat) (hu1 : us1.length ≤ 4000) (hu2 : us2.length ≤ 4000) (hw1 : ws1.length ≤ 4000) (hw2 : ws2.length ≤ 4000) (O : Old Z n0 h0) (G : Sta Z Z.heap "java/lang/String" "COMPACT_STRINGS" "Z" (.int cz)) (hcz : cz ≠ 0) (Ey : Exa Z h0 y "com/example/binward/binward/engine/BinItem") (F1 : Fld Z h0 x "com/example/binward/binward/engine/BinItem" "binCode" "Ljava/lang/String;" (.ref u1)) (F2 : Fld Z h0 x "com/example/binward/binward/engine/BinItem" "itemCode" "Ljava/lang/String;" (.ref u2)) (G1 : Fld Z h0 y "com/example/binward/binward/engine/BinItem" "binCode" "Ljava/lang/String;" (.ref w1)) (G2 : Fld Z h0 y "com/example/binward/binward/engine/BinItem" "itemCode" "Ljava/lang/String;" (.ref w2)) (P1 : Str Z h0 u1 0 us1) (P2 : Str Z h0 u2 0 us2) (Q1 : Str Z h0 w1 0 ws1) (Q2 : Str Z h0 w2 0 ws2) :
    CtN l Z (⟨"com/example/binward/binward/engine/BinItem", "equals", "(Ljava/lang/Object;)Z"⟩ : MethodName) prog_6_method_2_code 3 (some .boolean) ({ frames := 2, cells := 0, slots := 0, locals := 28 } : Room) n0 #[(.ref x), (.ref y)] h0 (fun v h => v = some (.int (if us1 = ws1 ∧ us2 = ws2 then (1 : Int32) else 0)) ∧ h0 = h) := by
  refine CtN.of (plainFor_of_name pn_com_example_binward_binward_engine_BinItem) ?_
  intro p e s m below meth c T0 W0 hnm
  refine Wp.cast (ef_12_RR m x y) ?_
  refine w_aloadN W0 d12_0 rfl rfl ?_
  refine w_instY W0 (hw _ (List.mem_of_getElem? (i := 67) rfl)) (Ins.self Ey) d12_1 ?_
  intro T1 W1
  refine w_ifeq W1 (pc' := 44) d12_4 (by decide) (fun c4 => absurd c4 (by decide)) (fun c4 => ?_)
  refine w_aloadN W1 d12_7 rfl rfl ?_
  refine w_cast W1 (hw _ (List.mem_of_getElem? (i := 67) rfl)) (Ins.self Ey) d12_8 ?_
  intro T2 W2
  refine w_astoreN W2 (L' := #[.val (.ref x), .val (.ref y), .val (.ref y)]) d12_11 rfl rfl ?_
  refine w_aloadN W2 d12_12 rfl rfl ?_
  refine w_getf W2 (host := "") (Or.inl (hw _ (List.mem_of_getElem? (i := 55) rfl))) Via.refl F1 d12_13 ?_
  intro T3 W3
  refine w_aloadN W3 d12_16 rfl rfl ?_
  refine w_getf W3 (host := "") (Or.inl (hw _ (List.mem_of_getElem? (i := 55) rfl))) Via.refl G1 d12_17 ?_
  intro T4 W4
  refine w_virt W4 (ctSe l Z a0 hw cz u1 w1 us1 ws1 _ n0 hu1 hw1 O G hcz P1 Q1) (hw _ (List.mem_of_getElem? (i := 69) rfl)) (hw _ (List.mem_of_getElem? (i := 70) rfl)) (notFace_of_selects (args := #[]) (mvT W4.wZ (hw _ (List.mem_of_getElem? (i := 72) rfl)))) (hw _ (List.mem_of_getElem? (i := 72) rfl)) (hw _ (List.mem_of_getElem? (i := 71) rfl)) (hw _ (List.mem_of_getElem? (i := 7) rfl)) (hw _ (List.mem_of_getElem? (i := 73) rfl)) (by decide) 0 (by decide) (by decide) (by decide) (by decide) (a := u1) P1.exa (argsL := [(.ref w1)]) (rest := []) pd_8 rfl rfl rfl rfl rfl d12_20 ?_
  rintro T5 h5 l5 _ W5 ⟨rfl, rfl⟩
  refine w_ifeq W5 (pc' := 44) d12_23 (by decide) (fun c23 => ?_) (fun c23 => ?_)
  · refine w_iconst W5 (z := (0 : Int32)) d12_44 (by rfl) ?_
    exact n_rN W5 rfl (by simp) (z' := (0 : Int32)) (by rfl) d12_45 (by decide) (by decide) ⟨own_and0 (Or.inl c23), rfl⟩
  · refine w_aloadN W5 d12_26 rfl rfl ?_
    refine w_getf W5 (host := "") (Or.inl (hw _ (List.mem_of_getElem? (i := 57) rfl))) Via.refl F2 d12_27 ?_
    intro T6 W6
    refine w_aloadN W6 d12_30 rfl rfl ?_
    refine w_getf W6 (host := "") (Or.inl (hw _ (List.mem_of_getElem? (i := 57) rfl))) Via.refl G2 d12_31 ?_
    intro T7 W7
    refine w_virt W7 (ctSe l Z a0 hw cz u2 w2 us2 ws2 _ n0 hu2 hw2 O G hcz P2 Q2) (hw _ (List.mem_of_getElem? (i := 69) rfl)) (hw _ (List.mem_of_getElem? (i := 70) rfl)) (notFace_of_selects (args := #[]) (mvT W7.wZ (hw _ (List.mem_of_getElem? (i := 72) rfl)))) (hw _ (List.mem_of_getElem? (i := 72) rfl)) (hw _ (List.mem_of_getElem? (i := 71) rfl)) (hw _ (List.mem_of_getElem? (i := 7) rfl)) (hw _ (List.mem_of_getElem? (i := 73) rfl)) (by decide) 0 (by decide) (by decide) (by decide) (by decide) (a := u2) P2.exa (argsL := [(.ref w2)]) (rest := []) pd_8 rfl rfl rfl rfl rfl d12_34 ?_
    rintro T8 h8 l8 _ W8 ⟨rfl, rfl⟩
    refine w_ifeq W8 (pc' := 44) d12_37 (by decide) (fun c37 => ?_) (fun c37 => ?_)
    · refine w_iconst W8 (z := (0 : Int32)) d12_44 (by rfl) ?_
      exact n_rN W8 rfl (by simp) (z' := (0 : Int32)) (by rfl) d12_45 (by decide) (by decide) ⟨own_and0 (Or.inr c37), rfl⟩
    · refine w_iconst W8 (z := (1 : Int32)) d12_40 (by rfl) ?_
      refine w_goto W8 (pc' := 45) d12_41 (by decide) ?_
      exact n_rN W8 rfl (by simp) (z' := (1 : Int32)) (by rfl) d12_45 (by decide) (by decide) ⟨own_and1 c23 c37, rfl⟩
theorem ef_0_IIIII (m : MethodId) (x0 : Int32) (x1 : Int32) (x2 : Int32) (x3 : Int32) (x4 : Int32) : entryFrame m #[(.int x0), (.int x1), (.int x2), (.int x3), (.int x4)] maxLocals = mkF m 0 #[.val (.int x0), .val (.int x1), .val (.int x2), .val (.int x3), .val (.int x4), .unset, .unset, .unset, .unset, .unset, .unset, .unset, .unset, .unset, .unset] [] := by first | (simp [entryFrame, mkF, argsToLocals, Value.category, maxLocals]; done) | rfl
theorem pd_9 : parseMethodDescriptor "(I)Ljava/lang/String;" = some ⟨[.int], some (.object "java/lang/String")⟩ := by decide +kernel
theorem pd_10 : parseMethodDescriptor "(Ljava/lang/String;Ljava/lang/String;)V" = some ⟨[(.object "java/lang/String"), (.object "java/lang/String")], none⟩ := by decide +kernel
theorem pd_11 : parseMethodDescriptor "(II)Z" = some ⟨[.int, .int], some .boolean⟩ := by decide +kernel
set_option maxRecDepth 65536 in
set_option maxHeartbeats 40000000 in
theorem ctLaw (l : Launch) (Z : State) (a0 : Array Value) (hw : ∀ d ∈ tables_1, d.before a0 Z = true) (cz : Int32) (rp rq rr rs rm : Int32) (h0 : Heap) (n0 : Nat) (hCH : Jvm.Lit.constHeld Z "java/lang/String" 7) (O : Old Z n0 h0) (G : Sta Z Z.heap "java/lang/String" "COMPACT_STRINGS" "Z" (.int cz)) (hcz : cz ≠ 0) :
    CtW l Z x code maxLocals ret room_1 n0 #[(.int rp), (.int rq), (.int rr), (.int rs), (.int rm)] h0 (fun vm => St Z vm h0) (fun v _ _ => v = some (.int 1)) := by
  refine CtW.of (plainFor_of_name pn_com_example_binward_binward_engine_BinItemEqualsPinLaw) ?_
  intro p e s m below meth c T0 W0 hnm hs0 hV
  refine Wp.cast (ef_0_IIIII m rp rq rr rs rm) ?_
  have J28 : ∀ (r2 s2 : Int32), Wp p e below (PoW n0 s 48 3264 (fun v _ _ => v = some (.int 1))) T0 (mkF m 28 #[.val (.int rp), .val (.int rq), .val (.int rr), .val (.int rs), .val (.int rm), .val (.int r2), .val (.int s2), .unset, .unset, .unset, .unset, .unset, .unset, .unset, .unset] []) := by
    intro r2 s2
    refine w_iload W0 at_28 rfl ?_
    refine w_iconst W0 (z := (2 : Int32)) at_30 (by rfl) ?_
    refine w_iushr W0 at_31 rfl ?_
    refine w_iconst W0 (z := (3 : Int32)) at_32 (by rfl) ?_
    obtain ⟨kd, hkd⟩ : ∃ z : Int32, (((rm.toUInt32 >>> ((2 : Int32) &&& 31).toUInt32).toInt32) &&& (3 : Int32)) = z := ⟨_, rfl⟩
    refine w_iand W0 at_33 hkd ?_
    refine w_istore W0 (L' := #[.val (.int rp), .val (.int rq), .val (.int rr), .val (.int rs), .val (.int rm), .val (.int r2), .val (.int s2), .val (.int kd), .unset, .unset, .unset, .unset, .unset, .unset, .unset]) at_34 rfl ?_
    refine w_iloadN W0 at_36 rfl ?_
    refine w_callSW W0 (ctStr l Z a0 hw cz rp _ n0 hCH O G hcz) (fun vm' q => St.warm hV q) (hw _ (List.mem_of_getElem? (i := 0) rfl)) (hw _ (List.mem_of_getElem? (i := 1) rfl)) (hw _ (List.mem_of_getElem? (i := 2) rfl)) (hw _ (List.mem_of_getElem? (i := 3) rfl)) (by decide) 0 (by decide) (by decide) (by decide) (by decide) (argsL := [(.int rp)]) (rest := []) pd_9 rfl rfl rfl rfl rfl at_37 ?_
    rintro T1 h1 l1 vm1 _ W1 hw1 ⟨b1, rfl, E_1, hb1, P1, S1_⟩
    have X1 : Ext h0 h1 := E_1
    refine w_astore W1 (L' := #[.val (.int rp), .val (.int rq), .val (.int rr), .val (.int rs), .val (.int rm), .val (.int r2), .val (.int s2), .val (.int kd), .val (.ref b1), .unset, .unset, .unset, .unset, .unset, .unset]) at_40 rfl rfl ?_
    refine w_iloadN W1 at_42 rfl ?_
    refine w_callSW W1 (ctStr l Z a0 hw cz rq _ n0 hCH (O.ext X1) G hcz) (fun vm' q => St.warm S1_ q) (hw _ (List.mem_of_getElem? (i := 0) rfl)) (hw _ (List.mem_of_getElem? (i := 1) rfl)) (hw _ (List.mem_of_getElem? (i := 2) rfl)) (hw _ (List.mem_of_getElem? (i := 3) rfl)) (by decide) 0 (by decide) (by decide) (by decide) (by decide) (argsL := [(.int rq)]) (rest := []) pd_9 rfl rfl rfl rfl rfl at_43 ?_
    rintro T2 h2 l2 vm2 _ W2 hw2 ⟨b2, rfl, E_2, hb2, P2, S2_⟩
    have X2 : Ext h0 h2 := own_extTrans X1 E_2
    refine w_astore W2 (L' := #[.val (.int rp), .val (.int rq), .val (.int rr), .val (.int rs), .val (.int rm), .val (.int r2), .val (.int s2), .val (.int kd), .val (.ref b1), .val (.ref b2), .unset, .unset, .unset, .unset, .unset]) at_46 rfl rfl ?_
    refine w_iload W2 at_48 rfl ?_
    refine w_callSW W2 (ctStr l Z a0 hw cz r2 _ n0 hCH (O.ext X2) G hcz) (fun vm' q => St.warm S2_ q) (hw _ (List.mem_of_getElem? (i := 0) rfl)) (hw _ (List.mem_of_getElem? (i := 1) rfl)) (hw _ (List.mem_of_getElem? (i := 2) rfl)) (hw _ (List.mem_of_getElem? (i := 3) rfl)) (by decide) 0 (by decide) (by decide) (by decide) (by decide) (argsL := [(.int r2)]) (rest := []) pd_9 rfl rfl rfl rfl rfl at_50 ?_
    rintro T3 h3 l3 vm3 _ W3 hw3 ⟨b3, rfl, E_3, hb3, P3, S3_⟩
    have X3 : Ext h0 h3 := own_extTrans X2 E_3
    refine w_astore W3 (L' := #[.val (.int rp), .val (.int rq), .val (.int rr), .val (.int rs), .val (.int rm), .val (.int r2), .val (.int s2), .val (.int kd), .val (.ref b1), .val (.ref b2), .val (.ref b3), .unset, .unset, .unset, .unset]) at_53 rfl rfl ?_
    refine w_iload W3 at_55 rfl ?_
    refine w_callSW W3 (ctStr l Z a0 hw cz s2 _ n0 hCH (O.ext X3) G hcz) (fun vm' q => St.warm S3_ q) (hw _ (List.mem_of_getElem? (i := 0) rfl)) (hw _ (List.mem_of_getElem? (i := 1) rfl)) (hw _ (List.mem_of_getElem? (i := 2) rfl)) (hw _ (List.mem_of_getElem? (i := 3) rfl)) (by decide) 0 (by decide) (by decide) (by decide) (by decide) (argsL := [(.int s2)]) (rest := []) pd_9 rfl rfl rfl rfl rfl at_57 ?_
    rintro T4 h4 l4 vm4 _ W4 hw4 ⟨b4, rfl, E_4, hb4, P4, S4_⟩
    have X4 : Ext h0 h4 := own_extTrans X3 E_4
    refine w_astore W4 (L' := #[.val (.int rp), .val (.int rq), .val (.int rr), .val (.int rs), .val (.int rm), .val (.int r2), .val (.int s2), .val (.int kd), .val (.ref b1), .val (.ref b2), .val (.ref b3), .val (.ref b4), .unset, .unset, .unset]) at_60 rfl rfl ?_
    refine w_new W4 (hw _ (List.mem_of_getElem? (i := 37) rfl)) (hw _ (List.mem_of_getElem? (i := 38) rfl)) (hw _ (List.mem_of_getElem? (i := 39) rfl)) at_62 (by decide) (by decide) ?_
    intro T5 h5 o1 W5 E5 g5 A5 D5
    have Xn1 : Ext h0 h5 := own_extTrans X4 E5
    have ho1 : h0.size ≤ o1 := by rw [g5]; exact (X4).1
    have Fa1 := (D5 (Or.inr (hw _ (List.mem_of_getElem? (i := 56) rfl))) (ty := (.object "java/lang/String")) (by decide) : Fld Z h5 _ "com/example/binward/binward/engine/BinItem" "binCode" "Ljava/lang/String;" .null)
    have Fb1 := (D5 (Or.inr (hw _ (List.mem_of_getElem? (i := 58) rfl))) (ty := (.object "java/lang/String")) (by decide) : Fld Z h5 _ "com/example/binward/binward/engine/BinItem" "itemCode" "Ljava/lang/String;" .null)
    refine w_dup W5 at_65 rfl ?_
    refine w_aload W5 at_66 rfl rfl ?_
    refine w_aload W5 at_68 rfl rfl ?_
    refine w_specialW W5 (ctBi l Z a0 hw o1 b1 b2 _ n0 A5 Fa1 Fb1 (Nat.le_trans (own_oldle O) ho1)) (fun _ _ => trivial) rfl (hw _ (List.mem_of_getElem? (i := 40) rfl)) (hw _ (List.mem_of_getElem? (i := 41) rfl)) (hw _ (List.mem_of_getElem? (i := 39) rfl)) (hw _ (List.mem_of_getElem? (i := 42) rfl)) (by decide) 1 (by decide) (by decide) (by decide) (by decide) (a := o1) (argsL := [(.ref b1), (.ref b2)]) (rest := [(.ref o1)]) pd_10 rfl rfl rfl rfl rfl at_70 ?_
    rintro T6 h6 l6 vm6 _ W6 hw6 ⟨rfl, Kk1, Eo1, Ga1, Gb1⟩
    have Y1 : Ext h0 h6 := own_extKeep Xn1 Kk1 (allS ho1 all0)
    have Z1 : Ext h4 h6 := own_extKeep E5 Kk1 (allS (Nat.le_of_eq g5.symm) all0)
    have QQ1 := P1.ext (own_extTrans E_2 (own_extTrans E_3 (own_extTrans E_4 Z1)))
    have QQ2 := P2.ext (own_extTrans E_3 (own_extTrans E_4 Z1))
    have QQ3 := P3.ext (own_extTrans E_4 Z1)
    have QQ4 := P4.ext Z1
    refine w_astore W6 (L' := #[.val (.int rp), .val (.int rq), .val (.int rr), .val (.int rs), .val (.int rm), .val (.int r2), .val (.int s2), .val (.int kd), .val (.ref b1), .val (.ref b2), .val (.ref b3), .val (.ref b4), .val (.ref o1), .unset, .unset]) at_73 rfl rfl ?_
    refine w_iload W6 at_75 rfl ?_
    refine w_iconst W6 (z := (1 : Int32)) at_77 (by rfl) ?_
    refine w_icmpne W6 (pc' := 96) at_78 (by decide) (fun c78 => ?_) (fun c78 => ?_)
    · refine w_iload W6 at_96 rfl ?_
      refine w_iconst W6 (z := (2 : Int32)) at_98 (by rfl) ?_
      refine w_icmpne W6 (pc' := 118) at_99 (by decide) (fun c99 => ?_) (fun c99 => ?_)
      · refine w_iload W6 at_118 rfl ?_
        refine w_iconst W6 (z := (3 : Int32)) at_120 (by rfl) ?_
        refine w_icmpne W6 (pc' := 132) at_121 (by decide) (fun c121 => ?_) (fun c121 => ?_)
        · refine w_new W6 (hw _ (List.mem_of_getElem? (i := 37) rfl)) (hw _ (List.mem_of_getElem? (i := 38) rfl)) (hw _ (List.mem_of_getElem? (i := 39) rfl)) at_132 (by decide) (by decide) ?_
          intro T7 h7 o2 W7 E7 g7 A7 D7
          have Xn2 : Ext h0 h7 := own_extTrans Y1 E7
          have ho2 : h0.size ≤ o2 := by rw [g7]; exact (Y1).1
          have Fa2 := (D7 (Or.inr (hw _ (List.mem_of_getElem? (i := 56) rfl))) (ty := (.object "java/lang/String")) (by decide) : Fld Z h7 _ "com/example/binward/binward/engine/BinItem" "binCode" "Ljava/lang/String;" .null)
          have Fb2 := (D7 (Or.inr (hw _ (List.mem_of_getElem? (i := 58) rfl))) (ty := (.object "java/lang/String")) (by decide) : Fld Z h7 _ "com/example/binward/binward/engine/BinItem" "itemCode" "Ljava/lang/String;" .null)
          refine w_dup W7 at_135 rfl ?_
          refine w_aload W7 at_136 rfl rfl ?_
          refine w_aload W7 at_138 rfl rfl ?_
          refine w_specialW W7 (ctBi l Z a0 hw o2 b3 b4 _ n0 A7 Fa2 Fb2 (Nat.le_trans (own_oldle O) ho2)) (fun _ _ => trivial) rfl (hw _ (List.mem_of_getElem? (i := 40) rfl)) (hw _ (List.mem_of_getElem? (i := 41) rfl)) (hw _ (List.mem_of_getElem? (i := 39) rfl)) (hw _ (List.mem_of_getElem? (i := 42) rfl)) (by decide) 1 (by decide) (by decide) (by decide) (by decide) (a := o2) (argsL := [(.ref b3), (.ref b4)]) (rest := [(.ref o2)]) pd_10 rfl rfl rfl rfl rfl at_140 ?_
          rintro T8 h8 l8 vm8 _ W8 hw8 ⟨rfl, Kk2, Eo2, Ga2, Gb2⟩
          have Y2 : Ext h0 h8 := own_extKeep Xn2 Kk2 (allS ho2 all0)
          have Z2 : Ext h6 h8 := own_extKeep E7 Kk2 (allS (Nat.le_of_eq g7.symm) all0)
          have Q1 := QQ1.ext Z2
          have Q2 := QQ2.ext Z2
          have Q3 := QQ3.ext Z2
          have Q4 := QQ4.ext Z2
          have Eo1' := Eo1.ext Z2
          have Ga1' := Ga1.ext Z2
          have Gb1' := Gb1.ext Z2
          refine w_astore W8 (L' := #[.val (.int rp), .val (.int rq), .val (.int rr), .val (.int rs), .val (.int rm), .val (.int r2), .val (.int s2), .val (.int kd), .val (.ref b1), .val (.ref b2), .val (.ref b3), .val (.ref b4), .val (.ref o1), .val (.ref o2), .unset]) at_143 rfl rfl ?_
          refine w_iloadN W8 at_145 rfl ?_
          refine w_iload W8 at_146 rfl ?_
          refine w_callS W8 (ctSame l Z a0 hw rp r2 _ n0) (hw _ (List.mem_of_getElem? (i := 59) rfl)) (hw _ (List.mem_of_getElem? (i := 60) rfl)) (hw _ (List.mem_of_getElem? (i := 2) rfl)) (hw _ (List.mem_of_getElem? (i := 61) rfl)) (by decide) 0 (by decide) (by decide) (by decide) (by decide) (argsL := [(.int rp), (.int r2)]) (rest := []) pd_11 rfl rfl rfl rfl rfl at_148 ?_
          rintro T9 h9 l9 _ W9 ⟨rfl, rfl⟩
          refine w_ifeq W9 (pc' := 167) at_151 (by decide) (fun c151 => ?_) (fun c151 => ?_)
          · refine w_iconst W9 (z := (0 : Int32)) at_167 (by rfl) ?_
            refine w_istore W9 (L' := #[.val (.int rp), .val (.int rq), .val (.int rr), .val (.int rs), .val (.int rm), .val (.int r2), .val (.int s2), .val (.int kd), .val (.ref b1), .val (.ref b2), .val (.ref b3), .val (.ref b4), .val (.ref o1), .val (.ref o2), .val (.int (0 : Int32))]) at_168 rfl ?_
            refine w_aload W9 at_170 rfl rfl ?_
            refine w_aload W9 at_172 rfl rfl ?_
            refine w_virt W9 (ctBe l Z a0 hw cz o1 o2 b1 b2 b3 b4 _ _ _ _ _ n0 (own_len4 _) (own_len4 _) (own_len4 _) (own_len4 _) (O.ext Y2) G hcz Eo2 Ga1' Gb1' Ga2 Gb2 Q1 Q2 Q3 Q4) (hw _ (List.mem_of_getElem? (i := 62) rfl)) (hw _ (List.mem_of_getElem? (i := 63) rfl)) (notFace_of_selects (args := #[]) (mvT W9.wZ (hw _ (List.mem_of_getElem? (i := 65) rfl)))) (hw _ (List.mem_of_getElem? (i := 65) rfl)) (hw _ (List.mem_of_getElem? (i := 64) rfl)) (hw _ (List.mem_of_getElem? (i := 39) rfl)) (hw _ (List.mem_of_getElem? (i := 66) rfl)) (by decide) 0 (by decide) (by decide) (by decide) (by decide) (a := o1) Eo1' (argsL := [(.ref o2)]) (rest := []) pd_8 rfl rfl rfl rfl rfl at_174 ?_
            rintro T10 h10 l10 _ W10 ⟨rfl, rfl⟩
            refine w_iload W10 at_177 rfl ?_
            refine w_icmpne W10 (pc' := 198) at_179 (by decide) (fun c179 => ?_) (fun c179 => ?_)
            · exact absurd (own_ex0 (Or.inl c151)) c179
            · refine w_aload W10 at_182 rfl rfl ?_
              refine w_aload W10 at_184 rfl rfl ?_
              refine w_virt W10 (ctBe l Z a0 hw cz o2 o1 b3 b4 b1 b2 _ _ _ _ _ n0 (own_len4 _) (own_len4 _) (own_len4 _) (own_len4 _) (O.ext Y2) G hcz Eo1' Ga2 Gb2 Ga1' Gb1' Q3 Q4 Q1 Q2) (hw _ (List.mem_of_getElem? (i := 62) rfl)) (hw _ (List.mem_of_getElem? (i := 63) rfl)) (notFace_of_selects (args := #[]) (mvT W10.wZ (hw _ (List.mem_of_getElem? (i := 65) rfl)))) (hw _ (List.mem_of_getElem? (i := 65) rfl)) (hw _ (List.mem_of_getElem? (i := 64) rfl)) (hw _ (List.mem_of_getElem? (i := 39) rfl)) (hw _ (List.mem_of_getElem? (i := 66) rfl)) (by decide) 0 (by decide) (by decide) (by decide) (by decide) (a := o2) Eo2 (argsL := [(.ref o1)]) (rest := []) pd_8 rfl rfl rfl rfl rfl at_186 ?_
              rintro T11 h11 l11 _ W11 ⟨rfl, rfl⟩
              refine w_iload W11 at_189 rfl ?_
              refine w_icmpne W11 (pc' := 198) at_191 (by decide) (fun c191 => ?_) (fun c191 => ?_)
              · exact absurd (own_exS (own_ex0 (Or.inl c151))) c191
              · refine w_iconst W11 (z := (1 : Int32)) at_194 (by rfl) ?_
                refine w_goto W11 (pc' := 199) at_195 (by decide) ?_
                exact x_rN W11 rfl (by simp) (z' := (1 : Int32)) (by rfl) at_199 (by decide) (by decide) (fun vm' hvm' => rfl)
          · refine w_iloadN W9 at_154 rfl ?_
            refine w_iload W9 at_155 rfl ?_
            refine w_callS W9 (ctSame l Z a0 hw rq s2 _ n0) (hw _ (List.mem_of_getElem? (i := 59) rfl)) (hw _ (List.mem_of_getElem? (i := 60) rfl)) (hw _ (List.mem_of_getElem? (i := 2) rfl)) (hw _ (List.mem_of_getElem? (i := 61) rfl)) (by decide) 0 (by decide) (by decide) (by decide) (by decide) (argsL := [(.int rq), (.int s2)]) (rest := []) pd_11 rfl rfl rfl rfl rfl at_157 ?_
            rintro T12 h12 l12 _ W12 ⟨rfl, rfl⟩
            refine w_ifeq W12 (pc' := 167) at_160 (by decide) (fun c160 => ?_) (fun c160 => ?_)
            · refine w_iconst W12 (z := (0 : Int32)) at_167 (by rfl) ?_
              refine w_istore W12 (L' := #[.val (.int rp), .val (.int rq), .val (.int rr), .val (.int rs), .val (.int rm), .val (.int r2), .val (.int s2), .val (.int kd), .val (.ref b1), .val (.ref b2), .val (.ref b3), .val (.ref b4), .val (.ref o1), .val (.ref o2), .val (.int (0 : Int32))]) at_168 rfl ?_
              refine w_aload W12 at_170 rfl rfl ?_
              refine w_aload W12 at_172 rfl rfl ?_
              refine w_virt W12 (ctBe l Z a0 hw cz o1 o2 b1 b2 b3 b4 _ _ _ _ _ n0 (own_len4 _) (own_len4 _) (own_len4 _) (own_len4 _) (O.ext Y2) G hcz Eo2 Ga1' Gb1' Ga2 Gb2 Q1 Q2 Q3 Q4) (hw _ (List.mem_of_getElem? (i := 62) rfl)) (hw _ (List.mem_of_getElem? (i := 63) rfl)) (notFace_of_selects (args := #[]) (mvT W12.wZ (hw _ (List.mem_of_getElem? (i := 65) rfl)))) (hw _ (List.mem_of_getElem? (i := 65) rfl)) (hw _ (List.mem_of_getElem? (i := 64) rfl)) (hw _ (List.mem_of_getElem? (i := 39) rfl)) (hw _ (List.mem_of_getElem? (i := 66) rfl)) (by decide) 0 (by decide) (by decide) (by decide) (by decide) (a := o1) Eo1' (argsL := [(.ref o2)]) (rest := []) pd_8 rfl rfl rfl rfl rfl at_174 ?_
              rintro T13 h13 l13 _ W13 ⟨rfl, rfl⟩
              refine w_iload W13 at_177 rfl ?_
              refine w_icmpne W13 (pc' := 198) at_179 (by decide) (fun c179 => ?_) (fun c179 => ?_)
              · exact absurd (own_ex0 (Or.inr c160)) c179
              · refine w_aload W13 at_182 rfl rfl ?_
                refine w_aload W13 at_184 rfl rfl ?_
                refine w_virt W13 (ctBe l Z a0 hw cz o2 o1 b3 b4 b1 b2 _ _ _ _ _ n0 (own_len4 _) (own_len4 _) (own_len4 _) (own_len4 _) (O.ext Y2) G hcz Eo1' Ga2 Gb2 Ga1' Gb1' Q3 Q4 Q1 Q2) (hw _ (List.mem_of_getElem? (i := 62) rfl)) (hw _ (List.mem_of_getElem? (i := 63) rfl)) (notFace_of_selects (args := #[]) (mvT W13.wZ (hw _ (List.mem_of_getElem? (i := 65) rfl)))) (hw _ (List.mem_of_getElem? (i := 65) rfl)) (hw _ (List.mem_of_getElem? (i := 64) rfl)) (hw _ (List.mem_of_getElem? (i := 39) rfl)) (hw _ (List.mem_of_getElem? (i := 66) rfl)) (by decide) 0 (by decide) (by decide) (by decide) (by decide) (a := o2) Eo2 (argsL := [(.ref o1)]) (rest := []) pd_8 rfl rfl rfl rfl rfl at_186 ?_
                rintro T14 h14 l14 _ W14 ⟨rfl, rfl⟩
                refine w_iload W14 at_189 rfl ?_
                refine w_icmpne W14 (pc' := 198) at_191 (by decide) (fun c191 => ?_) (fun c191 => ?_)
                · exact absurd (own_exS (own_ex0 (Or.inr c160))) c191
                · refine w_iconst W14 (z := (1 : Int32)) at_194 (by rfl) ?_
                  refine w_goto W14 (pc' := 199) at_195 (by decide) ?_
                  exact x_rN W14 rfl (by simp) (z' := (1 : Int32)) (by rfl) at_199 (by decide) (by decide) (fun vm' hvm' => rfl)
            · refine w_iconst W12 (z := (1 : Int32)) at_163 (by rfl) ?_
              refine w_goto W12 (pc' := 168) at_164 (by decide) ?_
              refine w_istore W12 (L' := #[.val (.int rp), .val (.int rq), .val (.int rr), .val (.int rs), .val (.int rm), .val (.int r2), .val (.int s2), .val (.int kd), .val (.ref b1), .val (.ref b2), .val (.ref b3), .val (.ref b4), .val (.ref o1), .val (.ref o2), .val (.int (1 : Int32))]) at_168 rfl ?_
              refine w_aload W12 at_170 rfl rfl ?_
              refine w_aload W12 at_172 rfl rfl ?_
              refine w_virt W12 (ctBe l Z a0 hw cz o1 o2 b1 b2 b3 b4 _ _ _ _ _ n0 (own_len4 _) (own_len4 _) (own_len4 _) (own_len4 _) (O.ext Y2) G hcz Eo2 Ga1' Gb1' Ga2 Gb2 Q1 Q2 Q3 Q4) (hw _ (List.mem_of_getElem? (i := 62) rfl)) (hw _ (List.mem_of_getElem? (i := 63) rfl)) (notFace_of_selects (args := #[]) (mvT W12.wZ (hw _ (List.mem_of_getElem? (i := 65) rfl)))) (hw _ (List.mem_of_getElem? (i := 65) rfl)) (hw _ (List.mem_of_getElem? (i := 64) rfl)) (hw _ (List.mem_of_getElem? (i := 39) rfl)) (hw _ (List.mem_of_getElem? (i := 66) rfl)) (by decide) 0 (by decide) (by decide) (by decide) (by decide) (a := o1) Eo1' (argsL := [(.ref o2)]) (rest := []) pd_8 rfl rfl rfl rfl rfl at_174 ?_
              rintro T15 h15 l15 _ W15 ⟨rfl, rfl⟩
              refine w_iload W15 at_177 rfl ?_
              refine w_icmpne W15 (pc' := 198) at_179 (by decide) (fun c179 => ?_) (fun c179 => ?_)
              · exact absurd (own_ex1 c151 c160) c179
              · refine w_aload W15 at_182 rfl rfl ?_
                refine w_aload W15 at_184 rfl rfl ?_
                refine w_virt W15 (ctBe l Z a0 hw cz o2 o1 b3 b4 b1 b2 _ _ _ _ _ n0 (own_len4 _) (own_len4 _) (own_len4 _) (own_len4 _) (O.ext Y2) G hcz Eo1' Ga2 Gb2 Ga1' Gb1' Q3 Q4 Q1 Q2) (hw _ (List.mem_of_getElem? (i := 62) rfl)) (hw _ (List.mem_of_getElem? (i := 63) rfl)) (notFace_of_selects (args := #[]) (mvT W15.wZ (hw _ (List.mem_of_getElem? (i := 65) rfl)))) (hw _ (List.mem_of_getElem? (i := 65) rfl)) (hw _ (List.mem_of_getElem? (i := 64) rfl)) (hw _ (List.mem_of_getElem? (i := 39) rfl)) (hw _ (List.mem_of_getElem? (i := 66) rfl)) (by decide) 0 (by decide) (by decide) (by decide) (by decide) (a := o2) Eo2 (argsL := [(.ref o1)]) (rest := []) pd_8 rfl rfl rfl rfl rfl at_186 ?_
                rintro T16 h16 l16 _ W16 ⟨rfl, rfl⟩
                refine w_iload W16 at_189 rfl ?_
                refine w_icmpne W16 (pc' := 198) at_191 (by decide) (fun c191 => ?_) (fun c191 => ?_)
                · exact absurd (own_exS (own_ex1 c151 c160)) c191
                · refine w_iconst W16 (z := (1 : Int32)) at_194 (by rfl) ?_
                  refine w_goto W16 (pc' := 199) at_195 (by decide) ?_
                  exact x_rN W16 rfl (by simp) (z' := (1 : Int32)) (by rfl) at_199 (by decide) (by decide) (fun vm' hvm' => rfl)
        · refine w_aload W6 at_124 rfl rfl ?_
          refine w_aload W6 at_126 rfl rfl ?_
          refine w_virt W6 (ctBe l Z a0 hw cz o1 o1 b1 b2 b1 b2 _ _ _ _ _ n0 (own_len4 _) (own_len4 _) (own_len4 _) (own_len4 _) (O.ext Y1) G hcz Eo1 Ga1 Gb1 Ga1 Gb1 QQ1 QQ2 QQ1 QQ2) (hw _ (List.mem_of_getElem? (i := 62) rfl)) (hw _ (List.mem_of_getElem? (i := 63) rfl)) (notFace_of_selects (args := #[]) (mvT W6.wZ (hw _ (List.mem_of_getElem? (i := 65) rfl)))) (hw _ (List.mem_of_getElem? (i := 65) rfl)) (hw _ (List.mem_of_getElem? (i := 64) rfl)) (hw _ (List.mem_of_getElem? (i := 39) rfl)) (hw _ (List.mem_of_getElem? (i := 66) rfl)) (by decide) 0 (by decide) (by decide) (by decide) (by decide) (a := o1) Eo1 (argsL := [(.ref o1)]) (rest := []) pd_8 rfl rfl rfl rfl rfl at_128 ?_
          rintro T17 h17 l17 _ W17 ⟨rfl, rfl⟩
          exact x_rN W17 rfl (by simp) (z' := (1 : Int32)) (by rw [if_pos ⟨rfl, rfl⟩]; rfl) at_131 (by decide) (by decide) (fun vm' hvm' => rfl)
      · refine w_aload W6 at_102 rfl rfl ?_
        refine w_aload W6 at_104 rfl rfl ?_
        refine w_virt W6 (ctBeS l Z a0 hw o1 b1 _ n0 (QQ1.exa)) (hw _ (List.mem_of_getElem? (i := 62) rfl)) (hw _ (List.mem_of_getElem? (i := 63) rfl)) (notFace_of_selects (args := #[]) (mvT W6.wZ (hw _ (List.mem_of_getElem? (i := 65) rfl)))) (hw _ (List.mem_of_getElem? (i := 65) rfl)) (hw _ (List.mem_of_getElem? (i := 64) rfl)) (hw _ (List.mem_of_getElem? (i := 39) rfl)) (hw _ (List.mem_of_getElem? (i := 66) rfl)) (by decide) 0 (by decide) (by decide) (by decide) (by decide) (a := o1) Eo1 (argsL := [(.ref b1)]) (rest := []) pd_8 rfl rfl rfl rfl rfl at_106 ?_
        rintro T18 h18 l18 _ W18 ⟨rfl, rfl⟩
        refine w_ifne W18 (pc' := 116) at_109 (by decide) (fun c109 => absurd c109 (by decide)) (fun c109 => ?_)
        refine w_iconst W18 (z := (1 : Int32)) at_112 (by rfl) ?_
        refine w_goto W18 (pc' := 117) at_113 (by decide) ?_
        exact x_rN W18 rfl (by simp) (z' := (1 : Int32)) (by rfl) at_117 (by decide) (by decide) (fun vm' hvm' => rfl)
    · refine w_aload W6 at_81 rfl rfl ?_
      refine w_aconstNull W6 at_83 ?_
      refine w_virt W6 (ctBeN l Z a0 hw o1 _ n0) (hw _ (List.mem_of_getElem? (i := 62) rfl)) (hw _ (List.mem_of_getElem? (i := 63) rfl)) (notFace_of_selects (args := #[]) (mvT W6.wZ (hw _ (List.mem_of_getElem? (i := 65) rfl)))) (hw _ (List.mem_of_getElem? (i := 65) rfl)) (hw _ (List.mem_of_getElem? (i := 64) rfl)) (hw _ (List.mem_of_getElem? (i := 39) rfl)) (hw _ (List.mem_of_getElem? (i := 66) rfl)) (by decide) 0 (by decide) (by decide) (by decide) (by decide) (a := o1) Eo1 (argsL := [.null]) (rest := []) pd_8 rfl rfl rfl rfl rfl at_84 ?_
      rintro T19 h19 l19 _ W19 ⟨rfl, rfl⟩
      refine w_ifne W19 (pc' := 94) at_87 (by decide) (fun c87 => absurd c87 (by decide)) (fun c87 => ?_)
      refine w_iconst W19 (z := (1 : Int32)) at_90 (by rfl) ?_
      refine w_goto W19 (pc' := 95) at_91 (by decide) ?_
      exact x_rN W19 rfl (by simp) (z' := (1 : Int32)) (by rfl) at_95 (by decide) (by decide) (fun vm' hvm' => rfl)
  refine w_iload W0 at_0 rfl ?_
  refine w_iconst W0 (z := (1 : Int32)) at_2 (by rfl) ?_
  refine w_iand W0 at_3 rfl ?_
  refine w_ifeq W0 (pc' := 11) at_4 (by decide) (fun c4 => ?_) (fun c4 => ?_)
  · refine w_iloadN W0 at_11 rfl ?_
    refine w_istore W0 (L' := #[.val (.int rp), .val (.int rq), .val (.int rr), .val (.int rs), .val (.int rm), .val (.int rr), .unset, .unset, .unset, .unset, .unset, .unset, .unset, .unset, .unset]) at_12 rfl ?_
    refine w_iload W0 at_14 rfl ?_
    refine w_iconst W0 (z := (2 : Int32)) at_16 (by rfl) ?_
    refine w_iand W0 at_17 rfl ?_
    refine w_ifeq W0 (pc' := 25) at_18 (by decide) (fun c18 => ?_) (fun c18 => ?_)
    · refine w_iloadN W0 at_25 rfl ?_
      refine w_istore W0 (L' := #[.val (.int rp), .val (.int rq), .val (.int rr), .val (.int rs), .val (.int rm), .val (.int rr), .val (.int rs), .unset, .unset, .unset, .unset, .unset, .unset, .unset, .unset]) at_26 rfl ?_
      exact J28 rr rs
    · refine w_iloadN W0 at_21 rfl ?_
      refine w_goto W0 (pc' := 26) at_22 (by decide) ?_
      refine w_istore W0 (L' := #[.val (.int rp), .val (.int rq), .val (.int rr), .val (.int rs), .val (.int rm), .val (.int rr), .val (.int rq), .unset, .unset, .unset, .unset, .unset, .unset, .unset, .unset]) at_26 rfl ?_
      exact J28 rr rq
  · refine w_iloadN W0 at_7 rfl ?_
    refine w_goto W0 (pc' := 12) at_8 (by decide) ?_
    refine w_istore W0 (L' := #[.val (.int rp), .val (.int rq), .val (.int rr), .val (.int rs), .val (.int rm), .val (.int rp), .unset, .unset, .unset, .unset, .unset, .unset, .unset, .unset, .unset]) at_12 rfl ?_
    refine w_iload W0 at_14 rfl ?_
    refine w_iconst W0 (z := (2 : Int32)) at_16 (by rfl) ?_
    refine w_iand W0 at_17 rfl ?_
    refine w_ifeq W0 (pc' := 25) at_18 (by decide) (fun c18 => ?_) (fun c18 => ?_)
    · refine w_iloadN W0 at_25 rfl ?_
      refine w_istore W0 (L' := #[.val (.int rp), .val (.int rq), .val (.int rr), .val (.int rs), .val (.int rm), .val (.int rp), .val (.int rs), .unset, .unset, .unset, .unset, .unset, .unset, .unset, .unset]) at_26 rfl ?_
      exact J28 rp rs
    · refine w_iloadN W0 at_21 rfl ?_
      refine w_goto W0 (pc' := 26) at_22 (by decide) ?_
      refine w_istore W0 (L' := #[.val (.int rp), .val (.int rq), .val (.int rr), .val (.int rs), .val (.int rm), .val (.int rp), .val (.int rq), .unset, .unset, .unset, .unset, .unset, .unset, .unset, .unset]) at_26 rfl ?_
      exact J28 rp rq
set_option maxRecDepth 65536 in
set_option maxHeartbeats 40000000 in
theorem comes_1 {Post : Tables → Env → Array Value → State → Outcome → State → Prop} (hpost : ∀ tb e args s v u, (limb_1_1.after args s (.returned v) u = true ∧ limb_1_2.after args s (.returned v) u = true ∧ True) → ReturnedEndW s (.returned v) u (Jvm.fieldLocs frame_1_writes args s ++ Jvm.arrayLocs frame_1_arrays args s ++ Jvm.staticLocs frame_1_statics s) 48 3264 → Post tb e args s (.returned v) u) :
    ArmFor flags0 classFile x code maxLocals ret World_1 tables_1 room_1 Calls_1 rest_1 Pre_1 Post := by
  intro l hfl _ _ p e ha hc hk s m args below hf hA hF happ hP
  obtain ⟨hcalls, hrest, hpre⟩ := hP
  obtain ⟨-, -, -, hnamed, -, -, -, hat⟩ := (Spec.applies_iff hf).mp happ
  obtain ⟨hg, hn⟩ := and_e (Cond.before_iff.mp (show (Jvm.Cond.and given_1 narrow_1).before args s = true from hpre))
  obtain ⟨g1, g2⟩ := and_e hg
  obtain ⟨g3, g4⟩ := and_e g2
  obtain ⟨g5, g6⟩ := and_e g4
  obtain ⟨g7, g8⟩ := and_e g6
  obtain ⟨g9, g10⟩ := and_e g8
  obtain ⟨w0, w1, w2, w3, w4, rfl⟩ : ∃ w0 w1 w2 w3 w4 : Value, args = #[w0, w1, w2, w3, w4] := by
    have hs : args.size = 5 := by simpa [Cond.value, given_1] using g1
    obtain ⟨L⟩ := args
    match L, hs with
    | [w0, w1, w2, w3, w4], _ => exact ⟨w0, w1, w2, w3, w4, rfl⟩
  have hw := fun d (hd : d ∈ tables_1) => atoms_spec (ws := Jvm.Cond.code x code maxLocals ret :: tables_1) hat d (List.mem_cons_of_mem _ hd)
  obtain ⟨hsets, hown0⟩ := atoms_of _ (rest_1_c_eq ▸ (show rest_1_c.before _ s = true from hrest))
  obtain ⟨i0, ei0⟩ := is_v g3
  obtain rfl : w0 = (.int i0) := Option.some.inj ei0
  obtain ⟨i1, ei1⟩ := is_v g5
  obtain rfl : w1 = (.int i1) := Option.some.inj ei1
  obtain ⟨i2, ei2⟩ := is_v g7
  obtain rfl : w2 = (.int i2) := Option.some.inj ei2
  obtain ⟨i3, ei3⟩ := is_v g9
  obtain rfl : w3 = (.int i3) := Option.some.inj ei3
  obtain ⟨i4, ei4⟩ := is_v g10
  obtain rfl : w4 = (.int i4) := Option.some.inj ei4
  have n3 := not_v (Cond.before_iff.mp (hsets _ (List.mem_of_getElem? (i := 2) rfl)))
  obtain ⟨cz, e6⟩ := is_v (Cond.before_iff.mp (hsets _ (List.mem_of_getElem? (i := 1) rfl)))
  have G : Sta s s.heap "java/lang/String" "COMPACT_STRINGS" "Z" (.int cz) := Sta.start e6 (Or.inl (hsets _ (List.mem_of_getElem? (i := 0) rfl)))
  have hcz : ¬ (cz = (0 : Int32)) := gotF (Cond.eq_ints e6 (Term.int_eval (0))) n3
  have hCH : Jvm.Lit.constHeld s "java/lang/String" 7 := hcalls.1 ("java/lang/String", 7) (by simp [consts_1])
  obtain ⟨n, o, h1, h2, h3, _, L, rfl, ⟨rfl, N⟩, hq⟩ := ctLaw l s _ hw cz i0 i1 i2 i3 i4 s.heap s.heap.size hCH (Old.start s) G hcz tables_1 p e ha hc hk s m _ below hf ((Spec.applies_iff_loose hf).mp happ).1 ⟨rfl, State.Warmed39.refl s, rfl, St.start s⟩ trivial
  refine ⟨n, _, h1, h2, h3, hpost _ _ _ _ _ _ ⟨Cond.after_iff.mpr rfl, Cond.after_iff.mpr (eq_i res_at (Term.int_eval (1)) rfl), trivial⟩ ⟨hq.1, hq.2.1, hq.2.2.1, (hq.2.2.2.sift fun y hy => Or.inr (N y hy)).mono (by decide) (by decide)⟩⟩
theorem main_1_1 : Claimed_1_1 := comes_1 fun _ _ _ _ _ _ h hF => ⟨h.1, hF⟩
theorem main_1_2 : Claimed_1_2 := comes_1 fun _ _ _ _ _ _ h hF => ⟨h.2.1, hF⟩
end Jvm.Pilot.@@N@@
namespace Jvm.Pilot.@@N@@
open Jvm Jvm.ClassFile Sem Op Lib Jvm.Free Jvm.Stand Jvm.Pilot.@@N@@.Jvm.D
/-! MADE BY PROGRAM (witnessworld.py) out of the Statement's table words and the real class files: 22 classes; the members and pool entries that the words name. The judged class is class 1, her method 3. -/
namespace start1
open Jvm.ClassFile
def u (s : String) : CpInfo := .utf8 (stringToUtf16 s)
/-- a pool by its gaps: so many unusable entries, then the entry; so many at the end -/
def gap : Nat → List CpInfo → List CpInfo
  | 0, r => r
  | n + 1, r => .unusable :: gap n r
def poolList (es : List (Nat × CpInfo)) (last : Nat) : List CpInfo := es.foldr (fun e r => gap e.1 (e.2 :: r)) (gap last [])
def pool (es : List (Nat × CpInfo)) (last : Nat) : Array CpInfo := ⟨poolList es last⟩
def fileOf (pool : Array CpInfo) (this : Nat) (attrs : Array Attribute := #[]) (ms : Array MethodInfo := #[]) (fl : Nat := 33) (sup : Nat := 0) (ifs : Array Nat := #[]) (fds : Array FieldInfo := #[]) : ClassFile where
  minorVersion := 0
  majorVersion := 65
  constantPool := pool
  accessFlags := fl
  thisClass := this
  superClass := sup
  interfaces := ifs
  fields := fds
  methods := ms
  attributes := attrs
def plain (name : String) (sup : Option ClassId) : Class where
  name := name
  kind := .ordinary
  loader := none
  accessFlags := 33
  super := sup
  interfaces := #[]
  cf := none
  fields := #[]
  methods := #[]
  instanceTypes := #[]
  staticTypes := #[]
  resolved := #[]
  callSites := []
  init := .initialized
  statics := none
  mirror := none

def pool0 : Array CpInfo := pool [(5, u "<init>"), (0, u "()V"), (1, .class_ 10), (1, u "java/lang/Object")] 113

def k0c0 : Code := { maxStack := 0, maxLocals := 1, code := object_method_1_code, exceptionTable := #[], attributes := #[] }
def k0m0 : Method := { name := "<init>", desc := "()V", sig := { parameters := [], returnType := none }, accessFlags := 1, code := some k0c0 }
/-- java/lang/Object -/
def k0 : Class := { plain "java/lang/Object" none with
  accessFlags := 33
  interfaces := #[]
  cf := some (fileOf pool0 8 #[] #[{ accessFlags := 1, nameIndex := 5, descriptorIndex := 6, attributes := #[] }] 33 0 #[] #[])
  fields := #[]
  methods := #[k0m0]
  instanceTypes := #[]
  staticTypes := #[]
  resolved := Array.replicate 124 none
  statics := none }

def pool1 : Array CpInfo := pool [(2, .class_ 4), (1, u "java/lang/Object"), (0, u "<init>"), (0, u "()V"), (0, .class_ 8), (0, u "java/lang/String"), (0, .methodref 7 10), (0, .nameAndType 5 11), (0, u "([C)V"), (0, .methodref 13 14), (0, .class_ 15), (0, .nameAndType 16 17), (0, u "com/example/binward/binward/engine/BinItemEqualsPinLaw"), (0, u "str"), (0, u "(I)Ljava/lang/String;"), (0, .class_ 19), (0, u "com/example/binward/binward/engine/BinItem"), (0, .methodref 18 21), (0, .nameAndType 5 22), (0, u "(Ljava/lang/String;Ljava/lang/String;)V"), (0, .methodref 18 24), (0, .nameAndType 25 26), (0, u "equals"), (0, u "(Ljava/lang/Object;)Z"), (0, .methodref 13 28), (0, .nameAndType 29 30), (0, u "same"), (0, u "(II)Z"), (5, u "law"), (0, u "(IIIII)Z")] 2

def k1m0 : Method := { name := "<init>", desc := "()V", sig := { parameters := [], returnType := none }, accessFlags := 1, code := none }
def k1c1 : Code := { maxStack := 4, maxLocals := 3, code := method_2_code, exceptionTable := #[], attributes := #[] }
def k1m1 : Method := { name := "str", desc := "(I)Ljava/lang/String;", sig := { parameters := [.int], returnType := some (.object "java/lang/String") }, accessFlags := 10, code := some k1c1 }
def k1c2 : Code := { maxStack := 3, maxLocals := 4, code := method_3_code, exceptionTable := #[], attributes := #[] }
def k1m2 : Method := { name := "same", desc := "(II)Z", sig := { parameters := [.int, .int], returnType := some .boolean }, accessFlags := 10, code := some k1c2 }
def k1c3 : Code := { maxStack := 4, maxLocals := 15, code := code, exceptionTable := #[], attributes := #[] }
def k1m3 : Method := { name := "law", desc := "(IIIII)Z", sig := { parameters := [.int, .int, .int, .int, .int], returnType := some .boolean }, accessFlags := 9, code := some k1c3 }
/-- com/example/binward/binward/engine/BinItemEqualsPinLaw -/
def k1 : Class := { plain "com/example/binward/binward/engine/BinItemEqualsPinLaw" (some 0) with
  accessFlags := 49
  interfaces := #[]
  cf := some (fileOf pool1 13 #[] #[{ accessFlags := 1, nameIndex := 5, descriptorIndex := 6, attributes := #[] }, { accessFlags := 10, nameIndex := 16, descriptorIndex := 17, attributes := #[] }, { accessFlags := 10, nameIndex := 29, descriptorIndex := 30, attributes := #[] }, { accessFlags := 9, nameIndex := 36, descriptorIndex := 37, attributes := #[] }] 49 2 #[] #[])
  fields := #[]
  methods := #[k1m0, k1m1, k1m2, k1m3]
  instanceTypes := #[]
  staticTypes := #[]
  resolved := Array.replicate 40 none
  statics := none }

def pool2 : Array CpInfo := pool [(1, .class_ 2), (0, u "java/io/Serializable"), (0, .class_ 4), (0, u "java/lang/Object")] 2

/-- java/io/Serializable -/
def k2 : Class := { plain "java/io/Serializable" (some 0) with
  accessFlags := 1537
  interfaces := #[]
  cf := some (fileOf pool2 1 #[] #[] 1537 3 #[] #[])
  fields := #[]
  methods := #[]
  instanceTypes := #[]
  staticTypes := #[]
  resolved := Array.replicate 7 none
  statics := none }

def pool3 : Array CpInfo := pool [(1, .class_ 2), (0, u "java/lang/Comparable"), (0, .class_ 4), (0, u "java/lang/Object")] 7

/-- java/lang/Comparable -/
def k3 : Class := { plain "java/lang/Comparable" (some 0) with
  accessFlags := 1537
  interfaces := #[]
  cf := some (fileOf pool3 1 #[] #[] 1537 3 #[] #[])
  fields := #[]
  methods := #[]
  instanceTypes := #[]
  staticTypes := #[]
  resolved := Array.replicate 12 none
  statics := none }

def pool4 : Array CpInfo := pool [(2, .class_ 4), (1, u "java/lang/CharSequence"), (42, .class_ 48), (0, u "java/lang/CharSequence$1CodePointIterator"), (10, .class_ 60), (0, u "java/lang/CharSequence$1CharIterator"), (5, .class_ 67), (0, u "java/lang/Object")] 63

/-- java/lang/CharSequence -/
def k4 : Class := { plain "java/lang/CharSequence" (some 0) with
  accessFlags := 1537
  interfaces := #[]
  cf := some (fileOf pool4 2 #[.nestMembers #[47, 59]] #[] 1537 66 #[] #[])
  fields := #[]
  methods := #[]
  instanceTypes := #[]
  staticTypes := #[]
  resolved := Array.replicate 131 none
  statics := none }

def pool5 : Array CpInfo := pool [(1, .class_ 2), (0, u "java/lang/constant/Constable"), (0, .class_ 4), (0, u "java/lang/Object")] 6

/-- java/lang/constant/Constable -/
def k5 : Class := { plain "java/lang/constant/Constable" (some 0) with
  accessFlags := 1537
  interfaces := #[]
  cf := some (fileOf pool5 1 #[] #[] 1537 3 #[] #[])
  fields := #[]
  methods := #[]
  instanceTypes := #[]
  staticTypes := #[]
  resolved := Array.replicate 11 none
  statics := none }

def pool6 : Array CpInfo := pool [(1, .class_ 2), (0, u "java/lang/constant/ConstantDesc"), (0, .class_ 4), (0, u "java/lang/Object")] 32

/-- java/lang/constant/ConstantDesc -/
def k6 : Class := { plain "java/lang/constant/ConstantDesc" (some 0) with
  accessFlags := 1537
  interfaces := #[]
  cf := some (fileOf pool6 1 #[] #[] 1537 3 #[] #[])
  fields := #[]
  methods := #[]
  instanceTypes := #[]
  staticTypes := #[]
  resolved := Array.replicate 37 none
  statics := none }

def pool7 : Array CpInfo := pool [(1, .methodref 2 3), (0, .class_ 4), (0, .nameAndType 5 6), (0, u "java/lang/Object"), (0, u "<init>"), (0, u "()V"), (0, .string 8), (0, u ""), (0, .fieldref 10 11), (0, .class_ 12), (0, .nameAndType 13 14), (0, u "java/lang/String"), (0, u "value"), (0, u "[B"), (0, .fieldref 10 16), (0, .nameAndType 17 18), (0, u "coder"), (0, u "B"), (2, u "hash"), (0, u "I"), (2, u "hashIsZero"), (0, u "Z"), (0, .methodref 10 28), (0, .nameAndType 5 29), (0, u "([CIILjava/lang/Void;)V"), (8, .fieldref 10 39), (0, .nameAndType 40 26), (0, u "COMPACT_STRINGS"), (1, .class_ 44), (1, u "java/lang/StringUTF16"), (0, u "compress"), (1, .methodref 42 48), (0, .nameAndType 49 50), (0, u "coderFromArrayLen"), (0, u "([BI)B"), (56, .class_ 109), (1, u "java/lang/StringLatin1"), (67, .methodref 42 178), (0, .nameAndType 45 179), (0, u "([CII)[B"), (361, .methodref 107 542), (0, .nameAndType 543 544), (0, u "equals"), (0, u "([B[B)Z"), (28, u "(Ljava/lang/Object;)Z"), (1, .class_ 576), (0, u "java/lang/CharSequence"), (22, u "CASE_INSENSITIVE_ORDER"), (0, u "Ljava/util/Comparator;"), (409, u "([C)V"), (90, u "serialPersistentFields"), (0, u "[Ljava/io/ObjectStreamField;"), (0, .class_ 1104), (0, u "java/lang/String$CaseInsensitiveComparator"), (1, .class_ 1107), (0, u "java/io/Serializable"), (0, .class_ 1109), (0, u "java/lang/Comparable"), (0, .class_ 1111), (0, u "java/lang/constant/Constable"), (0, .class_ 1113), (0, u "java/lang/constant/ConstantDesc"), (2, u "serialVersionUID"), (0, u "J"), (3, u "REPL"), (0, u "C"), (2, u "LATIN1"), (1, u "UTF16")] 323

def k7m0 : Method := { name := "<init>", desc := "()V", sig := { parameters := [], returnType := none }, accessFlags := 1, code := none }
def k7c1 : Code := { maxStack := 5, maxLocals := 2, code := jdk_42_method_3_code, exceptionTable := #[], attributes := #[] }
def k7m1 : Method := { name := "<init>", desc := "([C)V", sig := { parameters := [(.array .char)], returnType := none }, accessFlags := 1, code := some k7c1 }
def k7c2 : Code := { maxStack := 2, maxLocals := 3, code := jdk_42_method_66_code, exceptionTable := #[], attributes := #[] }
def k7m2 : Method := { name := "equals", desc := "(Ljava/lang/Object;)Z", sig := { parameters := [(.object "java/lang/Object")], returnType := some .boolean }, accessFlags := 1, code := some k7c2 }
def k7c3 : Code := { maxStack := 4, maxLocals := 6, code := jdk_42_method_149_code, exceptionTable := #[], attributes := #[] }
def k7m3 : Method := { name := "<init>", desc := "([CIILjava/lang/Void;)V", sig := { parameters := [(.array .char), .int, .int, (.object "java/lang/Void")], returnType := none }, accessFlags := 2, code := some k7c3 }
/-- java/lang/String -/
def k7 : Class := { plain "java/lang/String" (some 0) with
  accessFlags := 49
  interfaces := #[2, 3, 4, 5, 6]
  cf := some (fileOf pool7 10 #[.nestMembers #[1103]] #[{ accessFlags := 1, nameIndex := 5, descriptorIndex := 6, attributes := #[] }, { accessFlags := 1, nameIndex := 5, descriptorIndex := 1010, attributes := #[] }, { accessFlags := 1, nameIndex := 543, descriptorIndex := 573, attributes := #[] }, { accessFlags := 2, nameIndex := 5, descriptorIndex := 29, attributes := #[] }] 49 2 #[1106, 1108, 575, 1110, 1112] #[{ accessFlags := 18, nameIndex := 13, descriptorIndex := 14, attributes := #[] }, { accessFlags := 18, nameIndex := 17, descriptorIndex := 18, attributes := #[] }, { accessFlags := 2, nameIndex := 21, descriptorIndex := 22, attributes := #[] }, { accessFlags := 2, nameIndex := 25, descriptorIndex := 26, attributes := #[] }, { accessFlags := 26, nameIndex := 1116, descriptorIndex := 1117, attributes := #[] }, { accessFlags := 24, nameIndex := 40, descriptorIndex := 26, attributes := #[] }, { accessFlags := 26, nameIndex := 1101, descriptorIndex := 1102, attributes := #[] }, { accessFlags := 26, nameIndex := 1121, descriptorIndex := 1122, attributes := #[] }, { accessFlags := 25, nameIndex := 599, descriptorIndex := 600, attributes := #[] }, { accessFlags := 24, nameIndex := 1125, descriptorIndex := 18, attributes := #[] }, { accessFlags := 24, nameIndex := 1127, descriptorIndex := 18, attributes := #[] }])
  fields := #[{ name := "value", type := (.array .byte), accessFlags := 18, slot := 0, constantValue := 0 }, { name := "coder", type := .byte, accessFlags := 18, slot := 1, constantValue := 0 }, { name := "hash", type := .int, accessFlags := 2, slot := 2, constantValue := 0 }, { name := "hashIsZero", type := .boolean, accessFlags := 2, slot := 3, constantValue := 0 }, { name := "serialVersionUID", type := .long, accessFlags := 26, slot := 0, constantValue := 0 }, { name := "COMPACT_STRINGS", type := .boolean, accessFlags := 24, slot := 1, constantValue := 0 }, { name := "serialPersistentFields", type := (.array (.object "java/io/ObjectStreamField")), accessFlags := 26, slot := 2, constantValue := 0 }, { name := "REPL", type := .char, accessFlags := 26, slot := 3, constantValue := 0 }, { name := "CASE_INSENSITIVE_ORDER", type := (.object "java/util/Comparator"), accessFlags := 25, slot := 4, constantValue := 0 }, { name := "LATIN1", type := .byte, accessFlags := 24, slot := 5, constantValue := 0 }, { name := "UTF16", type := .byte, accessFlags := 24, slot := 6, constantValue := 0 }]
  methods := #[k7m0, k7m1, k7m2, k7m3]
  instanceTypes := #[(.array .byte), .byte, .int, .boolean]
  staticTypes := #[.long, .boolean, (.array (.object "java/io/ObjectStreamField")), .char, (.object "java/util/Comparator"), .byte, .byte]
  resolved := Array.replicate 1451 none
  statics := some 0 }

def pool8 : Array CpInfo := pool [(6, .class_ 8), (1, u "java/lang/Object"), (0, u "<init>"), (0, u "()V"), (1, .class_ 14), (1, u "java/lang/StringUTF16"), (31, u "$assertionsDisabled"), (0, u "Z"), (13, u "HI_BYTE_SHIFT"), (0, u "I"), (2, u "LO_BYTE_SHIFT"), (49, .methodref 12 116), (0, .nameAndType 117 118), (0, u "compress"), (0, u "([CI[BII)I"), (3, u "([CII)[B"), (138, u "coderFromArrayLen"), (0, u "([BI)B"), (106, .class_ 371), (1, u "java/lang/StringUTF16$LinesSpliterator"), (58, u "MAX_LENGTH"), (196, .class_ 628), (0, u "java/lang/StringUTF16$CodePointsSpliterator"), (0, .class_ 630), (0, u "java/lang/StringUTF16$CharsSpliterator")] 4

def k8m0 : Method := { name := "<init>", desc := "()V", sig := { parameters := [], returnType := none }, accessFlags := 0, code := none }
def k8c1 : Code := { maxStack := 2, maxLocals := 2, code := jdk_52_method_15_code, exceptionTable := #[], attributes := #[] }
def k8m1 : Method := { name := "coderFromArrayLen", desc := "([BI)B", sig := { parameters := [(.array .byte), .int], returnType := some .byte }, accessFlags := 8, code := some k8c1 }
def k8c2 : Code := { maxStack := 5, maxLocals := 6, code := jdk_52_method_16_code, exceptionTable := #[], attributes := #[] }
def k8m2 : Method := { name := "compress", desc := "([CII)[B", sig := { parameters := [(.array .char), .int, .int], returnType := some (.array .byte) }, accessFlags := 9, code := some k8c2 }
def k8c3 : Code := { maxStack := 3, maxLocals := 7, code := jdk_52_method_21_code, exceptionTable := #[], attributes := #[] }
def k8m3 : Method := { name := "compress", desc := "([CI[BII)I", sig := { parameters := [(.array .char), .int, (.array .byte), .int, .int], returnType := some .int }, accessFlags := 9, code := some k8c3 }
/-- java/lang/StringUTF16 -/
def k8 : Class := { plain "java/lang/StringUTF16" (some 0) with
  accessFlags := 48
  interfaces := #[]
  cf := some (fileOf pool8 12 #[.nestMembers #[627, 629, 369]] #[{ accessFlags := 0, nameIndex := 9, descriptorIndex := 10, attributes := #[] }, { accessFlags := 8, nameIndex := 261, descriptorIndex := 262, attributes := #[] }, { accessFlags := 9, nameIndex := 117, descriptorIndex := 122, attributes := #[] }, { accessFlags := 9, nameIndex := 117, descriptorIndex := 118, attributes := #[] }] 48 6 #[] #[{ accessFlags := 26, nameIndex := 61, descriptorIndex := 62, attributes := #[] }, { accessFlags := 26, nameIndex := 65, descriptorIndex := 62, attributes := #[] }, { accessFlags := 24, nameIndex := 430, descriptorIndex := 62, attributes := #[] }, { accessFlags := 4120, nameIndex := 46, descriptorIndex := 47, attributes := #[] }])
  fields := #[{ name := "HI_BYTE_SHIFT", type := .int, accessFlags := 26, slot := 0, constantValue := 0 }, { name := "LO_BYTE_SHIFT", type := .int, accessFlags := 26, slot := 1, constantValue := 0 }, { name := "MAX_LENGTH", type := .int, accessFlags := 24, slot := 2, constantValue := 0 }, { name := "$assertionsDisabled", type := .boolean, accessFlags := 4120, slot := 3, constantValue := 0 }]
  methods := #[k8m0, k8m1, k8m2, k8m3]
  instanceTypes := #[]
  staticTypes := #[.int, .int, .int, .boolean]
  resolved := Array.replicate 635 none
  statics := none }

def pool9 : Array CpInfo := pool [(1, .methodref 2 3), (0, .class_ 4), (0, .nameAndType 5 6), (0, u "java/lang/Object"), (0, u "<init>"), (0, u "()V"), (0, .class_ 8), (0, u "java/lang/Record")] 13

def k9c0 : Code := { maxStack := 1, maxLocals := 1, code := jdk_30_method_1_code, exceptionTable := #[], attributes := #[] }
def k9m0 : Method := { name := "<init>", desc := "()V", sig := { parameters := [], returnType := none }, accessFlags := 4, code := some k9c0 }
/-- java/lang/Record -/
def k9 : Class := { plain "java/lang/Record" (some 0) with
  accessFlags := 1057
  interfaces := #[]
  cf := some (fileOf pool9 7 #[] #[{ accessFlags := 4, nameIndex := 5, descriptorIndex := 6, attributes := #[] }] 1057 2 #[] #[])
  fields := #[]
  methods := #[k9m0]
  instanceTypes := #[]
  staticTypes := #[]
  resolved := Array.replicate 22 none
  statics := none }

def pool10 : Array CpInfo := pool [(1, .methodref 2 3), (0, .class_ 4), (0, .nameAndType 5 6), (0, u "java/lang/Record"), (0, u "<init>"), (0, u "()V"), (0, .string 8), (0, u "binCode"), (0, .methodref 10 11), (0, .class_ 12), (0, .nameAndType 13 14), (0, u "java/util/Objects"), (0, u "requireNonNull"), (0, u "(Ljava/lang/Object;Ljava/lang/String;)Ljava/lang/Object;"), (0, .string 16), (0, u "itemCode"), (0, .fieldref 18 19), (0, .class_ 20), (0, .nameAndType 8 21), (0, u "com/example/binward/binward/engine/BinItem"), (0, u "Ljava/lang/String;"), (0, .fieldref 18 23), (0, .nameAndType 16 21), (0, .methodref 25 26), (0, .class_ 27), (0, .nameAndType 28 29), (0, u "java/lang/String"), (0, u "equals"), (0, u "(Ljava/lang/Object;)Z"), (8, u "(Ljava/lang/String;Ljava/lang/String;)V")] 26

def k10c0 : Code := { maxStack := 2, maxLocals := 3, code := prog_6_method_1_code, exceptionTable := #[], attributes := #[] }
def k10m0 : Method := { name := "<init>", desc := "(Ljava/lang/String;Ljava/lang/String;)V", sig := { parameters := [(.object "java/lang/String"), (.object "java/lang/String")], returnType := none }, accessFlags := 1, code := some k10c0 }
def k10c1 : Code := { maxStack := 2, maxLocals := 3, code := prog_6_method_2_code, exceptionTable := #[], attributes := #[] }
def k10m1 : Method := { name := "equals", desc := "(Ljava/lang/Object;)Z", sig := { parameters := [(.object "java/lang/Object")], returnType := some .boolean }, accessFlags := 1, code := some k10c1 }
/-- com/example/binward/binward/engine/BinItem -/
def k10 : Class := { plain "com/example/binward/binward/engine/BinItem" (some 9) with
  accessFlags := 49
  interfaces := #[]
  cf := some (fileOf pool10 18 #[] #[{ accessFlags := 1, nameIndex := 5, descriptorIndex := 38, attributes := #[] }, { accessFlags := 1, nameIndex := 28, descriptorIndex := 29, attributes := #[] }] 49 2 #[] #[{ accessFlags := 18, nameIndex := 8, descriptorIndex := 21, attributes := #[] }, { accessFlags := 18, nameIndex := 16, descriptorIndex := 21, attributes := #[] }])
  fields := #[{ name := "binCode", type := (.object "java/lang/String"), accessFlags := 18, slot := 0, constantValue := 0 }, { name := "itemCode", type := (.object "java/lang/String"), accessFlags := 18, slot := 1, constantValue := 0 }]
  methods := #[k10m0, k10m1]
  instanceTypes := #[(.object "java/lang/String"), (.object "java/lang/String")]
  staticTypes := #[]
  resolved := Array.replicate 65 none
  statics := none }

def pool11 : Array CpInfo := pool [(2, .class_ 4), (1, u "java/lang/Object"), (0, u "<init>"), (0, u "()V"), (35, .class_ 44), (1, u "java/util/Objects"), (0, u "requireNonNull"), (48, u "(Ljava/lang/Object;Ljava/lang/String;)Ljava/lang/Object;")] 89

def k11m0 : Method := { name := "<init>", desc := "()V", sig := { parameters := [], returnType := none }, accessFlags := 2, code := none }
def k11c1 : Code := { maxStack := 3, maxLocals := 2, code := jdk_31_method_11_code, exceptionTable := #[], attributes := #[] }
def k11m1 : Method := { name := "requireNonNull", desc := "(Ljava/lang/Object;Ljava/lang/String;)Ljava/lang/Object;", sig := { parameters := [(.object "java/lang/Object"), (.object "java/lang/String")], returnType := some (.object "java/lang/Object") }, accessFlags := 9, code := some k11c1 }
/-- java/util/Objects -/
def k11 : Class := { plain "java/util/Objects" (some 0) with
  accessFlags := 49
  interfaces := #[]
  cf := some (fileOf pool11 42 #[] #[{ accessFlags := 2, nameIndex := 5, descriptorIndex := 6, attributes := #[] }, { accessFlags := 9, nameIndex := 45, descriptorIndex := 94, attributes := #[] }] 49 2 #[] #[])
  fields := #[]
  methods := #[k11m0, k11m1]
  instanceTypes := #[]
  staticTypes := #[]
  resolved := Array.replicate 184 none
  statics := none }

def pool12 : Array CpInfo := pool [(4, .class_ 6), (1, u "java/lang/Object"), (0, u "<init>"), (0, u "()V"), (5, .class_ 16), (1, u "java/lang/StringLatin1"), (104, u "$assertionsDisabled"), (0, u "Z"), (98, .class_ 223), (1, u "java/lang/StringLatin1$LinesSpliterator"), (57, u "equals"), (0, u "([B[B)Z"), (107, .class_ 391), (0, u "java/lang/StringLatin1$CharsSpliterator")] 3

def k12m0 : Method := { name := "<init>", desc := "()V", sig := { parameters := [], returnType := none }, accessFlags := 0, code := none }
def k12c1 : Code := { maxStack := 3, maxLocals := 3, code := jdk_43_method_13_code, exceptionTable := #[], attributes := #[] }
def k12m1 : Method := { name := "equals", desc := "([B[B)Z", sig := { parameters := [(.array .byte), (.array .byte)], returnType := some .boolean }, accessFlags := 9, code := some k12c1 }
/-- java/lang/StringLatin1 -/
def k12 : Class := { plain "java/lang/StringLatin1" (some 0) with
  accessFlags := 48
  interfaces := #[]
  cf := some (fileOf pool12 14 #[.nestMembers #[390, 221]] #[{ accessFlags := 0, nameIndex := 7, descriptorIndex := 8, attributes := #[] }, { accessFlags := 9, nameIndex := 281, descriptorIndex := 282, attributes := #[] }] 48 4 #[] #[{ accessFlags := 4120, nameIndex := 121, descriptorIndex := 122, attributes := #[] }])
  fields := #[{ name := "$assertionsDisabled", type := .boolean, accessFlags := 4120, slot := 0, constantValue := 0 }]
  methods := #[k12m0, k12m1]
  instanceTypes := #[]
  staticTypes := #[.boolean]
  resolved := Array.replicate 395 none
  statics := none }

def pool13 : Array CpInfo := pool [(2, .class_ 4), (1, u "java/lang/Object"), (0, u "<init>"), (0, u "()V"), (17, .class_ 26), (1, u "jdk/internal/util/Preconditions"), (28, .class_ 56), (0, u "jdk/internal/util/Preconditions$4"), (57, .class_ 115), (0, u "jdk/internal/util/Preconditions$1"), (7, u "SIOOBE_FORMATTER"), (0, u "Ljava/util/function/BiFunction;"), (0, .class_ 126), (0, u "jdk/internal/util/Preconditions$2"), (3, u "AIOOBE_FORMATTER"), (0, .class_ 132), (0, u "jdk/internal/util/Preconditions$3"), (3, u "IOOBE_FORMATTER")] 57

def k13m0 : Method := { name := "<init>", desc := "()V", sig := { parameters := [], returnType := none }, accessFlags := 1, code := none }
/-- jdk/internal/util/Preconditions -/
def k13 : Class := { plain "jdk/internal/util/Preconditions" (some 0) with
  accessFlags := 33
  interfaces := #[]
  cf := some (fileOf pool13 24 #[.nestMembers #[55, 131, 125, 114]] #[{ accessFlags := 1, nameIndex := 5, descriptorIndex := 6, attributes := #[] }] 33 2 #[] #[{ accessFlags := 25, nameIndex := 123, descriptorIndex := 124, attributes := #[] }, { accessFlags := 25, nameIndex := 130, descriptorIndex := 124, attributes := #[] }, { accessFlags := 25, nameIndex := 136, descriptorIndex := 124, attributes := #[] }])
  fields := #[{ name := "SIOOBE_FORMATTER", type := (.object "java/util/function/BiFunction"), accessFlags := 25, slot := 0, constantValue := 0 }, { name := "AIOOBE_FORMATTER", type := (.object "java/util/function/BiFunction"), accessFlags := 25, slot := 1, constantValue := 0 }, { name := "IOOBE_FORMATTER", type := (.object "java/util/function/BiFunction"), accessFlags := 25, slot := 2, constantValue := 0 }]
  methods := #[k13m0]
  instanceTypes := #[]
  staticTypes := #[(.object "java/util/function/BiFunction"), (.object "java/util/function/BiFunction"), (.object "java/util/function/BiFunction")]
  resolved := Array.replicate 194 none
  statics := some 1 }

def pool14 : Array CpInfo := pool [(9, u "<init>"), (6, .class_ 18), (1, u "java/lang/Object"), (0, u "()V"), (1, .class_ 23), (1, u "jdk/internal/util/ArraysSupport"), (0, u "LOG2_ARRAY_LONG_INDEX_SCALE"), (0, u "I"), (2, u "U"), (0, u "Ljdk/internal/misc/Unsafe;"), (8, u "BIG_ENDIAN"), (0, u "Z"), (8, u "LOG2_BYTE_BIT_SIZE"), (4, u "LOG2_ARRAY_INT_INDEX_SCALE"), (54, u "JLA"), (0, u "Ljdk/internal/access/JavaLangAccess;"), (11, u "LOG2_ARRAY_BOOLEAN_INDEX_SCALE"), (9, u "LOG2_ARRAY_BYTE_INDEX_SCALE"), (5, u "LOG2_ARRAY_CHAR_INDEX_SCALE"), (5, u "LOG2_ARRAY_SHORT_INDEX_SCALE"), (18, u "LOG2_ARRAY_FLOAT_INDEX_SCALE"), (24, u "LOG2_ARRAY_DOUBLE_INDEX_SCALE"), (89, u "T_BOOLEAN"), (2, u "T_CHAR"), (1, u "T_FLOAT"), (1, u "T_DOUBLE"), (1, u "T_BYTE"), (1, u "T_SHORT"), (1, u "T_INT"), (1, u "T_LONG"), (1, u "SOFT_MAX_ARRAY_LENGTH")] 83

def k14m0 : Method := { name := "<init>", desc := "()V", sig := { parameters := [], returnType := none }, accessFlags := 2, code := none }
/-- jdk/internal/util/ArraysSupport -/
def k14 : Class := { plain "jdk/internal/util/ArraysSupport" (some 0) with
  accessFlags := 33
  interfaces := #[]
  cf := some (fileOf pool14 21 #[] #[{ accessFlags := 2, nameIndex := 9, descriptorIndex := 19, attributes := #[] }] 33 16 #[] #[{ accessFlags := 24, nameIndex := 28, descriptorIndex := 29, attributes := #[] }, { accessFlags := 26, nameIndex := 38, descriptorIndex := 39, attributes := #[] }, { accessFlags := 25, nameIndex := 121, descriptorIndex := 25, attributes := #[] }, { accessFlags := 25, nameIndex := 131, descriptorIndex := 25, attributes := #[] }, { accessFlags := 25, nameIndex := 137, descriptorIndex := 25, attributes := #[] }, { accessFlags := 25, nameIndex := 143, descriptorIndex := 25, attributes := #[] }, { accessFlags := 25, nameIndex := 53, descriptorIndex := 25, attributes := #[] }, { accessFlags := 25, nameIndex := 24, descriptorIndex := 25, attributes := #[] }, { accessFlags := 25, nameIndex := 162, descriptorIndex := 25, attributes := #[] }, { accessFlags := 25, nameIndex := 187, descriptorIndex := 25, attributes := #[] }, { accessFlags := 26, nameIndex := 48, descriptorIndex := 25, attributes := #[] }, { accessFlags := 25, nameIndex := 277, descriptorIndex := 25, attributes := #[] }, { accessFlags := 25, nameIndex := 280, descriptorIndex := 25, attributes := #[] }, { accessFlags := 25, nameIndex := 282, descriptorIndex := 25, attributes := #[] }, { accessFlags := 25, nameIndex := 284, descriptorIndex := 25, attributes := #[] }, { accessFlags := 25, nameIndex := 286, descriptorIndex := 25, attributes := #[] }, { accessFlags := 25, nameIndex := 288, descriptorIndex := 25, attributes := #[] }, { accessFlags := 25, nameIndex := 290, descriptorIndex := 25, attributes := #[] }, { accessFlags := 25, nameIndex := 292, descriptorIndex := 25, attributes := #[] }, { accessFlags := 26, nameIndex := 108, descriptorIndex := 109, attributes := #[] }, { accessFlags := 25, nameIndex := 294, descriptorIndex := 25, attributes := #[] }])
  fields := #[{ name := "U", type := (.object "jdk/internal/misc/Unsafe"), accessFlags := 24, slot := 0, constantValue := 0 }, { name := "BIG_ENDIAN", type := .boolean, accessFlags := 26, slot := 1, constantValue := 0 }, { name := "LOG2_ARRAY_BOOLEAN_INDEX_SCALE", type := .int, accessFlags := 25, slot := 2, constantValue := 0 }, { name := "LOG2_ARRAY_BYTE_INDEX_SCALE", type := .int, accessFlags := 25, slot := 3, constantValue := 0 }, { name := "LOG2_ARRAY_CHAR_INDEX_SCALE", type := .int, accessFlags := 25, slot := 4, constantValue := 0 }, { name := "LOG2_ARRAY_SHORT_INDEX_SCALE", type := .int, accessFlags := 25, slot := 5, constantValue := 0 }, { name := "LOG2_ARRAY_INT_INDEX_SCALE", type := .int, accessFlags := 25, slot := 6, constantValue := 0 }, { name := "LOG2_ARRAY_LONG_INDEX_SCALE", type := .int, accessFlags := 25, slot := 7, constantValue := 0 }, { name := "LOG2_ARRAY_FLOAT_INDEX_SCALE", type := .int, accessFlags := 25, slot := 8, constantValue := 0 }, { name := "LOG2_ARRAY_DOUBLE_INDEX_SCALE", type := .int, accessFlags := 25, slot := 9, constantValue := 0 }, { name := "LOG2_BYTE_BIT_SIZE", type := .int, accessFlags := 26, slot := 10, constantValue := 0 }, { name := "T_BOOLEAN", type := .int, accessFlags := 25, slot := 11, constantValue := 0 }, { name := "T_CHAR", type := .int, accessFlags := 25, slot := 12, constantValue := 0 }, { name := "T_FLOAT", type := .int, accessFlags := 25, slot := 13, constantValue := 0 }, { name := "T_DOUBLE", type := .int, accessFlags := 25, slot := 14, constantValue := 0 }, { name := "T_BYTE", type := .int, accessFlags := 25, slot := 15, constantValue := 0 }, { name := "T_SHORT", type := .int, accessFlags := 25, slot := 16, constantValue := 0 }, { name := "T_INT", type := .int, accessFlags := 25, slot := 17, constantValue := 0 }, { name := "T_LONG", type := .int, accessFlags := 25, slot := 18, constantValue := 0 }, { name := "JLA", type := (.object "jdk/internal/access/JavaLangAccess"), accessFlags := 26, slot := 19, constantValue := 0 }, { name := "SOFT_MAX_ARRAY_LENGTH", type := .int, accessFlags := 25, slot := 20, constantValue := 0 }]
  methods := #[k14m0]
  instanceTypes := #[]
  staticTypes := #[(.object "jdk/internal/misc/Unsafe"), .boolean, .int, .int, .int, .int, .int, .int, .int, .int, .int, .int, .int, .int, .int, .int, .int, .int, .int, (.object "jdk/internal/access/JavaLangAccess"), .int]
  resolved := Array.replicate 378 none
  statics := none }

def pool15 : Array CpInfo := pool [(1, u "java/lang/Cloneable"), (0, .class_ 1), (0, u "java/lang/Object"), (0, .class_ 3)] 3

/-- java/lang/Cloneable -/
def k15 : Class := { plain "java/lang/Cloneable" (some 0) with
  accessFlags := 1537
  interfaces := #[]
  cf := some (fileOf pool15 2 #[] #[] 1537 4 #[] #[])
  fields := #[]
  methods := #[]
  instanceTypes := #[]
  staticTypes := #[]
  resolved := Array.replicate 8 none
  statics := none }

/-- the primitive byte -/
def k16 : Class := { plain "byte" none with kind := .primitive 'B', accessFlags := 0x411 }
/-- [B -/
def k17 : Class := { plain "[B" (some 0) with kind := .array 16 .byte, interfaces := #[15, 2], accessFlags := 1041 }

/-- the primitive char -/
def k18 : Class := { plain "char" none with kind := .primitive 'C', accessFlags := 0x411 }
/-- [C -/
def k19 : Class := { plain "[C" (some 0) with kind := .array 18 .char, interfaces := #[15, 2], accessFlags := 1041 }

/-- the primitive int -/
def k20 : Class := { plain "int" none with kind := .primitive 'I', accessFlags := 0x411 }
/-- [I -/
def k21 : Class := { plain "[I" (some 0) with kind := .array 20 .int, interfaces := #[15, 2], accessFlags := 1041 }

def heap : Heap := #[{ cls := 7, slots := #[.long 0, .int 1, .null, .int 0, .null, .int 0, .int 0], vm := .statics 7 },
  { cls := 13, slots := #[.null, .null, .null], vm := .statics 13 }]
def classes : Array Class := #[k0, k1, k2, k3, k4, k5, k6, k7, k8, k9, k10, k11, k12, k13, k14, k15, k16, k17, k18, k19, k20, k21]
def interned : List (Array UInt16 × Addr) := []
def slotsUsed : Nat := 10
def theMethod : MethodId := ⟨1, 3⟩
def args0 : Array Value := #[.int 5, .int 7, .int 11, .int 13, .int 1]
def aboutOver (below : List Frame) : State where
  vm := { classes := classes, interned := interned.toArray }
  heap := heap
  slotsUsed := slotsUsed
  threads := #[{ frames := .invoking theMethod args0 :: below }]
def below0 : List Frame := [.native { method := ⟨0, 0⟩, args := #[] }]
def about1 : State := aboutOver below0
def p0 : Program := .bare "" "" ""
def e0 : Env := launch0.env 0 0 0
theorem w_frames : about1.frames = Frame.invoking theMethod args0 :: below0 := rfl
set_option maxRecDepth 65536 in
theorem w_args : argsFit about1.vm theMethod args0 = true := by decide +kernel
set_option maxRecDepth 65536 in
theorem w_heap : heapFits about1 = true := by decide +kernel
set_option maxRecDepth 65536 in
theorem w_runnable : about1.curStatus? = some .runnable := by decide +kernel
set_option maxRecDepth 65536 in
theorem w_alone : about1.alone = true := by decide +kernel
set_option maxRecDepth 65536 in
theorem w_named : about1.methodNamed? x = some theMethod := by decide +kernel
set_option maxRecDepth 65536 in
theorem w_hears : about1.hears theMethod below0 = true := by decide +kernel
set_option maxRecDepth 65536 in
theorem w_ripe : about1.ripe theMethod args0 below0 = true := by decide +kernel
theorem w_running : about1.status = .running := rfl
set_option maxRecDepth 65536 in
theorem w_room : about1.hasRoom e0.platform room_1 = true :=
  launch0.hasRoom_least _ room_1 (by decide +kernel) (by decide +kernel) (by decide +kernel) (by decide +kernel) (by decide +kernel) (by decide +kernel)
theorem allAtoms_all (ts : List Jvm.Cond) (a : Array Jvm.Value) (st : Jvm.State) : (allAtoms ts).before a st = ts.all (fun c => c.before a st) := by
  induction ts with
  | nil => rfl
  | cons c t ih =>
    show (Jvm.Cond.and c (allAtoms t)).before a st = _
    rw [Jvm.Cond.before_and, ih, List.all_cons]
def words1 : List Jvm.Cond := Jvm.Cond.code x code maxLocals ret :: tables_1
/-- a 'code' word, met by the world's own term for the bytes: nothing is compared byte by byte -/
theorem code_word {y : MethodName} {bytes : ByteArray} {mx : Nat} {rt : Option FieldType} {a : Array Value} {s : State} {m : MethodId} {meth : Method} {c : Code} (h1 : s.methodNamed? y = some m) (h2 : s.vm.method? m = some meth) (h3 : meth.code = some c) (h4 : c.code = bytes)
    (h5 : (c.maxLocals == mx && c.exceptionTable.isEmpty && decide (c.maxStack ≤ mostOperands) && decide (meth.sig.returnType = rt) && !meth.locks && decide (parseMethodDescriptor y.desc = some meth.sig)) = true) : (Jvm.Cond.code y bytes mx rt).before a s = true := by
  simp only [Bool.and_eq_true, beq_iff_eq, Bool.not_eq_true', decide_eq_true_eq] at h5
  obtain ⟨⟨⟨⟨⟨g1, g2⟩, g3⟩, g4⟩, g5⟩, g6⟩ := h5
  simp [Cond.before, Cond.holds, Cond.value, h1, h2, h3, h4, g1, g2, g3, g4, g5, g6]
def isCode : Jvm.Cond → Bool
  | .code _ _ _ _ => true
  | _ => false
theorem all_split {L : List Jvm.Cond} {P : Jvm.Cond → Bool} (h1 : L.all (fun c => isCode c || P c) = true) (h2 : ∀ c ∈ L.filter isCode, P c = true) : L.all P = true := by
  refine List.all_eq_true.mpr fun c hc => ?_
  have h := List.all_eq_true.mp h1 c hc
  rcases Bool.eq_false_or_eq_true (isCode c) with hi | hi
  · exact h2 c (List.mem_filter.mpr ⟨hc, hi⟩)
  · simpa [hi] using h
set_option maxRecDepth 65536 in
theorem w_c0 : (Jvm.Cond.code x code maxLocals ret).before args0 about1 = true := code_word (m := ⟨1, 3⟩) (meth := k1m3) (c := k1c3) (by decide +kernel) rfl rfl rfl (by decide +kernel)
set_option maxRecDepth 65536 in
theorem w_c1 : (Jvm.Cond.code ({ cls := "com/example/binward/binward/engine/BinItemEqualsPinLaw", name := "str", desc := "(I)Ljava/lang/String;" } : Jvm.MethodName) method_2_code (3 : Nat) (Option.some (Jvm.ClassFile.FieldType.object "java/lang/String"))).before args0 about1 = true := code_word (m := ⟨1, 1⟩) (meth := k1m1) (c := k1c1) (by decide +kernel) rfl rfl rfl (by decide +kernel)
set_option maxRecDepth 65536 in
theorem w_c2 : (Jvm.Cond.code ({ cls := "java/lang/String", name := "<init>", desc := "([C)V" } : Jvm.MethodName) jdk_42_method_3_code (2 : Nat) (Option.none : Option Jvm.ClassFile.FieldType)).before args0 about1 = true := code_word (m := ⟨7, 1⟩) (meth := k7m1) (c := k7c1) (by decide +kernel) rfl rfl rfl (by decide +kernel)
set_option maxRecDepth 65536 in
theorem w_c3 : (Jvm.Cond.code ({ cls := "java/lang/String", name := "<init>", desc := "([CIILjava/lang/Void;)V" } : Jvm.MethodName) jdk_42_method_149_code (6 : Nat) (Option.none : Option Jvm.ClassFile.FieldType)).before args0 about1 = true := code_word (m := ⟨7, 3⟩) (meth := k7m3) (c := k7c3) (by decide +kernel) rfl rfl rfl (by decide +kernel)
set_option maxRecDepth 65536 in
theorem w_c4 : (Jvm.Cond.code ({ cls := "java/lang/Object", name := "<init>", desc := "()V" } : Jvm.MethodName) object_method_1_code (1 : Nat) (Option.none : Option Jvm.ClassFile.FieldType)).before args0 about1 = true := code_word (m := ⟨0, 0⟩) (meth := k0m0) (c := k0c0) (by decide +kernel) rfl rfl rfl (by decide +kernel)
set_option maxRecDepth 65536 in
theorem w_c5 : (Jvm.Cond.code ({ cls := "java/lang/StringUTF16", name := "compress", desc := "([CII)[B" } : Jvm.MethodName) jdk_52_method_16_code (6 : Nat) (Option.some (Jvm.ClassFile.FieldType.array Jvm.ClassFile.FieldType.byte))).before args0 about1 = true := code_word (m := ⟨8, 2⟩) (meth := k8m2) (c := k8c2) (by decide +kernel) rfl rfl rfl (by decide +kernel)
set_option maxRecDepth 65536 in
theorem w_c6 : (Jvm.Cond.code ({ cls := "java/lang/StringUTF16", name := "compress", desc := "([CI[BII)I" } : Jvm.MethodName) jdk_52_method_21_code (7 : Nat) (Option.some Jvm.ClassFile.FieldType.int)).before args0 about1 = true := code_word (m := ⟨8, 3⟩) (meth := k8m3) (c := k8c3) (by decide +kernel) rfl rfl rfl (by decide +kernel)
set_option maxRecDepth 65536 in
theorem w_c7 : (Jvm.Cond.code ({ cls := "java/lang/StringUTF16", name := "coderFromArrayLen", desc := "([BI)B" } : Jvm.MethodName) jdk_52_method_15_code (2 : Nat) (Option.some Jvm.ClassFile.FieldType.byte)).before args0 about1 = true := code_word (m := ⟨8, 1⟩) (meth := k8m1) (c := k8c1) (by decide +kernel) rfl rfl rfl (by decide +kernel)
set_option maxRecDepth 65536 in
theorem w_c8 : (Jvm.Cond.code ({ cls := "com/example/binward/binward/engine/BinItem", name := "<init>", desc := "(Ljava/lang/String;Ljava/lang/String;)V" } : Jvm.MethodName) prog_6_method_1_code (3 : Nat) (Option.none : Option Jvm.ClassFile.FieldType)).before args0 about1 = true := code_word (m := ⟨10, 0⟩) (meth := k10m0) (c := k10c0) (by decide +kernel) rfl rfl rfl (by decide +kernel)
set_option maxRecDepth 65536 in
theorem w_c9 : (Jvm.Cond.code ({ cls := "java/lang/Record", name := "<init>", desc := "()V" } : Jvm.MethodName) jdk_30_method_1_code (1 : Nat) (Option.none : Option Jvm.ClassFile.FieldType)).before args0 about1 = true := code_word (m := ⟨9, 0⟩) (meth := k9m0) (c := k9c0) (by decide +kernel) rfl rfl rfl (by decide +kernel)
set_option maxRecDepth 65536 in
theorem w_c10 : (Jvm.Cond.code ({ cls := "java/util/Objects", name := "requireNonNull", desc := "(Ljava/lang/Object;Ljava/lang/String;)Ljava/lang/Object;" } : Jvm.MethodName) jdk_31_method_11_code (2 : Nat) (Option.some (Jvm.ClassFile.FieldType.object "java/lang/Object"))).before args0 about1 = true := code_word (m := ⟨11, 1⟩) (meth := k11m1) (c := k11c1) (by decide +kernel) rfl rfl rfl (by decide +kernel)
set_option maxRecDepth 65536 in
theorem w_c11 : (Jvm.Cond.code ({ cls := "com/example/binward/binward/engine/BinItemEqualsPinLaw", name := "same", desc := "(II)Z" } : Jvm.MethodName) method_3_code (4 : Nat) (Option.some Jvm.ClassFile.FieldType.boolean)).before args0 about1 = true := code_word (m := ⟨1, 2⟩) (meth := k1m2) (c := k1c2) (by decide +kernel) rfl rfl rfl (by decide +kernel)
set_option maxRecDepth 65536 in
theorem w_c12 : (Jvm.Cond.code ({ cls := "com/example/binward/binward/engine/BinItem", name := "equals", desc := "(Ljava/lang/Object;)Z" } : Jvm.MethodName) prog_6_method_2_code (3 : Nat) (Option.some Jvm.ClassFile.FieldType.boolean)).before args0 about1 = true := code_word (m := ⟨10, 1⟩) (meth := k10m1) (c := k10c1) (by decide +kernel) rfl rfl rfl (by decide +kernel)
set_option maxRecDepth 65536 in
theorem w_c13 : (Jvm.Cond.code ({ cls := "java/lang/String", name := "equals", desc := "(Ljava/lang/Object;)Z" } : Jvm.MethodName) jdk_42_method_66_code (3 : Nat) (Option.some Jvm.ClassFile.FieldType.boolean)).before args0 about1 = true := code_word (m := ⟨7, 2⟩) (meth := k7m2) (c := k7c2) (by decide +kernel) rfl rfl rfl (by decide +kernel)
set_option maxRecDepth 65536 in
theorem w_c14 : (Jvm.Cond.code ({ cls := "java/lang/StringLatin1", name := "equals", desc := "([B[B)Z" } : Jvm.MethodName) jdk_43_method_13_code (3 : Nat) (Option.some Jvm.ClassFile.FieldType.boolean)).before args0 about1 = true := code_word (m := ⟨12, 1⟩) (meth := k12m1) (c := k12c1) (by decide +kernel) rfl rfl rfl (by decide +kernel)
def codes1 : List Jvm.Cond := [Jvm.Cond.code x code maxLocals ret, Jvm.Cond.code ({ cls := "com/example/binward/binward/engine/BinItemEqualsPinLaw", name := "str", desc := "(I)Ljava/lang/String;" } : Jvm.MethodName) method_2_code (3 : Nat) (Option.some (Jvm.ClassFile.FieldType.object "java/lang/String")), Jvm.Cond.code ({ cls := "java/lang/String", name := "<init>", desc := "([C)V" } : Jvm.MethodName) jdk_42_method_3_code (2 : Nat) (Option.none : Option Jvm.ClassFile.FieldType), Jvm.Cond.code ({ cls := "java/lang/String", name := "<init>", desc := "([CIILjava/lang/Void;)V" } : Jvm.MethodName) jdk_42_method_149_code (6 : Nat) (Option.none : Option Jvm.ClassFile.FieldType), Jvm.Cond.code ({ cls := "java/lang/Object", name := "<init>", desc := "()V" } : Jvm.MethodName) object_method_1_code (1 : Nat) (Option.none : Option Jvm.ClassFile.FieldType), Jvm.Cond.code ({ cls := "java/lang/StringUTF16", name := "compress", desc := "([CII)[B" } : Jvm.MethodName) jdk_52_method_16_code (6 : Nat) (Option.some (Jvm.ClassFile.FieldType.array Jvm.ClassFile.FieldType.byte)), Jvm.Cond.code ({ cls := "java/lang/StringUTF16", name := "compress", desc := "([CI[BII)I" } : Jvm.MethodName) jdk_52_method_21_code (7 : Nat) (Option.some Jvm.ClassFile.FieldType.int), Jvm.Cond.code ({ cls := "java/lang/StringUTF16", name := "coderFromArrayLen", desc := "([BI)B" } : Jvm.MethodName) jdk_52_method_15_code (2 : Nat) (Option.some Jvm.ClassFile.FieldType.byte), Jvm.Cond.code ({ cls := "com/example/binward/binward/engine/BinItem", name := "<init>", desc := "(Ljava/lang/String;Ljava/lang/String;)V" } : Jvm.MethodName) prog_6_method_1_code (3 : Nat) (Option.none : Option Jvm.ClassFile.FieldType), Jvm.Cond.code ({ cls := "java/lang/Record", name := "<init>", desc := "()V" } : Jvm.MethodName) jdk_30_method_1_code (1 : Nat) (Option.none : Option Jvm.ClassFile.FieldType), Jvm.Cond.code ({ cls := "java/util/Objects", name := "requireNonNull", desc := "(Ljava/lang/Object;Ljava/lang/String;)Ljava/lang/Object;" } : Jvm.MethodName) jdk_31_method_11_code (2 : Nat) (Option.some (Jvm.ClassFile.FieldType.object "java/lang/Object")), Jvm.Cond.code ({ cls := "com/example/binward/binward/engine/BinItemEqualsPinLaw", name := "same", desc := "(II)Z" } : Jvm.MethodName) method_3_code (4 : Nat) (Option.some Jvm.ClassFile.FieldType.boolean), Jvm.Cond.code ({ cls := "com/example/binward/binward/engine/BinItem", name := "equals", desc := "(Ljava/lang/Object;)Z" } : Jvm.MethodName) prog_6_method_2_code (3 : Nat) (Option.some Jvm.ClassFile.FieldType.boolean), Jvm.Cond.code ({ cls := "java/lang/String", name := "equals", desc := "(Ljava/lang/Object;)Z" } : Jvm.MethodName) jdk_42_method_66_code (3 : Nat) (Option.some Jvm.ClassFile.FieldType.boolean), Jvm.Cond.code ({ cls := "java/lang/StringLatin1", name := "equals", desc := "([B[B)Z" } : Jvm.MethodName) jdk_43_method_13_code (3 : Nat) (Option.some Jvm.ClassFile.FieldType.boolean)]
set_option maxRecDepth 65536 in
theorem codes_eq : words1.filter isCode = codes1 := rfl
theorem w_codes : ∀ c ∈ words1.filter isCode, c.before args0 about1 = true := by
  rw [codes_eq]
  intro c hc
  simp only [codes1, List.mem_cons, List.not_mem_nil, or_false] at hc
  rcases hc with rfl | rfl | rfl | rfl | rfl | rfl | rfl | rfl | rfl | rfl | rfl | rfl | rfl | rfl | rfl
  · exact w_c0
  · exact w_c1
  · exact w_c2
  · exact w_c3
  · exact w_c4
  · exact w_c5
  · exact w_c6
  · exact w_c7
  · exact w_c8
  · exact w_c9
  · exact w_c10
  · exact w_c11
  · exact w_c12
  · exact w_c13
  · exact w_c14
set_option maxRecDepth 65536 in
theorem w_t1 : (words1.take 24).all (fun c => isCode c || c.before args0 about1) = true := by decide +kernel
set_option maxRecDepth 65536 in
theorem w_t2 : ((words1.drop 24).take 24).all (fun c => isCode c || c.before args0 about1) = true := by decide +kernel
set_option maxRecDepth 65536 in
theorem w_t3 : (((words1.drop 24).drop 24).take 24).all (fun c => isCode c || c.before args0 about1) = true := by decide +kernel
set_option maxRecDepth 65536 in
theorem w_t4 : (((words1.drop 24).drop 24).drop 24).all (fun c => isCode c || c.before args0 about1) = true := by decide +kernel
theorem w_tables : (allAtoms (Jvm.Cond.code x code maxLocals ret :: tables_1)).before args0 about1 = true := by
  rw [allAtoms_all]
  show words1.all (fun c => c.before args0 about1) = true
  refine all_split ?_ w_codes
  rw [← List.take_append_drop 24 words1, List.all_append, w_t1, ← List.take_append_drop 24 (words1.drop 24), List.all_append, w_t2, ← List.take_append_drop 24 ((words1.drop 24).drop 24), List.all_append, w_t3, w_t4]
  rfl
set_option maxRecDepth 65536 in
theorem w_rest : rest_1_c.before args0 about1 = true := by decide +kernel
set_option maxRecDepth 65536 in
theorem w_case : (Jvm.Cond.and given_1 narrow_1).before args0 about1 = true := by decide +kernel
set_option maxRecDepth 65536 in
theorem w_consts : constsHeld consts_1 about1 := Jvm.Lit.constsHeldB_iff.mp (by decide +kernel)
theorem w_applies : (headSpec (Jvm.Cond.code x code maxLocals ret :: tables_1) room_1).applies x e0.platform about1 = true :=
  (Spec.applies_iff w_frames).mpr ⟨w_running, w_runnable, w_alone, w_named, w_hears, w_ripe, w_room, w_tables⟩
theorem atStart : AtStart classFile x code maxLocals ret World_1 tables_1 room_1 Calls_1 rest_1 Pre_1 launch0 p0 e0 about1 theMethod args0 below0 :=
  ⟨lists_1, trivial, launch0.admits_env _ _ _, launch0.least_env, fairChoices_fair.cas, fairChoices_fair.clock, w_frames, w_args, w_heap, w_applies, ⟨w_consts, trivial⟩, w_rest, w_case⟩
end start1
theorem witness_1 : WitnessClaimed_1 := ⟨start1.p0, start1.e0, start1.about1, start1.theMethod, start1.args0, start1.below0, start1.atStart⟩
end Jvm.Pilot.@@N@@
