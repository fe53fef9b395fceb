import JvmDerived
import JvmDerived.Pilot.@@N@@Statement
import JvmDerived.Pilot.@@N@@Code
set_option linter.unusedVariables false
set_option linter.unusedSimpArgs false
namespace Jvm.Pilot.@@N@@
open Jvm Jvm.ClassFile Sem Op Lib Jvm.Free Jvm.Stand Jvm.LawKit Jvm.RoadKit Bundle Jvm.Pilot.@@N@@.Jvm.D
/-! OwnKit: one predicate for where a walk stands (Wk), one for what is still to be shown (Wp), and a lemma a step, in continuation form. -/
section OwnKit
variable {p : Program} {l : Launch} {e : Env} {R : Room} {s : State} {vm0 : Vm} {m : MethodId} {args : Array Value} {below : List Frame} {meth : Method} {c : Code} {Z : State} {own : String} {n0 : Nat} {B : ByteArray} {ML : Nat} {ret : Option FieldType} {T : State} {h : Heap} {locs : List Loc} {cells slots : Nat} {a0 : Array Value} {Post : Outcome → State → Prop} {pc : Nat} {L : Array Slot} {S : List Value}
/-- where a walk stands -/
def Wk (p : Program) (l : Launch) (e : Env) (R : Room) (s : State) (vm0 : Vm) (m : MethodId) (args : Array Value) (below : List Frame) (meth : Method) (c : Code) (Z : State) (own : String) (n0 : Nat) (B : ByteArray) (ML : Nat) (ret : Option FieldType) (T : State) (h : Heap) (locs : List Loc) (cells slots : Nat) : Prop :=
  Stand p l e R (s.setVm vm0) m args below meth c T locs cells slots ∧ s.Since vm0 h.size ∧ Z.Warmed39 vm0 ∧ vm0.findClass own = some m.cls ∧ T.heap = h ∧ Fr n0 locs ∧ p.tables.exec = Jvm.exec ∧ c.code = B ∧ c.maxLocals = ML ∧ meth.sig.returnType = ret ∧ meth.locks = false
/-- what is still to be shown -/
def Wp (p : Program) (e : Env) (below : List Frame) (Post : Outcome → State → Prop) (T : State) (g : JFrame) : Prop :=
  ∃ s₂ o, Steps p.tables e below (T.setTop g) s₂ ∧ s₂.status = .running ∧ Ended s₂ below o ∧ Post o s₂
theorem Wp.imp {T' : State} {g g' : JFrame} (w : Wp p e below Post T' g') (k : ∀ t, Steps p.tables e below (T'.setTop g') t → Steps p.tables e below (T.setTop g) t) : Wp p e below Post T g := by
  obtain ⟨s₂, o, h1, r⟩ := w
  exact ⟨s₂, o, k _ h1, r⟩
theorem Wk.st (W : Wk p l e R s vm0 m args below meth c Z own n0 B ML ret T h locs cells slots) : Stand p l e R (s.setVm vm0) m args below meth c T locs cells slots := W.1
theorem Wk.here (W : Wk p l e R s vm0 m args below meth c Z own n0 B ML ret T h locs cells slots) : At T m c below := W.1.here
theorem Wk.since (W : Wk p l e R s vm0 m args below meth c Z own n0 B ML ret T h locs cells slots) : s.Since vm0 h.size := W.2.1
theorem Wk.wZ (W : Wk p l e R s vm0 m args below meth c Z own n0 B ML ret T h locs cells slots) : Z.Warmed39 (s.setVm vm0).vm := W.2.2.1
theorem Wk.own' (W : Wk p l e R s vm0 m args below meth c Z own n0 B ML ret T h locs cells slots) : (s.setVm vm0).vm.findClass own = some m.cls := W.2.2.2.1
theorem Wk.heap (W : Wk p l e R s vm0 m args below meth c Z own n0 B ML ret T h locs cells slots) : T.heap = h := W.2.2.2.2.1
theorem Wk.fr (W : Wk p l e R s vm0 m args below meth c Z own n0 B ML ret T h locs cells slots) : Fr n0 locs := W.2.2.2.2.2.1
theorem Wk.exec (W : Wk p l e R s vm0 m args below meth c Z own n0 B ML ret T h locs cells slots) : p.tables.exec = Jvm.exec := W.2.2.2.2.2.2.1
theorem Wk.bytes (W : Wk p l e R s vm0 m args below meth c Z own n0 B ML ret T h locs cells slots) : c.code = B := W.2.2.2.2.2.2.2.1
theorem Wk.ml (W : Wk p l e R s vm0 m args below meth c Z own n0 B ML ret T h locs cells slots) : c.maxLocals = ML := W.2.2.2.2.2.2.2.2.1
theorem Wk.ret' (W : Wk p l e R s vm0 m args below meth c Z own n0 B ML ret T h locs cells slots) : meth.sig.returnType = ret := W.2.2.2.2.2.2.2.2.2.1
theorem Wk.lk (W : Wk p l e R s vm0 m args below meth c Z own n0 B ML ret T h locs cells slots) : meth.locks = false := W.2.2.2.2.2.2.2.2.2.2
/-- on to a later state, the tables' base as it was -/
theorem Wk.on {T' : State} {h' : Heap} {locs' : List Loc} {cells' slots' : Nat} (W : Wk p l e R s vm0 m args below meth c Z own n0 B ML ret T h locs cells slots) (X : Stand p l e R (s.setVm vm0) m args below meth c T' locs' cells' slots') (e' : T'.heap = h') (g : h.size ≤ h'.size) (N : Fr n0 locs') : Wk p l e R s vm0 m args below meth c Z own n0 B ML ret T' h' locs' cells' slots' :=
  ⟨X, ⟨W.since.1, W.since.2.mono g⟩, W.wZ, W.own', e', N, W.exec, W.bytes, W.ml, W.ret', W.lk⟩
/-- fewer cells and slots than are booked -/
theorem Wk.mono {cells' slots' : Nat} (W : Wk p l e R s vm0 m args below meth c Z own n0 B ML ret T h locs cells slots) (hc : cells ≤ cells') (hn : slots ≤ slots') : Wk p l e R s vm0 m args below meth c Z own n0 B ML ret T h locs cells' slots' := W.on (W.st.mono hc hn) W.heap (Nat.le_refl _) W.fr

theorem w_iload (W : Wk p l e R s vm0 m args below meth c Z own n0 B ML ret T h locs cells slots) {k : Nat} {v : Int32} (hd : decode B pc = .ok (.iload k, 2)) (hl : L[k]? = some (.val (.int v))) (hr : Wp p e below Post T (mkF m (pc + 2) L (.int v :: S))) : Wp p e below Post T (mkF m pc L S) :=
  hr.imp fun t q => XS.iload W.here W.exec rfl (hb W.bytes hd) hl q
theorem w_iloadN (W : Wk p l e R s vm0 m args below meth c Z own n0 B ML ret T h locs cells slots) {k : Fin 4} {v : Int32} (hd : decode B pc = .ok (.iload_n k, 1)) (hl : L[k.val]? = some (.val (.int v))) (hr : Wp p e below Post T (mkF m (pc + 1) L (.int v :: S))) : Wp p e below Post T (mkF m pc L S) :=
  hr.imp fun t q => XS.iloadN W.here W.exec rfl (hb W.bytes hd) hl q
theorem w_istore (W : Wk p l e R s vm0 m args below meth c Z own n0 B ML ret T h locs cells slots) {k : Nat} {v : Int32} {L' : Array Slot} (hd : decode B pc = .ok (.istore k, 2)) (hl : storeLocals L k (.int v) = some L') (hr : Wp p e below Post T (mkF m (pc + 2) L' S)) : Wp p e below Post T (mkF m pc L (.int v :: S)) :=
  hr.imp fun t q => XS.istore W.here W.exec rfl (hb W.bytes hd) rfl hl q
theorem w_istoreN (W : Wk p l e R s vm0 m args below meth c Z own n0 B ML ret T h locs cells slots) {k : Fin 4} {v : Int32} {L' : Array Slot} (hd : decode B pc = .ok (.istore_n k, 1)) (hl : storeLocals L k.val (.int v) = some L') (hr : Wp p e below Post T (mkF m (pc + 1) L' S)) : Wp p e below Post T (mkF m pc L (.int v :: S)) :=
  hr.imp fun t q => XS.istoreN W.here W.exec rfl (hb W.bytes hd) rfl hl q
theorem w_lload (W : Wk p l e R s vm0 m args below meth c Z own n0 B ML ret T h locs cells slots) {k : Nat} {v : Int64} (hd : decode B pc = .ok (.lload k, 2)) (hl : L[k]? = some (.val (.long v))) (hr : Wp p e below Post T (mkF m (pc + 2) L (.long v :: S))) : Wp p e below Post T (mkF m pc L S) :=
  hr.imp fun t q => XS.lload W.here W.exec rfl (hb W.bytes hd) hl q
theorem w_lloadN (W : Wk p l e R s vm0 m args below meth c Z own n0 B ML ret T h locs cells slots) {k : Fin 4} {v : Int64} (hd : decode B pc = .ok (.lload_n k, 1)) (hl : L[k.val]? = some (.val (.long v))) (hr : Wp p e below Post T (mkF m (pc + 1) L (.long v :: S))) : Wp p e below Post T (mkF m pc L S) :=
  hr.imp fun t q => XS.lloadN W.here W.exec rfl (hb W.bytes hd) hl q
theorem w_lstore (W : Wk p l e R s vm0 m args below meth c Z own n0 B ML ret T h locs cells slots) {k : Nat} {v : Int64} {L' : Array Slot} (hd : decode B pc = .ok (.lstore k, 2)) (hl : storeLocals L k (.long v) = some L') (hr : Wp p e below Post T (mkF m (pc + 2) L' S)) : Wp p e below Post T (mkF m pc L (.long v :: S)) :=
  hr.imp fun t q => XS.lstore W.here W.exec rfl (hb W.bytes hd) rfl hl q
theorem w_lstoreN (W : Wk p l e R s vm0 m args below meth c Z own n0 B ML ret T h locs cells slots) {k : Fin 4} {v : Int64} {L' : Array Slot} (hd : decode B pc = .ok (.lstore_n k, 1)) (hl : storeLocals L k.val (.long v) = some L') (hr : Wp p e below Post T (mkF m (pc + 1) L' S)) : Wp p e below Post T (mkF m pc L (.long v :: S)) :=
  hr.imp fun t q => XS.lstoreN W.here W.exec rfl (hb W.bytes hd) rfl hl q
theorem w_aload (W : Wk p l e R s vm0 m args below meth c Z own n0 B ML ret T h locs cells slots) {k : Nat} {v : Value} (hd : decode B pc = .ok (.aload k, 2)) (hl : L[k]? = some (.val v)) (hv : v.isRef = true) (hr : Wp p e below Post T (mkF m (pc + 2) L (v :: S))) : Wp p e below Post T (mkF m pc L S) :=
  hr.imp fun t q => XS.aload W.here W.exec rfl (hb W.bytes hd) hl hv q
theorem w_aloadN (W : Wk p l e R s vm0 m args below meth c Z own n0 B ML ret T h locs cells slots) {k : Fin 4} {v : Value} (hd : decode B pc = .ok (.aload_n k, 1)) (hl : L[k.val]? = some (.val v)) (hv : v.isRef = true) (hr : Wp p e below Post T (mkF m (pc + 1) L (v :: S))) : Wp p e below Post T (mkF m pc L S) :=
  hr.imp fun t q => XS.aloadN W.here W.exec rfl (hb W.bytes hd) hl hv q
theorem w_astore (W : Wk p l e R s vm0 m args below meth c Z own n0 B ML ret T h locs cells slots) {k : Nat} {v : Value} {L' : Array Slot} (hd : decode B pc = .ok (.astore k, 2)) (hv : v.isRef = true) (hl : storeLocals L k v = some L') (hr : Wp p e below Post T (mkF m (pc + 2) L' S)) : Wp p e below Post T (mkF m pc L (v :: S)) :=
  hr.imp fun t q => XS.astore W.here W.exec rfl (hb W.bytes hd) rfl hv hl q
theorem w_astoreN (W : Wk p l e R s vm0 m args below meth c Z own n0 B ML ret T h locs cells slots) {k : Fin 4} {v : Value} {L' : Array Slot} (hd : decode B pc = .ok (.astore_n k, 1)) (hv : v.isRef = true) (hl : storeLocals L k.val v = some L') (hr : Wp p e below Post T (mkF m (pc + 1) L' S)) : Wp p e below Post T (mkF m pc L (v :: S)) :=
  hr.imp fun t q => XS.astoreN W.here W.exec rfl (hb W.bytes hd) rfl hv hl q
theorem w_iconst (W : Wk p l e R s vm0 m args below meth c Z own n0 B ML ret T h locs cells slots) {i : Int} {z : Int32} (hd : decode B pc = .ok (.iconst i, 1)) (hz : Int32.ofInt i = z) (hr : Wp p e below Post T (mkF m (pc + 1) L (.int z :: S))) : Wp p e below Post T (mkF m pc L S) := by
  subst hz; exact hr.imp fun t q => XS.iconst W.here W.exec rfl (hb W.bytes hd)  q
theorem w_bipush (W : Wk p l e R s vm0 m args below meth c Z own n0 B ML ret T h locs cells slots) {i : Int} {z : Int32} (hd : decode B pc = .ok (.bipush i, 2)) (hz : (Int8.ofInt i).toInt32 = z) (hr : Wp p e below Post T (mkF m (pc + 2) L (.int z :: S))) : Wp p e below Post T (mkF m pc L S) := by
  subst hz; exact hr.imp fun t q => XS.bipush W.here W.exec rfl (hb W.bytes hd)  q
theorem w_sipush (W : Wk p l e R s vm0 m args below meth c Z own n0 B ML ret T h locs cells slots) {i : Int} {z : Int32} (hd : decode B pc = .ok (.sipush i, 3)) (hz : (Int16.ofInt i).toInt32 = z) (hr : Wp p e below Post T (mkF m (pc + 3) L (.int z :: S))) : Wp p e below Post T (mkF m pc L S) := by
  subst hz; exact hr.imp fun t q => XS.sipush W.here W.exec rfl (hb W.bytes hd)  q
theorem w_iadd (W : Wk p l e R s vm0 m args below meth c Z own n0 B ML ret T h locs cells slots) {x y : Int32} {z : Int32} (hd : decode B pc = .ok (.iadd, 1)) (hz : x + y = z) (hr : Wp p e below Post T (mkF m (pc + 1) L (.int z :: S))) : Wp p e below Post T (mkF m pc L (.int y :: .int x :: S)) := by
  subst hz; exact hr.imp fun t q => XS.iadd W.here W.exec rfl (hb W.bytes hd) rfl q
theorem w_isub (W : Wk p l e R s vm0 m args below meth c Z own n0 B ML ret T h locs cells slots) {x y : Int32} {z : Int32} (hd : decode B pc = .ok (.isub, 1)) (hz : x - y = z) (hr : Wp p e below Post T (mkF m (pc + 1) L (.int z :: S))) : Wp p e below Post T (mkF m pc L (.int y :: .int x :: S)) := by
  subst hz; exact hr.imp fun t q => XS.isub W.here W.exec rfl (hb W.bytes hd) rfl q
theorem w_imul (W : Wk p l e R s vm0 m args below meth c Z own n0 B ML ret T h locs cells slots) {x y : Int32} {z : Int32} (hd : decode B pc = .ok (.imul, 1)) (hz : x * y = z) (hr : Wp p e below Post T (mkF m (pc + 1) L (.int z :: S))) : Wp p e below Post T (mkF m pc L (.int y :: .int x :: S)) := by
  subst hz; exact hr.imp fun t q => XS.imul W.here W.exec rfl (hb W.bytes hd) rfl q
theorem w_iand (W : Wk p l e R s vm0 m args below meth c Z own n0 B ML ret T h locs cells slots) {x y : Int32} {z : Int32} (hd : decode B pc = .ok (.iand, 1)) (hz : x &&& y = z) (hr : Wp p e below Post T (mkF m (pc + 1) L (.int z :: S))) : Wp p e below Post T (mkF m pc L (.int y :: .int x :: S)) := by
  subst hz; exact hr.imp fun t q => XS.iand W.here W.exec rfl (hb W.bytes hd) rfl q
theorem w_ior (W : Wk p l e R s vm0 m args below meth c Z own n0 B ML ret T h locs cells slots) {x y : Int32} {z : Int32} (hd : decode B pc = .ok (.ior, 1)) (hz : x ||| y = z) (hr : Wp p e below Post T (mkF m (pc + 1) L (.int z :: S))) : Wp p e below Post T (mkF m pc L (.int y :: .int x :: S)) := by
  subst hz; exact hr.imp fun t q => XS.ior W.here W.exec rfl (hb W.bytes hd) rfl q
theorem w_ixor (W : Wk p l e R s vm0 m args below meth c Z own n0 B ML ret T h locs cells slots) {x y : Int32} {z : Int32} (hd : decode B pc = .ok (.ixor, 1)) (hz : x ^^^ y = z) (hr : Wp p e below Post T (mkF m (pc + 1) L (.int z :: S))) : Wp p e below Post T (mkF m pc L (.int y :: .int x :: S)) := by
  subst hz; exact hr.imp fun t q => XS.ixor W.here W.exec rfl (hb W.bytes hd) rfl q
theorem w_ladd (W : Wk p l e R s vm0 m args below meth c Z own n0 B ML ret T h locs cells slots) {x y : Int64} {z : Int64} (hd : decode B pc = .ok (.ladd, 1)) (hz : x + y = z) (hr : Wp p e below Post T (mkF m (pc + 1) L (.long z :: S))) : Wp p e below Post T (mkF m pc L (.long y :: .long x :: S)) := by
  subst hz; exact hr.imp fun t q => XS.ladd W.here W.exec rfl (hb W.bytes hd) rfl q
theorem w_lsub (W : Wk p l e R s vm0 m args below meth c Z own n0 B ML ret T h locs cells slots) {x y : Int64} {z : Int64} (hd : decode B pc = .ok (.lsub, 1)) (hz : x - y = z) (hr : Wp p e below Post T (mkF m (pc + 1) L (.long z :: S))) : Wp p e below Post T (mkF m pc L (.long y :: .long x :: S)) := by
  subst hz; exact hr.imp fun t q => XS.lsub W.here W.exec rfl (hb W.bytes hd) rfl q
theorem w_lmul (W : Wk p l e R s vm0 m args below meth c Z own n0 B ML ret T h locs cells slots) {x y : Int64} {z : Int64} (hd : decode B pc = .ok (.lmul, 1)) (hz : x * y = z) (hr : Wp p e below Post T (mkF m (pc + 1) L (.long z :: S))) : Wp p e below Post T (mkF m pc L (.long y :: .long x :: S)) := by
  subst hz; exact hr.imp fun t q => XS.lmul W.here W.exec rfl (hb W.bytes hd) rfl q
theorem w_land (W : Wk p l e R s vm0 m args below meth c Z own n0 B ML ret T h locs cells slots) {x y : Int64} {z : Int64} (hd : decode B pc = .ok (.land, 1)) (hz : x &&& y = z) (hr : Wp p e below Post T (mkF m (pc + 1) L (.long z :: S))) : Wp p e below Post T (mkF m pc L (.long y :: .long x :: S)) := by
  subst hz; exact hr.imp fun t q => XS.land W.here W.exec rfl (hb W.bytes hd) rfl q
theorem w_lor (W : Wk p l e R s vm0 m args below meth c Z own n0 B ML ret T h locs cells slots) {x y : Int64} {z : Int64} (hd : decode B pc = .ok (.lor, 1)) (hz : x ||| y = z) (hr : Wp p e below Post T (mkF m (pc + 1) L (.long z :: S))) : Wp p e below Post T (mkF m pc L (.long y :: .long x :: S)) := by
  subst hz; exact hr.imp fun t q => XS.lor W.here W.exec rfl (hb W.bytes hd) rfl q
theorem w_lxor (W : Wk p l e R s vm0 m args below meth c Z own n0 B ML ret T h locs cells slots) {x y : Int64} {z : Int64} (hd : decode B pc = .ok (.lxor, 1)) (hz : x ^^^ y = z) (hr : Wp p e below Post T (mkF m (pc + 1) L (.long z :: S))) : Wp p e below Post T (mkF m pc L (.long y :: .long x :: S)) := by
  subst hz; exact hr.imp fun t q => XS.lxor W.here W.exec rfl (hb W.bytes hd) rfl q
theorem w_ishl (W : Wk p l e R s vm0 m args below meth c Z own n0 B ML ret T h locs cells slots) {x y : Int32} {z : Int32} (hd : decode B pc = .ok (.ishl, 1)) (hz : x <<< (y &&& 31) = z) (hr : Wp p e below Post T (mkF m (pc + 1) L (.int z :: S))) : Wp p e below Post T (mkF m pc L (.int y :: .int x :: S)) := by
  subst hz; exact hr.imp fun t q => XS.ishl W.here W.exec rfl (hb W.bytes hd) rfl q
theorem w_ishr (W : Wk p l e R s vm0 m args below meth c Z own n0 B ML ret T h locs cells slots) {x y : Int32} {z : Int32} (hd : decode B pc = .ok (.ishr, 1)) (hz : x >>> (y &&& 31) = z) (hr : Wp p e below Post T (mkF m (pc + 1) L (.int z :: S))) : Wp p e below Post T (mkF m pc L (.int y :: .int x :: S)) := by
  subst hz; exact hr.imp fun t q => XS.ishr W.here W.exec rfl (hb W.bytes hd) rfl q
theorem w_iushr (W : Wk p l e R s vm0 m args below meth c Z own n0 B ML ret T h locs cells slots) {x y : Int32} {z : Int32} (hd : decode B pc = .ok (.iushr, 1)) (hz : (x.toUInt32 >>> (y &&& 31).toUInt32).toInt32 = z) (hr : Wp p e below Post T (mkF m (pc + 1) L (.int z :: S))) : Wp p e below Post T (mkF m pc L (.int y :: .int x :: S)) := by
  subst hz; exact hr.imp fun t q => XS.iushr W.here W.exec rfl (hb W.bytes hd) rfl q
theorem w_lshl (W : Wk p l e R s vm0 m args below meth c Z own n0 B ML ret T h locs cells slots) {x : Int64} {y : Int32} {z : Int64} (hd : decode B pc = .ok (.lshl, 1)) (hz : x <<< (y &&& 0x3f).toInt64 = z) (hr : Wp p e below Post T (mkF m (pc + 1) L (.long z :: S))) : Wp p e below Post T (mkF m pc L (.int y :: .long x :: S)) := by
  subst hz; exact hr.imp fun t q => XS.lshl W.here W.exec rfl (hb W.bytes hd) rfl q
theorem w_lshr (W : Wk p l e R s vm0 m args below meth c Z own n0 B ML ret T h locs cells slots) {x : Int64} {y : Int32} {z : Int64} (hd : decode B pc = .ok (.lshr, 1)) (hz : x >>> (y &&& 0x3f).toInt64 = z) (hr : Wp p e below Post T (mkF m (pc + 1) L (.long z :: S))) : Wp p e below Post T (mkF m pc L (.int y :: .long x :: S)) := by
  subst hz; exact hr.imp fun t q => XS.lshr W.here W.exec rfl (hb W.bytes hd) rfl q
theorem w_lushr (W : Wk p l e R s vm0 m args below meth c Z own n0 B ML ret T h locs cells slots) {x : Int64} {y : Int32} {z : Int64} (hd : decode B pc = .ok (.lushr, 1)) (hz : (x.toUInt64 >>> (y &&& 0x3f).toInt64.toUInt64).toInt64 = z) (hr : Wp p e below Post T (mkF m (pc + 1) L (.long z :: S))) : Wp p e below Post T (mkF m pc L (.int y :: .long x :: S)) := by
  subst hz; exact hr.imp fun t q => XS.lushr W.here W.exec rfl (hb W.bytes hd) rfl q
theorem w_ineg (W : Wk p l e R s vm0 m args below meth c Z own n0 B ML ret T h locs cells slots) {x : Int32} {z : Int32} (hd : decode B pc = .ok (.ineg, 1)) (hz : -x = z) (hr : Wp p e below Post T (mkF m (pc + 1) L (.int z :: S))) : Wp p e below Post T (mkF m pc L (.int x :: S)) := by
  subst hz; exact hr.imp fun t q => XS.ineg W.here W.exec rfl (hb W.bytes hd) rfl q
theorem w_lneg (W : Wk p l e R s vm0 m args below meth c Z own n0 B ML ret T h locs cells slots) {x : Int64} {z : Int64} (hd : decode B pc = .ok (.lneg, 1)) (hz : -x = z) (hr : Wp p e below Post T (mkF m (pc + 1) L (.long z :: S))) : Wp p e below Post T (mkF m pc L (.long x :: S)) := by
  subst hz; exact hr.imp fun t q => XS.lneg W.here W.exec rfl (hb W.bytes hd) rfl q
theorem w_i2l (W : Wk p l e R s vm0 m args below meth c Z own n0 B ML ret T h locs cells slots) {x : Int32} {z : Int64} (hd : decode B pc = .ok (.i2l, 1)) (hz : x.toInt64 = z) (hr : Wp p e below Post T (mkF m (pc + 1) L (.long z :: S))) : Wp p e below Post T (mkF m pc L (.int x :: S)) := by
  subst hz; exact hr.imp fun t q => XS.i2l W.here W.exec rfl (hb W.bytes hd) rfl q
theorem w_l2i (W : Wk p l e R s vm0 m args below meth c Z own n0 B ML ret T h locs cells slots) {x : Int64} {z : Int32} (hd : decode B pc = .ok (.l2i, 1)) (hz : x.toInt32 = z) (hr : Wp p e below Post T (mkF m (pc + 1) L (.int z :: S))) : Wp p e below Post T (mkF m pc L (.long x :: S)) := by
  subst hz; exact hr.imp fun t q => XS.l2i W.here W.exec rfl (hb W.bytes hd) rfl q
theorem w_i2b (W : Wk p l e R s vm0 m args below meth c Z own n0 B ML ret T h locs cells slots) {x : Int32} {z : Int32} (hd : decode B pc = .ok (.i2b, 1)) (hz : x.toInt8.toInt32 = z) (hr : Wp p e below Post T (mkF m (pc + 1) L (.int z :: S))) : Wp p e below Post T (mkF m pc L (.int x :: S)) := by
  subst hz; exact hr.imp fun t q => XS.i2b W.here W.exec rfl (hb W.bytes hd) rfl q
theorem w_i2c (W : Wk p l e R s vm0 m args below meth c Z own n0 B ML ret T h locs cells slots) {x : Int32} {z : Int32} (hd : decode B pc = .ok (.i2c, 1)) (hz : x.toUInt32.toUInt16.toUInt32.toInt32 = z) (hr : Wp p e below Post T (mkF m (pc + 1) L (.int z :: S))) : Wp p e below Post T (mkF m pc L (.int x :: S)) := by
  subst hz; exact hr.imp fun t q => XS.i2c W.here W.exec rfl (hb W.bytes hd) rfl q
theorem w_i2s (W : Wk p l e R s vm0 m args below meth c Z own n0 B ML ret T h locs cells slots) {x : Int32} {z : Int32} (hd : decode B pc = .ok (.i2s, 1)) (hz : x.toInt16.toInt32 = z) (hr : Wp p e below Post T (mkF m (pc + 1) L (.int z :: S))) : Wp p e below Post T (mkF m pc L (.int x :: S)) := by
  subst hz; exact hr.imp fun t q => XS.i2s W.here W.exec rfl (hb W.bytes hd) rfl q
theorem w_lcmp (W : Wk p l e R s vm0 m args below meth c Z own n0 B ML ret T h locs cells slots) {x y : Int64} {z : Int32} (hd : decode B pc = .ok (.lcmp, 1)) (hz : lcmpW x y = z) (hr : Wp p e below Post T (mkF m (pc + 1) L (.int z :: S))) : Wp p e below Post T (mkF m pc L (.long y :: .long x :: S)) := by
  subst hz; exact hr.imp fun t q => XS.lcmp W.here W.exec rfl (hb W.bytes hd) rfl q
theorem w_idiv (W : Wk p l e R s vm0 m args below meth c Z own n0 B ML ret T h locs cells slots) {x y : Int32} {z : Int32} (hd : decode B pc = .ok (.idiv, 1)) (hy : y ≠ 0) (hz : x / y = z) (hr : Wp p e below Post T (mkF m (pc + 1) L (.int z :: S))) : Wp p e below Post T (mkF m pc L (.int y :: .int x :: S)) := by
  subst hz; exact hr.imp fun t q => XS.idiv W.here W.exec rfl (hb W.bytes hd) rfl hy q
theorem w_irem (W : Wk p l e R s vm0 m args below meth c Z own n0 B ML ret T h locs cells slots) {x y z : Int32} (hd : decode B pc = .ok (.irem, 1)) (hy : y ≠ 0) (hz : x % y = z) (hr : Wp p e below Post T (mkF m (pc + 1) L (.int z :: S))) : Wp p e below Post T (mkF m pc L (.int y :: .int x :: S)) := by
  subst hz; exact hr.imp fun t q => iremM W.st W.exec rfl (hb W.bytes hd) rfl hy q
theorem w_lconst (W : Wk p l e R s vm0 m args below meth c Z own n0 B ML ret T h locs cells slots) {k : Fin 2} {z : Int64} (hd : decode B pc = .ok (.lconst k, 1)) (hz : (Int64.ofNat k.val) = z) (hr : Wp p e below Post T (mkF m (pc + 1) L (.long z :: S))) : Wp p e below Post T (mkF m pc L S) := by
  subst hz; exact hr.imp fun t q => XS.lconst W.here W.exec rfl (hb W.bytes hd) q
theorem w_aconstNull (W : Wk p l e R s vm0 m args below meth c Z own n0 B ML ret T h locs cells slots)  (hd : decode B pc = .ok (.aconst_null, 1)) (hr : Wp p e below Post T (mkF m (pc + 1) L (.null :: S))) : Wp p e below Post T (mkF m pc L S) :=
  hr.imp fun t q => XS.aconstNull W.here W.exec rfl (hb W.bytes hd)  q
theorem w_dup (W : Wk p l e R s vm0 m args below meth c Z own n0 B ML ret T h locs cells slots) {v : Value} (hd : decode B pc = .ok (.dup, 1)) (hc : v.category = 1) (hr : Wp p e below Post T (mkF m (pc + 1) L (v :: v :: S))) : Wp p e below Post T (mkF m pc L (v :: S)) :=
  hr.imp fun t q => XS.dup W.here W.exec rfl (hb W.bytes hd) rfl hc q
theorem w_pop (W : Wk p l e R s vm0 m args below meth c Z own n0 B ML ret T h locs cells slots) {v : Value} (hd : decode B pc = .ok (.pop, 1)) (hc : v.category = 1) (hr : Wp p e below Post T (mkF m (pc + 1) L S)) : Wp p e below Post T (mkF m pc L (v :: S)) :=
  hr.imp fun t q => XS.pop W.here W.exec rfl (hb W.bytes hd) rfl hc q
theorem w_dupX1 (W : Wk p l e R s vm0 m args below meth c Z own n0 B ML ret T h locs cells slots) {v w : Value} (hd : decode B pc = .ok (.dup_x1, 1)) (hc : v.category = 1) (hc' : w.category = 1) (hr : Wp p e below Post T (mkF m (pc + 1) L (v :: w :: v :: S))) : Wp p e below Post T (mkF m pc L (v :: w :: S)) :=
  hr.imp fun t q => XS.dupX1 W.here W.exec rfl (hb W.bytes hd) rfl hc hc' q
theorem w_dup2 (W : Wk p l e R s vm0 m args below meth c Z own n0 B ML ret T h locs cells slots) {v w : Value} (hd : decode B pc = .ok (.dup2, 1)) (hc : v.category = 1) (hc' : w.category = 1) (hr : Wp p e below Post T (mkF m (pc + 1) L (v :: w :: v :: w :: S))) : Wp p e below Post T (mkF m pc L (v :: w :: S)) :=
  hr.imp fun t q => XT.dup2 W.here W.exec rfl (hb W.bytes hd) rfl hc hc' q
theorem w_iinc (W : Wk p l e R s vm0 m args below meth c Z own n0 B ML ret T h locs cells slots) {k : Nat} {cst : Int} {x z : Int32} {L' : Array Slot} (hd : decode B pc = .ok (.iinc k cst, 3)) (hl : L[k]? = some (.val (.int x))) (hz : x + Int32.ofInt cst = z) (hl' : storeLocals L k (.int z) = some L') (hr : Wp p e below Post T (mkF m (pc + 3) L' S)) : Wp p e below Post T (mkF m pc L S) := by
  subst hz; exact hr.imp fun t q => XS.iinc W.here W.exec rfl (hb W.bytes hd) hl hl' q
theorem w_goto (W : Wk p l e R s vm0 m args below meth c Z own n0 B ML ret T h locs cells slots) {o : Int} {pc' : Nat} (hd : decode B pc = .ok (.goto o, 3)) (hp : (pc : Int) + o = (pc' : Int)) (hr : Wp p e below Post T (mkF m pc' L S)) : Wp p e below Post T (mkF m pc L S) :=
  hr.imp fun t q => XS.goto W.here W.exec rfl (pc0 := pc) rfl (hb W.bytes hd) (by omega) (by omega) q
theorem w_icmpeq (W : Wk p l e R s vm0 m args below meth c Z own n0 B ML ret T h locs cells slots) {x y : Int32} {o : Int} {pc' : Nat} (hd : decode B pc = .ok (.if_icmp .eq o, 3)) (hp : (pc : Int) + o = (pc' : Int)) (k1 : x = y → Wp p e below Post T (mkF m pc' L S)) (k2 : ¬ (x = y) → Wp p e below Post T (mkF m (pc + 3) L S)) : Wp p e below Post T (mkF m pc L (.int y :: .int x :: S)) := by
  by_cases hq : x = y
  · exact (k1 hq).imp fun t q => XS.icmpYes W.here W.exec rfl (pc0 := pc) rfl (hb W.bytes hd) rfl (teq hq).1 (by omega) (by omega) q
  · exact (k2 hq).imp fun t q => XS.icmpNo W.here W.exec rfl (hb W.bytes hd) rfl (feq hq).1 q
theorem w_ifeq (W : Wk p l e R s vm0 m args below meth c Z own n0 B ML ret T h locs cells slots) {x : Int32} {o : Int} {pc' : Nat} (hd : decode B pc = .ok (.ifCond .eq o, 3)) (hp : (pc : Int) + o = (pc' : Int)) (k1 : x = 0 → Wp p e below Post T (mkF m pc' L S)) (k2 : ¬ (x = 0) → Wp p e below Post T (mkF m (pc + 3) L S)) : Wp p e below Post T (mkF m pc L (.int x :: S)) := by
  by_cases hq : x = 0
  · exact (k1 hq).imp fun t q => XS.ifYes W.here W.exec rfl (pc0 := pc) rfl (hb W.bytes hd) rfl ((if0 _ _).trans (teq hq).1) (by omega) (by omega) q
  · exact (k2 hq).imp fun t q => XS.ifNo W.here W.exec rfl (hb W.bytes hd) rfl ((if0 _ _).trans (feq hq).1) q
theorem w_icmpne (W : Wk p l e R s vm0 m args below meth c Z own n0 B ML ret T h locs cells slots) {x y : Int32} {o : Int} {pc' : Nat} (hd : decode B pc = .ok (.if_icmp .ne o, 3)) (hp : (pc : Int) + o = (pc' : Int)) (k1 : ¬ (x = y) → Wp p e below Post T (mkF m pc' L S)) (k2 : x = y → Wp p e below Post T (mkF m (pc + 3) L S)) : Wp p e below Post T (mkF m pc L (.int y :: .int x :: S)) := by
  by_cases hq : x = y
  · exact (k2 hq).imp fun t q => XS.icmpNo W.here W.exec rfl (hb W.bytes hd) rfl (teq hq).2 q
  · exact (k1 hq).imp fun t q => XS.icmpYes W.here W.exec rfl (pc0 := pc) rfl (hb W.bytes hd) rfl (feq hq).2 (by omega) (by omega) q
theorem w_ifne (W : Wk p l e R s vm0 m args below meth c Z own n0 B ML ret T h locs cells slots) {x : Int32} {o : Int} {pc' : Nat} (hd : decode B pc = .ok (.ifCond .ne o, 3)) (hp : (pc : Int) + o = (pc' : Int)) (k1 : ¬ (x = 0) → Wp p e below Post T (mkF m pc' L S)) (k2 : x = 0 → Wp p e below Post T (mkF m (pc + 3) L S)) : Wp p e below Post T (mkF m pc L (.int x :: S)) := by
  by_cases hq : x = 0
  · exact (k2 hq).imp fun t q => XS.ifNo W.here W.exec rfl (hb W.bytes hd) rfl ((if0 _ _).trans (teq hq).2) q
  · exact (k1 hq).imp fun t q => XS.ifYes W.here W.exec rfl (pc0 := pc) rfl (hb W.bytes hd) rfl ((if0 _ _).trans (feq hq).2) (by omega) (by omega) q
theorem w_icmplt (W : Wk p l e R s vm0 m args below meth c Z own n0 B ML ret T h locs cells slots) {x y : Int32} {o : Int} {pc' : Nat} (hd : decode B pc = .ok (.if_icmp .lt o, 3)) (hp : (pc : Int) + o = (pc' : Int)) (k1 : x < y → Wp p e below Post T (mkF m pc' L S)) (k2 : ¬ (x < y) → Wp p e below Post T (mkF m (pc + 3) L S)) : Wp p e below Post T (mkF m pc L (.int y :: .int x :: S)) := by
  by_cases hq : x < y
  · exact (k1 hq).imp fun t q => XS.icmpYes W.here W.exec rfl (pc0 := pc) rfl (hb W.bytes hd) rfl (tlt hq).1 (by omega) (by omega) q
  · exact (k2 hq).imp fun t q => XS.icmpNo W.here W.exec rfl (hb W.bytes hd) rfl (flt hq).1 q
theorem w_iflt (W : Wk p l e R s vm0 m args below meth c Z own n0 B ML ret T h locs cells slots) {x : Int32} {o : Int} {pc' : Nat} (hd : decode B pc = .ok (.ifCond .lt o, 3)) (hp : (pc : Int) + o = (pc' : Int)) (k1 : x < 0 → Wp p e below Post T (mkF m pc' L S)) (k2 : ¬ (x < 0) → Wp p e below Post T (mkF m (pc + 3) L S)) : Wp p e below Post T (mkF m pc L (.int x :: S)) := by
  by_cases hq : x < 0
  · exact (k1 hq).imp fun t q => XS.ifYes W.here W.exec rfl (pc0 := pc) rfl (hb W.bytes hd) rfl ((if0 _ _).trans (tlt hq).1) (by omega) (by omega) q
  · exact (k2 hq).imp fun t q => XS.ifNo W.here W.exec rfl (hb W.bytes hd) rfl ((if0 _ _).trans (flt hq).1) q
theorem w_icmpge (W : Wk p l e R s vm0 m args below meth c Z own n0 B ML ret T h locs cells slots) {x y : Int32} {o : Int} {pc' : Nat} (hd : decode B pc = .ok (.if_icmp .ge o, 3)) (hp : (pc : Int) + o = (pc' : Int)) (k1 : ¬ (x < y) → Wp p e below Post T (mkF m pc' L S)) (k2 : x < y → Wp p e below Post T (mkF m (pc + 3) L S)) : Wp p e below Post T (mkF m pc L (.int y :: .int x :: S)) := by
  by_cases hq : x < y
  · exact (k2 hq).imp fun t q => XS.icmpNo W.here W.exec rfl (hb W.bytes hd) rfl (tlt hq).2.1 q
  · exact (k1 hq).imp fun t q => XS.icmpYes W.here W.exec rfl (pc0 := pc) rfl (hb W.bytes hd) rfl (flt hq).2.1 (by omega) (by omega) q
theorem w_ifge (W : Wk p l e R s vm0 m args below meth c Z own n0 B ML ret T h locs cells slots) {x : Int32} {o : Int} {pc' : Nat} (hd : decode B pc = .ok (.ifCond .ge o, 3)) (hp : (pc : Int) + o = (pc' : Int)) (k1 : ¬ (x < 0) → Wp p e below Post T (mkF m pc' L S)) (k2 : x < 0 → Wp p e below Post T (mkF m (pc + 3) L S)) : Wp p e below Post T (mkF m pc L (.int x :: S)) := by
  by_cases hq : x < 0
  · exact (k2 hq).imp fun t q => XS.ifNo W.here W.exec rfl (hb W.bytes hd) rfl ((if0 _ _).trans (tlt hq).2.1) q
  · exact (k1 hq).imp fun t q => XS.ifYes W.here W.exec rfl (pc0 := pc) rfl (hb W.bytes hd) rfl ((if0 _ _).trans (flt hq).2.1) (by omega) (by omega) q
theorem w_icmpgt (W : Wk p l e R s vm0 m args below meth c Z own n0 B ML ret T h locs cells slots) {x y : Int32} {o : Int} {pc' : Nat} (hd : decode B pc = .ok (.if_icmp .gt o, 3)) (hp : (pc : Int) + o = (pc' : Int)) (k1 : y < x → Wp p e below Post T (mkF m pc' L S)) (k2 : ¬ (y < x) → Wp p e below Post T (mkF m (pc + 3) L S)) : Wp p e below Post T (mkF m pc L (.int y :: .int x :: S)) := by
  by_cases hq : y < x
  · exact (k1 hq).imp fun t q => XS.icmpYes W.here W.exec rfl (pc0 := pc) rfl (hb W.bytes hd) rfl (tlt hq).2.2.1 (by omega) (by omega) q
  · exact (k2 hq).imp fun t q => XS.icmpNo W.here W.exec rfl (hb W.bytes hd) rfl (flt hq).2.2.1 q
theorem w_ifgt (W : Wk p l e R s vm0 m args below meth c Z own n0 B ML ret T h locs cells slots) {x : Int32} {o : Int} {pc' : Nat} (hd : decode B pc = .ok (.ifCond .gt o, 3)) (hp : (pc : Int) + o = (pc' : Int)) (k1 : 0 < x → Wp p e below Post T (mkF m pc' L S)) (k2 : ¬ (0 < x) → Wp p e below Post T (mkF m (pc + 3) L S)) : Wp p e below Post T (mkF m pc L (.int x :: S)) := by
  by_cases hq : 0 < x
  · exact (k1 hq).imp fun t q => XS.ifYes W.here W.exec rfl (pc0 := pc) rfl (hb W.bytes hd) rfl ((if0 _ _).trans (tlt hq).2.2.1) (by omega) (by omega) q
  · exact (k2 hq).imp fun t q => XS.ifNo W.here W.exec rfl (hb W.bytes hd) rfl ((if0 _ _).trans (flt hq).2.2.1) q
theorem w_icmple (W : Wk p l e R s vm0 m args below meth c Z own n0 B ML ret T h locs cells slots) {x y : Int32} {o : Int} {pc' : Nat} (hd : decode B pc = .ok (.if_icmp .le o, 3)) (hp : (pc : Int) + o = (pc' : Int)) (k1 : ¬ (y < x) → Wp p e below Post T (mkF m pc' L S)) (k2 : y < x → Wp p e below Post T (mkF m (pc + 3) L S)) : Wp p e below Post T (mkF m pc L (.int y :: .int x :: S)) := by
  by_cases hq : y < x
  · exact (k2 hq).imp fun t q => XS.icmpNo W.here W.exec rfl (hb W.bytes hd) rfl (tlt hq).2.2.2 q
  · exact (k1 hq).imp fun t q => XS.icmpYes W.here W.exec rfl (pc0 := pc) rfl (hb W.bytes hd) rfl (flt hq).2.2.2 (by omega) (by omega) q
theorem w_ifle (W : Wk p l e R s vm0 m args below meth c Z own n0 B ML ret T h locs cells slots) {x : Int32} {o : Int} {pc' : Nat} (hd : decode B pc = .ok (.ifCond .le o, 3)) (hp : (pc : Int) + o = (pc' : Int)) (k1 : ¬ (0 < x) → Wp p e below Post T (mkF m pc' L S)) (k2 : 0 < x → Wp p e below Post T (mkF m (pc + 3) L S)) : Wp p e below Post T (mkF m pc L (.int x :: S)) := by
  by_cases hq : 0 < x
  · exact (k2 hq).imp fun t q => XS.ifNo W.here W.exec rfl (hb W.bytes hd) rfl ((if0 _ _).trans (tlt hq).2.2.2) q
  · exact (k1 hq).imp fun t q => XS.ifYes W.here W.exec rfl (pc0 := pc) rfl (hb W.bytes hd) rfl ((if0 _ _).trans (flt hq).2.2.2) (by omega) (by omega) q
theorem w_ifnullY (W : Wk p l e R s vm0 m args below meth c Z own n0 B ML ret T h locs cells slots) {b : Addr} {o : Int} {pc' : Nat} (hd : decode B pc = .ok (.ifnull o, 3)) (hp : (pc : Int) + o = (pc' : Int)) (hr : Wp p e below Post T (mkF m pc' L S)) : Wp p e below Post T (mkF m pc L (.null :: S)) :=
  hr.imp fun t q => XS.ifnullYes W.here W.exec rfl (pc0 := pc) rfl (hb W.bytes hd) rfl (by omega) (by omega) q
theorem w_ifnullN (W : Wk p l e R s vm0 m args below meth c Z own n0 B ML ret T h locs cells slots) {b : Addr} {o : Int} (hd : decode B pc = .ok (.ifnull o, 3)) (hr : Wp p e below Post T (mkF m (pc + 3) L S)) : Wp p e below Post T (mkF m pc L (.ref b :: S)) :=
  hr.imp fun t q => XS.ifnullNo W.here W.exec rfl (hb W.bytes hd) rfl q
theorem w_ifnonnullY (W : Wk p l e R s vm0 m args below meth c Z own n0 B ML ret T h locs cells slots) {b : Addr} {o : Int} {pc' : Nat} (hd : decode B pc = .ok (.ifnonnull o, 3)) (hp : (pc : Int) + o = (pc' : Int)) (hr : Wp p e below Post T (mkF m pc' L S)) : Wp p e below Post T (mkF m pc L (.ref b :: S)) :=
  hr.imp fun t q => XS.ifnonnullYes W.here W.exec rfl (pc0 := pc) rfl (hb W.bytes hd) rfl (by omega) (by omega) q
theorem w_ifnonnullN (W : Wk p l e R s vm0 m args below meth c Z own n0 B ML ret T h locs cells slots) {b : Addr} {o : Int} (hd : decode B pc = .ok (.ifnonnull o, 3)) (hr : Wp p e below Post T (mkF m (pc + 3) L S)) : Wp p e below Post T (mkF m pc L (.null :: S)) :=
  hr.imp fun t q => XS.ifnonnullNo W.here W.exec rfl (hb W.bytes hd) rfl q
theorem w_acmp (W : Wk p l e R s vm0 m args below meth c Z own n0 B ML ret T h locs cells slots) {cd : ACond} {x y : Value} {o : Int} {pc' : Nat} (same : Bool) (h1 : x.isRef = true) (h2 : y.isRef = true) (hd : decode B pc = .ok (.if_acmp cd o, 3)) (hq : decide (x = y) = same) (ho : 0 ≤ (pc : Int) + o) (hp : pc' = if acV cd same = true then ((pc : Int) + o).toNat else pc + 3) (hr : Wp p e below Post T (mkF m pc' L S)) : Wp p e below Post T (mkF m pc L (y :: x :: S)) :=
  hr.imp fun t q => Jvm.RoadKit.acmp (g := mkF m pc L (y :: x :: S)) W.st W.exec rfl h1 h2 (pc0 := pc) rfl (hb W.bytes hd) rfl hq ho hp q
theorem w_ldcI (W : Wk p l e R s vm0 m args below meth c Z own n0 B ML ret T h locs cells slots) {index : Nat} {v : Int32} (w : (Jvm.Cond.constant own index v).before a0 Z = true) (hd : decode B pc = .ok (.ldc index, 2)) (hr : Wp p e below Post T (mkF m (pc + 2) L (.int v :: S))) : Wp p e below Post T (mkF m pc L S) :=
  hr.imp fun t q => W.st.ldcInt W.exec W.own' (mvT W.wZ w) (g := mkF m pc L S) rfl (hb W.bytes hd) t q
theorem w_ldc2L (W : Wk p l e R s vm0 m args below meth c Z own n0 B ML ret T h locs cells slots) {index : Nat} {v : Int64} (w : (Jvm.Cond.constantLong own index v).before a0 Z = true) (hd : decode B pc = .ok (.ldc2_w index, 3)) (hr : Wp p e below Post T (mkF m (pc + 3) L (.long v :: S))) : Wp p e below Post T (mkF m pc L S) :=
  hr.imp fun t q => W.st.ldc2Long W.exec W.own' (mvT W.wZ w) (g := mkF m pc L S) rfl (hb W.bytes hd) t q
/-! the ends -/
/-- what a body that interns nothing leaves -/
def PoN (n0 : Nat) (s : State) (kc ks : Nat) (Q : Option Value → Heap → Prop) (o : Outcome) (t : State) : Prop := ∃ v Ls, o = .returned v ∧ (Q v t.heap ∧ Fr n0 Ls) ∧ FrameEnd s o t Ls kc ks
theorem endN {kc ks : Nat} {Q : Option Value → Heap → Prop} (W : Wk p l e R s s.vm m args below meth c Z own n0 B ML ret T h locs cells slots) {v : Option Value} {g : JFrame} (hv : ret = none → v = none) (hc : cells ≤ kc) (hk : slots ≤ ks) (hq : Q v h)
    (k : ∀ fs, (∀ (f : JFrame) (acts : List Action), f.method = m → f.locked = none → f.entered = [] → (doReturn e (T.setTop f) acts v).1 = T.setFrames fs) → Steps p.tables e below (T.setTop g) (T.setFrames fs)) : Wp p e below (PoN n0 s kc ks Q) T g := by
  have hlk := W.lk
  obtain ⟨fs, hr, hrun, hended, hW, hsame⟩ := W.st.leave (v := v) (fun q => hv (W.ret'.symm.trans q))
  have hh : (T.setFrames fs).heap = h := W.heap
  exact ⟨_, _, k fs hr, hrun, hended, v, locs, rfl, ⟨by rw [hh]; exact hq, W.fr⟩, ⟨_, rfl⟩, hW, hsame.mono hc hk⟩
theorem rV (W : Wk p l e R s vm0 m args below meth c Z own n0 B ML ret T h locs cells slots) (hret : ret = none) (hd : decode B pc = .ok (.return_, 1)) {fs : List Frame} (hr : ∀ (f : JFrame) (acts : List Action), f.method = m → f.locked = none → f.entered = [] → (doReturn e (T.setTop f) acts none).1 = T.setFrames fs) : Steps p.tables e below (T.setTop (mkF m pc L [])) (T.setFrames fs) :=
  W.st.returnOut W.exec (W.ret'.trans hret) (hb W.bytes hd) hr
theorem rI {z : Int32} (W : Wk p l e R s vm0 m args below meth c Z own n0 B ML ret T h locs cells slots) (hret : ret = some .int) (hd : decode B pc = .ok (.ireturn, 1)) {fs : List Frame} (hr : ∀ (f : JFrame) (acts : List Action), f.method = m → f.locked = none → f.entered = [] → (doReturn e (T.setTop f) acts (some (.int z))).1 = T.setFrames fs) : Steps p.tables e below (T.setTop (mkF m pc L (.int z :: S))) (T.setFrames fs) :=
  retOut W.st W.exec (W.ret'.trans hret) rfl (Or.inl ⟨rfl, Or.inl rfl, z, rfl⟩) (hb W.bytes hd) hr
theorem rL {z : Int64} (W : Wk p l e R s vm0 m args below meth c Z own n0 B ML ret T h locs cells slots) (hret : ret = some .long) (hd : decode B pc = .ok (.lreturn, 1)) {fs : List Frame} (hr : ∀ (f : JFrame) (acts : List Action), f.method = m → f.locked = none → f.entered = [] → (doReturn e (T.setTop f) acts (some (.long z))).1 = T.setFrames fs) : Steps p.tables e below (T.setTop (mkF m pc L (.long z :: S))) (T.setFrames fs) :=
  retOut W.st W.exec (W.ret'.trans hret) rfl (Or.inr (Or.inl ⟨rfl, rfl, z, rfl⟩)) (hb W.bytes hd) hr
theorem rA {v : Value} {t : FieldType} (W : Wk p l e R s vm0 m args below meth c Z own n0 B ML ret T h locs cells slots) (hret : ret = some t) (ht : t.isReference = true) (hv : v.isRef = true) (hd : decode B pc = .ok (.areturn, 1)) {fs : List Frame} (hr : ∀ (f : JFrame) (acts : List Action), f.method = m → f.locked = none → f.entered = [] → (doReturn e (T.setTop f) acts (some v)).1 = T.setFrames fs) : Steps p.tables e below (T.setTop (mkF m pc L (v :: S))) (T.setFrames fs) :=
  retOut W.st W.exec (W.ret'.trans hret) (by cases v <;> cases t <;> first | rfl | (simp [Value.isRef] at hv) | (simp [FieldType.isReference] at ht)) (Or.inr (Or.inr (Or.inr (Or.inr ⟨rfl, ht, hv⟩)))) (hb W.bytes hd) hr
theorem rN {z z' : Int32} {t : FieldType} (W : Wk p l e R s vm0 m args below meth c Z own n0 B ML ret T h locs cells slots) (hret : ret = some t) (ht : t = .boolean ∨ t = .byte ∨ t = .char ∨ t = .short) (hz : nar t z = z') (hd : decode B pc = .ok (.ireturn, 1)) {fs : List Frame} (hr : ∀ (f : JFrame) (acts : List Action), f.method = m → f.locked = none → f.entered = [] → (doReturn e (T.setTop f) acts (some (.int z'))).1 = T.setFrames fs) : Steps p.tables e below (T.setTop (mkF m pc L (.int z :: S))) (T.setFrames fs) := by
  subst hz; exact retN W.st W.exec (W.ret'.trans hret) ht (hb W.bytes hd) hr
/-! a contract of a body that interns nothing; its entry; a call by it -/
def CtN (l : Launch) (Z : State) (y : MethodName) (B : ByteArray) (ML : Nat) (ret : Option FieldType) (rm : Room) (n0 : Nat) (as : Array Value) (h : Heap) (Q : Option Value → Heap → Prop) : Prop :=
  ∀ ws : List Jvm.Cond, MetFree l y (head1 (Jvm.Cond.code y B ML ret :: ws) rm) (fun a U => a = as ∧ Z.Warmed39 U.vm ∧ U.heap = h) (fun _ _ _ _ _ => True) (fun _ U o U' => ∃ v Ls, o = .returned v ∧ (Q v U'.heap ∧ Fr n0 Ls) ∧ FrameEnd U o U' Ls rm.cells rm.slots)
theorem CtN.of {y : MethodName} {rm : Room} {as : Array Value} {Q : Option Value → Heap → Prop} (hpl : plainFor y = true)
    (k : ∀ p e s m below meth c T, Wk p l e rm s s.vm m as below meth c Z y.cls n0 B ML ret T h [] 0 0 → meth.name = y.name → Wp p e below (PoN n0 s rm.cells rm.slots Q) T (entryFrame m as ML)) : CtN l Z y B ML ret rm n0 as h Q := by
  intro ws
  refine MetFree.of_bodySF hpl hisR ?_
  intro p e s m args below meth c s₁ Bd hml0 hP hK
  obtain ⟨rfl, hZ, hh⟩ := hP
  have hown : s.vm.findClass y.cls = some m.cls := findClass_of_methodNamed Bd.named
  have hnm := (name_of_methodNamed Bd.named Bd.method).1
  have X0 : Stand p l e rm s m args below meth c s₁ [] 0 0 := Stand.of_body Bd
  have e0 : s₁.heap = h := by rw [← hh, Bd.state]; rfl
  exact k p e s m below meth c s₁ ⟨X0, (State.WarmedH.refl s).since h.size, hZ, hown, e0, Fr.nil n0, Bd.exec, Bd.bytes, hml0, Bd.returns, Bd.notSynchronized⟩ hnm
theorem CtN.grow {y : MethodName} {rm : Room} {as : Array Value} {Q : Option Value → Heap → Prop} (C : CtN l Z y B ML ret rm n0 as h Q) : CtN l Z y B ML ret rm n0 as h (fun v h' => Q v h' ∧ h.size ≤ h'.size) := by
  intro ws p e ha hc hk s m args below hf happ hP hK
  obtain ⟨n, o, h1, h2, h3, v, Ls, e1, ⟨q1, q2⟩, fe⟩ := C ws p e ha hc hk s m args below hf happ hP hK
  exact ⟨n, o, h1, h2, h3, v, Ls, e1, ⟨⟨q1, by rw [← hP.2.2]; exact fe.2.2.2.1⟩, q2⟩, fe⟩
theorem CtN.imp {y : MethodName} {rm : Room} {as : Array Value} {Q Q' : Option Value → Heap → Prop} (C : CtN l Z y B ML ret rm n0 as h Q) (k : ∀ v h', Q v h' → Q' v h') : CtN l Z y B ML ret rm n0 as h Q' := by
  intro ws p e ha hc hk s m args below hf happ hP hK
  obtain ⟨n, o, h1, h2, h3, v, Ls, e1, ⟨q1, q2⟩, fe⟩ := C ws p e ha hc hk s m args below hf happ hP hK
  exact ⟨n, o, h1, h2, h3, v, Ls, e1, ⟨k _ _ q1, q2⟩, fe⟩
theorem w_callS {y : MethodName} {yB : ByteArray} {yML : Nat} {yret : Option FieldType} {rm : Room} {as : Array Value} {Q : Option Value → Heap → Prop} (W : Wk p l e R s vm0 m args below meth c Z own n0 B ML ret T h locs cells slots) {index : Nat} (C : CtN l Z y yB yML yret rm n0 as h Q)
    (w1 : (Jvm.Cond.methodLink own index y).before a0 Z = true) (w2 : (Jvm.Cond.static y).before a0 Z = true) (w3 : (Jvm.Cond.initialized y.cls).before a0 Z = true) (w4 : (Jvm.Cond.code y yB yML yret).before a0 Z = true)
    (hy : y.cls ≠ "java/lang/invoke/MethodHandle" ∧ y.cls ≠ "java/lang/invoke/VarHandle") (Wd : Nat) (hf : rm.frames + 1 ≤ R.frames) (hl : Wd + (yML + 11) + rm.locals ≤ R.locals) (hc : cells + rm.cells ≤ R.cells) (hs : slots + rm.slots ≤ R.slots)
    {argsL rest : List Value} {ps : List FieldType} {r : Option FieldType} (hpd : parseMethodDescriptor y.desc = some ⟨ps, r⟩) (hlen : argsL.length = ps.length) (has : as = argsL.toArray) (hS : S = argsL.reverse ++ rest) (hW : (rest.map fun v => v.category).sum = Wd) (hL : L.size = ML)
    (hd : decode B pc = .ok (.invokestatic index, 3))
    (k : ∀ T' h' locs' v, Wk p l e R s vm0 m args below meth c Z own n0 B ML ret T' h' locs' (cells + rm.cells) (slots + rm.slots) → Q v h' → Wp p e below Post T' (mkF m (pc + 3) L (v.toList ++ rest))) : Wp p e below Post T (mkF m pc L S) := by
  subst has
  have hZ := W.wZ
  obtain ⟨v, vm₁, ⟨T', L', k', n'⟩, -, X', ⟨Lc, hQ, l1, y1, z1⟩, st⟩ := Jvm.LawKit.callS W.st W.exec (y := y) W.own' (mvT hZ w1) (mvT hZ w2) (mvT hZ w3) (mvT hZ w4) hy (backOf (W := Wd) (Q := fun v h' Ls => (Q v h' ∧ h.size ≤ h'.size) ∧ Fr n0 Ls) (C.grow []) hZ w4 w3 hf hl) (g := mkF m pc L S) rfl (hL.trans W.ml.symm) (argsL := argsL) (rest := rest) (lenOf hpd hlen) hS (by show 2 * 0 + _ ≤ _; rw [hW]; omega) (hb W.bytes hd) (fun _ _ => ⟨rfl, W.heap, hc, hs⟩)
  dsimp only [Pt.U, Pt.locs, Pt.cells, Pt.slots] at X' l1 y1 z1 st hQ
  subst l1 y1 z1
  exact (k T' T'.heap _ v (W.on X' rfl hQ.1.2 (W.fr.app hQ.2)) hQ.1.1).imp fun t q => st t q
theorem Wp.cast {g g' : JFrame} (q : g = g') (w : Wp p e below Post T g') : Wp p e below Post T g := q ▸ w
theorem n_rV {kc ks : Nat} {Q : Option Value → Heap → Prop} (W : Wk p l e R s s.vm m args below meth c Z own n0 B ML ret T h locs cells slots) (hret : ret = none) (hd : decode B pc = .ok (.return_, 1)) (hc : cells ≤ kc) (hk : slots ≤ ks) (hq : Q none h) : Wp p e below (PoN n0 s kc ks Q) T (mkF m pc L []) := endN W (fun _ => rfl) hc hk hq fun fs hr => rV W hret hd hr
theorem n_rI {kc ks : Nat} {Q : Option Value → Heap → Prop} {z : Int32} (W : Wk p l e R s s.vm m args below meth c Z own n0 B ML ret T h locs cells slots) (hret : ret = some .int) (hd : decode B pc = .ok (.ireturn, 1)) (hc : cells ≤ kc) (hk : slots ≤ ks) (hq : Q (some (.int z)) h) : Wp p e below (PoN n0 s kc ks Q) T (mkF m pc L (.int z :: S)) := endN W (fun q => by rw [hret] at q; cases q) hc hk hq fun fs hr => rI W hret hd hr
theorem n_rL {kc ks : Nat} {Q : Option Value → Heap → Prop} {z : Int64} (W : Wk p l e R s s.vm m args below meth c Z own n0 B ML ret T h locs cells slots) (hret : ret = some .long) (hd : decode B pc = .ok (.lreturn, 1)) (hc : cells ≤ kc) (hk : slots ≤ ks) (hq : Q (some (.long z)) h) : Wp p e below (PoN n0 s kc ks Q) T (mkF m pc L (.long z :: S)) := endN W (fun q => by rw [hret] at q; cases q) hc hk hq fun fs hr => rL W hret hd hr
theorem n_rA {kc ks : Nat} {Q : Option Value → Heap → Prop} {v : Value} {t : FieldType} (W : Wk p l e R s s.vm m args below meth c Z own n0 B ML ret T h locs cells slots) (hret : ret = some t) (ht : t.isReference = true) (hv : v.isRef = true) (hd : decode B pc = .ok (.areturn, 1)) (hc : cells ≤ kc) (hk : slots ≤ ks) (hq : Q (some v) h) : Wp p e below (PoN n0 s kc ks Q) T (mkF m pc L (v :: S)) := endN W (fun q => by rw [hret] at q; cases q) hc hk hq fun fs hr => rA W hret ht hv hd hr
theorem n_rN {kc ks : Nat} {Q : Option Value → Heap → Prop} {z z' : Int32} {t : FieldType} (W : Wk p l e R s s.vm m args below meth c Z own n0 B ML ret T h locs cells slots) (hret : ret = some t) (ht : t = .boolean ∨ t = .byte ∨ t = .char ∨ t = .short) (hz : nar t z = z') (hd : decode B pc = .ok (.ireturn, 1)) (hc : cells ≤ kc) (hk : slots ≤ ks) (hq : Q (some (.int z')) h) : Wp p e below (PoN n0 s kc ks Q) T (mkF m pc L (.int z :: S)) := endN W (fun q => by rw [hret] at q; cases q) hc hk hq fun fs hr => rN W hret ht hz hd hr

end OwnKit

/-! OwnKit, second part: the heap, calls of constructors and instance methods, literals -/
section OwnKit2
variable {p : Program} {l : Launch} {e : Env} {R : Room} {s : State} {vm0 : Vm} {m : MethodId} {args : Array Value} {below : List Frame} {meth : Method} {c : Code} {Z : State} {own : String} {n0 : Nat} {B : ByteArray} {ML : Nat} {ret : Option FieldType} {T : State} {h : Heap} {locs : List Loc} {cells slots : Nat} {a0 : Array Value} {Post : Outcome → State → Prop} {pc : Nat} {L : Array Slot} {S : List Value}
theorem w_getf (W : Wk p l e R s vm0 m args below meth c Z own n0 B ML ret T h locs cells slots) {R0 O n d host : String} {index : Nat} {a : Addr} {v : Value} (w : (Jvm.Cond.fieldLink own index R0 n d).before a0 Z = true ∨ (Jvm.Cond.fieldLinkNest own index R0 n d host).before a0 Z = true) (via : Via Z R0 O n d) (F : Fld Z h a O n d v) (hd : decode B pc = .ok (.getfield index, 3))
    (k : ∀ T', Wk p l e R s vm0 m args below meth c Z own n0 B ML ret T' h locs cells slots → Wp p e below Post T' (mkF m (pc + 3) L (v :: S))) : Wp p e below Post T (mkF m pc L (.ref a :: S)) := by
  obtain ⟨T', X', e', st⟩ := getF W.st W.exec W.wZ W.own' w via W.heap F (g := mkF m pc L (.ref a :: S)) rfl rfl (hb W.bytes hd)
  exact (k T' (W.on X' e' (Nat.le_refl _) W.fr)).imp st
theorem w_gets (W : Wk p l e R s vm0 m args below meth c Z own n0 B ML ret T h locs cells slots) {R0 O n d host : String} {index : Nat} {v : Value} (w : (Jvm.Cond.fieldLink own index R0 n d).before a0 Z = true ∨ (Jvm.Cond.fieldLinkNest own index R0 n d host).before a0 Z = true) (via : Via Z R0 O n d) (F : Sta Z h O n d v) (hd : decode B pc = .ok (.getstatic index, 3))
    (k : ∀ T', Wk p l e R s vm0 m args below meth c Z own n0 B ML ret T' h locs cells slots → Wp p e below Post T' (mkF m (pc + 3) L (v :: S))) : Wp p e below Post T (mkF m pc L S) := by
  obtain ⟨T', X', e', st⟩ := getS2 W.st W.exec W.wZ W.own' w via W.heap F (g := mkF m pc L S) rfl (hb W.bytes hd)
  exact (k T' (W.on X' e' (Nat.le_refl _) W.fr)).imp st
theorem w_putf (W : Wk p l e R s vm0 m args below meth c Z own n0 B ML ret T h locs cells slots) {R0 O n d C : String} {index kk : Nat} {ty : FieldType} {a : Addr} {v v' old : Value} (w : (Jvm.Cond.fieldLink own index R0 n d).before a0 Z = true) (via : Via Z R0 O n d) (F : Fld Z h a O n d old) (E : Exa Z h a C) (Lw : (Jvm.Cond.lays C O n d).before a0 Z = true ∨ ((Jvm.Cond.laysFinal C O n d).before a0 Z = true ∧ own = O ∧ meth.name = "<init>")) (wi : (Jvm.Cond.instantiable C kk).before a0 Z = true)
    (hty : parseFieldDescriptor d = some ty) (hn : narrow ty v = v') (hf : fits ty v' = true) (hna : n0 ≤ a) (hd : decode B pc = .ok (.putfield index, 3))
    (k : ∀ T' h' locs', Wk p l e R s vm0 m args below meth c Z own n0 B ML ret T' h' locs' cells slots → Wr h h' a (Jvm.RoadKit.slotOf Z O n d) v' → Wp p e below Post T' (mkF m (pc + 3) L S)) : Wp p e below Post T (mkF m pc L (v :: .ref a :: S)) := by
  obtain ⟨T', h', X', e', Wr', st⟩ := putFN W.st W.exec W.wZ W.own' w via W.heap F E Lw wi hty hn hf (g := mkF m pc L (v :: .ref a :: S)) rfl rfl (hb W.bytes hd)
  exact (k T' h' _ (W.on X' e' (Nat.le_of_eq Wr'.size.symm) (Fr.snoc X' W.fr hna)) Wr').imp st
theorem w_new (W : Wk p l e R s vm0 m args below meth c Z own n0 B ML ret T h locs cells slots) {C : String} {index n : Nat} (w : (Jvm.Cond.classLink own index C).before a0 Z = true) (wi : (Jvm.Cond.instantiable C n).before a0 Z = true) (wz : (Jvm.Cond.initialized C).before a0 Z = true) (hd : decode B pc = .ok (.new index, 3)) (hc : cells + 1 ≤ R.cells) (hl : slots + n ≤ R.slots)
    (k : ∀ T' h' a, Wk p l e R s vm0 m args below meth c Z own n0 B ML ret T' h' locs (cells + 1) (slots + n) → Ext h h' → a = h.size → Exa Z h' a C → (∀ {O nm d : String} {ty : FieldType}, Laid Z a0 C O nm d → parseFieldDescriptor d = some ty → Fld Z h' a O nm d (defaultValue ty)) → Wp p e below Post T' (mkF m (pc + 3) L (.ref a :: S))) : Wp p e below Post T (mkF m pc L S) := by
  obtain ⟨T', h', X', e', E', A', D', -, st⟩ := newO W.st W.exec W.wZ W.own' w wi wz W.heap (g := mkF m pc L S) rfl (hb W.bytes hd) hc hl
  exact (k T' h' h.size (W.on X' e' E'.1 W.fr) E' rfl A' D').imp st
theorem w_newarr (W : Wk p l e R s vm0 m args below meth c Z own n0 B ML ret T h locs cells slots) {aty : ArrayType} {ty : FieldType} {dv : Value} (w : (Jvm.Cond.arrayClass ty).before a0 Z = true) (hty : newarray.typeOf aty = ty) (hdv : defaultValue ty = dv) {n : Int32} (hd : decode B pc = .ok (.newarray aty, 2)) (hn : ¬ n < 0) (cap : Nat) (hcap : n.toNatClampNeg ≤ cap) (hb8 : cap * 8 ≤ 536870912) (hc : cells + 1 ≤ R.cells) (hl : slots + cap ≤ R.slots)
    (k : ∀ T' h' a kc, Wk p l e R s vm0 m args below meth c Z own n0 B ML ret T' h' locs (cells + 1) (slots + cap) → Ext h h' → a = h.size → Arv Z h' a kc ty n [] dv → Wp p e below Post T' (mkF m (pc + 2) L (.ref a :: S))) : Wp p e below Post T (mkF m pc L (.int n :: S)) := by
  subst hty hdv
  obtain ⟨T', h', kc, X', e', E', A', st⟩ := newP W.st W.exec W.wZ w W.heap (g := mkF m pc L (.int n :: S)) rfl (hb W.bytes hd) rfl hn hcap hb8 hc hl
  exact (k T' h' h.size kc (W.on X' e' E'.1 W.fr) E' rfl (Arv.new A' hn)).imp st
theorem w_arrlen (W : Wk p l e R s vm0 m args below meth c Z own n0 B ML ret T h locs cells slots) {a : Addr} {kc : ClassId} {ty : FieldType} {z : Int32} {vs : List Value} {dv : Value} (F : Arv Z h a kc ty z vs dv) (hd : decode B pc = .ok (.arraylength, 1)) (hr : Wp p e below Post T (mkF m (pc + 1) L (.int z :: S))) : Wp p e below Post T (mkF m pc L (.ref a :: S)) := by
  obtain ⟨cl, Ar, -, S1, N1, -, -⟩ := F
  exact hr.imp fun t q => W.st.arraylength W.exec (by rw [W.heap]; exact Ar.1) (State.isArrayOf_alike W.wZ.alike Ar.2.1) (g := mkF m pc L (.ref a :: S)) rfl rfl (hb W.bytes hd) t (by rw [len_of S1 N1]; exact q)
theorem w_caload (W : Wk p l e R s vm0 m args below meth c Z own n0 B ML ret T h locs cells slots) {a : Addr} {kc : ClassId} {z j : Int32} {vs : List Value} {dv v : Value} (F : Arv Z h a kc .char z vs dv) (hj : ¬ j < 0 ∧ j < z) (hv : vs.getD j.toNatClampNeg dv = v) (hd : decode B pc = .ok (.caload, 1)) (hr : Wp p e below Post T (mkF m (pc + 1) L (v :: S))) : Wp p e below Post T (mkF m pc L (.int j :: .ref a :: S)) := by
  obtain ⟨cl, Ar, -, S1, N1, H1, -⟩ := F
  have hin := inb_of S1 hj
  exact hr.imp fun t q => W.st.caload W.exec (j := j) (v := v) (by rw [W.heap]; exact Ar.1) (State.isArrayOf_alike W.wZ.alike Ar.2.1) Ar.2.2 hin (Has.at H1 hin hv) (g := mkF m pc L (.int j :: .ref a :: S)) rfl rfl (hb W.bytes hd) t q
theorem w_baload (W : Wk p l e R s vm0 m args below meth c Z own n0 B ML ret T h locs cells slots) {a : Addr} {kc : ClassId} {z j : Int32} {vs : List Value} {dv v : Value} (F : Arv Z h a kc .byte z vs dv) (hj : ¬ j < 0 ∧ j < z) (hv : vs.getD j.toNatClampNeg dv = v) (hd : decode B pc = .ok (.baload, 1)) (hr : Wp p e below Post T (mkF m (pc + 1) L (v :: S))) : Wp p e below Post T (mkF m pc L (.int j :: .ref a :: S)) := by
  obtain ⟨cl, Ar, -, S1, N1, H1, -⟩ := F
  have hin := inb_of S1 hj
  exact hr.imp fun t q => W.st.baloadBytes W.exec (j := j) (v := v) (by rw [W.heap]; exact Ar.1) (State.isArrayOf_alike W.wZ.alike Ar.2.1) Ar.2.2 hin (Has.at H1 hin hv) (g := mkF m pc L (.int j :: .ref a :: S)) rfl rfl (hb W.bytes hd) t q
theorem w_iaload (W : Wk p l e R s vm0 m args below meth c Z own n0 B ML ret T h locs cells slots) {a : Addr} {kc : ClassId} {z j : Int32} {vs : List Value} {dv v : Value} (F : Arv Z h a kc .int z vs dv) (hj : ¬ j < 0 ∧ j < z) (hv : vs.getD j.toNatClampNeg dv = v) (hd : decode B pc = .ok (.iaload, 1)) (hr : Wp p e below Post T (mkF m (pc + 1) L (v :: S))) : Wp p e below Post T (mkF m pc L (.int j :: .ref a :: S)) := by
  obtain ⟨cl, Ar, -, S1, N1, H1, -⟩ := F
  have hin := inb_of S1 hj
  exact hr.imp fun t q => W.st.iaload W.exec (j := j) (v := v) (by rw [W.heap]; exact Ar.1) (State.isArrayOf_alike W.wZ.alike Ar.2.1) Ar.2.2 hin (Has.at H1 hin hv) (g := mkF m pc L (.int j :: .ref a :: S)) rfl rfl (hb W.bytes hd) t q
theorem w_castore (W : Wk p l e R s vm0 m args below meth c Z own n0 B ML ret T h locs cells slots) {a : Addr} {kc : ClassId} {z j x x' : Int32} {vs : List Value} {dv : Value} (F : Arv Z h a kc .char z vs dv) (hj : ¬ j < 0 ∧ j < z) (i : Nat) (hi : j.toNatClampNeg = i) (hl : i < vs.length) (hx' : nar .char x = x') (hna : n0 ≤ a) (hd : decode B pc = .ok (.castore, 1))
    (k : ∀ T' h' locs', Wk p l e R s vm0 m args below meth c Z own n0 B ML ret T' h' locs' cells slots → Wr h h' a i (.int x') → Arv Z h' a kc .char z (vs.set i (.int x')) dv → Wp p e below Post T' (mkF m (pc + 1) L S)) : Wp p e below Post T (mkF m pc L (.int x :: .int j :: .ref a :: S)) := by
  subst hx' hi
  obtain ⟨cl, Ar, q1, S1, N1, H1, G1⟩ := F
  have hin := inb_of S1 hj
  obtain ⟨T', h', X', e', Wr', st⟩ := stC W.st W.exec W.wZ W.heap Ar (j := j) hin (g := mkF m pc L (.int x :: .int j :: .ref a :: S)) rfl rfl (hb W.bytes hd)
  exact (k T' h' _ (W.on X' e' (Nat.le_of_eq Wr'.size.symm) (Fr.snoc X' W.fr hna)) Wr' (Arv.set Ar q1 S1 N1 H1 G1 (fits_nar_char _) Wr' _ rfl hl)).imp st
theorem w_bastore (W : Wk p l e R s vm0 m args below meth c Z own n0 B ML ret T h locs cells slots) {a : Addr} {kc : ClassId} {z j x x' : Int32} {vs : List Value} {dv : Value} (F : Arv Z h a kc .byte z vs dv) (hj : ¬ j < 0 ∧ j < z) (i : Nat) (hi : j.toNatClampNeg = i) (hl : i < vs.length) (hx' : nar .byte x = x') (hna : n0 ≤ a) (hd : decode B pc = .ok (.bastore, 1))
    (k : ∀ T' h' locs', Wk p l e R s vm0 m args below meth c Z own n0 B ML ret T' h' locs' cells slots → Wr h h' a i (.int x') → Arv Z h' a kc .byte z (vs.set i (.int x')) dv → Wp p e below Post T' (mkF m (pc + 1) L S)) : Wp p e below Post T (mkF m pc L (.int x :: .int j :: .ref a :: S)) := by
  subst hx' hi
  obtain ⟨cl, Ar, q1, S1, N1, H1, G1⟩ := F
  have hin := inb_of S1 hj
  obtain ⟨T', h', X', e', Wr', st⟩ := stB W.st W.exec W.wZ W.heap Ar (j := j) hin (g := mkF m pc L (.int x :: .int j :: .ref a :: S)) rfl rfl (hb W.bytes hd)
  exact (k T' h' _ (W.on X' e' (Nat.le_of_eq Wr'.size.symm) (Fr.snoc X' W.fr hna)) Wr' (Arv.set Ar q1 S1 N1 H1 G1 (fits_nar_byte _) Wr' _ rfl hl)).imp st
theorem w_cast (W : Wk p l e R s vm0 m args below meth c Z own n0 B ML ret T h locs cells slots) {K : String} {index : Nat} {a : Addr} (w : (Jvm.Cond.classLink own index K).before a0 Z = true) (F : Ins Z h a K true) (hd : decode B pc = .ok (.checkcast index, 3))
    (k : ∀ T', Wk p l e R s vm0 m args below meth c Z own n0 B ML ret T' h locs cells slots → Wp p e below Post T' (mkF m (pc + 3) L (.ref a :: S))) : Wp p e below Post T (mkF m pc L (.ref a :: S)) := by
  obtain ⟨T', X', e', st⟩ := castY W.st W.exec W.wZ W.own' w W.heap F (g := mkF m pc L (.ref a :: S)) rfl rfl (hb W.bytes hd)
  exact (k T' (W.on X' e' (Nat.le_refl _) W.fr)).imp st
theorem w_instY (W : Wk p l e R s vm0 m args below meth c Z own n0 B ML ret T h locs cells slots) {K : String} {index : Nat} {a : Addr} (w : (Jvm.Cond.classLink own index K).before a0 Z = true) (F : Ins Z h a K true) (hd : decode B pc = .ok (.instanceof index, 3))
    (k : ∀ T', Wk p l e R s vm0 m args below meth c Z own n0 B ML ret T' h locs cells slots → Wp p e below Post T' (mkF m (pc + 3) L (.int 1 :: S))) : Wp p e below Post T (mkF m pc L (.ref a :: S)) := by
  obtain ⟨T', X', e', st⟩ := instY W.st W.exec W.wZ W.own' w W.heap F (g := mkF m pc L (.ref a :: S)) rfl rfl (hb W.bytes hd)
  exact (k T' (W.on X' e' (Nat.le_refl _) W.fr)).imp st
theorem w_instNo (W : Wk p l e R s vm0 m args below meth c Z own n0 B ML ret T h locs cells slots) {K C : String} {index : Nat} {a : Addr} (w : (Jvm.Cond.classLink own index K).before a0 Z = true) (E : Exa Z h a C) (F : ∃ c t, Z.vm.findClass C = some c ∧ Z.vm.findClass K = some t ∧ Z.vm.assignable c t = false) (hd : decode B pc = .ok (.instanceof index, 3))
    (k : ∀ T', Wk p l e R s vm0 m args below meth c Z own n0 B ML ret T' h locs cells slots → Wp p e below Post T' (mkF m (pc + 3) L (.int 0 :: S))) : Wp p e below Post T (mkF m pc L (.ref a :: S)) := by
  obtain ⟨T', X', e', st⟩ := instNo W.st W.exec W.wZ W.own' w W.heap E F (g := mkF m pc L (.ref a :: S)) rfl rfl (hb W.bytes hd)
  exact (k T' (W.on X' e' (Nat.le_refl _) W.fr)).imp st
theorem w_instNull (W : Wk p l e R s vm0 m args below meth c Z own n0 B ML ret T h locs cells slots) {index : Nat} (hd : decode B pc = .ok (.instanceof index, 3)) (hr : Wp p e below Post T (mkF m (pc + 3) L (.int 0 :: S))) : Wp p e below Post T (mkF m pc L (.null :: S)) :=
  hr.imp fun t q => W.st.instanceofNull W.exec (g := mkF m pc L (.null :: S)) rfl rfl (hb W.bytes hd) t q
theorem w_castNull (W : Wk p l e R s vm0 m args below meth c Z own n0 B ML ret T h locs cells slots) {index : Nat} (hd : decode B pc = .ok (.checkcast index, 3)) (hr : Wp p e below Post T (mkF m (pc + 3) L (.null :: S))) : Wp p e below Post T (mkF m pc L (.null :: S)) :=
  hr.imp fun t q => W.st.checkcastNull W.exec (g := mkF m pc L (.null :: S)) rfl rfl (hb W.bytes hd) t q
theorem w_initO (W : Wk p l e R s vm0 m args below meth c Z own n0 B ML ret T h locs cells slots) {index : Nat} {a : Addr} (w1 : (Jvm.Cond.methodLink own index Lib.objectInit).before a0 Z = true) (w2 : (Jvm.Cond.instanceMethod Lib.objectInit).before a0 Z = true) (w3 : (Jvm.Cond.code Lib.objectInit ⟨#[0xb1]⟩ 1 none).before a0 Z = true) (Wd : Nat) (hW : (S.map fun v => v.category).sum = Wd) (hL : L.size = ML) (hf : 1 ≤ R.frames) (hl : Wd + 12 ≤ R.locals) (hd : decode B pc = .ok (.invokespecial index, 3))
    (k : ∀ T', Wk p l e R s vm0 m args below meth c Z own n0 B ML ret T' h locs cells slots → Wp p e below Post T' (mkF m (pc + 3) L S)) : Wp p e below Post T (mkF m pc L (.ref a :: S)) := by
  obtain ⟨T', X', e', st⟩ := initO W.st W.exec W.wZ W.own' w1 w2 w3 W.heap (g := mkF m pc L (.ref a :: S)) rfl (hL.trans W.ml.symm) rfl (hb W.bytes hd) hf (W := Wd) (by show 2 * 0 + _ ≤ _; rw [hW]; omega) hl
  exact (k T' (W.on X' e' (Nat.le_refl _) W.fr)).imp st
/-! calls by a contract of a body that interns nothing -/
section CallsN
variable {y z : MethodName} {yB : ByteArray} {yML : Nat} {yret : Option FieldType} {rm : Room} {as : Array Value} {Q : Option Value → Heap → Prop} {index : Nat}
theorem w_special (W : Wk p l e R s vm0 m args below meth c Z own n0 B ML ret T h locs cells slots) (C : CtN l Z y yB yML none rm n0 as h Q) (hy1 : y.name = "<init>")
    (w1 : (Jvm.Cond.methodLink own index y).before a0 Z = true) (w2 : (Jvm.Cond.instanceMethod y).before a0 Z = true) (w3 : (Jvm.Cond.initialized y.cls).before a0 Z = true) (w4 : (Jvm.Cond.code y yB yML none).before a0 Z = true)
    (hy : y.cls ≠ "java/lang/invoke/MethodHandle" ∧ y.cls ≠ "java/lang/invoke/VarHandle") (Wd : Nat) (hf : rm.frames + 1 ≤ R.frames) (hl : Wd + (yML + 11) + rm.locals ≤ R.locals) (hc : cells + rm.cells ≤ R.cells) (hs : slots + rm.slots ≤ R.slots)
    {a : Addr} {argsL rest : List Value} {ps : List FieldType} {r : Option FieldType} (hpd : parseMethodDescriptor y.desc = some ⟨ps, r⟩) (hlen : argsL.length = ps.length) (has : as = (.ref a :: argsL).toArray) (hS : S = argsL.reverse ++ .ref a :: rest) (hW : (rest.map fun v => v.category).sum = Wd) (hL : L.size = ML)
    (hd : decode B pc = .ok (.invokespecial index, 3))
    (k : ∀ T' h' locs' v, Wk p l e R s vm0 m args below meth c Z own n0 B ML ret T' h' locs' (cells + rm.cells) (slots + rm.slots) → Q v h' → Wp p e below Post T' (mkF m (pc + 3) L (v.toList ++ rest))) : Wp p e below Post T (mkF m pc L S) := by
  subst has
  have hZ := W.wZ
  obtain ⟨v, vm₁, ⟨T', L', k', n'⟩, -, X', ⟨Lc, hQ, l1, y1, z1⟩, st⟩ := W.st.specialBack W.exec (y := y) hy1 W.own' (mvT hZ w1) (mvT hZ w2) (mvT hZ w4) hy (backOf (W := Wd) (Q := fun v h' Ls => (Q v h' ∧ h.size ≤ h'.size) ∧ Fr n0 Ls) (C.grow []) hZ w4 w3 hf hl) (g := mkF m pc L S) rfl (hL.trans W.ml.symm) (Steps.refl _) (a := a) (argsL := argsL) (rest := rest) (lenOf hpd hlen) hS (by show 2 * 0 + _ ≤ _; rw [hW]; omega) (hb W.bytes hd) (fun _ _ => ⟨rfl, W.heap, hc, hs⟩)
  dsimp only [Pt.U, Pt.locs, Pt.cells, Pt.slots] at X' l1 y1 z1 st hQ
  subst l1 y1 z1
  exact (k T' T'.heap _ v (W.on X' rfl hQ.1.2 (W.fr.app hQ.2)) hQ.1.1).imp fun t q => st.trans q
theorem w_virt (W : Wk p l e R s vm0 m args below meth c Z own n0 B ML ret T h locs cells slots) {C' : String} (C : CtN l Z z yB yML yret rm n0 as h Q)
    (w1 : (Jvm.Cond.methodLink own index y).before a0 Z = true) (w2 : (Jvm.Cond.declares y).before a0 Z = true) (hnf : NotFace (s.setVm vm0) y) (w3 : (Jvm.Cond.selects C' y z).before a0 Z = true) (w4 : (Jvm.Cond.instanceMethod z).before a0 Z = true) (w5 : (Jvm.Cond.initialized z.cls).before a0 Z = true) (w6 : (Jvm.Cond.code z yB yML yret).before a0 Z = true)
    (hy : y.cls ≠ "java/lang/invoke/MethodHandle" ∧ y.cls ≠ "java/lang/invoke/VarHandle") (Wd : Nat) (hf : rm.frames + 1 ≤ R.frames) (hl : Wd + (yML + 11) + rm.locals ≤ R.locals) (hc : cells + rm.cells ≤ R.cells) (hs : slots + rm.slots ≤ R.slots)
    {a : Addr} (E : Exa Z h a C') {argsL rest : List Value} {ps : List FieldType} {r : Option FieldType} (hpd : parseMethodDescriptor y.desc = some ⟨ps, r⟩) (hlen : argsL.length = ps.length) (has : as = (.ref a :: argsL).toArray) (hS : S = argsL.reverse ++ .ref a :: rest) (hW : (rest.map fun v => v.category).sum = Wd) (hL : L.size = ML)
    (hd : decode B pc = .ok (.invokevirtual index, 3))
    (k : ∀ T' h' locs' v, Wk p l e R s vm0 m args below meth c Z own n0 B ML ret T' h' locs' (cells + rm.cells) (slots + rm.slots) → Q v h' → Wp p e below Post T' (mkF m (pc + 3) L (v.toList ++ rest))) : Wp p e below Post T (mkF m pc L S) := by
  subst has
  have hZ := W.wZ
  obtain ⟨cq, kq, qa, qb, qc⟩ := isOf hZ W.heap E
  obtain ⟨v, vm₁, ⟨T', L', k', n'⟩, -, X', ⟨Lc, hQ, l1, y1, z1⟩, st⟩ := W.st.virtualBack W.exec (y := y) (z := z) W.own' (mvT hZ w1) (mvT hZ w2) hnf (mvT hZ w3) (mvT hZ w4) hy (backOf (W := Wd) (Q := fun v h' Ls => (Q v h' ∧ h.size ≤ h'.size) ∧ Fr n0 Ls) (C.grow []) hZ w6 w5 hf hl) qa qc (g := mkF m pc L S) rfl (hL.trans W.ml.symm) (Steps.refl _) (argsL := argsL) (rest := rest) (lenOf hpd hlen) hS (by show 2 * 0 + _ ≤ _; rw [hW]; omega) (hb W.bytes hd) (fun _ _ => ⟨rfl, W.heap, hc, hs⟩)
  dsimp only [Pt.U, Pt.locs, Pt.cells, Pt.slots] at X' l1 y1 z1 st hQ
  subst l1 y1 z1
  exact (k T' T'.heap _ v (W.on X' rfl hQ.1.2 (W.fr.app hQ.2)) hQ.1.1).imp fun t q => st.trans q
theorem w_face (W : Wk p l e R s vm0 m args below meth c Z own n0 B ML ret T h locs cells slots) {C' : String} {count : Nat} (C : CtN l Z z yB yML yret rm n0 as h Q)
    (w1 : (Jvm.Cond.methodLink own index y).before a0 Z = true) (w2 : (Jvm.Cond.declares y).before a0 Z = true) (w2' : (Jvm.Cond.interfaceMethod y.cls y.cls y.name y.desc).before args (s.setVm vm0) = true) (w3 : (Jvm.Cond.selects C' y z).before a0 Z = true) (w4 : (Jvm.Cond.instanceMethod z).before a0 Z = true) (w7 : (Jvm.Cond.publicMethod z).before a0 Z = true) (w8 : (Jvm.Cond.unhidden C' y.name y.desc).before a0 Z = true) (w9 : (Jvm.Cond.castable C' y.cls).before a0 Z = true) (w5 : (Jvm.Cond.initialized z.cls).before a0 Z = true) (w6 : (Jvm.Cond.code z yB yML yret).before a0 Z = true)
    (hy : y.cls ≠ "java/lang/invoke/MethodHandle" ∧ y.cls ≠ "java/lang/invoke/VarHandle") (Wd : Nat) (hf : rm.frames + 1 ≤ R.frames) (hl : Wd + (yML + 11) + rm.locals ≤ R.locals) (hc : cells + rm.cells ≤ R.cells) (hs : slots + rm.slots ≤ R.slots)
    {a : Addr} (E : Exa Z h a C') {argsL rest : List Value} {ps : List FieldType} {r : Option FieldType} (hpd : parseMethodDescriptor y.desc = some ⟨ps, r⟩) (hlen : argsL.length = ps.length) (has : as = (.ref a :: argsL).toArray) (hS : S = argsL.reverse ++ .ref a :: rest) (hW : (rest.map fun v => v.category).sum = Wd) (hL : L.size = ML)
    (hd : decode B pc = .ok (.invokeinterface index count, 5))
    (k : ∀ T' h' locs' v, Wk p l e R s vm0 m args below meth c Z own n0 B ML ret T' h' locs' (cells + rm.cells) (slots + rm.slots) → Q v h' → Wp p e below Post T' (mkF m (pc + 5) L (v.toList ++ rest))) : Wp p e below Post T (mkF m pc L S) := by
  subst has
  have hZ := W.wZ
  obtain ⟨cq, kq, qa, qb, qc⟩ := isOf hZ W.heap E
  obtain ⟨v, vm₁, ⟨T', L', k', n'⟩, -, X', ⟨Lc, hQ, l1, y1, z1⟩, st⟩ := W.st.interfaceBack W.exec (xi := y) (y := z) W.own' (mvT hZ w1) (mvT hZ w2) w2' (mvT hZ w3) (mvT hZ w4) (mvT hZ w7) (mvT hZ w8) (mvT hZ w9) hy (backOf (W := Wd) (Q := fun v h' Ls => (Q v h' ∧ h.size ≤ h'.size) ∧ Fr n0 Ls) (C.grow []) hZ w6 w5 hf hl) qa qb qc (g := mkF m pc L S) rfl (hL.trans W.ml.symm) (Steps.refl _) (argsL := argsL) (rest := rest) (lenOf hpd hlen) hS (by show 2 * 0 + _ ≤ _; rw [hW]; omega) (hb W.bytes hd) (fun _ _ => ⟨rfl, W.heap, hc, hs⟩)
  dsimp only [Pt.U, Pt.locs, Pt.cells, Pt.slots] at X' l1 y1 z1 st hQ
  subst l1 y1 z1
  exact (k T' T'.heap _ v (W.on X' rfl hQ.1.2 (W.fr.app hQ.2)) hQ.1.1).imp fun t q => st.trans q
end CallsN
/-! bodies that may intern -/
def PoW (n0 : Nat) (s : State) (kc ks : Nat) (Q : Option Value → Heap → Vm → Prop) (o : Outcome) (t : State) : Prop := ∃ v Ls, o = .returned v ∧ (Q v t.heap t.vm ∧ Fr n0 Ls) ∧ ReturnedEndW s o t Ls kc ks
theorem endW {kc ks : Nat} {Q : Option Value → Heap → Vm → Prop} (W : Wk p l e R s vm0 m args below meth c Z own n0 B ML ret T h locs cells slots) {v : Option Value} {g : JFrame} (hv : ret = none → v = none) (hc : cells ≤ kc) (hk : slots ≤ ks) (hq : ∀ vm', (s.setVm vm0).WarmedH vm' → Q v h vm')
    (k : ∀ fs, (∀ (f : JFrame) (acts : List Action), f.method = m → f.locked = none → f.entered = [] → (doReturn e (T.setTop f) acts v).1 = T.setFrames fs) → Steps p.tables e below (T.setTop g) (T.setFrames fs)) : Wp p e below (PoW n0 s kc ks Q) T g := by
  have hlk := W.lk
  obtain ⟨fs, hr, hrun, hended, hend⟩ := (W.st.mono hc hk).leaveW W.since (Nat.le_of_eq (congrArg Array.size W.heap).symm) (v := v) (fun q => hv (W.ret'.symm.trans q))
  have hh : (T.setFrames fs).heap = h := W.heap
  exact ⟨_, _, k fs hr, hrun, hended, v, locs, rfl, ⟨by rw [hh]; exact hq _ W.st.warmed, W.fr⟩, hend⟩
theorem x_rV {kc ks : Nat} {Q : Option Value → Heap → Vm → Prop} (W : Wk p l e R s vm0 m args below meth c Z own n0 B ML ret T h locs cells slots) (hret : ret = none) (hd : decode B pc = .ok (.return_, 1)) (hc : cells ≤ kc) (hk : slots ≤ ks) (hq : ∀ vm', (s.setVm vm0).WarmedH vm' → Q none h vm') : Wp p e below (PoW n0 s kc ks Q) T (mkF m pc L []) := endW W (fun _ => rfl) hc hk hq fun fs hr => rV W hret hd hr
theorem x_rI {kc ks : Nat} {Q : Option Value → Heap → Vm → Prop} {z : Int32} (W : Wk p l e R s vm0 m args below meth c Z own n0 B ML ret T h locs cells slots) (hret : ret = some .int) (hd : decode B pc = .ok (.ireturn, 1)) (hc : cells ≤ kc) (hk : slots ≤ ks) (hq : ∀ vm', (s.setVm vm0).WarmedH vm' → Q (some (.int z)) h vm') : Wp p e below (PoW n0 s kc ks Q) T (mkF m pc L (.int z :: S)) := endW W (fun q => by rw [hret] at q; cases q) hc hk hq fun fs hr => rI W hret hd hr
theorem x_rA {kc ks : Nat} {Q : Option Value → Heap → Vm → Prop} {v : Value} {t : FieldType} (W : Wk p l e R s vm0 m args below meth c Z own n0 B ML ret T h locs cells slots) (hret : ret = some t) (ht : t.isReference = true) (hv : v.isRef = true) (hd : decode B pc = .ok (.areturn, 1)) (hc : cells ≤ kc) (hk : slots ≤ ks) (hq : ∀ vm', (s.setVm vm0).WarmedH vm' → Q (some v) h vm') : Wp p e below (PoW n0 s kc ks Q) T (mkF m pc L (v :: S)) := endW W (fun q => by rw [hret] at q; cases q) hc hk hq fun fs hr => rA W hret ht hv hd hr
theorem x_rN {kc ks : Nat} {Q : Option Value → Heap → Vm → Prop} {z z' : Int32} {t : FieldType} (W : Wk p l e R s vm0 m args below meth c Z own n0 B ML ret T h locs cells slots) (hret : ret = some t) (ht : t = .boolean ∨ t = .byte ∨ t = .char ∨ t = .short) (hz : nar t z = z') (hd : decode B pc = .ok (.ireturn, 1)) (hc : cells ≤ kc) (hk : slots ≤ ks) (hq : ∀ vm', (s.setVm vm0).WarmedH vm' → Q (some (.int z')) h vm') : Wp p e below (PoW n0 s kc ks Q) T (mkF m pc L (.int z :: S)) := endW W (fun q => by rw [hret] at q; cases q) hc hk hq fun fs hr => rN W hret ht hz hd hr
/-- a contract of a body that may intern: Vp is asked of the tables at its start, Q tells of those at its end -/
def CtW (l : Launch) (Z : State) (y : MethodName) (B : ByteArray) (ML : Nat) (ret : Option FieldType) (rm : Room) (n0 : Nat) (as : Array Value) (h : Heap) (Vp : Vm → Prop) (Q : Option Value → Heap → Vm → Prop) : Prop :=
  ∀ ws : List Jvm.Cond, MetFree l y (head1 (Jvm.Cond.code y B ML ret :: ws) rm) (fun a U => a = as ∧ Z.Warmed39 U.vm ∧ U.heap = h ∧ Vp U.vm) (fun _ _ _ _ _ => True) (fun _ U o U' => ∃ v Ls, o = .returned v ∧ (Q v U'.heap U'.vm ∧ Fr n0 Ls) ∧ ReturnedEndW U o U' Ls rm.cells rm.slots)
theorem CtW.of {y : MethodName} {rm : Room} {as : Array Value} {Vp : Vm → Prop} {Q : Option Value → Heap → Vm → Prop} (hpl : plainFor y = true)
    (k : ∀ p e s m below meth c T, Wk p l e rm s s.vm m as below meth c Z y.cls n0 B ML ret T h [] 0 0 → meth.name = y.name → s.heap = h → Vp s.vm → Wp p e below (PoW n0 s rm.cells rm.slots Q) T (entryFrame m as ML)) : CtW l Z y B ML ret rm n0 as h Vp Q := by
  intro ws
  refine MetFree.of_bodySF hpl hisR ?_
  intro p e s m args below meth c s₁ Bd hml0 hP hK
  obtain ⟨rfl, hZ, hh, hV⟩ := hP
  have hown : s.vm.findClass y.cls = some m.cls := findClass_of_methodNamed Bd.named
  have hnm := (name_of_methodNamed Bd.named Bd.method).1
  have X0 : Stand p l e rm s m args below meth c s₁ [] 0 0 := Stand.of_body Bd
  have e0 : s₁.heap = h := by rw [← hh, Bd.state]; rfl
  exact k p e s m below meth c s₁ ⟨X0, (State.WarmedH.refl s).since h.size, hZ, hown, e0, Fr.nil n0, Bd.exec, Bd.bytes, hml0, Bd.returns, Bd.notSynchronized⟩ hnm hh hV
theorem CtW.back {y : MethodName} {rm : Room} {as : Array Value} {Vp : Vm → Prop} {Q : Option Value → Heap → Vm → Prop} {len Wd : Nat} (C : CtW l Z y B ML ret rm n0 as h Vp Q)
    (hZ : Z.Warmed39 s.vm) (wc : (Jvm.Cond.code y B ML ret).before a0 Z = true) (wz : (Jvm.Cond.initialized y.cls).before a0 Z = true) (hf : rm.frames + 1 ≤ R.frames) (hl : Wd + (ML + 11) + rm.locals ≤ R.locals) :
    BackS l R p e below s args y len Wd (fun A a => a = as ∧ A.U.heap = h ∧ Vp A.U.vm ∧ A.cells + rm.cells ≤ R.cells ∧ A.slots + rm.slots ≤ R.slots)
      (fun A _ v Bt => ∃ Ls, (Q v Bt.U.heap Bt.U.vm ∧ Fr n0 Ls) ∧ Bt.locs = A.locs ++ Ls ∧ Bt.cells = A.cells + rm.cells ∧ Bt.slots = A.slots + rm.slots) :=
  BackS.of_freeW (bytes := B) (maxL := ML) (ret := ret) (E := fun _ _ o t Ls k n => k = rm.cells ∧ n = rm.slots ∧ ∃ v, o = .returned v ∧ (Q v t.heap t.vm ∧ Fr n0 Ls)) (C []) hf hl
    (fun m meth c A a Y hp => have hU : Z.Warmed39 A.U.vm := wtrans hZ Y.warmed
      ⟨by show (Jvm.Cond.and _ .tt).before a A.U = true; rw [Cond.before_and, mv hU wc]; rfl, mv hU wc, mv hU wz, hp.2.2.2.1, hp.2.2.2.2⟩)
    (fun m meth c A a g mk Y hp => ⟨hp.1, wtrans hZ Y.warmed, hp.2.1, hp.2.2.1⟩) (fun _ _ _ _ _ _ _ _ _ => trivial)
    (fun _ _ _ _ ⟨v, Ls, h1, h2, h3⟩ => ⟨Ls, _, _, h3, rfl, rfl, v, h1, h2⟩)
    (fun m meth c A a g mk v t Ls k n Y hp _ _ ⟨e1, e2, v', e3, e4⟩ => by cases e3; subst e1 e2; exact ⟨Ls, e4, rfl, rfl, rfl⟩)
/-- behind a step that may have interned -/
theorem Wk.onW {vm1 : Vm} {T' : State} {h' : Heap} {locs' : List Loc} {cells' slots' n : Nat} (W : Wk p l e R s vm0 m args below meth c Z own n0 B ML ret T h locs cells slots) (X : Stand p l e R ((s.setVm vm0).setVm vm1) m args below meth c T' locs' cells' slots') (h2 : (s.setVm vm0).Since vm1 n) (e' : T'.heap = h') (g : h.size ≤ n) (g' : n ≤ h'.size) (N : Fr n0 locs') : Wk p l e R s vm1 m args below meth c Z own n0 B ML ret T' h' locs' cells' slots' := by
  have q := W.since.trans h2 g
  exact ⟨X, ⟨q.1, q.2.mono g'⟩, State.Warmed39.trans W.wZ h2.1, (h2.1.alike.findClass _ _).trans W.own', e', N, W.exec, W.bytes, W.ml, W.ret', W.lk⟩
section CallsW
variable {y z : MethodName} {yB : ByteArray} {yML : Nat} {yret : Option FieldType} {rm : Room} {as : Array Value} {Vp : Vm → Prop} {Q : Option Value → Heap → Vm → Prop} {index : Nat}
theorem w_callSW (W : Wk p l e R s vm0 m args below meth c Z own n0 B ML ret T h locs cells slots) (C : CtW l Z y yB yML yret rm n0 as h Vp Q) (hV : ∀ vm', (s.setVm vm0).WarmedH vm' → Vp vm')
    (w1 : (Jvm.Cond.methodLink own index y).before a0 Z = true) (w2 : (Jvm.Cond.static y).before a0 Z = true) (w3 : (Jvm.Cond.initialized y.cls).before a0 Z = true) (w4 : (Jvm.Cond.code y yB yML yret).before a0 Z = true)
    (hy : y.cls ≠ "java/lang/invoke/MethodHandle" ∧ y.cls ≠ "java/lang/invoke/VarHandle") (Wd : Nat) (hf : rm.frames + 1 ≤ R.frames) (hl : Wd + (yML + 11) + rm.locals ≤ R.locals) (hc : cells + rm.cells ≤ R.cells) (hs : slots + rm.slots ≤ R.slots)
    {argsL rest : List Value} {ps : List FieldType} {r : Option FieldType} (hpd : parseMethodDescriptor y.desc = some ⟨ps, r⟩) (hlen : argsL.length = ps.length) (has : as = argsL.toArray) (hS : S = argsL.reverse ++ rest) (hW : (rest.map fun v => v.category).sum = Wd) (hL : L.size = ML)
    (hd : decode B pc = .ok (.invokestatic index, 3))
    (k : ∀ T' h' locs' vm1 v, Wk p l e R s vm1 m args below meth c Z own n0 B ML ret T' h' locs' (cells + rm.cells) (slots + rm.slots) → (s.setVm vm0).Warmed39 vm1 → Q v h' vm1 → Wp p e below Post T' (mkF m (pc + 3) L (v.toList ++ rest))) : Wp p e below Post T (mkF m pc L S) := by
  subst has
  have hZ := W.wZ
  obtain ⟨v, vm₁, ⟨T', L', k', n'⟩, -, X', h2, hg, ⟨Lc, hQ, l1, y1, z1⟩, st⟩ := callSS W.st W.exec (y := y) W.own' (mvT hZ w1) (mvT hZ w2) (mvT hZ w3) (mvT hZ w4) hy (CtW.back (Wd := Wd) C hZ w4 w3 hf hl) (g := mkF m pc L S) rfl (hL.trans W.ml.symm) (argsL := argsL) (rest := rest) (lenOf hpd hlen) hS (by show 2 * 0 + _ ≤ _; rw [hW]; omega) (hb W.bytes hd) (fun vm' q => ⟨rfl, W.heap, hV vm' q, hc, hs⟩)
  dsimp only [Pt.U, Pt.locs, Pt.cells, Pt.slots] at X' l1 y1 z1 st hQ h2 hg
  subst l1 y1 z1
  rw [W.heap] at hg
  exact (k T' T'.heap _ T'.vm v (W.onW X' h2 rfl hg (Nat.le_refl _) (W.fr.app hQ.2)) h2.1 hQ.1).imp fun t q => st.trans q
theorem w_specialW (W : Wk p l e R s vm0 m args below meth c Z own n0 B ML ret T h locs cells slots) (C : CtW l Z y yB yML none rm n0 as h Vp Q) (hV : ∀ vm', (s.setVm vm0).WarmedH vm' → Vp vm') (hy1 : y.name = "<init>")
    (w1 : (Jvm.Cond.methodLink own index y).before a0 Z = true) (w2 : (Jvm.Cond.instanceMethod y).before a0 Z = true) (w3 : (Jvm.Cond.initialized y.cls).before a0 Z = true) (w4 : (Jvm.Cond.code y yB yML none).before a0 Z = true)
    (hy : y.cls ≠ "java/lang/invoke/MethodHandle" ∧ y.cls ≠ "java/lang/invoke/VarHandle") (Wd : Nat) (hf : rm.frames + 1 ≤ R.frames) (hl : Wd + (yML + 11) + rm.locals ≤ R.locals) (hc : cells + rm.cells ≤ R.cells) (hs : slots + rm.slots ≤ R.slots)
    {a : Addr} {argsL rest : List Value} {ps : List FieldType} {r : Option FieldType} (hpd : parseMethodDescriptor y.desc = some ⟨ps, r⟩) (hlen : argsL.length = ps.length) (has : as = (.ref a :: argsL).toArray) (hS : S = argsL.reverse ++ .ref a :: rest) (hW : (rest.map fun v => v.category).sum = Wd) (hL : L.size = ML)
    (hd : decode B pc = .ok (.invokespecial index, 3))
    (k : ∀ T' h' locs' vm1 v, Wk p l e R s vm1 m args below meth c Z own n0 B ML ret T' h' locs' (cells + rm.cells) (slots + rm.slots) → (s.setVm vm0).Warmed39 vm1 → Q v h' vm1 → Wp p e below Post T' (mkF m (pc + 3) L (v.toList ++ rest))) : Wp p e below Post T (mkF m pc L S) := by
  subst has
  have hZ := W.wZ
  obtain ⟨v, vm₁, ⟨T', L', k', n'⟩, -, X', h2, hg, ⟨Lc, hQ, l1, y1, z1⟩, st⟩ := W.st.specialBackS W.exec (y := y) hy1 W.own' (mvT hZ w1) (mvT hZ w2) (mvT hZ w4) hy (CtW.back (Wd := Wd) C hZ w4 w3 hf hl) (g := mkF m pc L S) rfl (hL.trans W.ml.symm) (Steps.refl _) (a := a) (argsL := argsL) (rest := rest) (lenOf hpd hlen) hS (by show 2 * 0 + _ ≤ _; rw [hW]; omega) (hb W.bytes hd) (fun vm' q => ⟨rfl, W.heap, hV vm' q, hc, hs⟩)
  dsimp only [Pt.U, Pt.locs, Pt.cells, Pt.slots] at X' l1 y1 z1 st hQ h2 hg
  subst l1 y1 z1
  rw [W.heap] at hg
  exact (k T' T'.heap _ T'.vm v (W.onW X' h2 rfl hg (Nat.le_refl _) (W.fr.app hQ.2)) h2.1 hQ.1).imp fun t q => st.trans q
theorem w_virtW (W : Wk p l e R s vm0 m args below meth c Z own n0 B ML ret T h locs cells slots) {C' : String} (C : CtW l Z z yB yML yret rm n0 as h Vp Q) (hV : ∀ vm', (s.setVm vm0).WarmedH vm' → Vp vm')
    (w1 : (Jvm.Cond.methodLink own index y).before a0 Z = true) (w2 : (Jvm.Cond.declares y).before a0 Z = true) (hnf : NotFace (s.setVm vm0) y) (w3 : (Jvm.Cond.selects C' y z).before a0 Z = true) (w4 : (Jvm.Cond.instanceMethod z).before a0 Z = true) (w5 : (Jvm.Cond.initialized z.cls).before a0 Z = true) (w6 : (Jvm.Cond.code z yB yML yret).before a0 Z = true)
    (hy : y.cls ≠ "java/lang/invoke/MethodHandle" ∧ y.cls ≠ "java/lang/invoke/VarHandle") (Wd : Nat) (hf : rm.frames + 1 ≤ R.frames) (hl : Wd + (yML + 11) + rm.locals ≤ R.locals) (hc : cells + rm.cells ≤ R.cells) (hs : slots + rm.slots ≤ R.slots)
    {a : Addr} (E : Exa Z h a C') {argsL rest : List Value} {ps : List FieldType} {r : Option FieldType} (hpd : parseMethodDescriptor y.desc = some ⟨ps, r⟩) (hlen : argsL.length = ps.length) (has : as = (.ref a :: argsL).toArray) (hS : S = argsL.reverse ++ .ref a :: rest) (hW : (rest.map fun v => v.category).sum = Wd) (hL : L.size = ML)
    (hd : decode B pc = .ok (.invokevirtual index, 3))
    (k : ∀ T' h' locs' vm1 v, Wk p l e R s vm1 m args below meth c Z own n0 B ML ret T' h' locs' (cells + rm.cells) (slots + rm.slots) → (s.setVm vm0).Warmed39 vm1 → Q v h' vm1 → Wp p e below Post T' (mkF m (pc + 3) L (v.toList ++ rest))) : Wp p e below Post T (mkF m pc L S) := by
  subst has
  have hZ := W.wZ
  obtain ⟨cq, kq, qa, qb, qc⟩ := isOf hZ W.heap E
  obtain ⟨v, vm₁, ⟨T', L', k', n'⟩, -, X', h2, hg, ⟨Lc, hQ, l1, y1, z1⟩, st⟩ := W.st.virtualBackS W.exec (y := y) (z := z) W.own' (mvT hZ w1) (mvT hZ w2) hnf (mvT hZ w3) (mvT hZ w4) hy (CtW.back (Wd := Wd) C hZ w6 w5 hf hl) qa qc (g := mkF m pc L S) rfl (hL.trans W.ml.symm) (Steps.refl _) (argsL := argsL) (rest := rest) (lenOf hpd hlen) hS (by show 2 * 0 + _ ≤ _; rw [hW]; omega) (hb W.bytes hd) (fun vm' q => ⟨rfl, W.heap, hV vm' q, hc, hs⟩)
  dsimp only [Pt.U, Pt.locs, Pt.cells, Pt.slots] at X' l1 y1 z1 st hQ h2 hg
  subst l1 y1 z1
  rw [W.heap] at hg
  exact (k T' T'.heap _ T'.vm v (W.onW X' h2 rfl hg (Nat.le_refl _) (W.fr.app hQ.2)) h2.1 hQ.1).imp fun t q => st.trans q
end CallsW
/-- a literal, whatever it spells -/
theorem w_ldcS (W : Wk p l e R s vm0 m args below meth c Z own n0 B ML ret T h locs cells slots) {index : Nat} {text : String} (w : (Jvm.Cond.stringLink own index text).before a0 Z = true) (wS : ∀ a ∈ Bundle.stringAtoms, a.before a0 Z = true) (n : Nat) (hn : 4 * text.toList.length ≤ n) (hbig : n ≤ 536870912) (hc : cells + 2 ≤ R.cells) (hl : slots + (n + 4) ≤ R.slots) (hd : decode B pc = .ok (.ldc index, 2))
    (k : ∀ T' h' vm1 a, Wk p l e R s vm1 m args below meth c Z own n0 B ML ret T' h' locs (cells + 2) (slots + (n + 4)) → Ext h h' → Wp p e below Post T' (mkF m (pc + 2) L (.ref a :: S))) : Wp p e below Post T (mkF m pc L S) := by
  obtain ⟨a, T', h', k1, X', e', E', hS', hk', hZ', ho', st⟩ := ldcS W.st W.exec W.wZ W.own' w wS W.heap W.since (Nat.le_refl _) (g := mkF m pc L S) rfl (hb W.bytes hd) hn hbig hc hl
  exact (k T' h' T'.vm a ⟨X', ⟨hS'.1, hS'.2.mono hk'⟩, hZ', ho', e', W.fr, W.exec, W.bytes, W.ml, W.ret', W.lk⟩ E').imp st
/-- a literal not yet loaded since the case's start, and what it spells -/
theorem w_ldcSV (W : Wk p l e R s vm0 m args below meth c Z own n0 B ML ret T h locs cells slots) {index : Nat} {text : String} {Ts : List String} (w : (Jvm.Cond.stringLink own index text).before a0 Z = true) (wS : ∀ a ∈ Bundle.stringAtoms, a.before a0 Z = true) (N : Fr s.heap.size locs) (hkeep : ∀ (b : Addr) (cl : Cell), Z.heap[b]? = some cl → s.heap[b]? = some cl) (I : IB Z vm0 Ts) (hnot : text ∉ Ts) (hh : Jvm.Lit.constHeld Z own index) (hcw : Jvm.Lit.compactW.before a0 Z = true)
    {vs : List Value} {z : Int32} (ht : (∀ c ∈ text.toList, c.toNat < 256) ∧ text.toList.map (fun c => Value.int (Jvm.Lit.byteI c.toNat.toUInt16)) = vs) (hz : ¬ z < 0) (hlz : z.toNatClampNeg = vs.length) (n : Nat) (hn : 4 * text.toList.length ≤ n) (hbig : n ≤ 536870912) (hc : cells + 2 ≤ R.cells) (hl : slots + (n + 4) ≤ R.slots) (hd : decode B pc = .ok (.ldc index, 2))
    (k : ∀ T' h' vm1 a b kc, Wk p l e R s vm1 m args below meth c Z own n0 B ML ret T' h' locs (cells + 2) (slots + (n + 4)) → Ext h h' → Exa Z h' a "java/lang/String" → Fld Z h' a "java/lang/String" "coder" "B" (.int 0) → Fld Z h' a "java/lang/String" "value" "[B" (.ref b) → Arv Z h' b kc .byte z vs (.int 0) → IB Z vm1 (text :: Ts) → Lit (s.setVm vm1) own index a → Wp p e below Post T' (mkF m (pc + 2) L (.ref a :: S))) : Wp p e below Post T (mkF m pc L S) := by
  obtain ⟨a, T', h', k1, b, kc, X', e', E', hS', hk', hZ', ho', f1, f2, f3, f4, -, -, f5, f6, st⟩ := ldcSVL W.st W.exec W.wZ W.own' w wS W.heap W.since (Nat.le_refl _) N hkeep I hnot hh hcw ht hz hlz (g := mkF m pc L S) rfl (hb W.bytes hd) hn hbig hc hl
  exact (k T' h' T'.vm a b kc ⟨X', ⟨hS'.1, hS'.2.mono hk'⟩, hZ', ho', e', W.fr, W.exec, W.bytes, W.ml, W.ret', W.lk⟩ E' f1 f2 f3 f4 f5 f6).imp st
theorem w_ldcAgain (W : Wk p l e R s vm0 m args below meth c Z own n0 B ML ret T h locs cells slots) {index : Nat} {text : String} {a : Addr} (w : (Jvm.Cond.stringLink own index text).before a0 Z = true) (Lt : Lit (s.setVm vm0) own index a) (hd : decode B pc = .ok (.ldc index, 2)) (hr : Wp p e below Post T (mkF m (pc + 2) L (.ref a :: S))) : Wp p e below Post T (mkF m pc L S) :=
  hr.imp fun t q => ldcAgain W.st W.exec W.wZ W.own' w Lt (g := mkF m pc L S) rfl (hb W.bytes hd) t q
/-! small facts on heaps -/
theorem own_extKeep {h1 h2 h3 : Heap} {ws : List Addr} (E : Ext h1 h2) (K : Keep h2 h3 ws) (q : ∀ x ∈ ws, h1.size ≤ x) : Ext h1 h3 :=
  ⟨Nat.le_trans E.1 K.1, fun a c hc => K.2.1 a c (E.2 a c hc) fun hm => absurd (Array.getElem?_eq_some_iff.mp hc).1 (Nat.not_lt.mpr (q a hm))⟩
theorem own_extRefl (h1 : Heap) : Ext h1 h1 := ⟨Nat.le_refl _, fun _ _ q => q⟩
theorem own_extTrans {h1 h2 h3 : Heap} (E : Ext h1 h2) (E' : Ext h2 h3) : Ext h1 h3 := ⟨Nat.le_trans E.1 E'.1, fun a c q => E'.2 a c (E.2 a c q)⟩
theorem own_extWr {h1 h2 h3 : Heap} {a : Addr} {sl : Nat} {v : Value} (E : Ext h1 h2) (W : Wr h2 h3 a sl v) (q : h1.size ≤ a) : Ext h1 h3 := own_extKeep E (Keep.of_wr W) (allS q all0)
theorem own_keepOf {h1 h2 : Heap} {ws : List Addr} (E : Ext h1 h2) : Keep h1 h2 ws := (Keep.refl h1 ws).ext E
theorem own_ltNe {a b n : Nat} (q : a < n) (r : n ≤ b) : a ≠ b := Nat.ne_of_lt (Nat.lt_of_lt_of_le q r)
end OwnKit2

/-! small naturals as ints; lists of values; what a String holds -/
theorem own_ltI {i j : Nat} (hi : i < 2147483648) (hj : j < 2147483648) : Int32.ofNat i < Int32.ofNat j ↔ i < j := by
  rw [Int32.lt_iff_toInt_lt, Int32.toInt_ofNat_of_lt (by omega), Int32.toInt_ofNat_of_lt (by omega)]; omega
theorem own_eqI {i j : Nat} (hi : i < 2147483648) (hj : j < 2147483648) : Int32.ofNat i = Int32.ofNat j ↔ i = j := by
  rw [← Int32.toInt_inj, Int32.toInt_ofNat_of_lt (by omega), Int32.toInt_ofNat_of_lt (by omega)]; omega
theorem own_nn0 {i : Nat} (hi : i < 2147483648) : ¬ Int32.ofNat i < 0 := by
  rw [Int32.lt_iff_toInt_lt, Int32.toInt_ofNat_of_lt (by omega)]; simp
theorem own_clamp {i : Nat} (hi : i < 2147483648) : (Int32.ofNat i).toNatClampNeg = i := by
  rw [Int32.toNatClampNeg, Int32.toInt_ofNat_of_lt (by omega)]; simp
theorem own_one (i : Nat) : Int32.ofNat i + (1 : Int32) = Int32.ofNat (i + 1) := (Int32.ofNat_add i 1).symm
def own_fill (f : Nat → Value) (n k : Nat) : List Value := (List.range n).map fun j => if j < k then f j else .int 0
theorem own_fill_len (f : Nat → Value) (n k : Nat) : (own_fill f n k).length = n := by simp [own_fill]
theorem own_fill_zero (f : Nat → Value) (n : Nat) : own_fill f n 0 = [] ++ List.replicate n (.int 0) := by
  apply List.ext_getElem
  · simp [own_fill]
  · intro i h1 h2; simp [own_fill]
theorem own_fill_set (f : Nat → Value) {n k : Nat} (hk : k < n) : (own_fill f n k).set k (f k) = own_fill f n (k + 1) := by
  apply List.ext_getElem
  · simp [own_fill]
  · intro i h1 h2
    simp only [own_fill, List.getElem_set, List.getElem_map, List.getElem_range]
    by_cases q : k = i
    · subst q; simp
    · rw [if_neg q]
      by_cases r : i < k
      · rw [if_pos r, if_pos (by omega)]
      · rw [if_neg r, if_neg (by omega)]
theorem own_fill_full (f : Nat → Value) (n : Nat) : own_fill f n n = (List.range n).map f := by
  simp only [own_fill]; apply List.map_congr_left; intro j hj; rw [if_pos (List.mem_range.mp hj)]
theorem own_range_map (cs : List Int32) (g : Int32 → Int32) : (List.range cs.length).map (fun j => Value.int (g (cs.getD j 0))) = (cs.map g).map Value.int := by
  apply List.ext_getElem
  · simp
  · intro i h1 h2
    have hi : i < cs.length := by simpa using h1
    simp [List.getD_eq_getElem?_getD, hi]
theorem own_getMap (us : List Int32) {j : Nat} (hj : j < us.length) (d : Value) : (us.map Value.int).getD j d = .int (us.getD j 0) := by
  simp [List.getD_eq_getElem?_getD, hj]
/-- a String: its coder and the bytes of its value -/
def Str (Z : State) (h : Heap) (a : Addr) (co : Int32) (us : List Int32) : Prop :=
  ∃ b k, Exa Z h a "java/lang/String" ∧ Fld Z h a "java/lang/String" "coder" "B" (.int co) ∧ Fld Z h a "java/lang/String" "value" "[B" (.ref b) ∧ Arv Z h b k .byte (Int32.ofNat us.length) (us.map Value.int) (.int 0)
theorem Str.ext {Z : State} {h h' : Heap} {a : Addr} {co : Int32} {us : List Int32} (F : Str Z h a co us) (E : Ext h h') : Str Z h' a co us := by
  obtain ⟨b, k, f1, f2, f3, f4⟩ := F
  exact ⟨b, k, f1.ext E, f2.ext E, f3.ext E, f4.ext E⟩
theorem Str.exa {Z : State} {h : Heap} {a : Addr} {co : Int32} {us : List Int32} (F : Str Z h a co us) : Exa Z h a "java/lang/String" := by
  obtain ⟨b, k, f1, -⟩ := F; exact f1
theorem own_arvUniq {Z : State} {h : Heap} {b : Addr} {k k' : ClassId} {ty : FieldType} {us ws : List Int32} (hu : us.length < 2147483648) (hw : ws.length < 2147483648) (F : Arv Z h b k ty (Int32.ofNat us.length) (us.map Value.int) (.int 0)) (G : Arv Z h b k' ty (Int32.ofNat ws.length) (ws.map Value.int) (.int 0)) : us = ws := by
  obtain ⟨c1, A1, -, s1, -, H1, -⟩ := F
  obtain ⟨c2, A2, -, s2, -, H2, -⟩ := G
  cases A1.1.symm.trans A2.1
  rw [own_clamp hu] at s1
  rw [own_clamp hw] at s2
  have el : us.length = ws.length := s1.symm.trans s2
  apply List.ext_getElem el
  intro i h1 h2
  have e1 := H1 i (by omega)
  have e2 := H2 i (by omega)
  rw [own_getMap us h1] at e1
  rw [own_getMap ws h2] at e2
  have := e1.symm.trans e2
  simp [List.getD_eq_getElem?_getD, h1, h2] at this
  exact this
theorem Str.uniq {Z : State} {h : Heap} {a : Addr} {co co' : Int32} {us ws : List Int32} (hu : us.length < 2147483648) (hw : ws.length < 2147483648) (F : Str Z h a co us) (G : Str Z h a co' ws) : us = ws := by
  obtain ⟨b, k, -, -, f3, f4⟩ := F
  obtain ⟨b', k', -, -, g3, g4⟩ := G
  have e : b = b' := by
    by_cases q : b = b'
    · exact q
    · exact absurd rfl (Fld.ne f3 g3 (fun r => q (Value.ref.inj r)))
  subst e
  exact own_arvUniq hu hw f4 g4
theorem own_staOld {Z : State} {n0 : Nat} {h : Heap} {C n d : String} {v : Value} (O : Old Z n0 h) (F : Sta Z Z.heap C n d v) : Sta Z h C n d v := by
  obtain ⟨cf, i, k, f, st, cell, h1, h2, h3, h4, h5, r⟩ := F
  exact ⟨cf, i, k, f, st, cell, h1, h2, h3, h4, O.2.2 _ _ h5, r⟩
theorem own_oldle {Z : State} {n0 : Nat} {h : Heap} (O : Old Z n0 h) : n0 ≤ h.size := by have h1 := O.1; have h2 := O.2.1; omega
theorem own_narb (x : Int32) : nar .byte (x.toInt8.toInt32) = nar .byte x := by
  show x.toInt8.toInt32.toInt8.toInt32 = x.toInt8.toInt32
  simp
theorem own_coder0 (z : Int32) : nar .byte (((z - z).toUInt32 >>> ((31 : Int32) &&& 31).toUInt32).toInt32).toInt8.toInt32 = 0 := by
  rw [Int32.sub_self]; decide
theorem own_takeS {us ws : List Int32} {i : Nat} (h1 : i < us.length) (h2 : i < ws.length) (hp : us.take i = ws.take i) (hc : us.getD i 0 = ws.getD i 0) : us.take (i + 1) = ws.take (i + 1) := by
  rw [List.take_succ_eq_append_getElem h1, List.take_succ_eq_append_getElem h2, hp]
  simp [List.getD_eq_getElem?_getD, h1, h2] at hc
  rw [hc]
theorem own_ite0 {P : Prop} [Decidable P] (h : (if P then (1 : Int32) else 0) = 0) : (some (Value.int 0)) = some (.int (if P then (1 : Int32) else 0)) := by rw [h]
theorem own_ite1 {P : Prop} [Decidable P] (h : ¬ ((if P then (1 : Int32) else 0) = 0)) : (some (Value.int 1)) = some (.int (if P then (1 : Int32) else 0)) := by
  by_cases q : P
  · rw [if_pos q]
  · rw [if_neg q] at h; exact absurd rfl h
theorem own_cw {Z : State} {a0 : Array Value} {cz : Int32} (G : Sta Z Z.heap "java/lang/String" "COMPACT_STRINGS" "Z" (.int cz)) (hcz : cz ≠ 0) : Jvm.Lit.compactW.before a0 Z = true := by
  have e : (Term.static "java/lang/String" "COMPACT_STRINGS" "Z").eval a0 Z none [] Z = some (.int cz) := Sta.fin (Vm.Alike.refl _) G
  exact Cond.before_iff.mpr (not_i (nay (Cond.eq_ints e (Term.int_eval 0)) hcz))

/-! the literal "" of String's own pool: already loaded (and known), or untouched since the case's start -/
def St (Z : State) (vm : Vm) (h : Heap) : Prop :=
  (∃ a b k, Lit (Z.setVm vm) "java/lang/String" 7 a ∧ Exa Z h a "java/lang/String" ∧ Fld Z h a "java/lang/String" "coder" "B" (.int 0) ∧ Fld Z h a "java/lang/String" "value" "[B" (.ref b) ∧ Arv Z h b k .byte (0 : Int32) [] (.int 0)) ∨ ∃ Ts, IB Z vm Ts ∧ "" ∉ Ts
theorem St.start (Z : State) : St Z Z.vm Z.heap := Or.inr ⟨[], IB.start, by simp⟩
theorem St.warm {Z s : State} {vm0 vm1 : Vm} {h : Heap} (F : St Z vm0 h) (hW : (s.setVm vm0).WarmedH vm1) : St Z vm1 h := by
  rcases F with ⟨a, b, k, L, r⟩ | ⟨Ts, ⟨more, e, hm⟩, hn⟩
  · exact Or.inl ⟨a, b, k, Lit.stays (s := s) L hW.wide, r⟩
  · exact Or.inr ⟨Ts, ⟨more, by rw [hW.interned_eq]; exact e, hm⟩, hn⟩
theorem St.ext {Z : State} {vm : Vm} {h h' : Heap} (F : St Z vm h) (E : Ext h h') : St Z vm h' := by
  rcases F with ⟨a, b, k, L, f1, f2, f3, f4⟩ | q
  · exact Or.inl ⟨a, b, k, L, f1.ext E, f2.ext E, f3.ext E, f4.ext E⟩
  · exact Or.inr q
theorem St.keep {Z : State} {vm : Vm} {h h' : Heap} {a0 : Array Value} {x : Addr} (F : St Z vm h) (K : Keep h h' [x]) (wi : (Jvm.Cond.instantiable "java/lang/String" 4).before a0 Z = true) (Ex : Exa Z h x "java/lang/String") (Fx : Fld Z h x "java/lang/String" "value" "[B" .null) : St Z vm h' := by
  rcases F with ⟨a, b, k, L, f1, f2, f3, f4⟩ | q
  · have n1 : a ≠ x := Fld.ne f3 Fx (fun r => by cases r)
    have n2 : b ≠ x := (Exa.neArv Ex f4 wi).symm
    exact Or.inl ⟨a, b, k, L, f1.keep K, f2.keep K (ninS n1 nin0), f3.keep K (ninS n1 nin0), f4.keep K (ninS n2 nin0)⟩
  · exact Or.inr q

section OwnUtf
theorem own_ti {k : Nat} (hk : k < 2147483648) : (Int32.ofNat k).toInt = (k : Int) := Int32.toInt_ofNat_of_lt hk
/-- the j-th byte of the two-byte coding (low byte first) -/
def own_ub (cs : List Int32) (j : Nat) : Int32 := if j % 2 = 0 then nar .byte (cs.getD (j / 2) 0) else nar .byte ((cs.getD (j / 2) 0) >>> ((8 : Int32) &&& 31))
def own_u16 (cs : List Int32) : List Int32 := (List.range (2 * cs.length)).map (own_ub cs)
theorem own_u16_len (cs : List Int32) : (own_u16 cs).length = 2 * cs.length := by simp [own_u16]
theorem own_u16_get {cs : List Int32} {j : Nat} (hj : j < 2 * cs.length) : (own_u16 cs).getD j 0 = own_ub cs j := by simp [own_u16, List.getD_eq_getElem?_getD, hj]
theorem own_ub0 (cs : List Int32) (i : Nat) : own_ub cs (2 * i) = nar .byte (cs.getD i 0) := by
  unfold own_ub; rw [if_pos (by omega), show 2 * i / 2 = i by omega]
theorem own_ub1 (cs : List Int32) (i : Nat) : own_ub cs (2 * i + 1) = nar .byte ((cs.getD i 0) >>> ((8 : Int32) &&& 31)) := by
  unfold own_ub; rw [if_neg (by omega), show (2 * i + 1) / 2 = i by omega]
theorem own_dbl {i : Nat} (hi : i ≤ 8000) : Int32.ofNat i <<< ((1 : Int32) &&& 31) = Int32.ofNat (2 * i) := by
  apply Int32.toInt_inj.mp
  have q := c_ishl (Int32.ofNat i) 1 1 (by decide)
  have h1 := (Int32.ofNat i <<< ((1 : Int32) &&& 31)).le_toInt; have h2 := (Int32.ofNat i <<< ((1 : Int32) &&& 31)).toInt_lt
  rw [own_ti (by omega)] at q
  rw [own_ti (by omega)]
  generalize (Int32.ofNat i <<< ((1 : Int32) &&& 31)).toInt = z at *
  simp at q
  omega
theorem own_hlf {i : Nat} (hi : i ≤ 8000) : Int32.ofNat (2 * i) >>> ((1 : Int32) &&& 31) = Int32.ofNat i := by
  apply Int32.toInt_inj.mp
  rw [c_ishr (Int32.ofNat (2 * i)) 1 1 (by decide), own_ti (by omega), own_ti (by omega)]
  simp
theorem own_shr0 (x : Int32) : x >>> ((0 : Int32) &&& 31) = x := by
  apply Int32.toInt_inj.mp
  rw [c_ishr x 0 0 (by decide)]; simp
theorem own_narB (x : Int32) : ((nar .byte x).toInt - x.toInt) % 256 = 0 := (c_i2b x).1
theorem own_narC (x : Int32) : ((nar .char x).toInt - x.toInt) % 65536 = 0 ∧ 0 ≤ (nar .char x).toInt ∧ (nar .char x).toInt < 65536 := c_i2c x
theorem own_b255 (x : Int32) : (x &&& (255 : Int32)).toInt = x.toInt % 256 := c_mask x 255 8 (by decide) (by decide)
theorem own_gc {c : Int32} (h0 : 0 ≤ c.toInt) (h1 : c.toInt < 65536) : nar .char ((((nar .byte c &&& (255 : Int32)) <<< ((0 : Int32) &&& 31)) ||| ((nar .byte (c >>> ((8 : Int32) &&& 31)) &&& (255 : Int32)) <<< ((8 : Int32) &&& 31))).toUInt32.toUInt16.toUInt32.toInt32) = c := by
  have a1 : (nar .byte c &&& (255 : Int32)).toInt = c.toInt % 256 := by rw [own_b255]; have := own_narB c; omega
  have e8 : (c >>> ((8 : Int32) &&& 31)).toInt = c.toInt / 256 := c_ishr c 8 8 (by decide)
  have b1 : (nar .byte (c >>> ((8 : Int32) &&& 31)) &&& (255 : Int32)).toInt = c.toInt / 256 := by rw [own_b255]; have := own_narB (c >>> ((8 : Int32) &&& 31)); rw [e8] at this; omega
  generalize (nar .byte c &&& (255 : Int32)) = A at *
  generalize (nar .byte (c >>> ((8 : Int32) &&& 31)) &&& (255 : Int32)) = D at *
  have a2 : (A <<< ((0 : Int32) &&& 31)).toInt = c.toInt % 256 := by
    have q := c_ishl A 0 0 (by decide); have r1 := (A <<< ((0 : Int32) &&& 31)).le_toInt; have r2 := (A <<< ((0 : Int32) &&& 31)).toInt_lt
    rw [show ((2 ^ 0 : Nat) : Int) = 1 from rfl, Int.mul_one] at q; omega
  have b2 : (D <<< ((8 : Int32) &&& 31)).toInt = c.toInt / 256 * 256 := by
    have q := c_ishl D 8 8 (by decide); have r1 := (D <<< ((8 : Int32) &&& 31)).le_toInt; have r2 := (D <<< ((8 : Int32) &&& 31)).toInt_lt
    simp at q; omega
  generalize (A <<< ((0 : Int32) &&& 31)) = A' at *
  generalize (D <<< ((8 : Int32) &&& 31)) = D' at *
  have s1 : (A' ||| D').toInt = c.toInt := by
    have q := c_or' A' D' 8 (by decide) 256 (by decide) (by omega) (by omega) (by omega); have r1 := (A' ||| D').le_toInt; have r2 := (A' ||| D').toInt_lt
    omega
  generalize (A' ||| D') = O at *
  have t1 := c_i2c O
  have t2 := own_narC (O.toUInt32.toUInt16.toUInt32.toInt32)
  generalize O.toUInt32.toUInt16.toUInt32.toInt32 = P at *
  apply Int32.toInt_inj.mp; omega
theorem own_lc {c : Int32} (h0 : 0 ≤ c.toInt) (h1 : c.toInt < 256) : nar .char ((nar .byte c &&& (255 : Int32)).toUInt32.toUInt16.toUInt32.toInt32) = c := by
  have a1 : (nar .byte c &&& (255 : Int32)).toInt = c.toInt := by rw [own_b255]; have := own_narB c; omega
  generalize (nar .byte c &&& (255 : Int32)) = A at *
  have t1 := c_i2c A
  have t2 := own_narC (A.toUInt32.toUInt16.toUInt32.toInt32)
  generalize A.toUInt32.toUInt16.toUInt32.toInt32 = P at *
  apply Int32.toInt_inj.mp; omega
theorem own_coder1 {n : Nat} (h0 : 0 < n) (h1 : n ≤ 4000) : nar .byte (((Int32.ofNat n - Int32.ofNat (2 * n)).toUInt32 >>> ((31 : Int32) &&& 31).toUInt32).toInt32).toInt8.toInt32 = 1 := by
  have e : ((Int32.ofNat n - Int32.ofNat (2 * n)).toUInt32 >>> ((31 : Int32) &&& 31).toUInt32).toInt32 = 1 := by
    apply Int32.toInt_inj.mp
    rw [c_iushr (Int32.ofNat n - Int32.ofNat (2 * n)) 31 31 (by decide) (by decide)]
    have q := c_isub (Int32.ofNat n) (Int32.ofNat (2 * n)); rw [own_ti (by omega), own_ti (by omega)] at q
    have r1 := (Int32.ofNat n - Int32.ofNat (2 * n)).le_toInt; have r2 := (Int32.ofNat n - Int32.ofNat (2 * n)).toInt_lt
    generalize (Int32.ofNat n - Int32.ofNat (2 * n)).toInt = z at *
    show z % 4294967296 / 2147483648 = 1
    omega
  rw [e]; decide
/-- how a String holds these chars -/
def Enc (cs : List Int32) (co : Int32) (us : List Int32) : Prop := (co = 0 ∧ us = cs.map (nar .byte) ∧ ∀ c ∈ cs, ¬ ((255 : Int32) < c)) ∨ (co = 1 ∧ us = own_u16 cs ∧ 0 < cs.length)
theorem Enc.len {cs us : List Int32} {co : Int32} (e : Enc cs co us) : us.length ≤ 2 * cs.length := by
  rcases e with ⟨-, rfl, -⟩ | ⟨-, rfl, -⟩
  · rw [List.length_map]; omega
  · rw [own_u16_len]; omega
theorem own_encCoder {cs us : List Int32} {co : Int32} (hl : cs.length ≤ 4000) (e : Enc cs co us) : nar .byte (((Int32.ofNat cs.length - Int32.ofNat us.length).toUInt32 >>> ((31 : Int32) &&& 31).toUInt32).toInt32).toInt8.toInt32 = co := by
  rcases e with ⟨rfl, rfl, -⟩ | ⟨rfl, rfl, h⟩
  · rw [List.length_map]; exact own_coder0 _
  · rw [own_u16_len]; exact own_coder1 h hl
theorem own_encLen {cs us : List Int32} {co : Int32} (hl : cs.length ≤ 4000) (e : Enc cs co us) : Int32.ofNat us.length >>> (co &&& 31) = Int32.ofNat cs.length := by
  rcases e with ⟨rfl, rfl, -⟩ | ⟨rfl, rfl, h⟩
  · rw [List.length_map]; exact own_shr0 _
  · rw [own_u16_len]; exact own_hlf (by omega)
theorem own_encCo {cs us : List Int32} {co : Int32} (e : Enc cs co us) : co = 0 ∨ co = 1 := by
  rcases e with ⟨rfl, -⟩ | ⟨rfl, -⟩
  · exact Or.inl rfl
  · exact Or.inr rfl
theorem own_gmem {cs : List Int32} {i : Nat} (hi : i < cs.length) : cs.getD i 0 ∈ cs := by rw [List.getD_eq_getElem?_getD, List.getElem?_eq_getElem hi]; exact List.getElem_mem hi
/-- a char's bounds -/
def Chs (cs : List Int32) : Prop := ∀ c ∈ cs, 0 ≤ c.toInt ∧ c.toInt < 65536
theorem own_255 {c : Int32} : (255 : Int32) < c ↔ 255 < c.toInt := by rw [Int32.lt_iff_toInt_lt]; simp
theorem own_upto {P : Nat → Prop} {i : Nat} (h : ∀ j, j < i → P j) (q : P i) : ∀ j, j < i + 1 → P j := fun j hj => by
  rcases Nat.lt_or_ge j i with r | r
  · exact h j r
  · have : j = i := by omega
    subst this; exact q
theorem own_irr (x : Int32) : ¬ x < x := by rw [Int32.lt_iff_toInt_lt]; omega
theorem own_lt64k {c : Int32} (h : ¬ (255 : Int32) < c) : c < (65536 : Int32) := by
  rw [own_255] at h; rw [Int32.lt_iff_toInt_lt]; simp; omega
theorem own_neB {cs : List Int32} {i : Nat} {ch : Int32} (hi : i < cs.length) (hlat : ∀ c ∈ cs, ¬ ((255 : Int32) < c)) (hch : Chs cs) (h0 : ¬ ch < 0) (h1 : ¬ (255 : Int32) < ch) (hn : ∀ c ∈ cs, c ≠ ch) : ¬ ((cs.map (nar .byte)).getD i 0 = ch.toInt8.toInt32) := by
  have hm := own_gmem hi
  intro q
  have e : (cs.map (nar .byte)).getD i 0 = nar .byte (cs.getD i 0) := by simp [List.getD_eq_getElem?_getD, hi]
  rw [e] at q
  have a1 := own_narB (cs.getD i 0)
  have a2 := (c_i2b ch).1
  have a3 := hlat _ hm; rw [own_255] at a3
  have a4 := (hch _ hm).1
  rw [own_255] at h1
  rw [Int32.lt_iff_toInt_lt] at h0
  have z0 : (0 : Int32).toInt = 0 := rfl
  rw [z0] at h0
  rw [q] at a1
  exact hn _ hm (Int32.toInt_inj.mp (by omega))
theorem own_eqInt {t : Term} {k : Int32} {a0 : Array Value} {Z : State} (h : (Cond.eq t (Term.int k)).value a0 Z none Z [] = some true) : t.eval a0 Z none [] Z = some (.int k) := by
  cases hx : t.eval a0 Z none [] Z with
  | none => simp [Cond.value, hx] at h
  | some x => cases x <;> simp [Cond.value, hx, Term.eval] at h <;> rw [h]
theorem own_chn {a x : Int32} (h : a.toUInt32.toUInt16.toUInt32.toInt32 = x) : 0 ≤ x.toInt ∧ x.toInt < 65536 := h ▸ (c_i2c a).2
theorem own_ncx {x : Int32} (h : 0 ≤ x.toInt ∧ x.toInt < 65536) : nar .char x = x := by
  have q := own_narC x
  exact Int32.toInt_inj.mp (by omega)
end OwnUtf

section Own942
theorem own_n4 {x n : Int32} (h : x &&& (3 : Int32) = n) : n = 0 ∨ n = 1 ∨ n = 2 ∨ n = 3 := by
  have e := c_mask x 3 2 (by decide) (by decide)
  rw [h] at e
  have h1 := Int.emod_nonneg x.toInt (b := ((2 ^ 2 : Nat) : Int)) (by decide); have h2 := Int.emod_lt_of_pos x.toInt (b := ((2 ^ 2 : Nat) : Int)) (by decide)
  have q : n.toInt = 0 ∨ n.toInt = 1 ∨ n.toInt = 2 ∨ n.toInt = 3 := by omega
  rcases q with q | q | q | q
  · exact Or.inl (Int32.toInt_inj.mp q)
  · exact Or.inr (Or.inl (Int32.toInt_inj.mp q))
  · exact Or.inr (Or.inr (Or.inl (Int32.toInt_inj.mp q)))
  · exact Or.inr (Or.inr (Or.inr (Int32.toInt_inj.mp q)))
/-- no brace -/
def Nob (c : Int32) : Prop := c ≠ 123 ∧ c ≠ 125
theorem own_br1 {c : Int32} (h : c = 123 ∨ c = 125) : some (Value.int 1) = some (.int (if c = 123 ∨ c = 125 then (1 : Int32) else 0)) := by rw [if_pos h]
theorem own_br0 {c : Int32} (h : ¬ (c = 123)) (h' : ¬ (c = 125)) : some (Value.int 0) = some (.int (if c = 123 ∨ c = 125 then (1 : Int32) else 0)) := by rw [if_neg (fun q => q.elim h h')]
theorem own_nob {c : Int32} (h : (if c = 123 ∨ c = 125 then (1 : Int32) else 0) = 0) : Nob c := by
  by_cases q : c = 123 ∨ c = 125
  · rw [if_pos q] at h; exact absurd h (by decide)
  · exact ⟨fun r => q (Or.inl r), fun r => q (Or.inr r)⟩
end Own942

theorem own_wS {Z : State} {a0 : Array Value} (hw : ∀ d ∈ tables_1, d.before a0 Z = true) : ∀ a ∈ Bundle.stringAtoms, a.before a0 Z = true := by
  intro a ha
  simp only [Bundle.stringAtoms, Bundle.sN, List.mem_cons, List.not_mem_nil, or_false] at ha
  rcases ha with rfl | rfl | rfl | rfl | rfl | rfl | rfl
  · exact (hw _ (List.mem_of_getElem? (i := 4) rfl))
  · exact (hw _ (List.mem_of_getElem? (i := 3) rfl))
  · exact (hw _ (List.mem_of_getElem? (i := 16) rfl))
  · exact (hw _ (List.mem_of_getElem? (i := 17) rfl))
  · exact (hw _ (List.mem_of_getElem? (i := 18) rfl))
  · exact (hw _ (List.mem_of_getElem? (i := 19) rfl))
  · exact (hw _ (List.mem_of_getElem? (i := 20) rfl))
theorem ef_18_RIRII (m : MethodId) (x0 : Addr) (x1 : Int32) (x2 : Addr) (x3 : Int32) (x4 : Int32) : entryFrame m #[(.ref x0), (.int x1), (.ref x2), (.int x3), (.int x4)] 7 = mkF m 0 #[.val (.ref x0), .val (.int x1), .val (.ref x2), .val (.int x3), .val (.int x4), .unset, .unset] [] := by first | (simp [entryFrame, mkF, argsToLocals, Value.category]; done) | rfl
theorem d18_0 : decode jdk_52_method_21_code 0 = .ok (.iconst 0, 1) := by decide +kernel
theorem d18_1 : decode jdk_52_method_21_code 1 = .ok (.istore 5, 2) := by decide +kernel
theorem d18_3 : decode jdk_52_method_21_code 3 = .ok (.iload 5, 2) := by decide +kernel
theorem d18_5 : decode jdk_52_method_21_code 5 = .ok (.iload 4, 2) := by decide +kernel
theorem d18_7 : decode jdk_52_method_21_code 7 = .ok (.if_icmp .ge 37, 3) := by decide +kernel
theorem d18_44 : decode jdk_52_method_21_code 44 = .ok (.iload 4, 2) := by decide +kernel
theorem d18_46 : decode jdk_52_method_21_code 46 = .ok (.ireturn, 1) := by decide +kernel
theorem d18_10 : decode jdk_52_method_21_code 10 = .ok (.aload_n 0, 1) := by decide +kernel
theorem d18_11 : decode jdk_52_method_21_code 11 = .ok (.iload_n 1, 1) := by decide +kernel
theorem d18_12 : decode jdk_52_method_21_code 12 = .ok (.caload, 1) := by decide +kernel
theorem d18_13 : decode jdk_52_method_21_code 13 = .ok (.istore 6, 2) := by decide +kernel
theorem d18_15 : decode jdk_52_method_21_code 15 = .ok (.iload 6, 2) := by decide +kernel
theorem d18_17 : decode jdk_52_method_21_code 17 = .ok (.sipush 255, 3) := by decide +kernel
theorem d18_20 : decode jdk_52_method_21_code 20 = .ok (.if_icmp .le 6, 3) := by decide +kernel
theorem d18_26 : decode jdk_52_method_21_code 26 = .ok (.aload_n 2, 1) := by decide +kernel
theorem d18_27 : decode jdk_52_method_21_code 27 = .ok (.iload_n 3, 1) := by decide +kernel
theorem d18_28 : decode jdk_52_method_21_code 28 = .ok (.iload 6, 2) := by decide +kernel
theorem d18_30 : decode jdk_52_method_21_code 30 = .ok (.i2b, 1) := by decide +kernel
theorem d18_31 : decode jdk_52_method_21_code 31 = .ok (.bastore, 1) := by decide +kernel
theorem d18_32 : decode jdk_52_method_21_code 32 = .ok (.iinc 1 1, 3) := by decide +kernel
theorem d18_35 : decode jdk_52_method_21_code 35 = .ok (.iinc 3 1, 3) := by decide +kernel
theorem d18_38 : decode jdk_52_method_21_code 38 = .ok (.iinc 5 1, 3) := by decide +kernel
theorem d18_41 : decode jdk_52_method_21_code 41 = .ok (.goto (-38), 3) := by decide +kernel
theorem pn_java_lang_StringUTF16 : plainName "java/lang/StringUTF16" = true := by first | (simp [plainName, overriddenIn]; done) | decide +kernel
set_option maxRecDepth 65536 in
set_option maxHeartbeats 40000000 in
theorem ctCi (l : Launch) (Z : State) (a0 : Array Value) (hw : ∀ d ∈ tables_1, d.before a0 Z = true) (ca b : Addr) (kca kb : ClassId) (cs : List Int32) (h0 : Heap) (n0 : Nat) (hcs : cs.length ≤ 4000) (hlat : ∀ c ∈ cs, ¬ ((255 : Int32) < c)) (Ca : Arv Z h0 ca kca .char (Int32.ofNat cs.length) (cs.map Value.int) (.int 0)) (Cb : Arv Z h0 b kb .byte (Int32.ofNat cs.length) ([] ++ List.replicate cs.length (.int 0)) (.int 0)) (hne : ca ≠ b) (hnb : n0 ≤ b) :
    CtN l Z (⟨"java/lang/StringUTF16", "compress", "([CI[BII)I"⟩ : MethodName) jdk_52_method_21_code 7 (some .int) ({ frames := 0, cells := 0, slots := 0, locals := 0 } : Room) n0 #[(.ref ca), (.int (0 : Int32)), (.ref b), (.int (0 : Int32)), (.int (Int32.ofNat cs.length))] h0 (fun v h => v = some (.int (Int32.ofNat cs.length)) ∧ Keep h0 h [b] ∧ Arv Z h b kb .byte (Int32.ofNat cs.length) ((cs.map (nar .byte)).map Value.int) (.int 0)) := by
  refine CtN.of (plainFor_of_name pn_java_lang_StringUTF16) ?_
  intro p e s m below meth c T0 W0 hnm
  refine Wp.cast (ef_18_RIRII m ca (0 : Int32) b (0 : Int32) (Int32.ofNat cs.length)) ?_
  have loop : ∀ (r i : Nat) (T : State) (h : Heap) (locs : List Loc) (s6 : Slot) (W : Wk p l e ({ frames := 0, cells := 0, slots := 0, locals := 0 } : Room) s s.vm m #[(.ref ca), (.int (0 : Int32)), (.ref b), (.int (0 : Int32)), (.int (Int32.ofNat cs.length))] below meth c Z "java/lang/StringUTF16" n0 jdk_52_method_21_code 7 (some .int) T h locs 0 0) (hi : i + r = cs.length) (K : Keep h0 h [b]) (V : Arv Z h b kb .byte (Int32.ofNat cs.length) (own_fill (fun j => Value.int (nar .byte (cs.getD j 0))) cs.length i) (.int 0)) (hs6 : s6 = .unset ∨ ∃ w : Int32, s6 = .val (.int w)), Wp p e below (PoN n0 s 0 0 (fun v h => v = some (.int (Int32.ofNat cs.length)) ∧ Keep h0 h [b] ∧ Arv Z h b kb .byte (Int32.ofNat cs.length) ((cs.map (nar .byte)).map Value.int) (.int 0))) T (mkF m 3 #[.val (.ref ca), .val (.int (Int32.ofNat i)), .val (.ref b), .val (.int (Int32.ofNat i)), .val (.int (Int32.ofNat cs.length)), .val (.int (Int32.ofNat i)), s6] []) := by
    intro r
    induction r with
    | zero =>
      intro i T h locs s6 W hi K V hs6
      have hi' : i = cs.length := by omega
      subst hi'
      refine w_iload W d18_3 rfl ?_
      refine w_iload W d18_5 rfl ?_
      refine w_icmpge W (pc' := 44) d18_7 (by decide) (fun c7 => ?_) (fun c7 => ?_)
      · refine w_iload W d18_44 rfl ?_
        exact n_rI W rfl d18_46 (by decide) (by decide) ⟨rfl, K, by rw [own_fill_full, own_range_map] at V; exact V⟩
      · exact absurd c7 (fun q => by rw [own_ltI (by omega) (by omega)] at q; omega)
    | succ r ih =>
      intro i T h locs s6 W hi K V hs6
      have hil : i < cs.length := by omega
      have hc : ¬ ((255 : Int32) < cs.getD i 0) := hlat _ (by rw [List.getD_eq_getElem?_getD, List.getElem?_eq_getElem hil]; exact List.getElem_mem hil)
      refine w_iload W d18_3 rfl ?_
      refine w_iload W d18_5 rfl ?_
      refine w_icmpge W (pc' := 44) d18_7 (by decide) (fun c7 => ?_) (fun c7 => ?_)
      · exact absurd ((own_ltI (by omega) (by omega)).mpr hil) c7
      · refine w_aloadN W d18_10 rfl rfl ?_
        refine w_iloadN W d18_11 rfl ?_
        refine w_caload W (Ca.keep K (ninS hne nin0)) ⟨own_nn0 (by omega), (own_ltI (by omega) (by omega)).mpr hil⟩ (v := (.int (cs.getD i 0))) (by rw [own_clamp (by omega)]; exact own_getMap cs hil _) d18_12 ?_
        refine w_istore W (L' := #[.val (.ref ca), .val (.int (Int32.ofNat i)), .val (.ref b), .val (.int (Int32.ofNat i)), .val (.int (Int32.ofNat cs.length)), .val (.int (Int32.ofNat i)), .val (.int (cs.getD i 0))]) d18_13 (by rcases hs6 with rfl | ⟨w, rfl⟩ <;> rfl) ?_
        refine w_iload W d18_15 rfl ?_
        refine w_sipush W (z := (255 : Int32)) d18_17 (by rfl) ?_
        refine w_icmple W (pc' := 26) d18_20 (by decide) (fun c20 => ?_) (fun c20 => ?_)
        · refine w_aloadN W d18_26 rfl rfl ?_
          refine w_iloadN W d18_27 rfl ?_
          refine w_iload W d18_28 rfl ?_
          refine w_i2b W d18_30 rfl ?_
          refine w_bastore W V ⟨own_nn0 (by omega), (own_ltI (by omega) (by omega)).mpr hil⟩ i (own_clamp (by omega)) (by rw [own_fill_len]; exact hil) (x' := (nar .byte (cs.getD i 0))) (own_narb _) hnb d18_31 ?_
          intro T1 h1 l1 W1 Wr1 V1
          rw [own_fill_set (fun j => Value.int (nar .byte (cs.getD j 0))) hil] at V1
          have K' := K.wr Wr1 (Or.inl (List.mem_cons_self ..))
          refine w_iinc W1 (L' := #[.val (.ref ca), .val (.int ((Int32.ofNat i) + (1 : Int32))), .val (.ref b), .val (.int (Int32.ofNat i)), .val (.int (Int32.ofNat cs.length)), .val (.int (Int32.ofNat i)), .val (.int (cs.getD i 0))]) d18_32 rfl (z := ((Int32.ofNat i) + (1 : Int32))) (by rfl) rfl ?_
          refine w_iinc W1 (L' := #[.val (.ref ca), .val (.int ((Int32.ofNat i) + (1 : Int32))), .val (.ref b), .val (.int ((Int32.ofNat i) + (1 : Int32))), .val (.int (Int32.ofNat cs.length)), .val (.int (Int32.ofNat i)), .val (.int (cs.getD i 0))]) d18_35 rfl (z := ((Int32.ofNat i) + (1 : Int32))) (by rfl) rfl ?_
          refine w_iinc W1 (L' := #[.val (.ref ca), .val (.int ((Int32.ofNat i) + (1 : Int32))), .val (.ref b), .val (.int ((Int32.ofNat i) + (1 : Int32))), .val (.int (Int32.ofNat cs.length)), .val (.int ((Int32.ofNat i) + (1 : Int32))), .val (.int (cs.getD i 0))]) d18_38 rfl (z := ((Int32.ofNat i) + (1 : Int32))) (by rfl) rfl ?_
          refine w_goto W1 (pc' := 3) d18_41 (by decide) ?_
          simp only [own_one]
          exact ih (i + 1) _ _ _ _ W1 (by omega) K' V1 (Or.inr ⟨_, rfl⟩)
        · exact absurd c20 hc
  refine w_iconst W0 (z := (0 : Int32)) d18_0 (by rfl) ?_
  refine w_istore W0 (L' := #[.val (.ref ca), .val (.int (0 : Int32)), .val (.ref b), .val (.int (0 : Int32)), .val (.int (Int32.ofNat cs.length)), .val (.int (0 : Int32)), .unset]) d18_1 rfl ?_
  exact loop cs.length 0 _ _ _ _ W0 (by omega) (Keep.refl _ _) (by rw [own_fill_zero]; exact Cb.pad (fun _ => rfl)) (Or.inl rfl)
theorem d18_23 : decode jdk_52_method_21_code 23 = .ok (.iload 5, 2) := by decide +kernel
theorem d18_25 : decode jdk_52_method_21_code 25 = .ok (.ireturn, 1) := by decide +kernel
set_option maxRecDepth 65536 in
set_option maxHeartbeats 40000000 in
theorem ctCiX (l : Launch) (Z : State) (a0 : Array Value) (hw : ∀ d ∈ tables_1, d.before a0 Z = true) (ca b : Addr) (kca kb : ClassId) (cs : List Int32) (h0 : Heap) (n0 : Nat) (hcs : cs.length ≤ 4000) (hX : ∃ c ∈ cs, (255 : Int32) < c) (Ca : Arv Z h0 ca kca .char (Int32.ofNat cs.length) (cs.map Value.int) (.int 0)) (Cb : Arv Z h0 b kb .byte (Int32.ofNat cs.length) ([] ++ List.replicate cs.length (.int 0)) (.int 0)) (hne : ca ≠ b) (hnb : n0 ≤ b) :
    CtN l Z (⟨"java/lang/StringUTF16", "compress", "([CI[BII)I"⟩ : MethodName) jdk_52_method_21_code 7 (some .int) ({ frames := 0, cells := 0, slots := 0, locals := 0 } : Room) n0 #[(.ref ca), (.int (0 : Int32)), (.ref b), (.int (0 : Int32)), (.int (Int32.ofNat cs.length))] h0 (fun v h => ∃ k, k < cs.length ∧ (255 : Int32) < cs.getD k 0 ∧ v = some (.int (Int32.ofNat k)) ∧ Keep h0 h [b]) := by
  refine CtN.of (plainFor_of_name pn_java_lang_StringUTF16) ?_
  intro p e s m below meth c T0 W0 hnm
  refine Wp.cast (ef_18_RIRII m ca (0 : Int32) b (0 : Int32) (Int32.ofNat cs.length)) ?_
  have loop : ∀ (r i : Nat) (T : State) (h : Heap) (locs : List Loc) (s6 : Slot) (W : Wk p l e ({ frames := 0, cells := 0, slots := 0, locals := 0 } : Room) s s.vm m #[(.ref ca), (.int (0 : Int32)), (.ref b), (.int (0 : Int32)), (.int (Int32.ofNat cs.length))] below meth c Z "java/lang/StringUTF16" n0 jdk_52_method_21_code 7 (some .int) T h locs 0 0) (hi : i + r = cs.length) (hb : ∀ j, j < i → ¬ ((255 : Int32) < cs.getD j 0)) (K : Keep h0 h [b]) (V : Arv Z h b kb .byte (Int32.ofNat cs.length) (own_fill (fun j => Value.int (nar .byte (cs.getD j 0))) cs.length i) (.int 0)) (hs6 : s6 = .unset ∨ ∃ w : Int32, s6 = .val (.int w)), Wp p e below (PoN n0 s 0 0 (fun v h => ∃ k, k < cs.length ∧ (255 : Int32) < cs.getD k 0 ∧ v = some (.int (Int32.ofNat k)) ∧ Keep h0 h [b])) T (mkF m 3 #[.val (.ref ca), .val (.int (Int32.ofNat i)), .val (.ref b), .val (.int (Int32.ofNat i)), .val (.int (Int32.ofNat cs.length)), .val (.int (Int32.ofNat i)), s6] []) := by
    intro r
    induction r with
    | zero =>
      intro i T h locs s6 W hi hb K V hs6
      obtain ⟨c, hc, hc2⟩ := hX
      obtain ⟨j, hj, rfl⟩ := List.mem_iff_getElem.mp hc
      exact absurd (by rw [List.getD_eq_getElem?_getD, List.getElem?_eq_getElem hj]; exact hc2) (hb j (by omega))
    | succ r ih =>
      intro i T h locs s6 W hi hb K V hs6
      have hil : i < cs.length := by omega
      refine w_iload W d18_3 rfl ?_
      refine w_iload W d18_5 rfl ?_
      refine w_icmpge W (pc' := 44) d18_7 (by decide) (fun c7 => ?_) (fun c7 => ?_)
      · exact absurd ((own_ltI (by omega) (by omega)).mpr hil) c7
      · refine w_aloadN W d18_10 rfl rfl ?_
        refine w_iloadN W d18_11 rfl ?_
        refine w_caload W (Ca.keep K (ninS hne nin0)) ⟨own_nn0 (by omega), (own_ltI (by omega) (by omega)).mpr hil⟩ (v := (.int (cs.getD i 0))) (by rw [own_clamp (by omega)]; exact own_getMap cs hil _) d18_12 ?_
        refine w_istore W (L' := #[.val (.ref ca), .val (.int (Int32.ofNat i)), .val (.ref b), .val (.int (Int32.ofNat i)), .val (.int (Int32.ofNat cs.length)), .val (.int (Int32.ofNat i)), .val (.int (cs.getD i 0))]) d18_13 (by rcases hs6 with rfl | ⟨w, rfl⟩ <;> rfl) ?_
        refine w_iload W d18_15 rfl ?_
        refine w_sipush W (z := (255 : Int32)) d18_17 (by rfl) ?_
        refine w_icmple W (pc' := 26) d18_20 (by decide) (fun c20 => ?_) (fun c20 => ?_)
        · refine w_aloadN W d18_26 rfl rfl ?_
          refine w_iloadN W d18_27 rfl ?_
          refine w_iload W d18_28 rfl ?_
          refine w_i2b W d18_30 rfl ?_
          refine w_bastore W V ⟨own_nn0 (by omega), (own_ltI (by omega) (by omega)).mpr hil⟩ i (own_clamp (by omega)) (by rw [own_fill_len]; exact hil) (x' := (nar .byte (cs.getD i 0))) (own_narb _) hnb d18_31 ?_
          intro T1 h1 l1 W1 Wr1 V1
          rw [own_fill_set (fun j => Value.int (nar .byte (cs.getD j 0))) hil] at V1
          have K' := K.wr Wr1 (Or.inl (List.mem_cons_self ..))
          refine w_iinc W1 (L' := #[.val (.ref ca), .val (.int ((Int32.ofNat i) + (1 : Int32))), .val (.ref b), .val (.int (Int32.ofNat i)), .val (.int (Int32.ofNat cs.length)), .val (.int (Int32.ofNat i)), .val (.int (cs.getD i 0))]) d18_32 rfl (z := ((Int32.ofNat i) + (1 : Int32))) (by rfl) rfl ?_
          refine w_iinc W1 (L' := #[.val (.ref ca), .val (.int ((Int32.ofNat i) + (1 : Int32))), .val (.ref b), .val (.int ((Int32.ofNat i) + (1 : Int32))), .val (.int (Int32.ofNat cs.length)), .val (.int (Int32.ofNat i)), .val (.int (cs.getD i 0))]) d18_35 rfl (z := ((Int32.ofNat i) + (1 : Int32))) (by rfl) rfl ?_
          refine w_iinc W1 (L' := #[.val (.ref ca), .val (.int ((Int32.ofNat i) + (1 : Int32))), .val (.ref b), .val (.int ((Int32.ofNat i) + (1 : Int32))), .val (.int (Int32.ofNat cs.length)), .val (.int ((Int32.ofNat i) + (1 : Int32))), .val (.int (cs.getD i 0))]) d18_38 rfl (z := ((Int32.ofNat i) + (1 : Int32))) (by rfl) rfl ?_
          refine w_goto W1 (pc' := 3) d18_41 (by decide) ?_
          simp only [own_one]
          exact ih (i + 1) _ _ _ _ W1 (by omega) (own_upto hb c20) K' V1 (Or.inr ⟨_, rfl⟩)
        · refine w_iload W d18_23 rfl ?_
          exact n_rI W rfl d18_25 (by decide) (by decide) ⟨i, hil, c20, rfl, K⟩
  refine w_iconst W0 (z := (0 : Int32)) d18_0 (by rfl) ?_
  refine w_istore W0 (L' := #[.val (.ref ca), .val (.int (0 : Int32)), .val (.ref b), .val (.int (0 : Int32)), .val (.int (Int32.ofNat cs.length)), .val (.int (0 : Int32)), .unset]) d18_1 rfl ?_
  exact loop cs.length 0 _ _ _ _ W0 (by omega) (fun j hj => absurd hj (Nat.not_lt_zero j)) (Keep.refl _ _) (by rw [own_fill_zero]; exact Cb.pad (fun _ => rfl)) (Or.inl rfl)
theorem ef_24_RII (m : MethodId) (x0 : Addr) (x1 : Int32) (x2 : Int32) : entryFrame m #[(.ref x0), (.int x1), (.int x2)] 3 = mkF m 0 #[.val (.ref x0), .val (.int x1), .val (.int x2)] [] := by first | (simp [entryFrame, mkF, argsToLocals, Value.category]; done) | rfl
theorem d24_0 : decode jdk_52_method_4_code 0 = .ok (.getstatic 44, 3) := by decide +kernel
theorem d24_3 : decode jdk_52_method_4_code 3 = .ok (.ifCond .ne 25, 3) := by decide +kernel
theorem d24_28 : decode jdk_52_method_4_code 28 = .ok (.iload_n 1, 1) := by decide +kernel
theorem d24_29 : decode jdk_52_method_4_code 29 = .ok (.iconst 1, 1) := by decide +kernel
theorem d24_30 : decode jdk_52_method_4_code 30 = .ok (.ishl, 1) := by decide +kernel
theorem d24_31 : decode jdk_52_method_4_code 31 = .ok (.istore_n 1, 1) := by decide +kernel
theorem d24_32 : decode jdk_52_method_4_code 32 = .ok (.aload_n 0, 1) := by decide +kernel
theorem d24_33 : decode jdk_52_method_4_code 33 = .ok (.iload_n 1, 1) := by decide +kernel
theorem d24_34 : decode jdk_52_method_4_code 34 = .ok (.iinc 1 1, 3) := by decide +kernel
theorem d24_37 : decode jdk_52_method_4_code 37 = .ok (.iload_n 2, 1) := by decide +kernel
theorem d24_38 : decode jdk_52_method_4_code 38 = .ok (.getstatic 59, 3) := by decide +kernel
theorem d24_41 : decode jdk_52_method_4_code 41 = .ok (.ishr, 1) := by decide +kernel
theorem d24_42 : decode jdk_52_method_4_code 42 = .ok (.i2b, 1) := by decide +kernel
theorem d24_43 : decode jdk_52_method_4_code 43 = .ok (.bastore, 1) := by decide +kernel
theorem d24_44 : decode jdk_52_method_4_code 44 = .ok (.aload_n 0, 1) := by decide +kernel
theorem d24_45 : decode jdk_52_method_4_code 45 = .ok (.iload_n 1, 1) := by decide +kernel
theorem d24_46 : decode jdk_52_method_4_code 46 = .ok (.iload_n 2, 1) := by decide +kernel
theorem d24_47 : decode jdk_52_method_4_code 47 = .ok (.getstatic 63, 3) := by decide +kernel
theorem d24_50 : decode jdk_52_method_4_code 50 = .ok (.ishr, 1) := by decide +kernel
theorem d24_51 : decode jdk_52_method_4_code 51 = .ok (.i2b, 1) := by decide +kernel
theorem d24_52 : decode jdk_52_method_4_code 52 = .ok (.bastore, 1) := by decide +kernel
theorem d24_53 : decode jdk_52_method_4_code 53 = .ok (.return_, 1) := by decide +kernel
set_option maxRecDepth 65536 in
set_option maxHeartbeats 40000000 in
theorem ctPc (l : Launch) (Z : State) (a0 : Array Value) (hw : ∀ d ∈ tables_1, d.before a0 Z = true) (b : Addr) (kb : ClassId) (cs : List Int32) (i : Nat) (h0 : Heap) (n0 : Nat) (hcs : cs.length ≤ 4000) (hi : i < cs.length) (O : Old Z n0 h0) (Ga : Sta Z Z.heap "java/lang/StringUTF16" "$assertionsDisabled" "Z" (.int 1)) (Gh : Sta Z Z.heap "java/lang/StringUTF16" "HI_BYTE_SHIFT" "I" (.int 0)) (Gl : Sta Z Z.heap "java/lang/StringUTF16" "LO_BYTE_SHIFT" "I" (.int 8)) (hnb : n0 ≤ b) (Cb : Arv Z h0 b kb .byte (Int32.ofNat (2 * cs.length)) (own_fill (fun j => Value.int (own_ub cs j)) (2 * cs.length) (2 * i)) (.int 0)) :
    CtN l Z (⟨"java/lang/StringUTF16", "putChar", "([BII)V"⟩ : MethodName) jdk_52_method_4_code 3 none ({ frames := 0, cells := 0, slots := 0, locals := 0 } : Room) n0 #[(.ref b), (.int (Int32.ofNat i)), (.int (cs.getD i 0))] h0 (fun v h => v = none ∧ Keep h0 h [b] ∧ Arv Z h b kb .byte (Int32.ofNat (2 * cs.length)) (own_fill (fun j => Value.int (own_ub cs j)) (2 * cs.length) (2 * (i + 1))) (.int 0)) := by
  refine CtN.of (plainFor_of_name pn_java_lang_StringUTF16) ?_
  intro p e s m below meth c T0 W0 hnm
  refine Wp.cast (ef_24_RII m b (Int32.ofNat i) (cs.getD i 0)) ?_
  have hi2 : 2 * i + 1 < 2 * cs.length := by omega
  refine w_gets W0 (host := "") (Or.inl (hw _ (List.mem_of_getElem? (i := 105) rfl))) Via.refl (own_staOld O Ga) d24_0 ?_
  intro T1 W1
  refine w_ifne W1 (pc' := 28) d24_3 (by decide) (fun c3 => ?_) (fun c3 => absurd c3 (by decide))
  refine w_iloadN W1 d24_28 rfl ?_
  refine w_iconst W1 (z := (1 : Int32)) d24_29 (by rfl) ?_
  refine w_ishl W1 d24_30 (own_dbl (by omega)) ?_
  refine w_istoreN W1 (L' := #[.val (.ref b), .val (.int (Int32.ofNat (2 * i))), .val (.int (cs.getD i 0))]) d24_31 rfl ?_
  refine w_aloadN W1 d24_32 rfl rfl ?_
  refine w_iloadN W1 d24_33 rfl ?_
  refine w_iinc W1 (L' := #[.val (.ref b), .val (.int (Int32.ofNat (2 * i + 1))), .val (.int (cs.getD i 0))]) d24_34 rfl (own_one _) rfl ?_
  refine w_iloadN W1 d24_37 rfl ?_
  refine w_gets W1 (host := "") (Or.inl (hw _ (List.mem_of_getElem? (i := 106) rfl))) Via.refl (own_staOld O Gh) d24_38 ?_
  intro T2 W2
  refine w_ishr W2 d24_41 (own_shr0 _) ?_
  refine w_i2b W2 d24_42 rfl ?_
  refine w_bastore W2 Cb ⟨own_nn0 (by omega), (own_ltI (by omega) (by omega)).mpr (by omega)⟩ (2 * i) (own_clamp (by omega)) (by rw [own_fill_len]; omega) (x' := (own_ub cs (2 * i))) (by rw [own_narb, own_ub0]) hnb d24_43 ?_
  intro T3 h3 l3 W3 Wr3 V3
  have V1 : Arv Z h3 b kb .byte (Int32.ofNat (2 * cs.length)) (own_fill (fun j => Value.int (own_ub cs j)) (2 * cs.length) (2 * i + 1)) (.int 0) := by rw [← own_fill_set (fun j => Value.int (own_ub cs j)) (by omega)]; exact V3
  have K1 := Keep.of_wr Wr3
  refine w_aloadN W3 d24_44 rfl rfl ?_
  refine w_iloadN W3 d24_45 rfl ?_
  refine w_iloadN W3 d24_46 rfl ?_
  refine w_gets W3 (host := "") (Or.inl (hw _ (List.mem_of_getElem? (i := 107) rfl))) Via.refl (own_staOld (O.keep K1 (allS hnb all0)) Gl) d24_47 ?_
  intro T4 W4
  refine w_ishr W4 d24_50 rfl ?_
  refine w_i2b W4 d24_51 rfl ?_
  refine w_bastore W4 V1 ⟨own_nn0 (by omega), (own_ltI (by omega) (by omega)).mpr (by omega)⟩ (2 * i + 1) (own_clamp (by omega)) (by rw [own_fill_len]; omega) (x' := (own_ub cs (2 * i + 1))) (by rw [own_narb, own_ub1]) hnb d24_52 ?_
  intro T5 h5 l5 W5 Wr5 V5
  have V2 : Arv Z h5 b kb .byte (Int32.ofNat (2 * cs.length)) (own_fill (fun j => Value.int (own_ub cs j)) (2 * cs.length) (2 * (i + 1))) (.int 0) := by rw [show 2 * (i + 1) = 2 * i + 1 + 1 by omega, ← own_fill_set (fun j => Value.int (own_ub cs j)) (by omega)]; exact V5
  have K2 := K1.wr Wr5 (Or.inl (List.mem_cons_self ..))
  exact n_rV W5 rfl d24_53 (by decide) (by decide) ⟨rfl, K2, V2⟩
theorem ef_23_I (m : MethodId) (x0 : Int32) : entryFrame m #[(.int x0)] 1 = mkF m 0 #[.val (.int x0)] [] := by first | (simp [entryFrame, mkF, argsToLocals, Value.category]; done) | rfl
theorem d23_0 : decode jdk_52_method_3_code 0 = .ok (.iload_n 0, 1) := by decide +kernel
theorem d23_1 : decode jdk_52_method_3_code 1 = .ok (.ifCond .ge 11, 3) := by decide +kernel
theorem d23_12 : decode jdk_52_method_3_code 12 = .ok (.iload_n 0, 1) := by decide +kernel
theorem d23_13 : decode jdk_52_method_3_code 13 = .ok (.ldc 20, 2) := by decide +kernel
theorem d23_15 : decode jdk_52_method_3_code 15 = .ok (.if_icmp .lt 40, 3) := by decide +kernel
theorem d23_55 : decode jdk_52_method_3_code 55 = .ok (.iload_n 0, 1) := by decide +kernel
theorem d23_56 : decode jdk_52_method_3_code 56 = .ok (.iconst 1, 1) := by decide +kernel
theorem d23_57 : decode jdk_52_method_3_code 57 = .ok (.ishl, 1) := by decide +kernel
theorem d23_58 : decode jdk_52_method_3_code 58 = .ok (.ireturn, 1) := by decide +kernel
set_option maxRecDepth 65536 in
set_option maxHeartbeats 40000000 in
theorem ctNl (l : Launch) (Z : State) (a0 : Array Value) (hw : ∀ d ∈ tables_1, d.before a0 Z = true) (cs : List Int32) (h0 : Heap) (n0 : Nat) (hcs : cs.length ≤ 4000) :
    CtN l Z (⟨"java/lang/StringUTF16", "newBytesLength", "(I)I"⟩ : MethodName) jdk_52_method_3_code 1 (some .int) ({ frames := 0, cells := 0, slots := 0, locals := 0 } : Room) n0 #[(.int (Int32.ofNat cs.length))] h0 (fun v h => v = some (.int (Int32.ofNat (2 * cs.length))) ∧ h0 = h) := by
  refine CtN.of (plainFor_of_name pn_java_lang_StringUTF16) ?_
  intro p e s m below meth c T0 W0 hnm
  refine Wp.cast (ef_23_I m (Int32.ofNat cs.length)) ?_
  refine w_iloadN W0 d23_0 rfl ?_
  refine w_ifge W0 (pc' := 12) d23_1 (by decide) (fun c1 => ?_) (fun c1 => ?_)
  · refine w_iloadN W0 d23_12 rfl ?_
    refine w_ldcI W0 (hw _ (List.mem_of_getElem? (i := 101) rfl)) d23_13 ?_
    refine w_icmplt W0 (pc' := 55) d23_15 (by decide) (fun c15 => ?_) (fun c15 => ?_)
    · refine w_iloadN W0 d23_55 rfl ?_
      refine w_iconst W0 (z := (1 : Int32)) d23_56 (by rfl) ?_
      refine w_ishl W0 d23_57 (own_dbl (by omega)) ?_
      exact n_rI W0 rfl d23_58 (by decide) (by decide) ⟨rfl, rfl⟩
    · exact absurd ((own_ltI (j := 1073741823) (by omega) (by decide)).mpr (by omega)) c15
  · exact absurd c1 (own_nn0 (by omega))
theorem ef_22_I (m : MethodId) (x0 : Int32) : entryFrame m #[(.int x0)] 1 = mkF m 0 #[.val (.int x0)] [] := by first | (simp [entryFrame, mkF, argsToLocals, Value.category]; done) | rfl
theorem d22_0 : decode jdk_52_method_2_code 0 = .ok (.iload_n 0, 1) := by decide +kernel
theorem d22_1 : decode jdk_52_method_2_code 1 = .ok (.invokestatic 11, 3) := by decide +kernel
theorem pd_0 : parseMethodDescriptor "(I)I" = some ⟨[.int], some .int⟩ := by decide +kernel
theorem d22_4 : decode jdk_52_method_2_code 4 = .ok (.newarray .byte, 2) := by decide +kernel
theorem d22_6 : decode jdk_52_method_2_code 6 = .ok (.areturn, 1) := by decide +kernel
set_option maxRecDepth 65536 in
set_option maxHeartbeats 40000000 in
theorem ctNf (l : Launch) (Z : State) (a0 : Array Value) (hw : ∀ d ∈ tables_1, d.before a0 Z = true) (cs : List Int32) (h0 : Heap) (n0 : Nat) (hcs : cs.length ≤ 3) :
    CtN l Z (⟨"java/lang/StringUTF16", "newBytesFor", "(I)[B"⟩ : MethodName) jdk_52_method_2_code 1 (some (.array .byte)) ({ frames := 1, cells := 1, slots := 6, locals := 12 } : Room) n0 #[(.int (Int32.ofNat cs.length))] h0 (fun v h => ∃ b kb, v = some (.ref b) ∧ Ext h0 h ∧ h0.size ≤ b ∧ Arv Z h b kb .byte (Int32.ofNat (2 * cs.length)) ([] ++ List.replicate (2 * cs.length) (.int 0)) (.int 0)) := by
  refine CtN.of (plainFor_of_name pn_java_lang_StringUTF16) ?_
  intro p e s m below meth c T0 W0 hnm
  refine Wp.cast (ef_22_I m (Int32.ofNat cs.length)) ?_
  refine w_iloadN W0 d22_0 rfl ?_
  refine w_callS W0 (ctNl l Z a0 hw cs _ n0 (by omega)) (hw _ (List.mem_of_getElem? (i := 98) rfl)) (hw _ (List.mem_of_getElem? (i := 99) rfl)) (hw _ (List.mem_of_getElem? (i := 81) rfl)) (hw _ (List.mem_of_getElem? (i := 100) rfl)) (by decide) 0 (by decide) (by decide) (by decide) (by decide) (argsL := [(.int (Int32.ofNat cs.length))]) (rest := []) pd_0 rfl rfl rfl rfl rfl d22_1 ?_
  rintro T1 h1 l1 _ W1 ⟨rfl, rfl⟩
  refine w_newarr W1 (ty := .byte) (dv := (.int 0)) (hw _ (List.mem_of_getElem? (i := 16) rfl)) rfl rfl d22_4 (own_nn0 (by omega)) 6 (by rw [own_clamp (by omega)]; omega) (by decide) (by decide) (by decide) ?_
  intro T2 h2 b k2 W2 E2 g2 V2
  exact n_rA W2 rfl rfl rfl d22_6 (by decide) (by decide) ⟨b, _, rfl, E2, Nat.le_of_eq g2.symm, V2.pad (pad_rep [] (.int 0) (2 * cs.length))⟩
theorem ef_21_RII (m : MethodId) (x0 : Addr) (x1 : Int32) (x2 : Int32) : entryFrame m #[(.ref x0), (.int x1), (.int x2)] 5 = mkF m 0 #[.val (.ref x0), .val (.int x1), .val (.int x2), .unset, .unset] [] := by first | (simp [entryFrame, mkF, argsToLocals, Value.category]; done) | rfl
theorem d21_0 : decode jdk_52_method_14_code 0 = .ok (.iload_n 2, 1) := by decide +kernel
theorem d21_1 : decode jdk_52_method_14_code 1 = .ok (.invokestatic 107, 3) := by decide +kernel
theorem pd_1 : parseMethodDescriptor "(I)[B" = some ⟨[.int], some (.array .byte)⟩ := by decide +kernel
theorem d21_4 : decode jdk_52_method_14_code 4 = .ok (.astore_n 3, 1) := by decide +kernel
theorem d21_5 : decode jdk_52_method_14_code 5 = .ok (.iconst 0, 1) := by decide +kernel
theorem d21_6 : decode jdk_52_method_14_code 6 = .ok (.istore 4, 2) := by decide +kernel
theorem d21_8 : decode jdk_52_method_14_code 8 = .ok (.iload 4, 2) := by decide +kernel
theorem d21_10 : decode jdk_52_method_14_code 10 = .ok (.iload_n 2, 1) := by decide +kernel
theorem d21_11 : decode jdk_52_method_14_code 11 = .ok (.if_icmp .ge 21, 3) := by decide +kernel
theorem d21_32 : decode jdk_52_method_14_code 32 = .ok (.aload_n 3, 1) := by decide +kernel
theorem d21_33 : decode jdk_52_method_14_code 33 = .ok (.areturn, 1) := by decide +kernel
theorem d21_14 : decode jdk_52_method_14_code 14 = .ok (.aload_n 3, 1) := by decide +kernel
theorem d21_15 : decode jdk_52_method_14_code 15 = .ok (.iload 4, 2) := by decide +kernel
theorem d21_17 : decode jdk_52_method_14_code 17 = .ok (.aload_n 0, 1) := by decide +kernel
theorem d21_18 : decode jdk_52_method_14_code 18 = .ok (.iload_n 1, 1) := by decide +kernel
theorem d21_19 : decode jdk_52_method_14_code 19 = .ok (.caload, 1) := by decide +kernel
theorem d21_20 : decode jdk_52_method_14_code 20 = .ok (.invokestatic 111, 3) := by decide +kernel
theorem pd_2 : parseMethodDescriptor "([BII)V" = some ⟨[(.array .byte), .int, .int], none⟩ := by decide +kernel
theorem d21_23 : decode jdk_52_method_14_code 23 = .ok (.iinc 1 1, 3) := by decide +kernel
theorem d21_26 : decode jdk_52_method_14_code 26 = .ok (.iinc 4 1, 3) := by decide +kernel
theorem d21_29 : decode jdk_52_method_14_code 29 = .ok (.goto (-21), 3) := by decide +kernel
set_option maxRecDepth 65536 in
set_option maxHeartbeats 40000000 in
theorem ctTb (l : Launch) (Z : State) (a0 : Array Value) (hw : ∀ d ∈ tables_1, d.before a0 Z = true) (ca : Addr) (kca : ClassId) (cs : List Int32) (h0 : Heap) (n0 : Nat) (hcs : cs.length ≤ 3) (O : Old Z n0 h0) (Ga : Sta Z Z.heap "java/lang/StringUTF16" "$assertionsDisabled" "Z" (.int 1)) (Gh : Sta Z Z.heap "java/lang/StringUTF16" "HI_BYTE_SHIFT" "I" (.int 0)) (Gl : Sta Z Z.heap "java/lang/StringUTF16" "LO_BYTE_SHIFT" "I" (.int 8)) (Ca : Arv Z h0 ca kca .char (Int32.ofNat cs.length) (cs.map Value.int) (.int 0)) :
    CtN l Z (⟨"java/lang/StringUTF16", "toBytes", "([CII)[B"⟩ : MethodName) jdk_52_method_14_code 5 (some (.array .byte)) ({ frames := 2, cells := 1, slots := 6, locals := 24 } : Room) n0 #[(.ref ca), (.int (0 : Int32)), (.int (Int32.ofNat cs.length))] h0 (fun v h => ∃ b kb, v = some (.ref b) ∧ Ext h0 h ∧ h0.size ≤ b ∧ Arv Z h b kb .byte (Int32.ofNat (2 * cs.length)) ((own_u16 cs).map Value.int) (.int 0)) := by
  refine CtN.of (plainFor_of_name pn_java_lang_StringUTF16) ?_
  intro p e s m below meth c T0 W0 hnm
  refine Wp.cast (ef_21_RII m ca (0 : Int32) (Int32.ofNat cs.length)) ?_
  refine w_iloadN W0 d21_0 rfl ?_
  refine w_callS W0 (ctNf l Z a0 hw cs _ n0 hcs) (hw _ (List.mem_of_getElem? (i := 95) rfl)) (hw _ (List.mem_of_getElem? (i := 96) rfl)) (hw _ (List.mem_of_getElem? (i := 81) rfl)) (hw _ (List.mem_of_getElem? (i := 97) rfl)) (by decide) 0 (by decide) (by decide) (by decide) (by decide) (argsL := [(.int (Int32.ofNat cs.length))]) (rest := []) pd_1 rfl rfl rfl rfl rfl d21_1 ?_
  rintro T1 h1 l1 _ W1 ⟨b, kb, rfl, E, hb, V0⟩
  refine w_astoreN W1 (L' := #[.val (.ref ca), .val (.int (0 : Int32)), .val (.int (Int32.ofNat cs.length)), .val (.ref b), .unset]) d21_4 rfl rfl ?_
  refine w_iconst W1 (z := (0 : Int32)) d21_5 (by rfl) ?_
  refine w_istore W1 (L' := #[.val (.ref ca), .val (.int (0 : Int32)), .val (.int (Int32.ofNat cs.length)), .val (.ref b), .val (.int (0 : Int32))]) d21_6 rfl ?_
  have hnb : n0 ≤ b := Nat.le_trans (own_oldle O) hb
  have hne : ca ≠ b := own_ltNe Ca.lt hb
  have Ca' := Ca.ext E
  have O' := O.ext E
  have loop : ∀ (r i : Nat) (T : State) (h : Heap) (locs : List Loc) (W : Wk p l e ({ frames := 2, cells := 1, slots := 6, locals := 24 } : Room) s s.vm m #[(.ref ca), (.int (0 : Int32)), (.int (Int32.ofNat cs.length))] below meth c Z "java/lang/StringUTF16" n0 jdk_52_method_14_code 5 (some (.array .byte)) T h locs 1 6) (hi : i + r = cs.length) (K : Keep h1 h [b]) (V : Arv Z h b kb .byte (Int32.ofNat (2 * cs.length)) (own_fill (fun j => Value.int (own_ub cs j)) (2 * cs.length) (2 * i)) (.int 0)), Wp p e below (PoN n0 s 1 6 (fun v h => ∃ b kb, v = some (.ref b) ∧ Ext h0 h ∧ h0.size ≤ b ∧ Arv Z h b kb .byte (Int32.ofNat (2 * cs.length)) ((own_u16 cs).map Value.int) (.int 0))) T (mkF m 8 #[.val (.ref ca), .val (.int (Int32.ofNat i)), .val (.int (Int32.ofNat cs.length)), .val (.ref b), .val (.int (Int32.ofNat i))] []) := by
    intro r
    induction r with
    | zero =>
      intro i T h locs W hi K V
      have hi' : i = cs.length := by omega
      subst hi'
      refine w_iload W d21_8 rfl ?_
      refine w_iloadN W d21_10 rfl ?_
      refine w_icmpge W (pc' := 32) d21_11 (by decide) (fun c11 => ?_) (fun c11 => ?_)
      · refine w_aloadN W d21_32 rfl rfl ?_
        exact n_rA W rfl rfl rfl d21_33 (by decide) (by decide) ⟨b, kb, rfl, own_extKeep E K (allS hb all0), hb, by rw [own_fill_full] at V; rw [own_u16, List.map_map]; exact V⟩
      · exact absurd c11 (fun q => by rw [own_ltI (by omega) (by omega)] at q; omega)
    | succ r ih =>
      intro i T h locs W hi K V
      have hil : i < cs.length := by omega
      refine w_iload W d21_8 rfl ?_
      refine w_iloadN W d21_10 rfl ?_
      refine w_icmpge W (pc' := 32) d21_11 (by decide) (fun c11 => ?_) (fun c11 => ?_)
      · exact absurd ((own_ltI (by omega) (by omega)).mpr hil) c11
      · refine w_aloadN W d21_14 rfl rfl ?_
        refine w_iload W d21_15 rfl ?_
        refine w_aloadN W d21_17 rfl rfl ?_
        refine w_iloadN W d21_18 rfl ?_
        refine w_caload W (Ca'.keep K (ninS hne nin0)) ⟨own_nn0 (by omega), (own_ltI (by omega) (by omega)).mpr hil⟩ (v := (.int (cs.getD i 0))) (by rw [own_clamp (by omega)]; exact own_getMap cs hil _) d21_19 ?_
        refine w_callS W (ctPc l Z a0 hw b kb cs i _ n0 (by omega) hil (O'.keep K (allS hnb all0)) Ga Gh Gl hnb V) (hw _ (List.mem_of_getElem? (i := 102) rfl)) (hw _ (List.mem_of_getElem? (i := 103) rfl)) (hw _ (List.mem_of_getElem? (i := 81) rfl)) (hw _ (List.mem_of_getElem? (i := 104) rfl)) (by decide) 0 (by decide) (by decide) (by decide) (by decide) (argsL := [(.ref b), (.int (Int32.ofNat i)), (.int (cs.getD i 0))]) (rest := []) pd_2 rfl rfl rfl rfl rfl d21_20 ?_
        rintro T2 h2 l2 _ W2 ⟨rfl, K2, V2⟩
        refine w_iinc W2 (L' := #[.val (.ref ca), .val (.int ((Int32.ofNat i) + (1 : Int32))), .val (.int (Int32.ofNat cs.length)), .val (.ref b), .val (.int (Int32.ofNat i))]) d21_23 rfl (z := ((Int32.ofNat i) + (1 : Int32))) (by rfl) rfl ?_
        refine w_iinc W2 (L' := #[.val (.ref ca), .val (.int ((Int32.ofNat i) + (1 : Int32))), .val (.int (Int32.ofNat cs.length)), .val (.ref b), .val (.int ((Int32.ofNat i) + (1 : Int32)))]) d21_26 rfl (z := ((Int32.ofNat i) + (1 : Int32))) (by rfl) rfl ?_
        refine w_goto W2 (pc' := 8) d21_29 (by decide) ?_
        simp only [own_one]
        exact ih (i + 1) _ _ _ (Wk.mono W2 (by decide) (by decide)) (by omega) (K.trans K2 (fun x hx => Or.inl hx)) V2
  exact loop cs.length 0 _ _ _ W1 (by omega) (Keep.refl _ _) (by rw [own_fill_zero]; exact V0)
theorem ef_25_RI (m : MethodId) (x0 : Addr) (x1 : Int32) : entryFrame m #[(.ref x0), (.int x1)] 2 = mkF m 0 #[.val (.ref x0), .val (.int x1)] [] := by first | (simp [entryFrame, mkF, argsToLocals, Value.category]; done) | rfl
theorem d25_0 : decode jdk_52_method_5_code 0 = .ok (.getstatic 44, 3) := by decide +kernel
theorem d25_3 : decode jdk_52_method_5_code 3 = .ok (.ifCond .ne 25, 3) := by decide +kernel
theorem d25_28 : decode jdk_52_method_5_code 28 = .ok (.iload_n 1, 1) := by decide +kernel
theorem d25_29 : decode jdk_52_method_5_code 29 = .ok (.iconst 1, 1) := by decide +kernel
theorem d25_30 : decode jdk_52_method_5_code 30 = .ok (.ishl, 1) := by decide +kernel
theorem d25_31 : decode jdk_52_method_5_code 31 = .ok (.istore_n 1, 1) := by decide +kernel
theorem d25_32 : decode jdk_52_method_5_code 32 = .ok (.aload_n 0, 1) := by decide +kernel
theorem d25_33 : decode jdk_52_method_5_code 33 = .ok (.iload_n 1, 1) := by decide +kernel
theorem d25_34 : decode jdk_52_method_5_code 34 = .ok (.iinc 1 1, 3) := by decide +kernel
theorem d25_37 : decode jdk_52_method_5_code 37 = .ok (.baload, 1) := by decide +kernel
theorem d25_38 : decode jdk_52_method_5_code 38 = .ok (.sipush 255, 3) := by decide +kernel
theorem d25_41 : decode jdk_52_method_5_code 41 = .ok (.iand, 1) := by decide +kernel
theorem d25_42 : decode jdk_52_method_5_code 42 = .ok (.getstatic 59, 3) := by decide +kernel
theorem d25_45 : decode jdk_52_method_5_code 45 = .ok (.ishl, 1) := by decide +kernel
theorem d25_46 : decode jdk_52_method_5_code 46 = .ok (.aload_n 0, 1) := by decide +kernel
theorem d25_47 : decode jdk_52_method_5_code 47 = .ok (.iload_n 1, 1) := by decide +kernel
theorem d25_48 : decode jdk_52_method_5_code 48 = .ok (.baload, 1) := by decide +kernel
theorem d25_49 : decode jdk_52_method_5_code 49 = .ok (.sipush 255, 3) := by decide +kernel
theorem d25_52 : decode jdk_52_method_5_code 52 = .ok (.iand, 1) := by decide +kernel
theorem d25_53 : decode jdk_52_method_5_code 53 = .ok (.getstatic 63, 3) := by decide +kernel
theorem d25_56 : decode jdk_52_method_5_code 56 = .ok (.ishl, 1) := by decide +kernel
theorem d25_57 : decode jdk_52_method_5_code 57 = .ok (.ior, 1) := by decide +kernel
theorem d25_58 : decode jdk_52_method_5_code 58 = .ok (.i2c, 1) := by decide +kernel
theorem d25_59 : decode jdk_52_method_5_code 59 = .ok (.ireturn, 1) := by decide +kernel
set_option maxRecDepth 65536 in
set_option maxHeartbeats 40000000 in
theorem ctGc (l : Launch) (Z : State) (a0 : Array Value) (hw : ∀ d ∈ tables_1, d.before a0 Z = true) (b : Addr) (kb : ClassId) (cs : List Int32) (i : Nat) (h0 : Heap) (n0 : Nat) (hcs : cs.length ≤ 4000) (hi : i < cs.length) (hch : Chs cs) (O : Old Z n0 h0) (Ga : Sta Z Z.heap "java/lang/StringUTF16" "$assertionsDisabled" "Z" (.int 1)) (Gh : Sta Z Z.heap "java/lang/StringUTF16" "HI_BYTE_SHIFT" "I" (.int 0)) (Gl : Sta Z Z.heap "java/lang/StringUTF16" "LO_BYTE_SHIFT" "I" (.int 8)) (Cb : Arv Z h0 b kb .byte (Int32.ofNat (2 * cs.length)) ((own_u16 cs).map Value.int) (.int 0)) :
    CtN l Z (⟨"java/lang/StringUTF16", "getChar", "([BI)C"⟩ : MethodName) jdk_52_method_5_code 2 (some .char) ({ frames := 0, cells := 0, slots := 0, locals := 0 } : Room) n0 #[(.ref b), (.int (Int32.ofNat i))] h0 (fun v h => v = some (.int (cs.getD i 0)) ∧ h0 = h) := by
  refine CtN.of (plainFor_of_name pn_java_lang_StringUTF16) ?_
  intro p e s m below meth c T0 W0 hnm
  refine Wp.cast (ef_25_RI m b (Int32.ofNat i)) ?_
  obtain ⟨hc0, hc1⟩ := hch _ (own_gmem hi)
  refine w_gets W0 (host := "") (Or.inl (hw _ (List.mem_of_getElem? (i := 105) rfl))) Via.refl (own_staOld O Ga) d25_0 ?_
  intro T1 W1
  refine w_ifne W1 (pc' := 28) d25_3 (by decide) (fun c3 => ?_) (fun c3 => absurd c3 (by decide))
  refine w_iloadN W1 d25_28 rfl ?_
  refine w_iconst W1 (z := (1 : Int32)) d25_29 (by rfl) ?_
  refine w_ishl W1 d25_30 (own_dbl (by omega)) ?_
  refine w_istoreN W1 (L' := #[.val (.ref b), .val (.int (Int32.ofNat (2 * i)))]) d25_31 rfl ?_
  refine w_aloadN W1 d25_32 rfl rfl ?_
  refine w_iloadN W1 d25_33 rfl ?_
  refine w_iinc W1 (L' := #[.val (.ref b), .val (.int (Int32.ofNat (2 * i + 1)))]) d25_34 rfl (own_one _) rfl ?_
  refine w_baload W1 Cb ⟨own_nn0 (by omega), (own_ltI (by omega) (by omega)).mpr (by omega)⟩ (v := (.int (nar .byte (cs.getD i 0)))) (by rw [own_clamp (by omega), own_getMap _ (by rw [own_u16_len]; omega), own_u16_get (by omega), own_ub0]) d25_37 ?_
  refine w_sipush W1 (z := (255 : Int32)) d25_38 (by rfl) ?_
  refine w_iand W1 d25_41 rfl ?_
  refine w_gets W1 (host := "") (Or.inl (hw _ (List.mem_of_getElem? (i := 106) rfl))) Via.refl (own_staOld O Gh) d25_42 ?_
  intro T2 W2
  refine w_ishl W2 d25_45 rfl ?_
  refine w_aloadN W2 d25_46 rfl rfl ?_
  refine w_iloadN W2 d25_47 rfl ?_
  refine w_baload W2 Cb ⟨own_nn0 (by omega), (own_ltI (by omega) (by omega)).mpr (by omega)⟩ (v := (.int (nar .byte ((cs.getD i 0) >>> ((8 : Int32) &&& 31))))) (by rw [own_clamp (by omega), own_getMap _ (by rw [own_u16_len]; omega), own_u16_get (by omega), own_ub1]) d25_48 ?_
  refine w_sipush W2 (z := (255 : Int32)) d25_49 (by rfl) ?_
  refine w_iand W2 d25_52 rfl ?_
  refine w_gets W2 (host := "") (Or.inl (hw _ (List.mem_of_getElem? (i := 107) rfl))) Via.refl (own_staOld O Gl) d25_53 ?_
  intro T3 W3
  refine w_ishl W3 d25_56 rfl ?_
  refine w_ior W3 d25_57 rfl ?_
  refine w_i2c W3 d25_58 rfl ?_
  exact n_rN W3 rfl (by simp) (z' := (cs.getD i 0)) (own_gc hc0 hc1) d25_59 (by decide) (by decide) ⟨rfl, rfl⟩
theorem ef_17_RII (m : MethodId) (x0 : Addr) (x1 : Int32) (x2 : Int32) : entryFrame m #[(.ref x0), (.int x1), (.int x2)] 6 = mkF m 0 #[.val (.ref x0), .val (.int x1), .val (.int x2), .unset, .unset, .unset] [] := by first | (simp [entryFrame, mkF, argsToLocals, Value.category]; done) | rfl
theorem d17_0 : decode jdk_52_method_16_code 0 = .ok (.iload_n 2, 1) := by decide +kernel
theorem d17_1 : decode jdk_52_method_16_code 1 = .ok (.newarray .byte, 2) := by decide +kernel
theorem d17_3 : decode jdk_52_method_16_code 3 = .ok (.astore_n 3, 1) := by decide +kernel
theorem d17_4 : decode jdk_52_method_16_code 4 = .ok (.aload_n 0, 1) := by decide +kernel
theorem d17_5 : decode jdk_52_method_16_code 5 = .ok (.iload_n 1, 1) := by decide +kernel
theorem d17_6 : decode jdk_52_method_16_code 6 = .ok (.aload_n 3, 1) := by decide +kernel
theorem d17_7 : decode jdk_52_method_16_code 7 = .ok (.iconst 0, 1) := by decide +kernel
theorem d17_8 : decode jdk_52_method_16_code 8 = .ok (.iload_n 2, 1) := by decide +kernel
theorem d17_9 : decode jdk_52_method_16_code 9 = .ok (.invokestatic 115, 3) := by decide +kernel
theorem pd_3 : parseMethodDescriptor "([CI[BII)I" = some ⟨[(.array .char), .int, (.array .byte), .int, .int], some .int⟩ := by decide +kernel
theorem d17_12 : decode jdk_52_method_16_code 12 = .ok (.istore 4, 2) := by decide +kernel
theorem d17_14 : decode jdk_52_method_16_code 14 = .ok (.iload 4, 2) := by decide +kernel
theorem d17_16 : decode jdk_52_method_16_code 16 = .ok (.iload_n 2, 1) := by decide +kernel
theorem d17_17 : decode jdk_52_method_16_code 17 = .ok (.if_icmp .eq 40, 3) := by decide +kernel
theorem d17_57 : decode jdk_52_method_16_code 57 = .ok (.aload_n 3, 1) := by decide +kernel
theorem d17_58 : decode jdk_52_method_16_code 58 = .ok (.areturn, 1) := by decide +kernel
theorem d17_20 : decode jdk_52_method_16_code 20 = .ok (.aload_n 0, 1) := by decide +kernel
theorem d17_21 : decode jdk_52_method_16_code 21 = .ok (.iload_n 1, 1) := by decide +kernel
theorem d17_22 : decode jdk_52_method_16_code 22 = .ok (.iload_n 2, 1) := by decide +kernel
theorem d17_23 : decode jdk_52_method_16_code 23 = .ok (.invokestatic 119, 3) := by decide +kernel
theorem pd_4 : parseMethodDescriptor "([CII)[B" = some ⟨[(.array .char), .int, .int], some (.array .byte)⟩ := by decide +kernel
theorem d17_26 : decode jdk_52_method_16_code 26 = .ok (.astore 5, 2) := by decide +kernel
theorem d17_28 : decode jdk_52_method_16_code 28 = .ok (.aload 5, 2) := by decide +kernel
theorem d17_30 : decode jdk_52_method_16_code 30 = .ok (.iload 4, 2) := by decide +kernel
theorem d17_32 : decode jdk_52_method_16_code 32 = .ok (.invokestatic 71, 3) := by decide +kernel
theorem pd_5 : parseMethodDescriptor "([BI)C" = some ⟨[(.array .byte), .int], some .char⟩ := by decide +kernel
theorem d17_35 : decode jdk_52_method_16_code 35 = .ok (.sipush 255, 3) := by decide +kernel
theorem d17_38 : decode jdk_52_method_16_code 38 = .ok (.if_icmp .gt 16, 3) := by decide +kernel
theorem d17_54 : decode jdk_52_method_16_code 54 = .ok (.aload 5, 2) := by decide +kernel
theorem d17_56 : decode jdk_52_method_16_code 56 = .ok (.areturn, 1) := by decide +kernel
set_option maxRecDepth 65536 in
set_option maxHeartbeats 40000000 in
theorem ctCo (l : Launch) (Z : State) (a0 : Array Value) (hw : ∀ d ∈ tables_1, d.before a0 Z = true) (ca : Addr) (kca : ClassId) (cs : List Int32) (h0 : Heap) (n0 : Nat) (hcs : cs.length ≤ 3) (hch : Chs cs) (O : Old Z n0 h0) (Ga : Sta Z Z.heap "java/lang/StringUTF16" "$assertionsDisabled" "Z" (.int 1)) (Gh : Sta Z Z.heap "java/lang/StringUTF16" "HI_BYTE_SHIFT" "I" (.int 0)) (Gl : Sta Z Z.heap "java/lang/StringUTF16" "LO_BYTE_SHIFT" "I" (.int 8)) (Ca : Arv Z h0 ca kca .char (Int32.ofNat cs.length) (cs.map Value.int) (.int 0)) :
    CtN l Z (⟨"java/lang/StringUTF16", "compress", "([CII)[B"⟩ : MethodName) jdk_52_method_16_code 6 (some (.array .byte)) ({ frames := 3, cells := 2, slots := 9, locals := 40 } : Room) n0 #[(.ref ca), (.int (0 : Int32)), (.int (Int32.ofNat cs.length))] h0 (fun v h => ∃ b kb co us, v = some (.ref b) ∧ Ext h0 h ∧ h0.size ≤ b ∧ Arv Z h b kb .byte (Int32.ofNat us.length) (us.map Value.int) (.int 0) ∧ Enc cs co us) := by
  refine CtN.of (plainFor_of_name pn_java_lang_StringUTF16) ?_
  intro p e s m below meth c T0 W0 hnm
  refine Wp.cast (ef_17_RII m ca (0 : Int32) (Int32.ofNat cs.length)) ?_
  refine w_iloadN W0 d17_0 rfl ?_
  refine w_newarr W0 (ty := .byte) (dv := (.int 0)) (hw _ (List.mem_of_getElem? (i := 16) rfl)) rfl rfl d17_1 (own_nn0 (by omega)) 3 (by rw [own_clamp (by omega)]; exact hcs) (by decide) (by decide) (by decide) ?_
  intro T1 h1 b k1 W1 E1 g1 V1
  have hb0 : n0 ≤ b := by rw [g1]; exact own_oldle O
  have hne : ca ≠ b := own_ltNe Ca.lt (Nat.le_of_eq g1.symm)
  have V' := V1.pad (pad_rep [] (.int 0) cs.length)
  by_cases hlat : ∀ c ∈ cs, ¬ ((255 : Int32) < c)
  · refine w_astoreN W1 (L' := #[.val (.ref ca), .val (.int (0 : Int32)), .val (.int (Int32.ofNat cs.length)), .val (.ref b), .unset, .unset]) d17_3 rfl rfl ?_
    refine w_aloadN W1 d17_4 rfl rfl ?_
    refine w_iloadN W1 d17_5 rfl ?_
    refine w_aloadN W1 d17_6 rfl rfl ?_
    refine w_iconst W1 (z := (0 : Int32)) d17_7 (by rfl) ?_
    refine w_iloadN W1 d17_8 rfl ?_
    refine w_callS W1 (ctCi l Z a0 hw ca b _ _ cs _ n0 (by omega) hlat (Ca.ext E1) V' hne hb0) (hw _ (List.mem_of_getElem? (i := 83) rfl)) (hw _ (List.mem_of_getElem? (i := 84) rfl)) (hw _ (List.mem_of_getElem? (i := 81) rfl)) (hw _ (List.mem_of_getElem? (i := 85) rfl)) (by decide) 0 (by decide) (by decide) (by decide) (by decide) (argsL := [(.ref ca), (.int (0 : Int32)), (.ref b), (.int (0 : Int32)), (.int (Int32.ofNat cs.length))]) (rest := []) pd_3 rfl rfl rfl rfl rfl d17_9 ?_
    rintro T2 h2 l2 _ W2 ⟨rfl, K, V⟩
    refine w_istore W2 (L' := #[.val (.ref ca), .val (.int (0 : Int32)), .val (.int (Int32.ofNat cs.length)), .val (.ref b), .val (.int (Int32.ofNat cs.length)), .unset]) d17_12 rfl ?_
    refine w_iload W2 d17_14 rfl ?_
    refine w_iloadN W2 d17_16 rfl ?_
    refine w_icmpeq W2 (pc' := 57) d17_17 (by decide) (fun c17 => ?_) (fun c17 => ?_)
    · refine w_aloadN W2 d17_57 rfl rfl ?_
      exact n_rA W2 rfl rfl rfl d17_58 (by decide) (by decide) ⟨b, _, 0, cs.map (nar .byte), rfl, own_extKeep E1 K (allS (Nat.le_of_eq g1.symm) all0), Nat.le_of_eq g1.symm, by rw [List.length_map]; exact V, Or.inl ⟨rfl, rfl, hlat⟩⟩
    · exact absurd rfl c17
  · have hX : ∃ c ∈ cs, (255 : Int32) < c := by refine Classical.byContradiction fun q => hlat fun c hc r => q ⟨c, hc, r⟩
    refine w_astoreN W1 (L' := #[.val (.ref ca), .val (.int (0 : Int32)), .val (.int (Int32.ofNat cs.length)), .val (.ref b), .unset, .unset]) d17_3 rfl rfl ?_
    refine w_aloadN W1 d17_4 rfl rfl ?_
    refine w_iloadN W1 d17_5 rfl ?_
    refine w_aloadN W1 d17_6 rfl rfl ?_
    refine w_iconst W1 (z := (0 : Int32)) d17_7 (by rfl) ?_
    refine w_iloadN W1 d17_8 rfl ?_
    refine w_callS W1 (ctCiX l Z a0 hw ca b _ _ cs _ n0 (by omega) hX (Ca.ext E1) V' hne hb0) (hw _ (List.mem_of_getElem? (i := 83) rfl)) (hw _ (List.mem_of_getElem? (i := 84) rfl)) (hw _ (List.mem_of_getElem? (i := 81) rfl)) (hw _ (List.mem_of_getElem? (i := 85) rfl)) (by decide) 0 (by decide) (by decide) (by decide) (by decide) (argsL := [(.ref ca), (.int (0 : Int32)), (.ref b), (.int (0 : Int32)), (.int (Int32.ofNat cs.length))]) (rest := []) pd_3 rfl rfl rfl rfl rfl d17_9 ?_
    rintro T3 h3 l3 _ W3 ⟨k, hk, hk2, rfl, K⟩
    have EK := own_extKeep E1 K (allS (Nat.le_of_eq g1.symm) all0)
    refine w_istore W3 (L' := #[.val (.ref ca), .val (.int (0 : Int32)), .val (.int (Int32.ofNat cs.length)), .val (.ref b), .val (.int (Int32.ofNat k)), .unset]) d17_12 rfl ?_
    refine w_iload W3 d17_14 rfl ?_
    refine w_iloadN W3 d17_16 rfl ?_
    refine w_icmpeq W3 (pc' := 57) d17_17 (by decide) (fun c17 => ?_) (fun c17 => ?_)
    · exact absurd ((own_eqI (by omega) (by omega)).mp c17) (by omega)
    · refine w_aloadN W3 d17_20 rfl rfl ?_
      refine w_iloadN W3 d17_21 rfl ?_
      refine w_iloadN W3 d17_22 rfl ?_
      refine w_callS W3 (ctTb l Z a0 hw ca _ cs _ n0 hcs (O.ext EK) Ga Gh Gl (Ca.ext EK)) (hw _ (List.mem_of_getElem? (i := 92) rfl)) (hw _ (List.mem_of_getElem? (i := 93) rfl)) (hw _ (List.mem_of_getElem? (i := 81) rfl)) (hw _ (List.mem_of_getElem? (i := 94) rfl)) (by decide) 0 (by decide) (by decide) (by decide) (by decide) (argsL := [(.ref ca), (.int (0 : Int32)), (.int (Int32.ofNat cs.length))]) (rest := []) pd_4 rfl rfl rfl rfl rfl d17_23 ?_
      rintro T4 h4 l4 _ W4 ⟨tb, tk, rfl, E2, htb, VT⟩
      refine w_astore W4 (L' := #[.val (.ref ca), .val (.int (0 : Int32)), .val (.int (Int32.ofNat cs.length)), .val (.ref b), .val (.int (Int32.ofNat k)), .val (.ref tb)]) d17_26 rfl rfl ?_
      refine w_aload W4 d17_28 rfl rfl ?_
      refine w_iload W4 d17_30 rfl ?_
      refine w_callS W4 (ctGc l Z a0 hw tb _ cs k _ n0 (by omega) hk hch (O.ext (own_extTrans EK E2)) Ga Gh Gl VT) (hw _ (List.mem_of_getElem? (i := 108) rfl)) (hw _ (List.mem_of_getElem? (i := 109) rfl)) (hw _ (List.mem_of_getElem? (i := 81) rfl)) (hw _ (List.mem_of_getElem? (i := 110) rfl)) (by decide) 0 (by decide) (by decide) (by decide) (by decide) (argsL := [(.ref tb), (.int (Int32.ofNat k))]) (rest := []) pd_5 rfl rfl rfl rfl rfl d17_32 ?_
      rintro T5 h5 l5 _ W5 ⟨rfl, rfl⟩
      refine w_sipush W5 (z := (255 : Int32)) d17_35 (by rfl) ?_
      refine w_icmpgt W5 (pc' := 54) d17_38 (by decide) (fun c38 => ?_) (fun c38 => ?_)
      · refine w_aload W5 d17_54 rfl rfl ?_
        exact n_rA W5 rfl rfl rfl d17_56 (by decide) (by decide) ⟨tb, _, 1, own_u16 cs, rfl, own_extTrans EK E2, Nat.le_trans EK.1 htb, by rw [own_u16_len]; exact VT, Or.inr ⟨rfl, rfl, by omega⟩⟩
      · exact absurd hk2 c38
theorem ef_19_RI (m : MethodId) (x0 : Addr) (x1 : Int32) : entryFrame m #[(.ref x0), (.int x1)] 2 = mkF m 0 #[.val (.ref x0), .val (.int x1)] [] := by first | (simp [entryFrame, mkF, argsToLocals, Value.category]; done) | rfl
theorem d19_0 : decode jdk_52_method_15_code 0 = .ok (.iload_n 1, 1) := by decide +kernel
theorem d19_1 : decode jdk_52_method_15_code 1 = .ok (.aload_n 0, 1) := by decide +kernel
theorem d19_2 : decode jdk_52_method_15_code 2 = .ok (.arraylength, 1) := by decide +kernel
theorem d19_3 : decode jdk_52_method_15_code 3 = .ok (.isub, 1) := by decide +kernel
theorem d19_4 : decode jdk_52_method_15_code 4 = .ok (.bipush 31, 2) := by decide +kernel
theorem d19_6 : decode jdk_52_method_15_code 6 = .ok (.iushr, 1) := by decide +kernel
theorem d19_7 : decode jdk_52_method_15_code 7 = .ok (.i2b, 1) := by decide +kernel
theorem d19_8 : decode jdk_52_method_15_code 8 = .ok (.ireturn, 1) := by decide +kernel
set_option maxRecDepth 65536 in
set_option maxHeartbeats 40000000 in
theorem ctCf (l : Launch) (Z : State) (a0 : Array Value) (hw : ∀ d ∈ tables_1, d.before a0 Z = true) (b : Addr) (kb : ClassId) (cs us : List Int32) (co : Int32) (h0 : Heap) (n0 : Nat) (hcs : cs.length ≤ 4000) (hE : Enc cs co us) (Cb : Arv Z h0 b kb .byte (Int32.ofNat us.length) (us.map Value.int) (.int 0)) :
    CtN l Z (⟨"java/lang/StringUTF16", "coderFromArrayLen", "([BI)B"⟩ : MethodName) jdk_52_method_15_code 2 (some .byte) ({ frames := 0, cells := 0, slots := 0, locals := 0 } : Room) n0 #[(.ref b), (.int (Int32.ofNat cs.length))] h0 (fun v h => v = some (.int co) ∧ h0 = h) := by
  refine CtN.of (plainFor_of_name pn_java_lang_StringUTF16) ?_
  intro p e s m below meth c T0 W0 hnm
  refine Wp.cast (ef_19_RI m b (Int32.ofNat cs.length)) ?_
  refine w_iloadN W0 d19_0 rfl ?_
  refine w_aloadN W0 d19_1 rfl rfl ?_
  refine w_arrlen W0 Cb d19_2 ?_
  refine w_isub W0 d19_3 rfl ?_
  refine w_bipush W0 (z := (31 : Int32)) d19_4 (by rfl) ?_
  refine w_iushr W0 d19_6 rfl ?_
  refine w_i2b W0 d19_7 rfl ?_
  exact n_rN W0 rfl (by simp) (z' := co) (own_encCoder hcs hE) d19_8 (by decide) (by decide) ⟨rfl, rfl⟩
theorem ef_2_RRIIn (m : MethodId) (x0 : Addr) (x1 : Addr) (x2 : Int32) (x3 : Int32) : entryFrame m #[(.ref x0), (.ref x1), (.int x2), (.int x3), .null] 6 = mkF m 0 #[.val (.ref x0), .val (.ref x1), .val (.int x2), .val (.int x3), .val .null, .unset] [] := by first | (simp [entryFrame, mkF, argsToLocals, Value.category]; done) | rfl
theorem d2_0 : decode jdk_42_method_149_code 0 = .ok (.aload_n 0, 1) := by decide +kernel
theorem d2_1 : decode jdk_42_method_149_code 1 = .ok (.invokespecial 1, 3) := by decide +kernel
theorem d2_4 : decode jdk_42_method_149_code 4 = .ok (.iload_n 3, 1) := by decide +kernel
theorem d2_5 : decode jdk_42_method_149_code 5 = .ok (.ifCond .ne 22, 3) := by decide +kernel
theorem d2_27 : decode jdk_42_method_149_code 27 = .ok (.getstatic 38, 3) := by decide +kernel
theorem d2_30 : decode jdk_42_method_149_code 30 = .ok (.ifCond .eq 28, 3) := by decide +kernel
theorem d2_33 : decode jdk_42_method_149_code 33 = .ok (.aload_n 1, 1) := by decide +kernel
theorem d2_34 : decode jdk_42_method_149_code 34 = .ok (.iload_n 2, 1) := by decide +kernel
theorem d2_35 : decode jdk_42_method_149_code 35 = .ok (.iload_n 3, 1) := by decide +kernel
theorem d2_36 : decode jdk_42_method_149_code 36 = .ok (.invokestatic 177, 3) := by decide +kernel
theorem d2_39 : decode jdk_42_method_149_code 39 = .ok (.astore 5, 2) := by decide +kernel
theorem d2_41 : decode jdk_42_method_149_code 41 = .ok (.aload_n 0, 1) := by decide +kernel
theorem d2_42 : decode jdk_42_method_149_code 42 = .ok (.aload 5, 2) := by decide +kernel
theorem d2_44 : decode jdk_42_method_149_code 44 = .ok (.iload_n 3, 1) := by decide +kernel
theorem d2_45 : decode jdk_42_method_149_code 45 = .ok (.invokestatic 47, 3) := by decide +kernel
theorem pd_6 : parseMethodDescriptor "([BI)B" = some ⟨[(.array .byte), .int], some .byte⟩ := by decide +kernel
theorem d2_48 : decode jdk_42_method_149_code 48 = .ok (.putfield 15, 3) := by decide +kernel
theorem d2_51 : decode jdk_42_method_149_code 51 = .ok (.aload_n 0, 1) := by decide +kernel
theorem d2_52 : decode jdk_42_method_149_code 52 = .ok (.aload 5, 2) := by decide +kernel
theorem d2_54 : decode jdk_42_method_149_code 54 = .ok (.putfield 9, 3) := by decide +kernel
theorem d2_57 : decode jdk_42_method_149_code 57 = .ok (.return_, 1) := by decide +kernel
theorem d2_8 : decode jdk_42_method_149_code 8 = .ok (.aload_n 0, 1) := by decide +kernel
theorem d2_11 : decode jdk_42_method_149_code 11 = .ok (.getfield 9, 3) := by decide +kernel
theorem d2_14 : decode jdk_42_method_149_code 14 = .ok (.putfield 9, 3) := by decide +kernel
theorem d2_17 : decode jdk_42_method_149_code 17 = .ok (.aload_n 0, 1) := by decide +kernel
theorem d2_18 : decode jdk_42_method_149_code 18 = .ok (.ldc 7, 2) := by decide +kernel
theorem d2_20 : decode jdk_42_method_149_code 20 = .ok (.getfield 15, 3) := by decide +kernel
theorem d2_23 : decode jdk_42_method_149_code 23 = .ok (.putfield 15, 3) := by decide +kernel
theorem d2_26 : decode jdk_42_method_149_code 26 = .ok (.return_, 1) := by decide +kernel
theorem d2_9 : decode jdk_42_method_149_code 9 = .ok (.ldc 7, 2) := by decide +kernel
theorem pn_java_lang_String : plainName "java/lang/String" = true := by first | (simp [plainName, overriddenIn]; done) | decide +kernel
set_option maxRecDepth 65536 in
set_option maxHeartbeats 40000000 in
theorem ctS4 (l : Launch) (Z : State) (a0 : Array Value) (hw : ∀ d ∈ tables_1, d.before a0 Z = true) (cz : Int32) (x ca : Addr) (kca : ClassId) (cs : List Int32) (h0 : Heap) (n0 : Nat) (hCH : Jvm.Lit.constHeld Z "java/lang/String" 7) (hcs : cs.length ≤ 3) (hch : Chs cs) (O : Old Z n0 h0) (G : Sta Z Z.heap "java/lang/String" "COMPACT_STRINGS" "Z" (.int cz)) (hcz : cz ≠ 0) (Ga : Sta Z Z.heap "java/lang/StringUTF16" "$assertionsDisabled" "Z" (.int 1)) (Gh : Sta Z Z.heap "java/lang/StringUTF16" "HI_BYTE_SHIFT" "I" (.int 0)) (Gl : Sta Z Z.heap "java/lang/StringUTF16" "LO_BYTE_SHIFT" "I" (.int 8)) (Ex : Exa Z h0 x "java/lang/String") (Fv : Fld Z h0 x "java/lang/String" "value" "[B" .null) (Fc : Fld Z h0 x "java/lang/String" "coder" "B" (.int 0)) (hnx : n0 ≤ x) (Ca : Arv Z h0 ca kca .char (Int32.ofNat cs.length) (cs.map Value.int) (.int 0)) :
    CtW l Z (⟨"java/lang/String", "<init>", "([CIILjava/lang/Void;)V"⟩ : MethodName) jdk_42_method_149_code 6 none ({ frames := 4, cells := 2, slots := 9, locals := 57 } : Room) n0 #[(.ref x), (.ref ca), (.int (0 : Int32)), (.int (Int32.ofNat cs.length)), .null] h0 (fun vm => St Z vm h0) (fun v h vm => v = none ∧ Keep h0 h [x] ∧ (∃ co us, Str Z h x co us ∧ Enc cs co us) ∧ St Z vm h) := by
  refine CtW.of (plainFor_of_name pn_java_lang_String) ?_
  intro p e s m below meth c T0 W0 hnm hs0 hV
  refine Wp.cast (ef_2_RRIIn m x ca (0 : Int32) (Int32.ofNat cs.length)) ?_
  have hV2 : St Z s.vm h0 := hV
  refine w_aloadN W0 d2_0 rfl rfl ?_
  refine w_initO W0 (hw _ (List.mem_of_getElem? (i := 12) rfl)) (hw _ (List.mem_of_getElem? (i := 13) rfl)) (hw _ (List.mem_of_getElem? (i := 14) rfl)) 0 rfl rfl (by decide) (by decide) d2_1 ?_
  intro T1 W1
  refine w_iloadN W1 d2_4 rfl ?_
  refine w_ifne W1 (pc' := 27) d2_5 (by decide) (fun c5 => ?_) (fun c5 => ?_)
  · refine w_gets W1 (host := "") (Or.inl (hw _ (List.mem_of_getElem? (i := 50) rfl))) Via.refl (own_staOld O G) d2_27 ?_
    intro T2 W2
    refine w_ifeq W2 (pc' := 58) d2_30 (by decide) (fun c30 => ?_) (fun c30 => ?_)
    · exact absurd c30 hcz
    · refine w_aloadN W2 d2_33 rfl rfl ?_
      refine w_iloadN W2 d2_34 rfl ?_
      refine w_iloadN W2 d2_35 rfl ?_
      refine w_callS W2 (ctCo l Z a0 hw ca _ cs _ n0 hcs hch O Ga Gh Gl Ca) (hw _ (List.mem_of_getElem? (i := 79) rfl)) (hw _ (List.mem_of_getElem? (i := 80) rfl)) (hw _ (List.mem_of_getElem? (i := 81) rfl)) (hw _ (List.mem_of_getElem? (i := 82) rfl)) (by decide) 0 (by decide) (by decide) (by decide) (by decide) (argsL := [(.ref ca), (.int (0 : Int32)), (.int (Int32.ofNat cs.length))]) (rest := []) pd_4 rfl rfl rfl rfl rfl d2_36 ?_
      rintro T3 h3 l3 _ W3 ⟨b, kb, co, us, rfl, E, hb, V, hE⟩
      refine w_astore W3 (L' := #[.val (.ref x), .val (.ref ca), .val (.int (0 : Int32)), .val (.int (Int32.ofNat cs.length)), .val .null, .val (.ref b)]) d2_39 rfl rfl ?_
      refine w_aloadN W3 d2_41 rfl rfl ?_
      refine w_aload W3 d2_42 rfl rfl ?_
      refine w_iloadN W3 d2_44 rfl ?_
      refine w_callS W3 (ctCf l Z a0 hw b _ cs us co _ n0 (by omega) hE V) (hw _ (List.mem_of_getElem? (i := 86) rfl)) (hw _ (List.mem_of_getElem? (i := 87) rfl)) (hw _ (List.mem_of_getElem? (i := 81) rfl)) (hw _ (List.mem_of_getElem? (i := 88) rfl)) (by decide) 1 (by decide) (by decide) (by decide) (by decide) (argsL := [(.ref b), (.int (Int32.ofNat cs.length))]) (rest := [(.ref x)]) pd_6 rfl rfl rfl rfl rfl d2_45 ?_
      rintro T4 h4 l4 _ W4 ⟨rfl, rfl⟩
      rcases own_encCo hE with rfl | rfl
      · refine w_putf W4 (hw _ (List.mem_of_getElem? (i := 22) rfl)) Via.refl (Fc.ext E) (Ex.ext E) (Or.inr ⟨(hw _ (List.mem_of_getElem? (i := 18) rfl)), rfl, hnm⟩) (hw _ (List.mem_of_getElem? (i := 3) rfl)) (ty := .byte) (v' := (.int (0 : Int32))) (by decide) (by rfl) (by decide) hnx d2_48 ?_
        intro T5 h5 l5 W5 Wr5
        refine w_aloadN W5 d2_51 rfl rfl ?_
        refine w_aload W5 d2_52 rfl rfl ?_
        have Fv1 : Fld Z h5 x "java/lang/String" "value" "[B" .null := (Fv.ext E).other Wr5 (Or.inr (slot_ne (Or.inr (hw _ (List.mem_of_getElem? (i := 17) rfl))) (Or.inr (hw _ (List.mem_of_getElem? (i := 18) rfl))) (by decide) (t := (.array .byte)) (t' := .byte) (by decide) (by decide)))
        have Fc1 := (Fc.ext E).same Wr5
        have hxb : x < b := Nat.lt_of_lt_of_le Ex.lt hb
        have V1 := V.other Wr5 (Nat.ne_of_gt hxb)
        refine w_putf W5 (hw _ (List.mem_of_getElem? (i := 21) rfl)) Via.refl Fv1 ((Ex.ext E).wr Wr5) (Or.inr ⟨(hw _ (List.mem_of_getElem? (i := 17) rfl)), rfl, hnm⟩) (hw _ (List.mem_of_getElem? (i := 3) rfl)) (ty := (.array .byte)) (v' := (.ref b)) (by decide) (by rfl) (rfl) hnx d2_54 ?_
        intro T6 h6 l6 W6 Wr6
        have Kx : Keep h0 h6 [x] := ((own_keepOf E).wr Wr5 (Or.inl (List.mem_cons_self ..))).wr Wr6 (Or.inl (List.mem_cons_self ..))
        have Sx : Str Z h6 x (0 : Int32) us := ⟨b, kb, (((Ex.ext E).wr Wr5).wr Wr6), Fc1.other Wr6 (Or.inr (slot_ne (Or.inr (hw _ (List.mem_of_getElem? (i := 18) rfl))) (Or.inr (hw _ (List.mem_of_getElem? (i := 17) rfl))) (by decide) (t := .byte) (t' := (.array .byte)) (by decide) (by decide))), Fv1.same Wr6, V1.other Wr6 (Nat.ne_of_gt hxb)⟩
        exact x_rV W6 rfl d2_57 (by decide) (by decide) (fun vm' hvm' => ⟨rfl, Kx, ⟨_, us, Sx, hE⟩, St.keep (St.warm hV2 hvm') Kx (hw _ (List.mem_of_getElem? (i := 3) rfl)) Ex Fv⟩)
      · refine w_putf W4 (hw _ (List.mem_of_getElem? (i := 22) rfl)) Via.refl (Fc.ext E) (Ex.ext E) (Or.inr ⟨(hw _ (List.mem_of_getElem? (i := 18) rfl)), rfl, hnm⟩) (hw _ (List.mem_of_getElem? (i := 3) rfl)) (ty := .byte) (v' := (.int (1 : Int32))) (by decide) (by rfl) (by decide) hnx d2_48 ?_
        intro T7 h7 l7 W7 Wr7
        refine w_aloadN W7 d2_51 rfl rfl ?_
        refine w_aload W7 d2_52 rfl rfl ?_
        have Fv1 : Fld Z h7 x "java/lang/String" "value" "[B" .null := (Fv.ext E).other Wr7 (Or.inr (slot_ne (Or.inr (hw _ (List.mem_of_getElem? (i := 17) rfl))) (Or.inr (hw _ (List.mem_of_getElem? (i := 18) rfl))) (by decide) (t := (.array .byte)) (t' := .byte) (by decide) (by decide)))
        have Fc1 := (Fc.ext E).same Wr7
        have hxb : x < b := Nat.lt_of_lt_of_le Ex.lt hb
        have V1 := V.other Wr7 (Nat.ne_of_gt hxb)
        refine w_putf W7 (hw _ (List.mem_of_getElem? (i := 21) rfl)) Via.refl Fv1 ((Ex.ext E).wr Wr7) (Or.inr ⟨(hw _ (List.mem_of_getElem? (i := 17) rfl)), rfl, hnm⟩) (hw _ (List.mem_of_getElem? (i := 3) rfl)) (ty := (.array .byte)) (v' := (.ref b)) (by decide) (by rfl) (rfl) hnx d2_54 ?_
        intro T8 h8 l8 W8 Wr8
        have Kx : Keep h0 h8 [x] := ((own_keepOf E).wr Wr7 (Or.inl (List.mem_cons_self ..))).wr Wr8 (Or.inl (List.mem_cons_self ..))
        have Sx : Str Z h8 x (1 : Int32) us := ⟨b, kb, (((Ex.ext E).wr Wr7).wr Wr8), Fc1.other Wr8 (Or.inr (slot_ne (Or.inr (hw _ (List.mem_of_getElem? (i := 18) rfl))) (Or.inr (hw _ (List.mem_of_getElem? (i := 17) rfl))) (by decide) (t := .byte) (t' := (.array .byte)) (by decide) (by decide))), Fv1.same Wr8, V1.other Wr8 (Nat.ne_of_gt hxb)⟩
        exact x_rV W8 rfl d2_57 (by decide) (by decide) (fun vm' hvm' => ⟨rfl, Kx, ⟨_, us, Sx, hE⟩, St.keep (St.warm hV2 hvm') Kx (hw _ (List.mem_of_getElem? (i := 3) rfl)) Ex Fv⟩)
  · have hcs0 : cs = [] := List.eq_nil_of_length_eq_zero ((own_eqI (j := 0) (by omega) (by omega)).mp c5)
    refine w_aloadN W1 d2_8 rfl rfl ?_
    have J : ∀ (T : State) (h : Heap) (vm : Vm) (locs : List Loc) (W : Wk p l e ({ frames := 4, cells := 2, slots := 9, locals := 57 } : Room) s vm m #[(.ref x), (.ref ca), (.int (0 : Int32)), (.int (Int32.ofNat cs.length)), .null] below meth c Z "java/lang/String" n0 jdk_42_method_149_code 6 none T h locs 2 4) (E : Ext h0 h) (la lb : Addr) (lk : ClassId) (Lt : Lit (s.setVm vm) "java/lang/String" 7 la) (Ea : Exa Z h la "java/lang/String") (Fca : Fld Z h la "java/lang/String" "coder" "B" (.int 0)) (Fva : Fld Z h la "java/lang/String" "value" "[B" (.ref lb)) (Ar : Arv Z h lb lk .byte (0 : Int32) [] (.int 0)), Wp p e below (PoW n0 s 2 9 (fun v h vm => v = none ∧ Keep h0 h [x] ∧ (∃ co us, Str Z h x co us ∧ Enc cs co us) ∧ St Z vm h)) T (mkF m 11 #[.val (.ref x), .val (.ref ca), .val (.int (0 : Int32)), .val (.int (Int32.ofNat cs.length)), .val .null, .unset] [(.ref la), (.ref x)]) := by
      intro T h vm locs W E la lb lk Lt Ea Fca Fva Ar
      have nx1 : la ≠ x := Fld.ne Fva (Fv.ext E) (fun r => by cases r)
      have nx2 : lb ≠ x := (Exa.neArv (Ex.ext E) Ar (hw _ (List.mem_of_getElem? (i := 3) rfl))).symm
      refine w_getf W (host := "") (Or.inl (hw _ (List.mem_of_getElem? (i := 21) rfl))) Via.refl Fva d2_11 ?_
      intro T9 W9
      refine w_putf W9 (hw _ (List.mem_of_getElem? (i := 21) rfl)) Via.refl (Fv.ext E) (Ex.ext E) (Or.inr ⟨(hw _ (List.mem_of_getElem? (i := 17) rfl)), rfl, hnm⟩) (hw _ (List.mem_of_getElem? (i := 3) rfl)) (ty := (.array .byte)) (v' := (.ref lb)) (by decide) (by rfl) (rfl) hnx d2_14 ?_
      intro T10 h10 l10 W10 Wr10
      refine w_aloadN W10 d2_17 rfl rfl ?_
      refine w_ldcAgain W10 (hw _ (List.mem_of_getElem? (i := 15) rfl)) Lt d2_18 ?_
      refine w_getf W10 (host := "") (Or.inl (hw _ (List.mem_of_getElem? (i := 22) rfl))) Via.refl (Fca.other Wr10 (Or.inl nx1)) d2_20 ?_
      intro T11 W11
      have Fc1 := (Fc.ext E).other Wr10 (Or.inr (slot_ne (Or.inr (hw _ (List.mem_of_getElem? (i := 18) rfl))) (Or.inr (hw _ (List.mem_of_getElem? (i := 17) rfl))) (by decide) (t := .byte) (t' := (.array .byte)) (by decide) (by decide)))
      have Fv1 := (Fv.ext E).same Wr10
      refine w_putf W11 (hw _ (List.mem_of_getElem? (i := 22) rfl)) Via.refl Fc1 ((Ex.ext E).wr Wr10) (Or.inr ⟨(hw _ (List.mem_of_getElem? (i := 18) rfl)), rfl, hnm⟩) (hw _ (List.mem_of_getElem? (i := 3) rfl)) (ty := .byte) (v' := (.int (0 : Int32))) (by decide) (by rfl) (by decide) hnx d2_23 ?_
      intro T12 h12 l12 W12 Wr12
      have Kx : Keep h0 h12 [x] := ((own_keepOf E).wr Wr10 (Or.inl (List.mem_cons_self ..))).wr Wr12 (Or.inl (List.mem_cons_self ..))
      have Ea3 := (Ea.wr Wr10).wr Wr12
      have Fca3 := (Fca.other Wr10 (Or.inl nx1)).other Wr12 (Or.inl nx1)
      have Fva3 := (Fva.other Wr10 (Or.inl nx1)).other Wr12 (Or.inl nx1)
      have Ar3 := (Ar.other Wr10 nx2).other Wr12 nx2
      have Sx : Str Z h12 x 0 (cs.map (nar .byte)) := by rw [hcs0]; exact ⟨lb, lk, ((Ex.ext E).wr Wr10).wr Wr12, Fc1.same Wr12, Fv1.other Wr12 (Or.inr (slot_ne (Or.inr (hw _ (List.mem_of_getElem? (i := 17) rfl))) (Or.inr (hw _ (List.mem_of_getElem? (i := 18) rfl))) (by decide) (t := (.array .byte)) (t' := .byte) (by decide) (by decide))), Ar3⟩
      exact x_rV W12 rfl d2_26 (by decide) (by decide) (fun vm' hvm' => ⟨rfl, Kx, ⟨_, _, Sx, Or.inl ⟨rfl, rfl, by rw [hcs0]; intro c hc; cases hc⟩⟩, Or.inl ⟨la, lb, lk, Lit.stays (s := s) Lt hvm'.wide, Ea3, Fca3, Fva3, Ar3⟩⟩)
    rcases hV with ⟨la, lb, lk, Lt, Ea, Fca, Fva, Ar⟩ | ⟨Ts, I, hnot⟩
    · refine w_ldcAgain W1 (hw _ (List.mem_of_getElem? (i := 15) rfl)) Lt d2_9 ?_
      exact J _ _ _ _ (Wk.mono W1 (by decide) (by decide)) (own_extRefl _) la lb lk Lt Ea Fca Fva Ar
    · refine w_ldcSV W1 (hw _ (List.mem_of_getElem? (i := 15) rfl)) (own_wS hw) (Fr.nil _) (by rw [hs0]; exact O.2.2) I hnot hCH (own_cw G hcz) (vs := []) (z := 0) ⟨by simp, rfl⟩ (by decide) (by decide) 0 (by decide) (by decide) (by decide) (by decide) d2_9 ?_
      intro T1 h1 vm1 la lb lk W1 E1 Ea Fca Fva Ar I1 Lt
      exact J _ _ _ _ W1 E1 la lb lk Lt Ea Fca Fva Ar
theorem ef_1_RR (m : MethodId) (x0 : Addr) (x1 : Addr) : entryFrame m #[(.ref x0), (.ref x1)] 2 = mkF m 0 #[.val (.ref x0), .val (.ref x1)] [] := by first | (simp [entryFrame, mkF, argsToLocals, Value.category]; done) | rfl
theorem d1_0 : decode jdk_42_method_3_code 0 = .ok (.aload_n 0, 1) := by decide +kernel
theorem d1_1 : decode jdk_42_method_3_code 1 = .ok (.aload_n 1, 1) := by decide +kernel
theorem d1_2 : decode jdk_42_method_3_code 2 = .ok (.iconst 0, 1) := by decide +kernel
theorem d1_3 : decode jdk_42_method_3_code 3 = .ok (.aload_n 1, 1) := by decide +kernel
theorem d1_4 : decode jdk_42_method_3_code 4 = .ok (.arraylength, 1) := by decide +kernel
theorem d1_5 : decode jdk_42_method_3_code 5 = .ok (.aconst_null, 1) := by decide +kernel
theorem d1_6 : decode jdk_42_method_3_code 6 = .ok (.invokespecial 27, 3) := by decide +kernel
theorem pd_7 : parseMethodDescriptor "([CIILjava/lang/Void;)V" = some ⟨[(.array .char), .int, .int, (.object "java/lang/Void")], none⟩ := by decide +kernel
theorem d1_9 : decode jdk_42_method_3_code 9 = .ok (.return_, 1) := by decide +kernel
set_option maxRecDepth 65536 in
set_option maxHeartbeats 40000000 in
theorem ctS1 (l : Launch) (Z : State) (a0 : Array Value) (hw : ∀ d ∈ tables_1, d.before a0 Z = true) (cz : Int32) (x ca : Addr) (kca : ClassId) (cs : List Int32) (h0 : Heap) (n0 : Nat) (hCH : Jvm.Lit.constHeld Z "java/lang/String" 7) (hcs : cs.length ≤ 3) (hch : Chs cs) (O : Old Z n0 h0) (G : Sta Z Z.heap "java/lang/String" "COMPACT_STRINGS" "Z" (.int cz)) (hcz : cz ≠ 0) (Ga : Sta Z Z.heap "java/lang/StringUTF16" "$assertionsDisabled" "Z" (.int 1)) (Gh : Sta Z Z.heap "java/lang/StringUTF16" "HI_BYTE_SHIFT" "I" (.int 0)) (Gl : Sta Z Z.heap "java/lang/StringUTF16" "LO_BYTE_SHIFT" "I" (.int 8)) (Ex : Exa Z h0 x "java/lang/String") (Fv : Fld Z h0 x "java/lang/String" "value" "[B" .null) (Fc : Fld Z h0 x "java/lang/String" "coder" "B" (.int 0)) (hnx : n0 ≤ x) (Ca : Arv Z h0 ca kca .char (Int32.ofNat cs.length) (cs.map Value.int) (.int 0)) :
    CtW l Z (⟨"java/lang/String", "<init>", "([C)V"⟩ : MethodName) jdk_42_method_3_code 2 none ({ frames := 5, cells := 2, slots := 9, locals := 74 } : Room) n0 #[(.ref x), (.ref ca)] h0 (fun vm => St Z vm h0) (fun v h vm => v = none ∧ Keep h0 h [x] ∧ (∃ co us, Str Z h x co us ∧ Enc cs co us) ∧ St Z vm h) := by
  refine CtW.of (plainFor_of_name pn_java_lang_String) ?_
  intro p e s m below meth c T0 W0 hnm hs0 hV
  refine Wp.cast (ef_1_RR m x ca) ?_
  refine w_aloadN W0 d1_0 rfl rfl ?_
  refine w_aloadN W0 d1_1 rfl rfl ?_
  refine w_iconst W0 (z := (0 : Int32)) d1_2 (by rfl) ?_
  refine w_aloadN W0 d1_3 rfl rfl ?_
  refine w_arrlen W0 Ca d1_4 ?_
  refine w_aconstNull W0 d1_5 ?_
  refine w_specialW W0 (ctS4 l Z a0 hw cz x ca _ cs _ n0 hCH hcs hch O G hcz Ga Gh Gl Ex Fv Fc hnx Ca) (fun vm' q => St.warm hV q) rfl (hw _ (List.mem_of_getElem? (i := 8) rfl)) (hw _ (List.mem_of_getElem? (i := 9) rfl)) (hw _ (List.mem_of_getElem? (i := 4) rfl)) (hw _ (List.mem_of_getElem? (i := 11) rfl)) (by decide) 0 (by decide) (by decide) (by decide) (by decide) (a := x) (argsL := [(.ref ca), (.int (0 : Int32)), (.int (Int32.ofNat cs.length)), .null]) (rest := []) pd_7 rfl rfl rfl rfl rfl d1_6 ?_
  rintro T1 h1 l1 vm1 _ W1 hw1 ⟨rfl, Kx, Sx, St1⟩
  exact x_rV W1 rfl d1_9 (by decide) (by decide) (fun vm' hvm' => ⟨rfl, Kx, Sx, St.warm St1 hvm'⟩)
theorem ef_9_R (m : MethodId) (x0 : Addr) : entryFrame m #[(.ref x0)] 1 = mkF m 0 #[.val (.ref x0)] [] := by first | (simp [entryFrame, mkF, argsToLocals, Value.category]; done) | rfl
theorem d9_0 : decode jdk_42_method_154_code 0 = .ok (.getstatic 38, 3) := by decide +kernel
theorem d9_3 : decode jdk_42_method_154_code 3 = .ok (.ifCond .eq 14, 3) := by decide +kernel
theorem d9_6 : decode jdk_42_method_154_code 6 = .ok (.aload_n 0, 1) := by decide +kernel
theorem d9_7 : decode jdk_42_method_154_code 7 = .ok (.getfield 15, 3) := by decide +kernel
theorem d9_10 : decode jdk_42_method_154_code 10 = .ok (.ifCond .ne 7, 3) := by decide +kernel
theorem d9_17 : decode jdk_42_method_154_code 17 = .ok (.iconst 0, 1) := by decide +kernel
theorem d9_18 : decode jdk_42_method_154_code 18 = .ok (.ireturn, 1) := by decide +kernel
theorem d9_13 : decode jdk_42_method_154_code 13 = .ok (.iconst 1, 1) := by decide +kernel
theorem d9_14 : decode jdk_42_method_154_code 14 = .ok (.goto 4, 3) := by decide +kernel
set_option maxRecDepth 65536 in
set_option maxHeartbeats 40000000 in
theorem ctIl (l : Launch) (Z : State) (a0 : Array Value) (hw : ∀ d ∈ tables_1, d.before a0 Z = true) (cz : Int32) (x : Addr) (cs us : List Int32) (co : Int32) (h0 : Heap) (n0 : Nat) (O : Old Z n0 h0) (G : Sta Z Z.heap "java/lang/String" "COMPACT_STRINGS" "Z" (.int cz)) (hcz : cz ≠ 0) (hcs : cs.length ≤ 4000) (hE : Enc cs co us) (S : Str Z h0 x co us) :
    CtN l Z (⟨"java/lang/String", "isLatin1", "()Z"⟩ : MethodName) jdk_42_method_154_code 1 (some .boolean) ({ frames := 0, cells := 0, slots := 0, locals := 0 } : Room) n0 #[(.ref x)] h0 (fun v h => v = some (.int (if co = 0 then (1 : Int32) else 0)) ∧ h0 = h) := by
  refine CtN.of (plainFor_of_name pn_java_lang_String) ?_
  intro p e s m below meth c T0 W0 hnm
  refine Wp.cast (ef_9_R m x) ?_
  obtain ⟨b, kb, Ex, Cf, Vf, Ar⟩ := id S
  refine w_gets W0 (host := "") (Or.inl (hw _ (List.mem_of_getElem? (i := 50) rfl))) Via.refl (own_staOld O G) d9_0 ?_
  intro T1 W1
  refine w_ifeq W1 (pc' := 17) d9_3 (by decide) (fun c3 => ?_) (fun c3 => ?_)
  · exact absurd c3 hcz
  · refine w_aloadN W1 d9_6 rfl rfl ?_
    refine w_getf W1 (host := "") (Or.inl (hw _ (List.mem_of_getElem? (i := 22) rfl))) Via.refl Cf d9_7 ?_
    intro T2 W2
    refine w_ifne W2 (pc' := 17) d9_10 (by decide) (fun c10 => ?_) (fun c10 => ?_)
    · refine w_iconst W2 (z := (0 : Int32)) d9_17 (by rfl) ?_
      exact n_rN W2 rfl (by simp) (z' := (0 : Int32)) (by rfl) d9_18 (by decide) (by decide) ⟨by rw [if_neg c10], rfl⟩
    · refine w_iconst W2 (z := (1 : Int32)) d9_13 (by rfl) ?_
      refine w_goto W2 (pc' := 18) d9_14 (by decide) ?_
      exact n_rN W2 rfl (by simp) (z' := (1 : Int32)) (by rfl) d9_18 (by decide) (by decide) ⟨by rw [if_pos c10], rfl⟩
theorem ef_11_R (m : MethodId) (x0 : Addr) : entryFrame m #[(.ref x0)] 1 = mkF m 0 #[.val (.ref x0)] [] := by first | (simp [entryFrame, mkF, argsToLocals, Value.category]; done) | rfl
theorem d11_0 : decode jdk_42_method_152_code 0 = .ok (.getstatic 38, 3) := by decide +kernel
theorem d11_3 : decode jdk_42_method_152_code 3 = .ok (.ifCond .eq 10, 3) := by decide +kernel
theorem d11_6 : decode jdk_42_method_152_code 6 = .ok (.aload_n 0, 1) := by decide +kernel
theorem d11_7 : decode jdk_42_method_152_code 7 = .ok (.getfield 15, 3) := by decide +kernel
theorem d11_10 : decode jdk_42_method_152_code 10 = .ok (.goto 4, 3) := by decide +kernel
theorem d11_14 : decode jdk_42_method_152_code 14 = .ok (.ireturn, 1) := by decide +kernel
set_option maxRecDepth 65536 in
set_option maxHeartbeats 40000000 in
theorem ctCr (l : Launch) (Z : State) (a0 : Array Value) (hw : ∀ d ∈ tables_1, d.before a0 Z = true) (cz : Int32) (x : Addr) (cs us : List Int32) (co : Int32) (h0 : Heap) (n0 : Nat) (O : Old Z n0 h0) (G : Sta Z Z.heap "java/lang/String" "COMPACT_STRINGS" "Z" (.int cz)) (hcz : cz ≠ 0) (hcs : cs.length ≤ 4000) (hE : Enc cs co us) (S : Str Z h0 x co us) :
    CtN l Z (⟨"java/lang/String", "coder", "()B"⟩ : MethodName) jdk_42_method_152_code 1 (some .byte) ({ frames := 0, cells := 0, slots := 0, locals := 0 } : Room) n0 #[(.ref x)] h0 (fun v h => v = some (.int co) ∧ h0 = h) := by
  refine CtN.of (plainFor_of_name pn_java_lang_String) ?_
  intro p e s m below meth c T0 W0 hnm
  refine Wp.cast (ef_11_R m x) ?_
  obtain ⟨b, kb, Ex, Cf, Vf, Ar⟩ := id S
  refine w_gets W0 (host := "") (Or.inl (hw _ (List.mem_of_getElem? (i := 50) rfl))) Via.refl (own_staOld O G) d11_0 ?_
  intro T1 W1
  refine w_ifeq W1 (pc' := 13) d11_3 (by decide) (fun c3 => ?_) (fun c3 => ?_)
  · exact absurd c3 hcz
  · refine w_aloadN W1 d11_6 rfl rfl ?_
    refine w_getf W1 (host := "") (Or.inl (hw _ (List.mem_of_getElem? (i := 22) rfl))) Via.refl Cf d11_7 ?_
    intro T2 W2
    refine w_goto W2 (pc' := 14) d11_10 (by decide) ?_
    exact n_rN W2 rfl (by simp) (z' := co) (by rcases own_encCo hE with rfl | rfl <;> rfl) d11_14 (by decide) (by decide) ⟨rfl, rfl⟩
theorem ef_10_R (m : MethodId) (x0 : Addr) : entryFrame m #[(.ref x0)] 1 = mkF m 0 #[.val (.ref x0)] [] := by first | (simp [entryFrame, mkF, argsToLocals, Value.category]; done) | rfl
theorem d10_0 : decode jdk_42_method_54_code 0 = .ok (.aload_n 0, 1) := by decide +kernel
theorem d10_1 : decode jdk_42_method_54_code 1 = .ok (.getfield 9, 3) := by decide +kernel
theorem d10_4 : decode jdk_42_method_54_code 4 = .ok (.arraylength, 1) := by decide +kernel
theorem d10_5 : decode jdk_42_method_54_code 5 = .ok (.aload_n 0, 1) := by decide +kernel
theorem d10_6 : decode jdk_42_method_54_code 6 = .ok (.invokevirtual 335, 3) := by decide +kernel
theorem pd_8 : parseMethodDescriptor "()B" = some ⟨[], some .byte⟩ := by decide +kernel
theorem d10_9 : decode jdk_42_method_54_code 9 = .ok (.ishr, 1) := by decide +kernel
theorem d10_10 : decode jdk_42_method_54_code 10 = .ok (.ireturn, 1) := by decide +kernel
set_option maxRecDepth 65536 in
set_option maxHeartbeats 40000000 in
theorem ctLn (l : Launch) (Z : State) (a0 : Array Value) (hw : ∀ d ∈ tables_1, d.before a0 Z = true) (cz : Int32) (x : Addr) (cs us : List Int32) (co : Int32) (h0 : Heap) (n0 : Nat) (O : Old Z n0 h0) (G : Sta Z Z.heap "java/lang/String" "COMPACT_STRINGS" "Z" (.int cz)) (hcz : cz ≠ 0) (hcs : cs.length ≤ 4000) (hE : Enc cs co us) (S : Str Z h0 x co us) :
    CtN l Z (⟨"java/lang/String", "length", "()I"⟩ : MethodName) jdk_42_method_54_code 1 (some .int) ({ frames := 1, cells := 0, slots := 0, locals := 13 } : Room) n0 #[(.ref x)] h0 (fun v h => v = some (.int (Int32.ofNat cs.length)) ∧ h0 = h) := by
  refine CtN.of (plainFor_of_name pn_java_lang_String) ?_
  intro p e s m below meth c T0 W0 hnm
  refine Wp.cast (ef_10_R m x) ?_
  obtain ⟨b, kb, Ex, Cf, Vf, Ar⟩ := id S
  refine w_aloadN W0 d10_0 rfl rfl ?_
  refine w_getf W0 (host := "") (Or.inl (hw _ (List.mem_of_getElem? (i := 21) rfl))) Via.refl Vf d10_1 ?_
  intro T1 W1
  refine w_arrlen W1 Ar d10_4 ?_
  refine w_aloadN W1 d10_5 rfl rfl ?_
  refine w_virt W1 (ctCr l Z a0 hw cz x cs us co _ n0 O G hcz hcs hE S) (hw _ (List.mem_of_getElem? (i := 56) rfl)) (hw _ (List.mem_of_getElem? (i := 57) rfl)) (notFace_of_selects (args := #[]) (mvT W1.wZ (hw _ (List.mem_of_getElem? (i := 59) rfl)))) (hw _ (List.mem_of_getElem? (i := 59) rfl)) (hw _ (List.mem_of_getElem? (i := 58) rfl)) (hw _ (List.mem_of_getElem? (i := 4) rfl)) (hw _ (List.mem_of_getElem? (i := 60) rfl)) (by decide) 1 (by decide) (by decide) (by decide) (by decide) (a := x) Ex (argsL := []) (rest := [(.int (Int32.ofNat us.length))]) pd_8 rfl rfl rfl rfl rfl d10_6 ?_
  rintro T2 h2 l2 _ W2 ⟨rfl, rfl⟩
  refine w_ishr W2 d10_9 (own_encLen hcs hE) ?_
  exact n_rI W2 rfl d10_10 (by decide) (by decide) ⟨rfl, rfl⟩
theorem ef_29_R (m : MethodId) (x0 : Addr) : entryFrame m #[(.ref x0)] 1 = mkF m 0 #[.val (.ref x0)] [] := by first | (simp [entryFrame, mkF, argsToLocals, Value.category]; done) | rfl
theorem d29_0 : decode jdk_52_method_6_code 0 = .ok (.aload_n 0, 1) := by decide +kernel
theorem d29_1 : decode jdk_52_method_6_code 1 = .ok (.arraylength, 1) := by decide +kernel
theorem d29_2 : decode jdk_52_method_6_code 2 = .ok (.iconst 1, 1) := by decide +kernel
theorem d29_3 : decode jdk_52_method_6_code 3 = .ok (.ishr, 1) := by decide +kernel
theorem d29_4 : decode jdk_52_method_6_code 4 = .ok (.ireturn, 1) := by decide +kernel
set_option maxRecDepth 65536 in
set_option maxHeartbeats 40000000 in
theorem ctUl (l : Launch) (Z : State) (a0 : Array Value) (hw : ∀ d ∈ tables_1, d.before a0 Z = true) (b : Addr) (kb : ClassId) (cs : List Int32) (h0 : Heap) (n0 : Nat) (hcs : cs.length ≤ 4000) (Cb : Arv Z h0 b kb .byte (Int32.ofNat (2 * cs.length)) ((own_u16 cs).map Value.int) (.int 0)) :
    CtN l Z (⟨"java/lang/StringUTF16", "length", "([B)I"⟩ : MethodName) jdk_52_method_6_code 1 (some .int) ({ frames := 0, cells := 0, slots := 0, locals := 0 } : Room) n0 #[(.ref b)] h0 (fun v h => v = some (.int (Int32.ofNat cs.length)) ∧ h0 = h) := by
  refine CtN.of (plainFor_of_name pn_java_lang_StringUTF16) ?_
  intro p e s m below meth c T0 W0 hnm
  refine Wp.cast (ef_29_R m b) ?_
  refine w_aloadN W0 d29_0 rfl rfl ?_
  refine w_arrlen W0 Cb d29_1 ?_
  refine w_iconst W0 (z := (1 : Int32)) d29_2 (by rfl) ?_
  refine w_ishr W0 d29_3 (own_hlf (by omega)) ?_
  exact n_rI W0 rfl d29_4 (by decide) (by decide) ⟨rfl, rfl⟩
theorem ef_15_II (m : MethodId) (x0 : Int32) (x1 : Int32) : entryFrame m #[(.int x0), (.int x1)] 2 = mkF m 0 #[.val (.int x0), .val (.int x1)] [] := by first | (simp [entryFrame, mkF, argsToLocals, Value.category]; done) | rfl
theorem d15_0 : decode jdk_29_method_69_code 0 = .ok (.iload_n 0, 1) := by decide +kernel
theorem d15_1 : decode jdk_29_method_69_code 1 = .ok (.iload_n 1, 1) := by decide +kernel
theorem d15_2 : decode jdk_29_method_69_code 2 = .ok (.if_icmp .gt 7, 3) := by decide +kernel
theorem d15_9 : decode jdk_29_method_69_code 9 = .ok (.iload_n 1, 1) := by decide +kernel
theorem d15_10 : decode jdk_29_method_69_code 10 = .ok (.ireturn, 1) := by decide +kernel
theorem d15_5 : decode jdk_29_method_69_code 5 = .ok (.iload_n 0, 1) := by decide +kernel
theorem d15_6 : decode jdk_29_method_69_code 6 = .ok (.goto 4, 3) := by decide +kernel
set_option maxRecDepth 65536 in
set_option maxHeartbeats 40000000 in
theorem ctMn (l : Launch) (Z : State) (a0 : Array Value) (hw : ∀ d ∈ tables_1, d.before a0 Z = true) (a : Int32) (h0 : Heap) (n0 : Nat)  :
    CtN l Z (⟨"java/lang/Math", "min", "(II)I"⟩ : MethodName) jdk_29_method_69_code 2 (some .int) ({ frames := 0, cells := 0, slots := 0, locals := 0 } : Room) n0 #[(.int a), (.int a)] h0 (fun v h => v = some (.int a) ∧ h0 = h) := by
  refine CtN.of (Jvm.Free.JP.mathPlain rfl (by decide +kernel)) ?_
  intro p e s m below meth c T0 W0 hnm
  refine Wp.cast (ef_15_II m a a) ?_
  refine w_iloadN W0 d15_0 rfl ?_
  refine w_iloadN W0 d15_1 rfl ?_
  refine w_icmpgt W0 (pc' := 9) d15_2 (by decide) (fun c2 => ?_) (fun c2 => ?_)
  · refine w_iloadN W0 d15_9 rfl ?_
    exact n_rI W0 rfl d15_10 (by decide) (by decide) ⟨rfl, rfl⟩
  · refine w_iloadN W0 d15_5 rfl ?_
    refine w_goto W0 (pc' := 10) d15_6 (by decide) ?_
    exact n_rI W0 rfl d15_10 (by decide) (by decide) ⟨rfl, rfl⟩
theorem ef_14_II (m : MethodId) (x0 : Int32) (x1 : Int32) : entryFrame m #[(.int x0), (.int x1)] 2 = mkF m 0 #[.val (.int x0), .val (.int x1)] [] := by first | (simp [entryFrame, mkF, argsToLocals, Value.category]; done) | rfl
theorem d14_0 : decode jdk_29_method_65_code 0 = .ok (.iload_n 0, 1) := by decide +kernel
theorem d14_1 : decode jdk_29_method_65_code 1 = .ok (.iload_n 1, 1) := by decide +kernel
theorem d14_2 : decode jdk_29_method_65_code 2 = .ok (.if_icmp .lt 7, 3) := by decide +kernel
theorem d14_5 : decode jdk_29_method_65_code 5 = .ok (.iload_n 0, 1) := by decide +kernel
theorem d14_6 : decode jdk_29_method_65_code 6 = .ok (.goto 4, 3) := by decide +kernel
theorem d14_10 : decode jdk_29_method_65_code 10 = .ok (.ireturn, 1) := by decide +kernel
set_option maxRecDepth 65536 in
set_option maxHeartbeats 40000000 in
theorem ctMx (l : Launch) (Z : State) (a0 : Array Value) (hw : ∀ d ∈ tables_1, d.before a0 Z = true)  (h0 : Heap) (n0 : Nat)  :
    CtN l Z (⟨"java/lang/Math", "max", "(II)I"⟩ : MethodName) jdk_29_method_65_code 2 (some .int) ({ frames := 0, cells := 0, slots := 0, locals := 0 } : Room) n0 #[(.int (0 : Int32)), (.int (0 : Int32))] h0 (fun v h => v = some (.int 0) ∧ h0 = h) := by
  refine CtN.of (Jvm.Free.JP.mathPlain rfl (by decide +kernel)) ?_
  intro p e s m below meth c T0 W0 hnm
  refine Wp.cast (ef_14_II m (0 : Int32) (0 : Int32)) ?_
  refine w_iloadN W0 d14_0 rfl ?_
  refine w_iloadN W0 d14_1 rfl ?_
  refine w_icmplt W0 (pc' := 9) d14_2 (by decide) (fun c2 => absurd c2 (by decide)) (fun c2 => ?_)
  refine w_iloadN W0 d14_5 rfl ?_
  refine w_goto W0 (pc' := 10) d14_6 (by decide) ?_
  exact n_rI W0 rfl d14_10 (by decide) (by decide) ⟨rfl, rfl⟩
theorem ef_20_RIII (m : MethodId) (x0 : Addr) (x1 : Int32) (x2 : Int32) (x3 : Int32) : entryFrame m #[(.ref x0), (.int x1), (.int x2), (.int x3)] 6 = mkF m 0 #[.val (.ref x0), .val (.int x1), .val (.int x2), .val (.int x3), .unset, .unset] [] := by first | (simp [entryFrame, mkF, argsToLocals, Value.category]; done) | rfl
theorem d20_0 : decode jdk_43_method_23_code 0 = .ok (.iload_n 1, 1) := by decide +kernel
theorem d20_1 : decode jdk_43_method_23_code 1 = .ok (.i2b, 1) := by decide +kernel
theorem d20_2 : decode jdk_43_method_23_code 2 = .ok (.istore 4, 2) := by decide +kernel
theorem d20_4 : decode jdk_43_method_23_code 4 = .ok (.iload_n 2, 1) := by decide +kernel
theorem d20_5 : decode jdk_43_method_23_code 5 = .ok (.istore 5, 2) := by decide +kernel
theorem d20_7 : decode jdk_43_method_23_code 7 = .ok (.iload 5, 2) := by decide +kernel
theorem d20_9 : decode jdk_43_method_23_code 9 = .ok (.iload_n 3, 1) := by decide +kernel
theorem d20_10 : decode jdk_43_method_23_code 10 = .ok (.if_icmp .ge 21, 3) := by decide +kernel
theorem d20_31 : decode jdk_43_method_23_code 31 = .ok (.iconst (-1), 1) := by decide +kernel
theorem d20_32 : decode jdk_43_method_23_code 32 = .ok (.ireturn, 1) := by decide +kernel
theorem d20_13 : decode jdk_43_method_23_code 13 = .ok (.aload_n 0, 1) := by decide +kernel
theorem d20_14 : decode jdk_43_method_23_code 14 = .ok (.iload 5, 2) := by decide +kernel
theorem d20_16 : decode jdk_43_method_23_code 16 = .ok (.baload, 1) := by decide +kernel
theorem d20_17 : decode jdk_43_method_23_code 17 = .ok (.iload 4, 2) := by decide +kernel
theorem d20_19 : decode jdk_43_method_23_code 19 = .ok (.if_icmp .ne 6, 3) := by decide +kernel
theorem d20_25 : decode jdk_43_method_23_code 25 = .ok (.iinc 5 1, 3) := by decide +kernel
theorem d20_28 : decode jdk_43_method_23_code 28 = .ok (.goto (-21), 3) := by decide +kernel
theorem pn_java_lang_StringLatin1 : plainName "java/lang/StringLatin1" = true := by first | (simp [plainName, overriddenIn]; done) | decide +kernel
set_option maxRecDepth 65536 in
set_option maxHeartbeats 40000000 in
theorem ctLc (l : Launch) (Z : State) (a0 : Array Value) (hw : ∀ d ∈ tables_1, d.before a0 Z = true) (b : Addr) (kb : ClassId) (cs : List Int32) (ch : Int32) (h0 : Heap) (n0 : Nat) (hcs : cs.length ≤ 4000) (hlat : ∀ c ∈ cs, ¬ ((255 : Int32) < c)) (hc0 : ¬ ch < 0) (hc1 : ¬ (255 : Int32) < ch) (hn : ∀ c ∈ cs, c ≠ ch) (hch : Chs cs) (Cb : Arv Z h0 b kb .byte (Int32.ofNat cs.length) ((cs.map (nar .byte)).map Value.int) (.int 0)) :
    CtN l Z (⟨"java/lang/StringLatin1", "indexOfChar", "([BIII)I"⟩ : MethodName) jdk_43_method_23_code 6 (some .int) ({ frames := 0, cells := 0, slots := 0, locals := 0 } : Room) n0 #[(.ref b), (.int ch), (.int (0 : Int32)), (.int (Int32.ofNat cs.length))] h0 (fun v h => v = some (.int (-1)) ∧ h0 = h) := by
  refine CtN.of (plainFor_of_name pn_java_lang_StringLatin1) ?_
  intro p e s m below meth c T0 W0 hnm
  refine Wp.cast (ef_20_RIII m b ch (0 : Int32) (Int32.ofNat cs.length)) ?_
  refine w_iloadN W0 d20_0 rfl ?_
  refine w_i2b W0 d20_1 rfl ?_
  refine w_istore W0 (L' := #[.val (.ref b), .val (.int ch), .val (.int (0 : Int32)), .val (.int (Int32.ofNat cs.length)), .val (.int (ch.toInt8.toInt32)), .unset]) d20_2 rfl ?_
  refine w_iloadN W0 d20_4 rfl ?_
  refine w_istore W0 (L' := #[.val (.ref b), .val (.int ch), .val (.int (0 : Int32)), .val (.int (Int32.ofNat cs.length)), .val (.int (ch.toInt8.toInt32)), .val (.int (0 : Int32))]) d20_5 rfl ?_
  have loop : ∀ (r i : Nat) (T : State) (locs : List Loc) (W : Wk p l e ({ frames := 0, cells := 0, slots := 0, locals := 0 } : Room) s s.vm m #[(.ref b), (.int ch), (.int (0 : Int32)), (.int (Int32.ofNat cs.length))] below meth c Z "java/lang/StringLatin1" n0 jdk_43_method_23_code 6 (some .int) T h0 locs 0 0) (hi : i + r = cs.length), Wp p e below (PoN n0 s 0 0 (fun v h => v = some (.int (-1)) ∧ h0 = h)) T (mkF m 7 #[.val (.ref b), .val (.int ch), .val (.int (0 : Int32)), .val (.int (Int32.ofNat cs.length)), .val (.int (ch.toInt8.toInt32)), .val (.int (Int32.ofNat i))] []) := by
    intro r
    induction r with
    | zero =>
      intro i T locs W hi
      refine w_iload W d20_7 rfl ?_
      refine w_iloadN W d20_9 rfl ?_
      refine w_icmpge W (pc' := 31) d20_10 (by decide) (fun c10 => ?_) (fun c10 => ?_)
      · refine w_iconst W (z := (-1 : Int32)) d20_31 (by rfl) ?_
        exact n_rI W rfl d20_32 (by decide) (by decide) ⟨rfl, rfl⟩
      · exact absurd c10 (fun q => by rw [own_ltI (by omega) (by omega)] at q; omega)
    | succ r ih =>
      intro i T locs W hi
      have hil : i < cs.length := by omega
      refine w_iload W d20_7 rfl ?_
      refine w_iloadN W d20_9 rfl ?_
      refine w_icmpge W (pc' := 31) d20_10 (by decide) (fun c10 => ?_) (fun c10 => ?_)
      · exact absurd ((own_ltI (by omega) (by omega)).mpr hil) c10
      · refine w_aloadN W d20_13 rfl rfl ?_
        refine w_iload W d20_14 rfl ?_
        refine w_baload W Cb ⟨own_nn0 (by omega), (own_ltI (by omega) (by omega)).mpr hil⟩ (v := (.int ((cs.map (nar .byte)).getD i 0))) (by rw [own_clamp (by omega), own_getMap _ (by rw [List.length_map]; exact hil)]) d20_16 ?_
        refine w_iload W d20_17 rfl ?_
        refine w_icmpne W (pc' := 25) d20_19 (by decide) (fun c19 => ?_) (fun c19 => ?_)
        · refine w_iinc W (L' := #[.val (.ref b), .val (.int ch), .val (.int (0 : Int32)), .val (.int (Int32.ofNat cs.length)), .val (.int (ch.toInt8.toInt32)), .val (.int ((Int32.ofNat i) + (1 : Int32)))]) d20_25 rfl (z := ((Int32.ofNat i) + (1 : Int32))) (by rfl) rfl ?_
          refine w_goto W (pc' := 7) d20_28 (by decide) ?_
          simp only [own_one]
          exact ih (i + 1) _ _ W (by omega)
        · exact absurd c19 (own_neB hil hlat hch hc0 hc1 hn)
  exact loop cs.length 0 _ _ W0 (by omega)
theorem ef_13_I (m : MethodId) (x0 : Int32) : entryFrame m #[(.int x0)] 1 = mkF m 0 #[.val (.int x0)] [] := by first | (simp [entryFrame, mkF, argsToLocals, Value.category]; done) | rfl
theorem d13_0 : decode jdk_43_method_4_code 0 = .ok (.iload_n 0, 1) := by decide +kernel
theorem d13_1 : decode jdk_43_method_4_code 1 = .ok (.ifCond .lt 14, 3) := by decide +kernel
theorem d13_4 : decode jdk_43_method_4_code 4 = .ok (.iload_n 0, 1) := by decide +kernel
theorem d13_5 : decode jdk_43_method_4_code 5 = .ok (.sipush 255, 3) := by decide +kernel
theorem d13_8 : decode jdk_43_method_4_code 8 = .ok (.if_icmp .gt 7, 3) := by decide +kernel
theorem d13_11 : decode jdk_43_method_4_code 11 = .ok (.iconst 1, 1) := by decide +kernel
theorem d13_12 : decode jdk_43_method_4_code 12 = .ok (.goto 4, 3) := by decide +kernel
theorem d13_16 : decode jdk_43_method_4_code 16 = .ok (.ireturn, 1) := by decide +kernel
set_option maxRecDepth 65536 in
set_option maxHeartbeats 40000000 in
theorem ctCe (l : Launch) (Z : State) (a0 : Array Value) (hw : ∀ d ∈ tables_1, d.before a0 Z = true) (ch : Int32) (h0 : Heap) (n0 : Nat) (hc0 : ¬ ch < 0) (hc1 : ¬ (255 : Int32) < ch) :
    CtN l Z (⟨"java/lang/StringLatin1", "canEncode", "(I)Z"⟩ : MethodName) jdk_43_method_4_code 1 (some .boolean) ({ frames := 0, cells := 0, slots := 0, locals := 0 } : Room) n0 #[(.int ch)] h0 (fun v h => v = some (.int 1) ∧ h0 = h) := by
  refine CtN.of (plainFor_of_name pn_java_lang_StringLatin1) ?_
  intro p e s m below meth c T0 W0 hnm
  refine Wp.cast (ef_13_I m ch) ?_
  refine w_iloadN W0 d13_0 rfl ?_
  refine w_iflt W0 (pc' := 15) d13_1 (by decide) (fun c1 => ?_) (fun c1 => ?_)
  · exact absurd c1 hc0
  · refine w_iloadN W0 d13_4 rfl ?_
    refine w_sipush W0 (z := (255 : Int32)) d13_5 (by rfl) ?_
    refine w_icmpgt W0 (pc' := 15) d13_8 (by decide) (fun c8 => ?_) (fun c8 => ?_)
    · exact absurd c8 hc1
    · refine w_iconst W0 (z := (1 : Int32)) d13_11 (by rfl) ?_
      refine w_goto W0 (pc' := 16) d13_12 (by decide) ?_
      exact n_rN W0 rfl (by simp) (z' := (1 : Int32)) (by rfl) d13_16 (by decide) (by decide) ⟨rfl, rfl⟩
theorem ef_12_RIII (m : MethodId) (x0 : Addr) (x1 : Int32) (x2 : Int32) (x3 : Int32) : entryFrame m #[(.ref x0), (.int x1), (.int x2), (.int x3)] 4 = mkF m 0 #[.val (.ref x0), .val (.int x1), .val (.int x2), .val (.int x3)] [] := by first | (simp [entryFrame, mkF, argsToLocals, Value.category]; done) | rfl
theorem d12_0 : decode jdk_43_method_22_code 0 = .ok (.iload_n 1, 1) := by decide +kernel
theorem d12_1 : decode jdk_43_method_22_code 1 = .ok (.invokestatic 88, 3) := by decide +kernel
theorem pd_9 : parseMethodDescriptor "(I)Z" = some ⟨[.int], some .boolean⟩ := by decide +kernel
theorem d12_4 : decode jdk_43_method_22_code 4 = .ok (.ifCond .ne 5, 3) := by decide +kernel
theorem d12_9 : decode jdk_43_method_22_code 9 = .ok (.iload_n 2, 1) := by decide +kernel
theorem d12_10 : decode jdk_43_method_22_code 10 = .ok (.iconst 0, 1) := by decide +kernel
theorem d12_11 : decode jdk_43_method_22_code 11 = .ok (.invokestatic 92, 3) := by decide +kernel
theorem pd_10 : parseMethodDescriptor "(II)I" = some ⟨[.int, .int], some .int⟩ := by decide +kernel
theorem d12_14 : decode jdk_43_method_22_code 14 = .ok (.istore_n 2, 1) := by decide +kernel
theorem d12_15 : decode jdk_43_method_22_code 15 = .ok (.iload_n 3, 1) := by decide +kernel
theorem d12_16 : decode jdk_43_method_22_code 16 = .ok (.aload_n 0, 1) := by decide +kernel
theorem d12_17 : decode jdk_43_method_22_code 17 = .ok (.arraylength, 1) := by decide +kernel
theorem d12_18 : decode jdk_43_method_22_code 18 = .ok (.invokestatic 38, 3) := by decide +kernel
theorem d12_21 : decode jdk_43_method_22_code 21 = .ok (.istore_n 3, 1) := by decide +kernel
theorem d12_22 : decode jdk_43_method_22_code 22 = .ok (.iload_n 2, 1) := by decide +kernel
theorem d12_23 : decode jdk_43_method_22_code 23 = .ok (.iload_n 3, 1) := by decide +kernel
theorem d12_24 : decode jdk_43_method_22_code 24 = .ok (.if_icmp .lt 5, 3) := by decide +kernel
theorem d12_29 : decode jdk_43_method_22_code 29 = .ok (.aload_n 0, 1) := by decide +kernel
theorem d12_30 : decode jdk_43_method_22_code 30 = .ok (.iload_n 1, 1) := by decide +kernel
theorem d12_31 : decode jdk_43_method_22_code 31 = .ok (.iload_n 2, 1) := by decide +kernel
theorem d12_32 : decode jdk_43_method_22_code 32 = .ok (.iload_n 3, 1) := by decide +kernel
theorem d12_33 : decode jdk_43_method_22_code 33 = .ok (.invokestatic 95, 3) := by decide +kernel
theorem pd_11 : parseMethodDescriptor "([BIII)I" = some ⟨[(.array .byte), .int, .int, .int], some .int⟩ := by decide +kernel
theorem d12_36 : decode jdk_43_method_22_code 36 = .ok (.ireturn, 1) := by decide +kernel
theorem d12_27 : decode jdk_43_method_22_code 27 = .ok (.iconst (-1), 1) := by decide +kernel
theorem d12_28 : decode jdk_43_method_22_code 28 = .ok (.ireturn, 1) := by decide +kernel
set_option maxRecDepth 65536 in
set_option maxHeartbeats 40000000 in
theorem ctLi (l : Launch) (Z : State) (a0 : Array Value) (hw : ∀ d ∈ tables_1, d.before a0 Z = true) (b : Addr) (kb : ClassId) (cs : List Int32) (ch : Int32) (h0 : Heap) (n0 : Nat) (hcs : cs.length ≤ 4000) (hlat : ∀ c ∈ cs, ¬ ((255 : Int32) < c)) (hc0 : ¬ ch < 0) (hc1 : ¬ (255 : Int32) < ch) (hn : ∀ c ∈ cs, c ≠ ch) (hch : Chs cs) (Cb : Arv Z h0 b kb .byte (Int32.ofNat cs.length) ((cs.map (nar .byte)).map Value.int) (.int 0)) :
    CtN l Z (⟨"java/lang/StringLatin1", "indexOf", "([BIII)I"⟩ : MethodName) jdk_43_method_22_code 4 (some .int) ({ frames := 1, cells := 0, slots := 0, locals := 17 } : Room) n0 #[(.ref b), (.int ch), (.int (0 : Int32)), (.int (Int32.ofNat cs.length))] h0 (fun v h => v = some (.int (-1)) ∧ h0 = h) := by
  refine CtN.of (plainFor_of_name pn_java_lang_StringLatin1) ?_
  intro p e s m below meth c T0 W0 hnm
  refine Wp.cast (ef_12_RIII m b ch (0 : Int32) (Int32.ofNat cs.length)) ?_
  refine w_iloadN W0 d12_0 rfl ?_
  refine w_callS W0 (ctCe l Z a0 hw ch _ n0 hc0 hc1) (hw _ (List.mem_of_getElem? (i := 65) rfl)) (hw _ (List.mem_of_getElem? (i := 66) rfl)) (hw _ (List.mem_of_getElem? (i := 63) rfl)) (hw _ (List.mem_of_getElem? (i := 67) rfl)) (by decide) 0 (by decide) (by decide) (by decide) (by decide) (argsL := [(.int ch)]) (rest := []) pd_9 rfl rfl rfl rfl rfl d12_1 ?_
  rintro T1 h1 l1 _ W1 ⟨rfl, rfl⟩
  refine w_ifne W1 (pc' := 9) d12_4 (by decide) (fun c4 => ?_) (fun c4 => absurd c4 (by decide))
  refine w_iloadN W1 d12_9 rfl ?_
  refine w_iconst W1 (z := (0 : Int32)) d12_10 (by rfl) ?_
  refine w_callS W1 (ctMx l Z a0 hw _ n0) (hw _ (List.mem_of_getElem? (i := 68) rfl)) (hw _ (List.mem_of_getElem? (i := 69) rfl)) (hw _ (List.mem_of_getElem? (i := 70) rfl)) (hw _ (List.mem_of_getElem? (i := 71) rfl)) (by decide) 0 (by decide) (by decide) (by decide) (by decide) (argsL := [(.int (0 : Int32)), (.int (0 : Int32))]) (rest := []) pd_10 rfl rfl rfl rfl rfl d12_11 ?_
  rintro T2 h2 l2 _ W2 ⟨rfl, rfl⟩
  refine w_istoreN W2 (L' := #[.val (.ref b), .val (.int ch), .val (.int (0 : Int32)), .val (.int (Int32.ofNat cs.length))]) d12_14 rfl ?_
  refine w_iloadN W2 d12_15 rfl ?_
  refine w_aloadN W2 d12_16 rfl rfl ?_
  refine w_arrlen W2 Cb d12_17 ?_
  refine w_callS W2 (ctMn l Z a0 hw _ _ n0) (hw _ (List.mem_of_getElem? (i := 72) rfl)) (hw _ (List.mem_of_getElem? (i := 73) rfl)) (hw _ (List.mem_of_getElem? (i := 70) rfl)) (hw _ (List.mem_of_getElem? (i := 74) rfl)) (by decide) 0 (by decide) (by decide) (by decide) (by decide) (argsL := [(.int (Int32.ofNat cs.length)), (.int (Int32.ofNat cs.length))]) (rest := []) pd_10 rfl rfl rfl rfl rfl d12_18 ?_
  rintro T3 h3 l3 _ W3 ⟨rfl, rfl⟩
  refine w_istoreN W3 (L' := #[.val (.ref b), .val (.int ch), .val (.int (0 : Int32)), .val (.int (Int32.ofNat cs.length))]) d12_21 rfl ?_
  refine w_iloadN W3 d12_22 rfl ?_
  refine w_iloadN W3 d12_23 rfl ?_
  refine w_icmplt W3 (pc' := 29) d12_24 (by decide) (fun c24 => ?_) (fun c24 => ?_)
  · refine w_aloadN W3 d12_29 rfl rfl ?_
    refine w_iloadN W3 d12_30 rfl ?_
    refine w_iloadN W3 d12_31 rfl ?_
    refine w_iloadN W3 d12_32 rfl ?_
    refine w_callS W3 (ctLc l Z a0 hw b kb cs ch _ n0 hcs hlat hc0 hc1 hn hch Cb) (hw _ (List.mem_of_getElem? (i := 89) rfl)) (hw _ (List.mem_of_getElem? (i := 90) rfl)) (hw _ (List.mem_of_getElem? (i := 63) rfl)) (hw _ (List.mem_of_getElem? (i := 91) rfl)) (by decide) 0 (by decide) (by decide) (by decide) (by decide) (argsL := [(.ref b), (.int ch), (.int (0 : Int32)), (.int (Int32.ofNat cs.length))]) (rest := []) pd_11 rfl rfl rfl rfl rfl d12_33 ?_
    rintro T4 h4 l4 _ W4 ⟨rfl, rfl⟩
    exact n_rI W4 rfl d12_36 (by decide) (by decide) ⟨rfl, rfl⟩
  · refine w_iconst W3 (z := (-1 : Int32)) d12_27 (by rfl) ?_
    exact n_rI W3 rfl d12_28 (by decide) (by decide) ⟨rfl, rfl⟩
theorem ef_31_IIIR (m : MethodId) (x0 : Int32) (x1 : Int32) (x2 : Int32) (x3 : Addr) : entryFrame m #[(.int x0), (.int x1), (.int x2), (.ref x3)] 4 = mkF m 0 #[.val (.int x0), .val (.int x1), .val (.int x2), .val (.ref x3)] [] := by first | (simp [entryFrame, mkF, argsToLocals, Value.category]; done) | rfl
theorem d31_0 : decode jdk_41_method_12_code 0 = .ok (.iload_n 0, 1) := by decide +kernel
theorem d31_1 : decode jdk_41_method_12_code 1 = .ok (.ifCond .lt 13, 3) := by decide +kernel
theorem d31_4 : decode jdk_41_method_12_code 4 = .ok (.iload_n 0, 1) := by decide +kernel
theorem d31_5 : decode jdk_41_method_12_code 5 = .ok (.iload_n 1, 1) := by decide +kernel
theorem d31_6 : decode jdk_41_method_12_code 6 = .ok (.if_icmp .gt 8, 3) := by decide +kernel
theorem d31_9 : decode jdk_41_method_12_code 9 = .ok (.iload_n 1, 1) := by decide +kernel
theorem d31_10 : decode jdk_41_method_12_code 10 = .ok (.iload_n 2, 1) := by decide +kernel
theorem d31_11 : decode jdk_41_method_12_code 11 = .ok (.if_icmp .le 11, 3) := by decide +kernel
theorem d31_22 : decode jdk_41_method_12_code 22 = .ok (.iload_n 0, 1) := by decide +kernel
theorem d31_23 : decode jdk_41_method_12_code 23 = .ok (.ireturn, 1) := by decide +kernel
theorem pn_jdk_internal_util_Preconditions : plainName "jdk/internal/util/Preconditions" = true := by first | (simp [plainName, overriddenIn]; done) | decide +kernel
set_option maxRecDepth 65536 in
set_option maxHeartbeats 40000000 in
theorem ctFt (l : Launch) (Z : State) (a0 : Array Value) (hw : ∀ d ∈ tables_1, d.before a0 Z = true) (cs : List Int32) (fa : Addr) (h0 : Heap) (n0 : Nat) (hcs : cs.length ≤ 4000) :
    CtN l Z (⟨"jdk/internal/util/Preconditions", "checkFromToIndex", "(IIILjava/util/function/BiFunction;)I"⟩ : MethodName) jdk_41_method_12_code 4 (some .int) ({ frames := 0, cells := 0, slots := 0, locals := 0 } : Room) n0 #[(.int (0 : Int32)), (.int (Int32.ofNat cs.length)), (.int (Int32.ofNat cs.length)), (.ref fa)] h0 (fun v h => v = some (.int 0) ∧ h0 = h) := by
  refine CtN.of (plainFor_of_name pn_jdk_internal_util_Preconditions) ?_
  intro p e s m below meth c T0 W0 hnm
  refine Wp.cast (ef_31_IIIR m (0 : Int32) (Int32.ofNat cs.length) (Int32.ofNat cs.length) fa) ?_
  refine w_iloadN W0 d31_0 rfl ?_
  refine w_iflt W0 (pc' := 14) d31_1 (by decide) (fun c1 => absurd c1 (by decide)) (fun c1 => ?_)
  refine w_iloadN W0 d31_4 rfl ?_
  refine w_iloadN W0 d31_5 rfl ?_
  refine w_icmpgt W0 (pc' := 14) d31_6 (by decide) (fun c6 => ?_) (fun c6 => ?_)
  · exact absurd c6 (own_nn0 (by omega))
  · refine w_iloadN W0 d31_9 rfl ?_
    refine w_iloadN W0 d31_10 rfl ?_
    refine w_icmple W0 (pc' := 22) d31_11 (by decide) (fun c11 => ?_) (fun c11 => ?_)
    · refine w_iloadN W0 d31_22 rfl ?_
      exact n_rI W0 rfl d31_23 (by decide) (by decide) ⟨rfl, rfl⟩
    · exact absurd c11 (own_irr _)
theorem ef_31_IIIn (m : MethodId) (x0 : Int32) (x1 : Int32) (x2 : Int32) : entryFrame m #[(.int x0), (.int x1), (.int x2), .null] 4 = mkF m 0 #[.val (.int x0), .val (.int x1), .val (.int x2), .val .null] [] := by first | (simp [entryFrame, mkF, argsToLocals, Value.category]; done) | rfl
set_option maxRecDepth 65536 in
set_option maxHeartbeats 40000000 in
theorem ctFtN (l : Launch) (Z : State) (a0 : Array Value) (hw : ∀ d ∈ tables_1, d.before a0 Z = true) (cs : List Int32)  (h0 : Heap) (n0 : Nat) (hcs : cs.length ≤ 4000) :
    CtN l Z (⟨"jdk/internal/util/Preconditions", "checkFromToIndex", "(IIILjava/util/function/BiFunction;)I"⟩ : MethodName) jdk_41_method_12_code 4 (some .int) ({ frames := 0, cells := 0, slots := 0, locals := 0 } : Room) n0 #[(.int (0 : Int32)), (.int (Int32.ofNat cs.length)), (.int (Int32.ofNat cs.length)), .null] h0 (fun v h => v = some (.int 0) ∧ h0 = h) := by
  refine CtN.of (plainFor_of_name pn_jdk_internal_util_Preconditions) ?_
  intro p e s m below meth c T0 W0 hnm
  refine Wp.cast (ef_31_IIIn m (0 : Int32) (Int32.ofNat cs.length) (Int32.ofNat cs.length)) ?_
  refine w_iloadN W0 d31_0 rfl ?_
  refine w_iflt W0 (pc' := 14) d31_1 (by decide) (fun c1 => absurd c1 (by decide)) (fun c1 => ?_)
  refine w_iloadN W0 d31_4 rfl ?_
  refine w_iloadN W0 d31_5 rfl ?_
  refine w_icmpgt W0 (pc' := 14) d31_6 (by decide) (fun c6 => ?_) (fun c6 => ?_)
  · exact absurd c6 (own_nn0 (by omega))
  · refine w_iloadN W0 d31_9 rfl ?_
    refine w_iloadN W0 d31_10 rfl ?_
    refine w_icmple W0 (pc' := 22) d31_11 (by decide) (fun c11 => ?_) (fun c11 => ?_)
    · refine w_iloadN W0 d31_22 rfl ?_
      exact n_rI W0 rfl d31_23 (by decide) (by decide) ⟨rfl, rfl⟩
    · exact absurd c11 (own_irr _)
theorem ef_30_III (m : MethodId) (x0 : Int32) (x1 : Int32) (x2 : Int32) : entryFrame m #[(.int x0), (.int x1), (.int x2)] 3 = mkF m 0 #[.val (.int x0), .val (.int x1), .val (.int x2)] [] := by first | (simp [entryFrame, mkF, argsToLocals, Value.category]; done) | rfl
theorem d30_0 : decode jdk_42_method_158_code 0 = .ok (.iload_n 0, 1) := by decide +kernel
theorem d30_1 : decode jdk_42_method_158_code 1 = .ok (.iload_n 1, 1) := by decide +kernel
theorem d30_2 : decode jdk_42_method_158_code 2 = .ok (.iload_n 2, 1) := by decide +kernel
theorem d30_3 : decode jdk_42_method_158_code 3 = .ok (.getstatic 1053, 3) := by decide +kernel
theorem d30_6 : decode jdk_42_method_158_code 6 = .ok (.invokestatic 1062, 3) := by decide +kernel
theorem pd_12 : parseMethodDescriptor "(IIILjava/util/function/BiFunction;)I" = some ⟨[.int, .int, .int, (.object "java/util/function/BiFunction")], some .int⟩ := by decide +kernel
theorem d30_9 : decode jdk_42_method_158_code 9 = .ok (.pop, 1) := by decide +kernel
theorem d30_10 : decode jdk_42_method_158_code 10 = .ok (.return_, 1) := by decide +kernel
set_option maxRecDepth 65536 in
set_option maxHeartbeats 40000000 in
theorem ctSb (l : Launch) (Z : State) (a0 : Array Value) (hw : ∀ d ∈ tables_1, d.before a0 Z = true) (cs : List Int32) (fv : Value) (h0 : Heap) (n0 : Nat) (hcs : cs.length ≤ 4000) (O : Old Z n0 h0) (Gf : Sta Z Z.heap "jdk/internal/util/Preconditions" "SIOOBE_FORMATTER" "Ljava/util/function/BiFunction;" fv) (hfv : fv.isRef = true) :
    CtN l Z (⟨"java/lang/String", "checkBoundsBeginEnd", "(III)V"⟩ : MethodName) jdk_42_method_158_code 3 none ({ frames := 1, cells := 0, slots := 0, locals := 15 } : Room) n0 #[(.int (0 : Int32)), (.int (Int32.ofNat cs.length)), (.int (Int32.ofNat cs.length))] h0 (fun v h => v = none ∧ h0 = h) := by
  refine CtN.of (plainFor_of_name pn_java_lang_String) ?_
  intro p e s m below meth c T0 W0 hnm
  refine Wp.cast (ef_30_III m (0 : Int32) (Int32.ofNat cs.length) (Int32.ofNat cs.length)) ?_
  refine w_iloadN W0 d30_0 rfl ?_
  refine w_iloadN W0 d30_1 rfl ?_
  refine w_iloadN W0 d30_2 rfl ?_
  rcases ref_cases hfv with rfl | ⟨fa, rfl⟩
  · refine w_gets W0 (host := "") (Or.inl (hw _ (List.mem_of_getElem? (i := 129) rfl))) Via.refl (own_staOld O Gf) d30_3 ?_
    intro T1 W1
    refine w_callS W1 (ctFtN l Z a0 hw cs _ n0 hcs) (hw _ (List.mem_of_getElem? (i := 131) rfl)) (hw _ (List.mem_of_getElem? (i := 132) rfl)) (hw _ (List.mem_of_getElem? (i := 130) rfl)) (hw _ (List.mem_of_getElem? (i := 133) rfl)) (by decide) 0 (by decide) (by decide) (by decide) (by decide) (argsL := [(.int (0 : Int32)), (.int (Int32.ofNat cs.length)), (.int (Int32.ofNat cs.length)), .null]) (rest := []) pd_12 rfl rfl rfl rfl rfl d30_6 ?_
    rintro T2 h2 l2 _ W2 ⟨rfl, rfl⟩
    refine w_pop W2 d30_9 rfl ?_
    exact n_rV W2 rfl d30_10 (by decide) (by decide) ⟨rfl, rfl⟩
  · refine w_gets W0 (host := "") (Or.inl (hw _ (List.mem_of_getElem? (i := 129) rfl))) Via.refl (own_staOld O Gf) d30_3 ?_
    intro T3 W3
    refine w_callS W3 (ctFt l Z a0 hw cs fa _ n0 hcs) (hw _ (List.mem_of_getElem? (i := 131) rfl)) (hw _ (List.mem_of_getElem? (i := 132) rfl)) (hw _ (List.mem_of_getElem? (i := 130) rfl)) (hw _ (List.mem_of_getElem? (i := 133) rfl)) (by decide) 0 (by decide) (by decide) (by decide) (by decide) (argsL := [(.int (0 : Int32)), (.int (Int32.ofNat cs.length)), (.int (Int32.ofNat cs.length)), (.ref fa)]) (rest := []) pd_12 rfl rfl rfl rfl rfl d30_6 ?_
    rintro T4 h4 l4 _ W4 ⟨rfl, rfl⟩
    refine w_pop W4 d30_9 rfl ?_
    exact n_rV W4 rfl d30_10 (by decide) (by decide) ⟨rfl, rfl⟩
theorem ef_28_IIR (m : MethodId) (x0 : Int32) (x1 : Int32) (x2 : Addr) : entryFrame m #[(.int x0), (.int x1), (.ref x2)] 3 = mkF m 0 #[.val (.int x0), .val (.int x1), .val (.ref x2)] [] := by first | (simp [entryFrame, mkF, argsToLocals, Value.category]; done) | rfl
theorem d28_0 : decode jdk_52_method_93_code 0 = .ok (.iload_n 0, 1) := by decide +kernel
theorem d28_1 : decode jdk_52_method_93_code 1 = .ok (.iload_n 1, 1) := by decide +kernel
theorem d28_2 : decode jdk_52_method_93_code 2 = .ok (.aload_n 2, 1) := by decide +kernel
theorem d28_3 : decode jdk_52_method_93_code 3 = .ok (.invokestatic 48, 3) := by decide +kernel
theorem pd_13 : parseMethodDescriptor "([B)I" = some ⟨[(.array .byte)], some .int⟩ := by decide +kernel
theorem d28_6 : decode jdk_52_method_93_code 6 = .ok (.invokestatic 241, 3) := by decide +kernel
theorem pd_14 : parseMethodDescriptor "(III)V" = some ⟨[.int, .int, .int], none⟩ := by decide +kernel
theorem d28_9 : decode jdk_52_method_93_code 9 = .ok (.return_, 1) := by decide +kernel
set_option maxRecDepth 65536 in
set_option maxHeartbeats 40000000 in
theorem ctUb (l : Launch) (Z : State) (a0 : Array Value) (hw : ∀ d ∈ tables_1, d.before a0 Z = true) (b : Addr) (kb : ClassId) (cs : List Int32) (fv : Value) (h0 : Heap) (n0 : Nat) (hcs : cs.length ≤ 4000) (O : Old Z n0 h0) (Gf : Sta Z Z.heap "jdk/internal/util/Preconditions" "SIOOBE_FORMATTER" "Ljava/util/function/BiFunction;" fv) (hfv : fv.isRef = true) (Cb : Arv Z h0 b kb .byte (Int32.ofNat (2 * cs.length)) ((own_u16 cs).map Value.int) (.int 0)) :
    CtN l Z (⟨"java/lang/StringUTF16", "checkBoundsBeginEnd", "(II[B)V"⟩ : MethodName) jdk_52_method_93_code 3 none ({ frames := 2, cells := 0, slots := 0, locals := 29 } : Room) n0 #[(.int (0 : Int32)), (.int (Int32.ofNat cs.length)), (.ref b)] h0 (fun v h => v = none ∧ h0 = h) := by
  refine CtN.of (plainFor_of_name pn_java_lang_StringUTF16) ?_
  intro p e s m below meth c T0 W0 hnm
  refine Wp.cast (ef_28_IIR m (0 : Int32) (Int32.ofNat cs.length) b) ?_
  refine w_iloadN W0 d28_0 rfl ?_
  refine w_iloadN W0 d28_1 rfl ?_
  refine w_aloadN W0 d28_2 rfl rfl ?_
  refine w_callS W0 (ctUl l Z a0 hw b kb cs _ n0 hcs Cb) (hw _ (List.mem_of_getElem? (i := 123) rfl)) (hw _ (List.mem_of_getElem? (i := 124) rfl)) (hw _ (List.mem_of_getElem? (i := 81) rfl)) (hw _ (List.mem_of_getElem? (i := 125) rfl)) (by decide) 2 (by decide) (by decide) (by decide) (by decide) (argsL := [(.ref b)]) (rest := [(.int (Int32.ofNat cs.length)), (.int (0 : Int32))]) pd_13 rfl rfl rfl rfl rfl d28_3 ?_
  rintro T1 h1 l1 _ W1 ⟨rfl, rfl⟩
  refine w_callS W1 (ctSb l Z a0 hw cs fv _ n0 hcs O Gf hfv) (hw _ (List.mem_of_getElem? (i := 126) rfl)) (hw _ (List.mem_of_getElem? (i := 127) rfl)) (hw _ (List.mem_of_getElem? (i := 4) rfl)) (hw _ (List.mem_of_getElem? (i := 128) rfl)) (by decide) 0 (by decide) (by decide) (by decide) (by decide) (argsL := [(.int (0 : Int32)), (.int (Int32.ofNat cs.length)), (.int (Int32.ofNat cs.length))]) (rest := []) pd_14 rfl rfl rfl rfl rfl d28_6 ?_
  rintro T2 h2 l2 _ W2 ⟨rfl, rfl⟩
  exact n_rV W2 rfl d28_9 (by decide) (by decide) ⟨rfl, rfl⟩
theorem ef_32_RIII (m : MethodId) (x0 : Addr) (x1 : Int32) (x2 : Int32) (x3 : Int32) : entryFrame m #[(.ref x0), (.int x1), (.int x2), (.int x3)] 5 = mkF m 0 #[.val (.ref x0), .val (.int x1), .val (.int x2), .val (.int x3), .unset] [] := by first | (simp [entryFrame, mkF, argsToLocals, Value.category]; done) | rfl
theorem d32_0 : decode jdk_52_method_48_code 0 = .ok (.iload_n 2, 1) := by decide +kernel
theorem d32_1 : decode jdk_52_method_48_code 1 = .ok (.istore 4, 2) := by decide +kernel
theorem d32_3 : decode jdk_52_method_48_code 3 = .ok (.iload 4, 2) := by decide +kernel
theorem d32_5 : decode jdk_52_method_48_code 5 = .ok (.iload_n 3, 1) := by decide +kernel
theorem d32_6 : decode jdk_52_method_48_code 6 = .ok (.if_icmp .ge 22, 3) := by decide +kernel
theorem d32_28 : decode jdk_52_method_48_code 28 = .ok (.iconst (-1), 1) := by decide +kernel
theorem d32_29 : decode jdk_52_method_48_code 29 = .ok (.ireturn, 1) := by decide +kernel
theorem d32_9 : decode jdk_52_method_48_code 9 = .ok (.aload_n 0, 1) := by decide +kernel
theorem d32_10 : decode jdk_52_method_48_code 10 = .ok (.iload 4, 2) := by decide +kernel
theorem d32_12 : decode jdk_52_method_48_code 12 = .ok (.invokestatic 71, 3) := by decide +kernel
theorem d32_15 : decode jdk_52_method_48_code 15 = .ok (.iload_n 1, 1) := by decide +kernel
theorem d32_16 : decode jdk_52_method_48_code 16 = .ok (.if_icmp .ne 6, 3) := by decide +kernel
theorem d32_22 : decode jdk_52_method_48_code 22 = .ok (.iinc 4 1, 3) := by decide +kernel
theorem d32_25 : decode jdk_52_method_48_code 25 = .ok (.goto (-22), 3) := by decide +kernel
set_option maxRecDepth 65536 in
set_option maxHeartbeats 40000000 in
theorem ctUu (l : Launch) (Z : State) (a0 : Array Value) (hw : ∀ d ∈ tables_1, d.before a0 Z = true) (b : Addr) (kb : ClassId) (cs : List Int32) (ch : Int32) (h0 : Heap) (n0 : Nat) (hcs : cs.length ≤ 4000) (hc0 : ¬ ch < 0) (hc1 : ¬ (255 : Int32) < ch) (hn : ∀ c ∈ cs, c ≠ ch) (hch : Chs cs) (O : Old Z n0 h0) (Ga : Sta Z Z.heap "java/lang/StringUTF16" "$assertionsDisabled" "Z" (.int 1)) (Gh : Sta Z Z.heap "java/lang/StringUTF16" "HI_BYTE_SHIFT" "I" (.int 0)) (Gl : Sta Z Z.heap "java/lang/StringUTF16" "LO_BYTE_SHIFT" "I" (.int 8)) (Cb : Arv Z h0 b kb .byte (Int32.ofNat (2 * cs.length)) ((own_u16 cs).map Value.int) (.int 0)) :
    CtN l Z (⟨"java/lang/StringUTF16", "indexOfCharUnsafe", "([BIII)I"⟩ : MethodName) jdk_52_method_48_code 5 (some .int) ({ frames := 1, cells := 0, slots := 0, locals := 13 } : Room) n0 #[(.ref b), (.int ch), (.int (0 : Int32)), (.int (Int32.ofNat cs.length))] h0 (fun v h => v = some (.int (-1)) ∧ h0 = h) := by
  refine CtN.of (plainFor_of_name pn_java_lang_StringUTF16) ?_
  intro p e s m below meth c T0 W0 hnm
  refine Wp.cast (ef_32_RIII m b ch (0 : Int32) (Int32.ofNat cs.length)) ?_
  refine w_iloadN W0 d32_0 rfl ?_
  refine w_istore W0 (L' := #[.val (.ref b), .val (.int ch), .val (.int (0 : Int32)), .val (.int (Int32.ofNat cs.length)), .val (.int (0 : Int32))]) d32_1 rfl ?_
  have loop : ∀ (r i : Nat) (T : State) (locs : List Loc) (W : Wk p l e ({ frames := 1, cells := 0, slots := 0, locals := 13 } : Room) s s.vm m #[(.ref b), (.int ch), (.int (0 : Int32)), (.int (Int32.ofNat cs.length))] below meth c Z "java/lang/StringUTF16" n0 jdk_52_method_48_code 5 (some .int) T h0 locs 0 0) (hi : i + r = cs.length), Wp p e below (PoN n0 s 0 0 (fun v h => v = some (.int (-1)) ∧ h0 = h)) T (mkF m 3 #[.val (.ref b), .val (.int ch), .val (.int (0 : Int32)), .val (.int (Int32.ofNat cs.length)), .val (.int (Int32.ofNat i))] []) := by
    intro r
    induction r with
    | zero =>
      intro i T locs W hi
      refine w_iload W d32_3 rfl ?_
      refine w_iloadN W d32_5 rfl ?_
      refine w_icmpge W (pc' := 28) d32_6 (by decide) (fun c6 => ?_) (fun c6 => ?_)
      · refine w_iconst W (z := (-1 : Int32)) d32_28 (by rfl) ?_
        exact n_rI W rfl d32_29 (by decide) (by decide) ⟨rfl, rfl⟩
      · exact absurd c6 (fun q => by rw [own_ltI (by omega) (by omega)] at q; omega)
    | succ r ih =>
      intro i T locs W hi
      have hil : i < cs.length := by omega
      refine w_iload W d32_3 rfl ?_
      refine w_iloadN W d32_5 rfl ?_
      refine w_icmpge W (pc' := 28) d32_6 (by decide) (fun c6 => ?_) (fun c6 => ?_)
      · exact absurd ((own_ltI (by omega) (by omega)).mpr hil) c6
      · refine w_aloadN W d32_9 rfl rfl ?_
        refine w_iload W d32_10 rfl ?_
        refine w_callS W (ctGc l Z a0 hw b kb cs i _ n0 hcs hil hch O Ga Gh Gl Cb) (hw _ (List.mem_of_getElem? (i := 108) rfl)) (hw _ (List.mem_of_getElem? (i := 109) rfl)) (hw _ (List.mem_of_getElem? (i := 81) rfl)) (hw _ (List.mem_of_getElem? (i := 110) rfl)) (by decide) 0 (by decide) (by decide) (by decide) (by decide) (argsL := [(.ref b), (.int (Int32.ofNat i))]) (rest := []) pd_5 rfl rfl rfl rfl rfl d32_12 ?_
        rintro T1 h1 l1 _ W1 ⟨rfl, rfl⟩
        refine w_iloadN W1 d32_15 rfl ?_
        refine w_icmpne W1 (pc' := 22) d32_16 (by decide) (fun c16 => ?_) (fun c16 => ?_)
        · refine w_iinc W1 (L' := #[.val (.ref b), .val (.int ch), .val (.int (0 : Int32)), .val (.int (Int32.ofNat cs.length)), .val (.int ((Int32.ofNat i) + (1 : Int32)))]) d32_22 rfl (z := ((Int32.ofNat i) + (1 : Int32))) (by rfl) rfl ?_
          refine w_goto W1 (pc' := 3) d32_25 (by decide) ?_
          simp only [own_one]
          exact ih (i + 1) _ _ W1 (by omega)
        · exact absurd c16 (hn _ (own_gmem hil))
  exact loop cs.length 0 _ _ W0 (by omega)
theorem ef_27_RIII (m : MethodId) (x0 : Addr) (x1 : Int32) (x2 : Int32) (x3 : Int32) : entryFrame m #[(.ref x0), (.int x1), (.int x2), (.int x3)] 4 = mkF m 0 #[.val (.ref x0), .val (.int x1), .val (.int x2), .val (.int x3)] [] := by first | (simp [entryFrame, mkF, argsToLocals, Value.category]; done) | rfl
theorem d27_0 : decode jdk_52_method_47_code 0 = .ok (.iload_n 2, 1) := by decide +kernel
theorem d27_1 : decode jdk_52_method_47_code 1 = .ok (.iload_n 3, 1) := by decide +kernel
theorem d27_2 : decode jdk_52_method_47_code 2 = .ok (.aload_n 0, 1) := by decide +kernel
theorem d27_3 : decode jdk_52_method_47_code 3 = .ok (.invokestatic 96, 3) := by decide +kernel
theorem pd_15 : parseMethodDescriptor "(II[B)V" = some ⟨[.int, .int, (.array .byte)], none⟩ := by decide +kernel
theorem d27_6 : decode jdk_52_method_47_code 6 = .ok (.aload_n 0, 1) := by decide +kernel
theorem d27_7 : decode jdk_52_method_47_code 7 = .ok (.iload_n 1, 1) := by decide +kernel
theorem d27_8 : decode jdk_52_method_47_code 8 = .ok (.iload_n 2, 1) := by decide +kernel
theorem d27_9 : decode jdk_52_method_47_code 9 = .ok (.iload_n 3, 1) := by decide +kernel
theorem d27_10 : decode jdk_52_method_47_code 10 = .ok (.invokestatic 244, 3) := by decide +kernel
theorem d27_13 : decode jdk_52_method_47_code 13 = .ok (.ireturn, 1) := by decide +kernel
set_option maxRecDepth 65536 in
set_option maxHeartbeats 40000000 in
theorem ctUc (l : Launch) (Z : State) (a0 : Array Value) (hw : ∀ d ∈ tables_1, d.before a0 Z = true) (b : Addr) (kb : ClassId) (cs : List Int32) (ch : Int32) (fv : Value) (h0 : Heap) (n0 : Nat) (hcs : cs.length ≤ 4000) (hc0 : ¬ ch < 0) (hc1 : ¬ (255 : Int32) < ch) (hn : ∀ c ∈ cs, c ≠ ch) (hch : Chs cs) (O : Old Z n0 h0) (Ga : Sta Z Z.heap "java/lang/StringUTF16" "$assertionsDisabled" "Z" (.int 1)) (Gh : Sta Z Z.heap "java/lang/StringUTF16" "HI_BYTE_SHIFT" "I" (.int 0)) (Gl : Sta Z Z.heap "java/lang/StringUTF16" "LO_BYTE_SHIFT" "I" (.int 8)) (Gf : Sta Z Z.heap "jdk/internal/util/Preconditions" "SIOOBE_FORMATTER" "Ljava/util/function/BiFunction;" fv) (hfv : fv.isRef = true) (Cb : Arv Z h0 b kb .byte (Int32.ofNat (2 * cs.length)) ((own_u16 cs).map Value.int) (.int 0)) :
    CtN l Z (⟨"java/lang/StringUTF16", "indexOfChar", "([BIII)I"⟩ : MethodName) jdk_52_method_47_code 4 (some .int) ({ frames := 3, cells := 0, slots := 0, locals := 43 } : Room) n0 #[(.ref b), (.int ch), (.int (0 : Int32)), (.int (Int32.ofNat cs.length))] h0 (fun v h => v = some (.int (-1)) ∧ h0 = h) := by
  refine CtN.of (plainFor_of_name pn_java_lang_StringUTF16) ?_
  intro p e s m below meth c T0 W0 hnm
  refine Wp.cast (ef_27_RIII m b ch (0 : Int32) (Int32.ofNat cs.length)) ?_
  refine w_iloadN W0 d27_0 rfl ?_
  refine w_iloadN W0 d27_1 rfl ?_
  refine w_aloadN W0 d27_2 rfl rfl ?_
  refine w_callS W0 (ctUb l Z a0 hw b kb cs fv _ n0 hcs O Gf hfv Cb) (hw _ (List.mem_of_getElem? (i := 120) rfl)) (hw _ (List.mem_of_getElem? (i := 121) rfl)) (hw _ (List.mem_of_getElem? (i := 81) rfl)) (hw _ (List.mem_of_getElem? (i := 122) rfl)) (by decide) 0 (by decide) (by decide) (by decide) (by decide) (argsL := [(.int (0 : Int32)), (.int (Int32.ofNat cs.length)), (.ref b)]) (rest := []) pd_15 rfl rfl rfl rfl rfl d27_3 ?_
  rintro T1 h1 l1 _ W1 ⟨rfl, rfl⟩
  refine w_aloadN W1 d27_6 rfl rfl ?_
  refine w_iloadN W1 d27_7 rfl ?_
  refine w_iloadN W1 d27_8 rfl ?_
  refine w_iloadN W1 d27_9 rfl ?_
  refine w_callS W1 (ctUu l Z a0 hw b kb cs ch _ n0 hcs hc0 hc1 hn hch O Ga Gh Gl Cb) (hw _ (List.mem_of_getElem? (i := 134) rfl)) (hw _ (List.mem_of_getElem? (i := 135) rfl)) (hw _ (List.mem_of_getElem? (i := 81) rfl)) (hw _ (List.mem_of_getElem? (i := 136) rfl)) (by decide) 0 (by decide) (by decide) (by decide) (by decide) (argsL := [(.ref b), (.int ch), (.int (0 : Int32)), (.int (Int32.ofNat cs.length))]) (rest := []) pd_11 rfl rfl rfl rfl rfl d27_10 ?_
  rintro T2 h2 l2 _ W2 ⟨rfl, rfl⟩
  exact n_rI W2 rfl d27_13 (by decide) (by decide) ⟨rfl, rfl⟩
theorem ef_26_RIII (m : MethodId) (x0 : Addr) (x1 : Int32) (x2 : Int32) (x3 : Int32) : entryFrame m #[(.ref x0), (.int x1), (.int x2), (.int x3)] 4 = mkF m 0 #[.val (.ref x0), .val (.int x1), .val (.int x2), .val (.int x3)] [] := by first | (simp [entryFrame, mkF, argsToLocals, Value.category]; done) | rfl
theorem d26_0 : decode jdk_52_method_40_code 0 = .ok (.iload_n 2, 1) := by decide +kernel
theorem d26_1 : decode jdk_52_method_40_code 1 = .ok (.iconst 0, 1) := by decide +kernel
theorem d26_2 : decode jdk_52_method_40_code 2 = .ok (.invokestatic 224, 3) := by decide +kernel
theorem d26_5 : decode jdk_52_method_40_code 5 = .ok (.istore_n 2, 1) := by decide +kernel
theorem d26_6 : decode jdk_52_method_40_code 6 = .ok (.iload_n 3, 1) := by decide +kernel
theorem d26_7 : decode jdk_52_method_40_code 7 = .ok (.aload_n 0, 1) := by decide +kernel
theorem d26_8 : decode jdk_52_method_40_code 8 = .ok (.arraylength, 1) := by decide +kernel
theorem d26_9 : decode jdk_52_method_40_code 9 = .ok (.iconst 1, 1) := by decide +kernel
theorem d26_10 : decode jdk_52_method_40_code 10 = .ok (.ishr, 1) := by decide +kernel
theorem d26_11 : decode jdk_52_method_40_code 11 = .ok (.invokestatic 183, 3) := by decide +kernel
theorem d26_14 : decode jdk_52_method_40_code 14 = .ok (.istore_n 3, 1) := by decide +kernel
theorem d26_15 : decode jdk_52_method_40_code 15 = .ok (.iload_n 2, 1) := by decide +kernel
theorem d26_16 : decode jdk_52_method_40_code 16 = .ok (.iload_n 3, 1) := by decide +kernel
theorem d26_17 : decode jdk_52_method_40_code 17 = .ok (.if_icmp .lt 5, 3) := by decide +kernel
theorem d26_22 : decode jdk_52_method_40_code 22 = .ok (.iload_n 1, 1) := by decide +kernel
theorem d26_23 : decode jdk_52_method_40_code 23 = .ok (.ldc 227, 2) := by decide +kernel
theorem d26_25 : decode jdk_52_method_40_code 25 = .ok (.if_icmp .ge 11, 3) := by decide +kernel
theorem d26_28 : decode jdk_52_method_40_code 28 = .ok (.aload_n 0, 1) := by decide +kernel
theorem d26_29 : decode jdk_52_method_40_code 29 = .ok (.iload_n 1, 1) := by decide +kernel
theorem d26_30 : decode jdk_52_method_40_code 30 = .ok (.iload_n 2, 1) := by decide +kernel
theorem d26_31 : decode jdk_52_method_40_code 31 = .ok (.iload_n 3, 1) := by decide +kernel
theorem d26_32 : decode jdk_52_method_40_code 32 = .ok (.invokestatic 228, 3) := by decide +kernel
theorem d26_35 : decode jdk_52_method_40_code 35 = .ok (.ireturn, 1) := by decide +kernel
theorem d26_20 : decode jdk_52_method_40_code 20 = .ok (.iconst (-1), 1) := by decide +kernel
theorem d26_21 : decode jdk_52_method_40_code 21 = .ok (.ireturn, 1) := by decide +kernel
set_option maxRecDepth 65536 in
set_option maxHeartbeats 40000000 in
theorem ctUi (l : Launch) (Z : State) (a0 : Array Value) (hw : ∀ d ∈ tables_1, d.before a0 Z = true) (b : Addr) (kb : ClassId) (cs : List Int32) (ch : Int32) (fv : Value) (h0 : Heap) (n0 : Nat) (hcs : cs.length ≤ 4000) (hc0 : ¬ ch < 0) (hc1 : ¬ (255 : Int32) < ch) (hn : ∀ c ∈ cs, c ≠ ch) (hch : Chs cs) (O : Old Z n0 h0) (Ga : Sta Z Z.heap "java/lang/StringUTF16" "$assertionsDisabled" "Z" (.int 1)) (Gh : Sta Z Z.heap "java/lang/StringUTF16" "HI_BYTE_SHIFT" "I" (.int 0)) (Gl : Sta Z Z.heap "java/lang/StringUTF16" "LO_BYTE_SHIFT" "I" (.int 8)) (Gf : Sta Z Z.heap "jdk/internal/util/Preconditions" "SIOOBE_FORMATTER" "Ljava/util/function/BiFunction;" fv) (hfv : fv.isRef = true) (Cb : Arv Z h0 b kb .byte (Int32.ofNat (2 * cs.length)) ((own_u16 cs).map Value.int) (.int 0)) :
    CtN l Z (⟨"java/lang/StringUTF16", "indexOf", "([BIII)I"⟩ : MethodName) jdk_52_method_40_code 4 (some .int) ({ frames := 4, cells := 0, slots := 0, locals := 58 } : Room) n0 #[(.ref b), (.int ch), (.int (0 : Int32)), (.int (Int32.ofNat cs.length))] h0 (fun v h => v = some (.int (-1)) ∧ h0 = h) := by
  refine CtN.of (plainFor_of_name pn_java_lang_StringUTF16) ?_
  intro p e s m below meth c T0 W0 hnm
  refine Wp.cast (ef_26_RIII m b ch (0 : Int32) (Int32.ofNat cs.length)) ?_
  refine w_iloadN W0 d26_0 rfl ?_
  refine w_iconst W0 (z := (0 : Int32)) d26_1 (by rfl) ?_
  refine w_callS W0 (ctMx l Z a0 hw _ n0) (hw _ (List.mem_of_getElem? (i := 114) rfl)) (hw _ (List.mem_of_getElem? (i := 69) rfl)) (hw _ (List.mem_of_getElem? (i := 70) rfl)) (hw _ (List.mem_of_getElem? (i := 71) rfl)) (by decide) 0 (by decide) (by decide) (by decide) (by decide) (argsL := [(.int (0 : Int32)), (.int (0 : Int32))]) (rest := []) pd_10 rfl rfl rfl rfl rfl d26_2 ?_
  rintro T1 h1 l1 _ W1 ⟨rfl, rfl⟩
  refine w_istoreN W1 (L' := #[.val (.ref b), .val (.int ch), .val (.int (0 : Int32)), .val (.int (Int32.ofNat cs.length))]) d26_5 rfl ?_
  refine w_iloadN W1 d26_6 rfl ?_
  refine w_aloadN W1 d26_7 rfl rfl ?_
  refine w_arrlen W1 Cb d26_8 ?_
  refine w_iconst W1 (z := (1 : Int32)) d26_9 (by rfl) ?_
  refine w_ishr W1 d26_10 (own_hlf (by omega)) ?_
  refine w_callS W1 (ctMn l Z a0 hw _ _ n0) (hw _ (List.mem_of_getElem? (i := 115) rfl)) (hw _ (List.mem_of_getElem? (i := 73) rfl)) (hw _ (List.mem_of_getElem? (i := 70) rfl)) (hw _ (List.mem_of_getElem? (i := 74) rfl)) (by decide) 0 (by decide) (by decide) (by decide) (by decide) (argsL := [(.int (Int32.ofNat cs.length)), (.int (Int32.ofNat cs.length))]) (rest := []) pd_10 rfl rfl rfl rfl rfl d26_11 ?_
  rintro T2 h2 l2 _ W2 ⟨rfl, rfl⟩
  refine w_istoreN W2 (L' := #[.val (.ref b), .val (.int ch), .val (.int (0 : Int32)), .val (.int (Int32.ofNat cs.length))]) d26_14 rfl ?_
  refine w_iloadN W2 d26_15 rfl ?_
  refine w_iloadN W2 d26_16 rfl ?_
  refine w_icmplt W2 (pc' := 22) d26_17 (by decide) (fun c17 => ?_) (fun c17 => ?_)
  · refine w_iloadN W2 d26_22 rfl ?_
    refine w_ldcI W2 (hw _ (List.mem_of_getElem? (i := 116) rfl)) d26_23 ?_
    refine w_icmpge W2 (pc' := 36) d26_25 (by decide) (fun c25 => ?_) (fun c25 => ?_)
    · exact absurd (own_lt64k hc1) c25
    · refine w_aloadN W2 d26_28 rfl rfl ?_
      refine w_iloadN W2 d26_29 rfl ?_
      refine w_iloadN W2 d26_30 rfl ?_
      refine w_iloadN W2 d26_31 rfl ?_
      refine w_callS W2 (ctUc l Z a0 hw b kb cs ch fv _ n0 hcs hc0 hc1 hn hch O Ga Gh Gl Gf hfv Cb) (hw _ (List.mem_of_getElem? (i := 117) rfl)) (hw _ (List.mem_of_getElem? (i := 118) rfl)) (hw _ (List.mem_of_getElem? (i := 81) rfl)) (hw _ (List.mem_of_getElem? (i := 119) rfl)) (by decide) 0 (by decide) (by decide) (by decide) (by decide) (argsL := [(.ref b), (.int ch), (.int (0 : Int32)), (.int (Int32.ofNat cs.length))]) (rest := []) pd_11 rfl rfl rfl rfl rfl d26_32 ?_
      rintro T3 h3 l3 _ W3 ⟨rfl, rfl⟩
      exact n_rI W3 rfl d26_35 (by decide) (by decide) ⟨rfl, rfl⟩
  · refine w_iconst W2 (z := (-1 : Int32)) d26_20 (by rfl) ?_
    exact n_rI W2 rfl d26_21 (by decide) (by decide) ⟨rfl, rfl⟩
theorem ef_8_RII (m : MethodId) (x0 : Addr) (x1 : Int32) (x2 : Int32) : entryFrame m #[(.ref x0), (.int x1), (.int x2)] 3 = mkF m 0 #[.val (.ref x0), .val (.int x1), .val (.int x2)] [] := by first | (simp [entryFrame, mkF, argsToLocals, Value.category]; done) | rfl
theorem d8_0 : decode jdk_42_method_80_code 0 = .ok (.aload_n 0, 1) := by decide +kernel
theorem d8_1 : decode jdk_42_method_80_code 1 = .ok (.invokevirtual 492, 3) := by decide +kernel
theorem pd_16 : parseMethodDescriptor "()Z" = some ⟨[], some .boolean⟩ := by decide +kernel
theorem d8_4 : decode jdk_42_method_80_code 4 = .ok (.ifCond .eq 19, 3) := by decide +kernel
theorem d8_7 : decode jdk_42_method_80_code 7 = .ok (.aload_n 0, 1) := by decide +kernel
theorem d8_8 : decode jdk_42_method_80_code 8 = .ok (.getfield 9, 3) := by decide +kernel
theorem d8_11 : decode jdk_42_method_80_code 11 = .ok (.iload_n 1, 1) := by decide +kernel
theorem d8_12 : decode jdk_42_method_80_code 12 = .ok (.iload_n 2, 1) := by decide +kernel
theorem d8_13 : decode jdk_42_method_80_code 13 = .ok (.aload_n 0, 1) := by decide +kernel
theorem d8_14 : decode jdk_42_method_80_code 14 = .ok (.invokevirtual 505, 3) := by decide +kernel
theorem pd_17 : parseMethodDescriptor "()I" = some ⟨[], some .int⟩ := by decide +kernel
theorem d8_17 : decode jdk_42_method_80_code 17 = .ok (.invokestatic 637, 3) := by decide +kernel
theorem d8_20 : decode jdk_42_method_80_code 20 = .ok (.goto 16, 3) := by decide +kernel
theorem d8_36 : decode jdk_42_method_80_code 36 = .ok (.ireturn, 1) := by decide +kernel
theorem d8_23 : decode jdk_42_method_80_code 23 = .ok (.aload_n 0, 1) := by decide +kernel
theorem d8_24 : decode jdk_42_method_80_code 24 = .ok (.getfield 9, 3) := by decide +kernel
theorem d8_27 : decode jdk_42_method_80_code 27 = .ok (.iload_n 1, 1) := by decide +kernel
theorem d8_28 : decode jdk_42_method_80_code 28 = .ok (.iload_n 2, 1) := by decide +kernel
theorem d8_29 : decode jdk_42_method_80_code 29 = .ok (.aload_n 0, 1) := by decide +kernel
theorem d8_30 : decode jdk_42_method_80_code 30 = .ok (.invokevirtual 505, 3) := by decide +kernel
theorem d8_33 : decode jdk_42_method_80_code 33 = .ok (.invokestatic 640, 3) := by decide +kernel
set_option maxRecDepth 65536 in
set_option maxHeartbeats 40000000 in
theorem ctI2 (l : Launch) (Z : State) (a0 : Array Value) (hw : ∀ d ∈ tables_1, d.before a0 Z = true) (cz : Int32) (x : Addr) (cs us : List Int32) (co : Int32) (ch : Int32) (fv : Value) (h0 : Heap) (n0 : Nat) (O : Old Z n0 h0) (G : Sta Z Z.heap "java/lang/String" "COMPACT_STRINGS" "Z" (.int cz)) (hcz : cz ≠ 0) (hcs : cs.length ≤ 4000) (hE : Enc cs co us) (S : Str Z h0 x co us) (hc0 : ¬ ch < 0) (hc1 : ¬ (255 : Int32) < ch) (hn : ∀ c ∈ cs, c ≠ ch) (hch : Chs cs) (Ga : Sta Z Z.heap "java/lang/StringUTF16" "$assertionsDisabled" "Z" (.int 1)) (Gh : Sta Z Z.heap "java/lang/StringUTF16" "HI_BYTE_SHIFT" "I" (.int 0)) (Gl : Sta Z Z.heap "java/lang/StringUTF16" "LO_BYTE_SHIFT" "I" (.int 8)) (Gf : Sta Z Z.heap "jdk/internal/util/Preconditions" "SIOOBE_FORMATTER" "Ljava/util/function/BiFunction;" fv) (hfv : fv.isRef = true) :
    CtN l Z (⟨"java/lang/String", "indexOf", "(II)I"⟩ : MethodName) jdk_42_method_80_code 3 (some .int) ({ frames := 5, cells := 0, slots := 0, locals := 73 } : Room) n0 #[(.ref x), (.int ch), (.int (0 : Int32))] h0 (fun v h => v = some (.int (-1)) ∧ h0 = h) := by
  refine CtN.of (plainFor_of_name pn_java_lang_String) ?_
  intro p e s m below meth c T0 W0 hnm
  refine Wp.cast (ef_8_RII m x ch (0 : Int32)) ?_
  obtain ⟨b, kb, Ex, Cf, Vf, Ar⟩ := id S
  rcases id hE with ⟨rfl, rfl, hlat⟩ | ⟨rfl, rfl, hpos⟩
  · have Cb : Arv Z h0 b kb .byte (Int32.ofNat cs.length) ((cs.map (nar .byte)).map Value.int) (.int 0) := by rw [List.length_map] at Ar; exact Ar
    refine w_aloadN W0 d8_0 rfl rfl ?_
    refine w_virt W0 (ctIl l Z a0 hw cz x cs (cs.map (nar .byte)) 0 _ n0 O G hcz hcs hE S) (hw _ (List.mem_of_getElem? (i := 45) rfl)) (hw _ (List.mem_of_getElem? (i := 46) rfl)) (notFace_of_selects (args := #[]) (mvT W0.wZ (hw _ (List.mem_of_getElem? (i := 48) rfl)))) (hw _ (List.mem_of_getElem? (i := 48) rfl)) (hw _ (List.mem_of_getElem? (i := 47) rfl)) (hw _ (List.mem_of_getElem? (i := 4) rfl)) (hw _ (List.mem_of_getElem? (i := 49) rfl)) (by decide) 0 (by decide) (by decide) (by decide) (by decide) (a := x) Ex (argsL := []) (rest := []) pd_16 rfl rfl rfl rfl rfl d8_1 ?_
    rintro T1 h1 l1 _ W1 ⟨rfl, rfl⟩
    refine w_ifeq W1 (pc' := 23) d8_4 (by decide) (fun c4 => absurd c4 (by decide)) (fun c4 => ?_)
    refine w_aloadN W1 d8_7 rfl rfl ?_
    refine w_getf W1 (host := "") (Or.inl (hw _ (List.mem_of_getElem? (i := 21) rfl))) Via.refl Vf d8_8 ?_
    intro T2 W2
    refine w_iloadN W2 d8_11 rfl ?_
    refine w_iloadN W2 d8_12 rfl ?_
    refine w_aloadN W2 d8_13 rfl rfl ?_
    refine w_virt W2 (ctLn l Z a0 hw cz x cs (cs.map (nar .byte)) 0 _ n0 O G hcz hcs hE S) (hw _ (List.mem_of_getElem? (i := 51) rfl)) (hw _ (List.mem_of_getElem? (i := 52) rfl)) (notFace_of_selects (args := #[]) (mvT W2.wZ (hw _ (List.mem_of_getElem? (i := 54) rfl)))) (hw _ (List.mem_of_getElem? (i := 54) rfl)) (hw _ (List.mem_of_getElem? (i := 53) rfl)) (hw _ (List.mem_of_getElem? (i := 4) rfl)) (hw _ (List.mem_of_getElem? (i := 55) rfl)) (by decide) 3 (by decide) (by decide) (by decide) (by decide) (a := x) Ex (argsL := []) (rest := [(.int (0 : Int32)), (.int ch), (.ref b)]) pd_17 rfl rfl rfl rfl rfl d8_14 ?_
    rintro T3 h3 l3 _ W3 ⟨rfl, rfl⟩
    refine w_callS W3 (ctLi l Z a0 hw b kb cs ch _ n0 hcs hlat hc0 hc1 hn hch Cb) (hw _ (List.mem_of_getElem? (i := 61) rfl)) (hw _ (List.mem_of_getElem? (i := 62) rfl)) (hw _ (List.mem_of_getElem? (i := 63) rfl)) (hw _ (List.mem_of_getElem? (i := 64) rfl)) (by decide) 0 (by decide) (by decide) (by decide) (by decide) (argsL := [(.ref b), (.int ch), (.int (0 : Int32)), (.int (Int32.ofNat cs.length))]) (rest := []) pd_11 rfl rfl rfl rfl rfl d8_17 ?_
    rintro T4 h4 l4 _ W4 ⟨rfl, rfl⟩
    refine w_goto W4 (pc' := 36) d8_20 (by decide) ?_
    exact n_rI W4 rfl d8_36 (by decide) (by decide) ⟨rfl, rfl⟩
  · have Cb : Arv Z h0 b kb .byte (Int32.ofNat (2 * cs.length)) ((own_u16 cs).map Value.int) (.int 0) := by rw [own_u16_len] at Ar; exact Ar
    refine w_aloadN W0 d8_0 rfl rfl ?_
    refine w_virt W0 (ctIl l Z a0 hw cz x cs (own_u16 cs) 1 _ n0 O G hcz hcs hE S) (hw _ (List.mem_of_getElem? (i := 45) rfl)) (hw _ (List.mem_of_getElem? (i := 46) rfl)) (notFace_of_selects (args := #[]) (mvT W0.wZ (hw _ (List.mem_of_getElem? (i := 48) rfl)))) (hw _ (List.mem_of_getElem? (i := 48) rfl)) (hw _ (List.mem_of_getElem? (i := 47) rfl)) (hw _ (List.mem_of_getElem? (i := 4) rfl)) (hw _ (List.mem_of_getElem? (i := 49) rfl)) (by decide) 0 (by decide) (by decide) (by decide) (by decide) (a := x) Ex (argsL := []) (rest := []) pd_16 rfl rfl rfl rfl rfl d8_1 ?_
    rintro T5 h5 l5 _ W5 ⟨rfl, rfl⟩
    refine w_ifeq W5 (pc' := 23) d8_4 (by decide) (fun c4 => ?_) (fun c4 => absurd c4 (by decide))
    refine w_aloadN W5 d8_23 rfl rfl ?_
    refine w_getf W5 (host := "") (Or.inl (hw _ (List.mem_of_getElem? (i := 21) rfl))) Via.refl Vf d8_24 ?_
    intro T6 W6
    refine w_iloadN W6 d8_27 rfl ?_
    refine w_iloadN W6 d8_28 rfl ?_
    refine w_aloadN W6 d8_29 rfl rfl ?_
    refine w_virt W6 (ctLn l Z a0 hw cz x cs (own_u16 cs) 1 _ n0 O G hcz hcs hE S) (hw _ (List.mem_of_getElem? (i := 51) rfl)) (hw _ (List.mem_of_getElem? (i := 52) rfl)) (notFace_of_selects (args := #[]) (mvT W6.wZ (hw _ (List.mem_of_getElem? (i := 54) rfl)))) (hw _ (List.mem_of_getElem? (i := 54) rfl)) (hw _ (List.mem_of_getElem? (i := 53) rfl)) (hw _ (List.mem_of_getElem? (i := 4) rfl)) (hw _ (List.mem_of_getElem? (i := 55) rfl)) (by decide) 3 (by decide) (by decide) (by decide) (by decide) (a := x) Ex (argsL := []) (rest := [(.int (0 : Int32)), (.int ch), (.ref b)]) pd_17 rfl rfl rfl rfl rfl d8_30 ?_
    rintro T7 h7 l7 _ W7 ⟨rfl, rfl⟩
    refine w_callS W7 (ctUi l Z a0 hw b kb cs ch fv _ n0 hcs hc0 hc1 hn hch O Ga Gh Gl Gf hfv Cb) (hw _ (List.mem_of_getElem? (i := 111) rfl)) (hw _ (List.mem_of_getElem? (i := 112) rfl)) (hw _ (List.mem_of_getElem? (i := 81) rfl)) (hw _ (List.mem_of_getElem? (i := 113) rfl)) (by decide) 0 (by decide) (by decide) (by decide) (by decide) (argsL := [(.ref b), (.int ch), (.int (0 : Int32)), (.int (Int32.ofNat cs.length))]) (rest := []) pd_11 rfl rfl rfl rfl rfl d8_33 ?_
    rintro T8 h8 l8 _ W8 ⟨rfl, rfl⟩
    exact n_rI W8 rfl d8_36 (by decide) (by decide) ⟨rfl, rfl⟩
theorem ef_7_RI (m : MethodId) (x0 : Addr) (x1 : Int32) : entryFrame m #[(.ref x0), (.int x1)] 2 = mkF m 0 #[.val (.ref x0), .val (.int x1)] [] := by first | (simp [entryFrame, mkF, argsToLocals, Value.category]; done) | rfl
theorem d7_0 : decode jdk_42_method_79_code 0 = .ok (.aload_n 0, 1) := by decide +kernel
theorem d7_1 : decode jdk_42_method_79_code 1 = .ok (.iload_n 1, 1) := by decide +kernel
theorem d7_2 : decode jdk_42_method_79_code 2 = .ok (.iconst 0, 1) := by decide +kernel
theorem d7_3 : decode jdk_42_method_79_code 3 = .ok (.invokevirtual 633, 3) := by decide +kernel
theorem d7_6 : decode jdk_42_method_79_code 6 = .ok (.ireturn, 1) := by decide +kernel
set_option maxRecDepth 65536 in
set_option maxHeartbeats 40000000 in
theorem ctI1 (l : Launch) (Z : State) (a0 : Array Value) (hw : ∀ d ∈ tables_1, d.before a0 Z = true) (cz : Int32) (x : Addr) (cs us : List Int32) (co : Int32) (ch : Int32) (fv : Value) (h0 : Heap) (n0 : Nat) (O : Old Z n0 h0) (G : Sta Z Z.heap "java/lang/String" "COMPACT_STRINGS" "Z" (.int cz)) (hcz : cz ≠ 0) (hcs : cs.length ≤ 4000) (hE : Enc cs co us) (S : Str Z h0 x co us) (hc0 : ¬ ch < 0) (hc1 : ¬ (255 : Int32) < ch) (hn : ∀ c ∈ cs, c ≠ ch) (hch : Chs cs) (Ga : Sta Z Z.heap "java/lang/StringUTF16" "$assertionsDisabled" "Z" (.int 1)) (Gh : Sta Z Z.heap "java/lang/StringUTF16" "HI_BYTE_SHIFT" "I" (.int 0)) (Gl : Sta Z Z.heap "java/lang/StringUTF16" "LO_BYTE_SHIFT" "I" (.int 8)) (Gf : Sta Z Z.heap "jdk/internal/util/Preconditions" "SIOOBE_FORMATTER" "Ljava/util/function/BiFunction;" fv) (hfv : fv.isRef = true) :
    CtN l Z (⟨"java/lang/String", "indexOf", "(I)I"⟩ : MethodName) jdk_42_method_79_code 2 (some .int) ({ frames := 6, cells := 0, slots := 0, locals := 87 } : Room) n0 #[(.ref x), (.int ch)] h0 (fun v h => v = some (.int (-1)) ∧ h0 = h) := by
  refine CtN.of (plainFor_of_name pn_java_lang_String) ?_
  intro p e s m below meth c T0 W0 hnm
  refine Wp.cast (ef_7_RI m x ch) ?_
  obtain ⟨b, kb, Ex, Cf, Vf, Ar⟩ := id S
  refine w_aloadN W0 d7_0 rfl rfl ?_
  refine w_iloadN W0 d7_1 rfl ?_
  refine w_iconst W0 (z := (0 : Int32)) d7_2 (by rfl) ?_
  refine w_virt W0 (ctI2 l Z a0 hw cz x cs us co ch fv _ n0 O G hcz hcs hE S hc0 hc1 hn hch Ga Gh Gl Gf hfv) (hw _ (List.mem_of_getElem? (i := 40) rfl)) (hw _ (List.mem_of_getElem? (i := 41) rfl)) (notFace_of_selects (args := #[]) (mvT W0.wZ (hw _ (List.mem_of_getElem? (i := 43) rfl)))) (hw _ (List.mem_of_getElem? (i := 43) rfl)) (hw _ (List.mem_of_getElem? (i := 42) rfl)) (hw _ (List.mem_of_getElem? (i := 4) rfl)) (hw _ (List.mem_of_getElem? (i := 44) rfl)) (by decide) 0 (by decide) (by decide) (by decide) (by decide) (a := x) Ex (argsL := [(.int ch), (.int (0 : Int32))]) (rest := []) pd_10 rfl rfl rfl rfl rfl d7_3 ?_
  rintro T1 h1 l1 _ W1 ⟨rfl, rfl⟩
  exact n_rI W1 rfl d7_6 (by decide) (by decide) ⟨rfl, rfl⟩
theorem ef_16_I (m : MethodId) (x0 : Int32) : entryFrame m #[(.int x0)] 1 = mkF m 0 #[.val (.int x0)] [] := by first | (simp [entryFrame, mkF, argsToLocals, Value.category]; done) | rfl
theorem d16_0 : decode method_2_code 0 = .ok (.iload_n 0, 1) := by decide +kernel
theorem d16_1 : decode method_2_code 1 = .ok (.bipush 123, 2) := by decide +kernel
theorem d16_3 : decode method_2_code 3 = .ok (.if_icmp .eq 9, 3) := by decide +kernel
theorem d16_12 : decode method_2_code 12 = .ok (.iconst 1, 1) := by decide +kernel
theorem d16_13 : decode method_2_code 13 = .ok (.goto 4, 3) := by decide +kernel
theorem d16_17 : decode method_2_code 17 = .ok (.ireturn, 1) := by decide +kernel
theorem d16_6 : decode method_2_code 6 = .ok (.iload_n 0, 1) := by decide +kernel
theorem d16_7 : decode method_2_code 7 = .ok (.bipush 125, 2) := by decide +kernel
theorem d16_9 : decode method_2_code 9 = .ok (.if_icmp .ne 7, 3) := by decide +kernel
theorem d16_16 : decode method_2_code 16 = .ok (.iconst 0, 1) := by decide +kernel
theorem pn_com_example_setnix_setnix_model_LockNameCheckPrefixPinLaw : plainName "com/example/setnix/setnix/model/LockNameCheckPrefixPinLaw" = true := by first | (simp [plainName, overriddenIn]; done) | decide +kernel
set_option maxRecDepth 65536 in
set_option maxHeartbeats 40000000 in
theorem ctIb (l : Launch) (Z : State) (a0 : Array Value) (hw : ∀ d ∈ tables_1, d.before a0 Z = true) (k : Int32) (h0 : Heap) (n0 : Nat)  :
    CtN l Z (⟨"com/example/setnix/setnix/model/LockNameCheckPrefixPinLaw", "isBrace", "(C)Z"⟩ : MethodName) method_2_code 1 (some .boolean) ({ frames := 0, cells := 0, slots := 0, locals := 0 } : Room) n0 #[(.int k)] h0 (fun v h => v = some (.int (if k = 123 ∨ k = 125 then (1 : Int32) else 0)) ∧ h0 = h) := by
  refine CtN.of (plainFor_of_name pn_com_example_setnix_setnix_model_LockNameCheckPrefixPinLaw) ?_
  intro p e s m below meth c T0 W0 hnm
  refine Wp.cast (ef_16_I m k) ?_
  refine w_iloadN W0 d16_0 rfl ?_
  refine w_bipush W0 (z := (123 : Int32)) d16_1 (by rfl) ?_
  refine w_icmpeq W0 (pc' := 12) d16_3 (by decide) (fun c3 => ?_) (fun c3 => ?_)
  · refine w_iconst W0 (z := (1 : Int32)) d16_12 (by rfl) ?_
    refine w_goto W0 (pc' := 17) d16_13 (by decide) ?_
    exact n_rN W0 rfl (by simp) (z' := (1 : Int32)) (by rfl) d16_17 (by decide) (by decide) ⟨own_br1 (Or.inl c3), rfl⟩
  · refine w_iloadN W0 d16_6 rfl ?_
    refine w_bipush W0 (z := (125 : Int32)) d16_7 (by rfl) ?_
    refine w_icmpne W0 (pc' := 16) d16_9 (by decide) (fun c9 => ?_) (fun c9 => ?_)
    · refine w_iconst W0 (z := (0 : Int32)) d16_16 (by rfl) ?_
      exact n_rN W0 rfl (by simp) (z' := (0 : Int32)) (by rfl) d16_17 (by decide) (by decide) ⟨own_br0 c3 c9, rfl⟩
    · refine w_iconst W0 (z := (1 : Int32)) d16_12 (by rfl) ?_
      refine w_goto W0 (pc' := 17) d16_13 (by decide) ?_
      exact n_rN W0 rfl (by simp) (z' := (1 : Int32)) (by rfl) d16_17 (by decide) (by decide) ⟨own_br1 (Or.inr c9), rfl⟩
theorem ef_5_RR (m : MethodId) (x0 : Addr) (x1 : Addr) : entryFrame m #[(.ref x0), (.ref x1)] 2 = mkF m 0 #[.val (.ref x0), .val (.ref x1)] [] := by first | (simp [entryFrame, mkF, argsToLocals, Value.category]; done) | rfl
theorem d5_0 : decode jdk_31_method_11_code 0 = .ok (.aload_n 0, 1) := by decide +kernel
theorem d5_1 : decode jdk_31_method_11_code 1 = .ok (.ifnonnull 12, 3) := by decide +kernel
theorem d5_13 : decode jdk_31_method_11_code 13 = .ok (.aload_n 0, 1) := by decide +kernel
theorem d5_14 : decode jdk_31_method_11_code 14 = .ok (.areturn, 1) := by decide +kernel
theorem pn_java_util_Objects : plainName "java/util/Objects" = true := by first | (simp [plainName, overriddenIn]; done) | decide +kernel
set_option maxRecDepth 65536 in
set_option maxHeartbeats 40000000 in
theorem ctRnn (l : Launch) (Z : State) (a0 : Array Value) (hw : ∀ d ∈ tables_1, d.before a0 Z = true) (x y : Addr) (h0 : Heap) (n0 : Nat)  :
    CtN l Z (⟨"java/util/Objects", "requireNonNull", "(Ljava/lang/Object;Ljava/lang/String;)Ljava/lang/Object;"⟩ : MethodName) jdk_31_method_11_code 2 (some (.object "java/lang/Object")) ({ frames := 0, cells := 0, slots := 0, locals := 0 } : Room) n0 #[(.ref x), (.ref y)] h0 (fun v h => v = some (.ref x) ∧ h0 = h) := by
  refine CtN.of (plainFor_of_name pn_java_util_Objects) ?_
  intro p e s m below meth c T0 W0 hnm
  refine Wp.cast (ef_5_RR m x y) ?_
  refine w_aloadN W0 d5_0 rfl rfl ?_
  refine w_ifnonnullY W0 (pc' := 13) d5_1 (by decide) ?_
  refine w_aloadN W0 d5_13 rfl rfl ?_
  exact n_rA W0 rfl rfl rfl d5_14 (by decide) (by decide) ⟨rfl, rfl⟩
theorem ef_6_R (m : MethodId) (x0 : Addr) : entryFrame m #[(.ref x0)] 2 = mkF m 0 #[.val (.ref x0), .unset] [] := by first | (simp [entryFrame, mkF, argsToLocals, Value.category]; done) | rfl
theorem d6_0 : decode prog_17_method_6_code 0 = .ok (.aload_n 0, 1) := by decide +kernel
theorem d6_1 : decode prog_17_method_6_code 1 = .ok (.bipush 123, 2) := by decide +kernel
theorem d6_3 : decode prog_17_method_6_code 3 = .ok (.invokevirtual 61, 3) := by decide +kernel
theorem d6_6 : decode prog_17_method_6_code 6 = .ok (.istore_n 1, 1) := by decide +kernel
theorem d6_7 : decode prog_17_method_6_code 7 = .ok (.iload_n 1, 1) := by decide +kernel
theorem d6_8 : decode prog_17_method_6_code 8 = .ok (.ifCond .lt 7, 3) := by decide +kernel
theorem d6_15 : decode prog_17_method_6_code 15 = .ok (.aload_n 0, 1) := by decide +kernel
theorem d6_16 : decode prog_17_method_6_code 16 = .ok (.bipush 125, 2) := by decide +kernel
theorem d6_18 : decode prog_17_method_6_code 18 = .ok (.invokevirtual 61, 3) := by decide +kernel
theorem d6_21 : decode prog_17_method_6_code 21 = .ok (.ireturn, 1) := by decide +kernel
theorem pn_com_example_setnix_setnix_model_LockName : plainName "com/example/setnix/setnix/model/LockName" = true := by first | (simp [plainName, overriddenIn]; done) | decide +kernel
set_option maxRecDepth 65536 in
set_option maxHeartbeats 40000000 in
theorem ctBi (l : Launch) (Z : State) (a0 : Array Value) (hw : ∀ d ∈ tables_1, d.before a0 Z = true) (cz : Int32) (x : Addr) (cs us : List Int32) (co : Int32) (fv : Value) (h0 : Heap) (n0 : Nat) (O : Old Z n0 h0) (G : Sta Z Z.heap "java/lang/String" "COMPACT_STRINGS" "Z" (.int cz)) (hcz : cz ≠ 0) (hcs : cs.length ≤ 4000) (hE : Enc cs co us) (S : Str Z h0 x co us) (hnb : ∀ c ∈ cs, Nob c) (hch : Chs cs) (Ga : Sta Z Z.heap "java/lang/StringUTF16" "$assertionsDisabled" "Z" (.int 1)) (Gh : Sta Z Z.heap "java/lang/StringUTF16" "HI_BYTE_SHIFT" "I" (.int 0)) (Gl : Sta Z Z.heap "java/lang/StringUTF16" "LO_BYTE_SHIFT" "I" (.int 8)) (Gf : Sta Z Z.heap "jdk/internal/util/Preconditions" "SIOOBE_FORMATTER" "Ljava/util/function/BiFunction;" fv) (hfv : fv.isRef = true) :
    CtN l Z (⟨"com/example/setnix/setnix/model/LockName", "braceIndex", "(Ljava/lang/String;)I"⟩ : MethodName) prog_17_method_6_code 2 (some .int) ({ frames := 7, cells := 0, slots := 0, locals := 100 } : Room) n0 #[(.ref x)] h0 (fun v h => v = some (.int (-1)) ∧ h0 = h) := by
  refine CtN.of (plainFor_of_name pn_com_example_setnix_setnix_model_LockName) ?_
  intro p e s m below meth c T0 W0 hnm
  refine Wp.cast (ef_6_R m x) ?_
  obtain ⟨b, kb, Ex, Cf, Vf, Ar⟩ := id S
  refine w_aloadN W0 d6_0 rfl rfl ?_
  refine w_bipush W0 (z := (123 : Int32)) d6_1 (by rfl) ?_
  refine w_virt W0 (ctI1 l Z a0 hw cz x cs us co (123 : Int32) fv _ n0 O G hcz hcs hE S (by decide) (by decide) (fun c hc => (hnb c hc).1) hch Ga Gh Gl Gf hfv) (hw _ (List.mem_of_getElem? (i := 35) rfl)) (hw _ (List.mem_of_getElem? (i := 36) rfl)) (notFace_of_selects (args := #[]) (mvT W0.wZ (hw _ (List.mem_of_getElem? (i := 38) rfl)))) (hw _ (List.mem_of_getElem? (i := 38) rfl)) (hw _ (List.mem_of_getElem? (i := 37) rfl)) (hw _ (List.mem_of_getElem? (i := 4) rfl)) (hw _ (List.mem_of_getElem? (i := 39) rfl)) (by decide) 0 (by decide) (by decide) (by decide) (by decide) (a := x) Ex (argsL := [(.int (123 : Int32))]) (rest := []) pd_0 rfl rfl rfl rfl rfl d6_3 ?_
  rintro T1 h1 l1 _ W1 ⟨rfl, rfl⟩
  refine w_istoreN W1 (L' := #[.val (.ref x), .val (.int (-1 : Int32))]) d6_6 rfl ?_
  refine w_iloadN W1 d6_7 rfl ?_
  refine w_iflt W1 (pc' := 15) d6_8 (by decide) (fun c8 => ?_) (fun c8 => absurd c8 (by decide))
  refine w_aloadN W1 d6_15 rfl rfl ?_
  refine w_bipush W1 (z := (125 : Int32)) d6_16 (by rfl) ?_
  refine w_virt W1 (ctI1 l Z a0 hw cz x cs us co (125 : Int32) fv _ n0 O G hcz hcs hE S (by decide) (by decide) (fun c hc => (hnb c hc).2) hch Ga Gh Gl Gf hfv) (hw _ (List.mem_of_getElem? (i := 35) rfl)) (hw _ (List.mem_of_getElem? (i := 36) rfl)) (notFace_of_selects (args := #[]) (mvT W1.wZ (hw _ (List.mem_of_getElem? (i := 38) rfl)))) (hw _ (List.mem_of_getElem? (i := 38) rfl)) (hw _ (List.mem_of_getElem? (i := 37) rfl)) (hw _ (List.mem_of_getElem? (i := 4) rfl)) (hw _ (List.mem_of_getElem? (i := 39) rfl)) (by decide) 0 (by decide) (by decide) (by decide) (by decide) (a := x) Ex (argsL := [(.int (125 : Int32))]) (rest := []) pd_0 rfl rfl rfl rfl rfl d6_18 ?_
  rintro T2 h2 l2 _ W2 ⟨rfl, rfl⟩
  exact n_rI W2 rfl d6_21 (by decide) (by decide) ⟨rfl, rfl⟩
theorem ef_4_R (m : MethodId) (x0 : Addr) : entryFrame m #[(.ref x0)] 2 = mkF m 0 #[.val (.ref x0), .unset] [] := by first | (simp [entryFrame, mkF, argsToLocals, Value.category]; done) | rfl
theorem d4_0 : decode prog_17_method_4_code 0 = .ok (.aload_n 0, 1) := by decide +kernel
theorem d4_1 : decode prog_17_method_4_code 1 = .ok (.ldc 50, 2) := by decide +kernel
theorem d4_3 : decode prog_17_method_4_code 3 = .ok (.invokestatic 52, 3) := by decide +kernel
theorem pd_18 : parseMethodDescriptor "(Ljava/lang/Object;Ljava/lang/String;)Ljava/lang/Object;" = some ⟨[(.object "java/lang/Object"), (.object "java/lang/String")], some (.object "java/lang/Object")⟩ := by decide +kernel
theorem d4_6 : decode prog_17_method_4_code 6 = .ok (.pop, 1) := by decide +kernel
theorem d4_7 : decode prog_17_method_4_code 7 = .ok (.aload_n 0, 1) := by decide +kernel
theorem d4_8 : decode prog_17_method_4_code 8 = .ok (.invokestatic 26, 3) := by decide +kernel
theorem pd_19 : parseMethodDescriptor "(Ljava/lang/String;)I" = some ⟨[(.object "java/lang/String")], some .int⟩ := by decide +kernel
theorem d4_11 : decode prog_17_method_4_code 11 = .ok (.istore_n 1, 1) := by decide +kernel
theorem d4_12 : decode prog_17_method_4_code 12 = .ok (.iload_n 1, 1) := by decide +kernel
theorem d4_13 : decode prog_17_method_4_code 13 = .ok (.ifCond .lt 18, 3) := by decide +kernel
theorem d4_31 : decode prog_17_method_4_code 31 = .ok (.return_, 1) := by decide +kernel
set_option maxRecDepth 65536 in
set_option maxHeartbeats 40000000 in
theorem ctCp (l : Launch) (Z : State) (a0 : Array Value) (hw : ∀ d ∈ tables_1, d.before a0 Z = true) (cz : Int32) (x : Addr) (cs us : List Int32) (co : Int32) (fv : Value) (h0 : Heap) (n0 : Nat) (O : Old Z n0 h0) (G : Sta Z Z.heap "java/lang/String" "COMPACT_STRINGS" "Z" (.int cz)) (hcz : cz ≠ 0) (hcs : cs.length ≤ 4000) (hE : Enc cs co us) (S : Str Z h0 x co us) (hnb : ∀ c ∈ cs, Nob c) (hch : Chs cs) (Ga : Sta Z Z.heap "java/lang/StringUTF16" "$assertionsDisabled" "Z" (.int 1)) (Gh : Sta Z Z.heap "java/lang/StringUTF16" "HI_BYTE_SHIFT" "I" (.int 0)) (Gl : Sta Z Z.heap "java/lang/StringUTF16" "LO_BYTE_SHIFT" "I" (.int 8)) (Gf : Sta Z Z.heap "jdk/internal/util/Preconditions" "SIOOBE_FORMATTER" "Ljava/util/function/BiFunction;" fv) (hfv : fv.isRef = true) :
    CtW l Z (⟨"com/example/setnix/setnix/model/LockName", "checkPrefix", "(Ljava/lang/String;)V"⟩ : MethodName) prog_17_method_4_code 2 none ({ frames := 8, cells := 2, slots := 28, locals := 113 } : Room) n0 #[(.ref x)] h0 (fun _ => True) (fun v h vm => v = none) := by
  refine CtW.of (plainFor_of_name pn_com_example_setnix_setnix_model_LockName) ?_
  intro p e s m below meth c T0 W0 hnm hs0 hV
  refine Wp.cast (ef_4_R m x) ?_
  refine w_aloadN W0 d4_0 rfl rfl ?_
  refine w_ldcS W0 (hw _ (List.mem_of_getElem? (i := 27) rfl)) (own_wS hw) 24 (by decide) (by decide) (by decide) (by decide) d4_1 ?_
  intro T1 h1 vm1 a1 W1 E1
  have E := E1
  refine w_callS W1 (ctRnn l Z a0 hw x a1 _ n0) (hw _ (List.mem_of_getElem? (i := 28) rfl)) (hw _ (List.mem_of_getElem? (i := 29) rfl)) (hw _ (List.mem_of_getElem? (i := 30) rfl)) (hw _ (List.mem_of_getElem? (i := 31) rfl)) (by decide) 0 (by decide) (by decide) (by decide) (by decide) (argsL := [(.ref x), (.ref a1)]) (rest := []) pd_18 rfl rfl rfl rfl rfl d4_3 ?_
  rintro T2 h2 l2 _ W2 ⟨rfl, rfl⟩
  refine w_pop W2 d4_6 rfl ?_
  refine w_aloadN W2 d4_7 rfl rfl ?_
  refine w_callS W2 (ctBi l Z a0 hw cz x cs us co fv _ n0 (O.ext E) G hcz hcs hE (S.ext E) hnb hch Ga Gh Gl Gf hfv) (hw _ (List.mem_of_getElem? (i := 32) rfl)) (hw _ (List.mem_of_getElem? (i := 33) rfl)) (hw _ (List.mem_of_getElem? (i := 25) rfl)) (hw _ (List.mem_of_getElem? (i := 34) rfl)) (by decide) 0 (by decide) (by decide) (by decide) (by decide) (argsL := [(.ref x)]) (rest := []) pd_19 rfl rfl rfl rfl rfl d4_8 ?_
  rintro T3 h3 l3 _ W3 ⟨rfl, rfl⟩
  refine w_istoreN W3 (L' := #[.val (.ref x), .val (.int (-1 : Int32))]) d4_11 rfl ?_
  refine w_iloadN W3 d4_12 rfl ?_
  refine w_iflt W3 (pc' := 31) d4_13 (by decide) (fun c13 => ?_) (fun c13 => absurd c13 (by decide))
  exact x_rV W3 rfl d4_31 (by decide) (by decide) (fun vm' hvm' => rfl)
theorem ef_0_IIII (m : MethodId) (x0 : Int32) (x1 : Int32) (x2 : Int32) (x3 : Int32) : entryFrame m #[(.int x0), (.int x1), (.int x2), (.int x3)] maxLocals = mkF m 0 #[.val (.int x0), .val (.int x1), .val (.int x2), .val (.int x3), .unset, .unset, .unset, .unset, .unset, .unset] [] := by first | (simp [entryFrame, mkF, argsToLocals, Value.category, maxLocals]; done) | rfl
theorem pd_20 : parseMethodDescriptor "([C)V" = some ⟨[(.array .char)], none⟩ := by decide +kernel
theorem pd_21 : parseMethodDescriptor "(Ljava/lang/String;)V" = some ⟨[(.object "java/lang/String")], none⟩ := by decide +kernel
theorem pd_22 : parseMethodDescriptor "(C)Z" = some ⟨[.char], some .boolean⟩ := by decide +kernel
set_option maxRecDepth 65536 in
set_option maxHeartbeats 40000000 in
theorem ctLaw (l : Launch) (Z : State) (a0 : Array Value) (hw : ∀ d ∈ tables_1, d.before a0 Z = true) (cz : Int32) (fv : Value) (rn ra rb rc : Int32) (h0 : Heap) (n0 : Nat) (hCH : Jvm.Lit.constHeld Z "java/lang/String" 7) (O : Old Z n0 h0) (G : Sta Z Z.heap "java/lang/String" "COMPACT_STRINGS" "Z" (.int cz)) (hcz : cz ≠ 0) (Ga : Sta Z Z.heap "java/lang/StringUTF16" "$assertionsDisabled" "Z" (.int 1)) (Gh : Sta Z Z.heap "java/lang/StringUTF16" "HI_BYTE_SHIFT" "I" (.int 0)) (Gl : Sta Z Z.heap "java/lang/StringUTF16" "LO_BYTE_SHIFT" "I" (.int 8)) (Gf : Sta Z Z.heap "jdk/internal/util/Preconditions" "SIOOBE_FORMATTER" "Ljava/util/function/BiFunction;" fv) (hfv : fv.isRef = true) :
    CtW l Z x code maxLocals ret room_1 n0 #[(.int rn), (.int ra), (.int rb), (.int rc)] h0 (fun vm => St Z vm h0) (fun v _ _ => v = some (.int 1)) := by
  refine CtW.of (plainFor_of_name pn_com_example_setnix_setnix_model_LockNameCheckPrefixPinLaw) ?_
  intro p e s m below meth c T0 W0 hnm hs0 hV
  refine Wp.cast (ef_0_IIII m rn ra rb rc) ?_
  refine w_iloadN W0 at_0 rfl ?_
  refine w_iconst W0 (z := (3 : Int32)) at_1 (by rfl) ?_
  obtain ⟨n, hn⟩ : ∃ z : Int32, (rn &&& (3 : Int32)) = z := ⟨_, rfl⟩
  refine w_iand W0 at_2 hn ?_
  refine w_istore W0 (L' := #[.val (.int rn), .val (.int ra), .val (.int rb), .val (.int rc), .val (.int n), .unset, .unset, .unset, .unset, .unset]) at_3 rfl ?_
  refine w_iloadN W0 at_5 rfl ?_
  refine w_ldcI W0 (hw _ (List.mem_of_getElem? (i := 0) rfl)) at_6 ?_
  refine w_iand W0 at_8 rfl ?_
  obtain ⟨x1, hx1⟩ : ∃ z : Int32, ((ra &&& (65535 : Int32)).toUInt32.toUInt16.toUInt32.toInt32) = z := ⟨_, rfl⟩
  refine w_i2c W0 at_9 hx1 ?_
  refine w_istore W0 (L' := #[.val (.int rn), .val (.int ra), .val (.int rb), .val (.int rc), .val (.int n), .val (.int x1), .unset, .unset, .unset, .unset]) at_10 rfl ?_
  refine w_iloadN W0 at_12 rfl ?_
  refine w_ldcI W0 (hw _ (List.mem_of_getElem? (i := 0) rfl)) at_13 ?_
  refine w_iand W0 at_15 rfl ?_
  obtain ⟨y1, hy1⟩ : ∃ z : Int32, ((rb &&& (65535 : Int32)).toUInt32.toUInt16.toUInt32.toInt32) = z := ⟨_, rfl⟩
  refine w_i2c W0 at_16 hy1 ?_
  refine w_istore W0 (L' := #[.val (.int rn), .val (.int ra), .val (.int rb), .val (.int rc), .val (.int n), .val (.int x1), .val (.int y1), .unset, .unset, .unset]) at_17 rfl ?_
  refine w_iloadN W0 at_19 rfl ?_
  refine w_ldcI W0 (hw _ (List.mem_of_getElem? (i := 0) rfl)) at_20 ?_
  refine w_iand W0 at_22 rfl ?_
  obtain ⟨z1, hz1⟩ : ∃ z : Int32, ((rc &&& (65535 : Int32)).toUInt32.toUInt16.toUInt32.toInt32) = z := ⟨_, rfl⟩
  refine w_i2c W0 at_23 hz1 ?_
  refine w_istore W0 (L' := #[.val (.int rn), .val (.int ra), .val (.int rb), .val (.int rc), .val (.int n), .val (.int x1), .val (.int y1), .val (.int z1), .unset, .unset]) at_24 rfl ?_
  have bx1 := own_chn hx1
  have by1 := own_chn hy1
  have bz1 := own_chn hz1
  rcases own_n4 hn with rfl | rfl | rfl | rfl
  · refine w_iload W0 at_26 rfl ?_
    refine w_ifne W0 (pc' := 39) at_28 (by decide) (fun c28 => absurd c28 (by decide)) (fun c28 => ?_)
    refine w_iconst W0 (z := (0 : Int32)) at_31 (by rfl) ?_
    refine w_newarr W0 (ty := .char) (dv := (.int 0)) (hw _ (List.mem_of_getElem? (i := 1) rfl)) rfl rfl at_32 (by decide) 0 (by decide) (by decide) (by decide) (by decide) ?_
    intro T1 h1 ca k1 W1 E1 g1 V1
    have g0 : n0 ≤ ca := by rw [g1]; exact own_oldle O
    have V0 := V1.pad (pad_rep [] (.int 0) 0)
    refine w_astore W1 (L' := #[.val (.int rn), .val (.int ra), .val (.int rb), .val (.int rc), .val (.int (0 : Int32)), .val (.int x1), .val (.int y1), .val (.int z1), .val (.ref ca), .unset]) at_34 rfl rfl ?_
    refine w_goto W1 (pc' := 102) at_36 (by decide) ?_
    refine w_iload W1 at_102 rfl ?_
    refine w_iconst W1 (z := (1 : Int32)) at_104 (by rfl) ?_
    refine w_icmplt W1 (pc' := 118) at_105 (by decide) (fun c105 => ?_) (fun c105 => absurd c105 (by decide))
    refine w_iload W1 at_118 rfl ?_
    refine w_iconst W1 (z := (2 : Int32)) at_120 (by rfl) ?_
    refine w_icmplt W1 (pc' := 134) at_121 (by decide) (fun c121 => ?_) (fun c121 => absurd c121 (by decide))
    refine w_iload W1 at_134 rfl ?_
    refine w_iconst W1 (z := (3 : Int32)) at_136 (by rfl) ?_
    refine w_icmplt W1 (pc' := 150) at_137 (by decide) (fun c137 => ?_) (fun c137 => absurd c137 (by decide))
    have Ca : Arv Z h1 ca _ .char (Int32.ofNat ([] : List Int32).length) (([] : List Int32).map Value.int) (.int 0) := V0
    have hch : ∀ c ∈ ([] : List Int32), 0 ≤ c.toInt ∧ c.toInt < 65536 := by
      intro c hc
      cases hc
    have hnb : ∀ c ∈ ([] : List Int32), Nob c := by
      intro c hc
      cases hc
    refine w_new W1 (hw _ (List.mem_of_getElem? (i := 2) rfl)) (hw _ (List.mem_of_getElem? (i := 3) rfl)) (hw _ (List.mem_of_getElem? (i := 4) rfl)) at_150 (by decide) (by decide) ?_
    intro T2 h2 sa W2 E2 g2 A2 D2
    have X2 := own_extTrans E1 E2
    have hsa : h0.size ≤ sa := by rw [g2]; exact (E1).1
    have Fv := (D2 (Or.inr (hw _ (List.mem_of_getElem? (i := 17) rfl))) (ty := (.array .byte)) (by decide) : Fld Z h2 _ "java/lang/String" "value" "[B" .null)
    have Fc := (D2 (Or.inr (hw _ (List.mem_of_getElem? (i := 18) rfl))) (ty := .byte) (by decide) : Fld Z h2 _ "java/lang/String" "coder" "B" (.int 0))
    refine w_dup W2 at_153 rfl ?_
    refine w_aload W2 at_154 rfl rfl ?_
    refine w_specialW W2 (ctS1 l Z a0 hw cz sa ca _ [] _ n0 hCH (Nat.le_of_ble_eq_true rfl) hch (O.ext X2) G hcz Ga Gh Gl A2 Fv Fc (Nat.le_trans (own_oldle O) hsa) (Ca.ext E2)) (fun vm' q => St.warm (hV.ext X2) q) rfl (hw _ (List.mem_of_getElem? (i := 5) rfl)) (hw _ (List.mem_of_getElem? (i := 6) rfl)) (hw _ (List.mem_of_getElem? (i := 4) rfl)) (hw _ (List.mem_of_getElem? (i := 7) rfl)) (by decide) 1 (by decide) (by decide) (by decide) (by decide) (a := sa) (argsL := [(.ref ca)]) (rest := [(.ref sa)]) pd_20 rfl rfl rfl rfl rfl at_156 ?_
    rintro T3 h3 l3 vm3 _ W3 hw3 ⟨rfl, Kx, ⟨co, us, Sx, hE⟩, St1⟩
    refine w_astore W3 (L' := #[.val (.int rn), .val (.int ra), .val (.int rb), .val (.int rc), .val (.int (0 : Int32)), .val (.int x1), .val (.int y1), .val (.int z1), .val (.ref ca), .val (.ref sa)]) at_159 rfl rfl ?_
    refine w_aload W3 at_161 rfl rfl ?_
    refine w_callSW W3 (ctCp l Z a0 hw cz sa [] us co fv _ n0 (O.ext (own_extKeep X2 Kx (allS hsa all0))) G hcz (Nat.le_of_ble_eq_true rfl) hE Sx hnb hch Ga Gh Gl Gf hfv) (fun _ _ => trivial) (hw _ (List.mem_of_getElem? (i := 23) rfl)) (hw _ (List.mem_of_getElem? (i := 24) rfl)) (hw _ (List.mem_of_getElem? (i := 25) rfl)) (hw _ (List.mem_of_getElem? (i := 26) rfl)) (by decide) 0 (by decide) (by decide) (by decide) (by decide) (argsL := [(.ref sa)]) (rest := []) pd_21 rfl rfl rfl rfl rfl at_163 ?_
    rintro T4 h4 l4 vm4 _ W4 hw4 rfl
    refine w_iconst W4 (z := (1 : Int32)) at_166 (by rfl) ?_
    exact x_rN W4 rfl (by simp) (z' := (1 : Int32)) (by rfl) at_167 (by decide) (by decide) (fun vm' hvm' => rfl)
  · refine w_iload W0 at_26 rfl ?_
    refine w_ifne W0 (pc' := 39) at_28 (by decide) (fun c28 => ?_) (fun c28 => absurd c28 (by decide))
    refine w_iload W0 at_39 rfl ?_
    refine w_iconst W0 (z := (1 : Int32)) at_41 (by rfl) ?_
    refine w_icmpne W0 (pc' := 58) at_42 (by decide) (fun c42 => absurd c42 (by decide)) (fun c42 => ?_)
    refine w_iconst W0 (z := (1 : Int32)) at_45 (by rfl) ?_
    refine w_newarr W0 (ty := .char) (dv := (.int 0)) (hw _ (List.mem_of_getElem? (i := 1) rfl)) rfl rfl at_46 (by decide) 1 (by decide) (by decide) (by decide) (by decide) ?_
    intro T5 h5 ca k5 W5 E5 g5 V5
    have g0 : n0 ≤ ca := by rw [g5]; exact own_oldle O
    have V0 := V5.pad (pad_rep [] (.int 0) 1)
    refine w_dup W5 at_48 rfl ?_
    refine w_iconst W5 (z := (0 : Int32)) at_49 (by rfl) ?_
    refine w_iload W5 at_50 rfl ?_
    refine w_castore W5 V0 ⟨by decide, by decide⟩ 0 (by decide) (Nat.le_of_ble_eq_true rfl) (x' := x1) (own_ncx bx1) g0 at_52 ?_
    intro T6 h6 l6 W6 Wr6 V6
    have X6 := own_extWr E5 Wr6 (Nat.le_of_eq g5.symm)
    refine w_astore W6 (L' := #[.val (.int rn), .val (.int ra), .val (.int rb), .val (.int rc), .val (.int (1 : Int32)), .val (.int x1), .val (.int y1), .val (.int z1), .val (.ref ca), .unset]) at_53 rfl rfl ?_
    refine w_goto W6 (pc' := 102) at_55 (by decide) ?_
    refine w_iload W6 at_102 rfl ?_
    refine w_iconst W6 (z := (1 : Int32)) at_104 (by rfl) ?_
    refine w_icmplt W6 (pc' := 118) at_105 (by decide) (fun c105 => absurd c105 (by decide)) (fun c105 => ?_)
    refine w_iload W6 at_108 rfl ?_
    refine w_callS W6 (ctIb l Z a0 hw x1 _ n0) (hw _ (List.mem_of_getElem? (i := 75) rfl)) (hw _ (List.mem_of_getElem? (i := 76) rfl)) (hw _ (List.mem_of_getElem? (i := 77) rfl)) (hw _ (List.mem_of_getElem? (i := 78) rfl)) (by decide) 0 (by decide) (by decide) (by decide) (by decide) (argsL := [(.int x1)]) (rest := []) pd_22 rfl rfl rfl rfl rfl at_110 ?_
    rintro T7 h7 l7 _ W7 ⟨rfl, rfl⟩
    refine w_ifeq W7 (pc' := 118) at_113 (by decide) (fun c113 => ?_) (fun c113 => ?_)
    · refine w_iload W7 at_118 rfl ?_
      refine w_iconst W7 (z := (2 : Int32)) at_120 (by rfl) ?_
      refine w_icmplt W7 (pc' := 134) at_121 (by decide) (fun c121 => ?_) (fun c121 => absurd c121 (by decide))
      refine w_iload W7 at_134 rfl ?_
      refine w_iconst W7 (z := (3 : Int32)) at_136 (by rfl) ?_
      refine w_icmplt W7 (pc' := 150) at_137 (by decide) (fun c137 => ?_) (fun c137 => absurd c137 (by decide))
      have Ca : Arv Z h6 ca _ .char (Int32.ofNat ([x1] : List Int32).length) (([x1] : List Int32).map Value.int) (.int 0) := V6
      have hch : ∀ c ∈ ([x1] : List Int32), 0 ≤ c.toInt ∧ c.toInt < 65536 := by
        intro c hc
        simp only [List.mem_cons, List.not_mem_nil, or_false] at hc
        rcases hc with rfl
        · exact bx1
      have hnb : ∀ c ∈ ([x1] : List Int32), Nob c := by
        intro c hc
        simp only [List.mem_cons, List.not_mem_nil, or_false] at hc
        rcases hc with rfl
        · exact own_nob c113
      refine w_new W7 (hw _ (List.mem_of_getElem? (i := 2) rfl)) (hw _ (List.mem_of_getElem? (i := 3) rfl)) (hw _ (List.mem_of_getElem? (i := 4) rfl)) at_150 (by decide) (by decide) ?_
      intro T8 h8 sa W8 E8 g8 A8 D8
      have X8 := own_extTrans X6 E8
      have hsa : h0.size ≤ sa := by rw [g8]; exact (X6).1
      have Fv := (D8 (Or.inr (hw _ (List.mem_of_getElem? (i := 17) rfl))) (ty := (.array .byte)) (by decide) : Fld Z h8 _ "java/lang/String" "value" "[B" .null)
      have Fc := (D8 (Or.inr (hw _ (List.mem_of_getElem? (i := 18) rfl))) (ty := .byte) (by decide) : Fld Z h8 _ "java/lang/String" "coder" "B" (.int 0))
      refine w_dup W8 at_153 rfl ?_
      refine w_aload W8 at_154 rfl rfl ?_
      refine w_specialW W8 (ctS1 l Z a0 hw cz sa ca _ [x1] _ n0 hCH (Nat.le_of_ble_eq_true rfl) hch (O.ext X8) G hcz Ga Gh Gl A8 Fv Fc (Nat.le_trans (own_oldle O) hsa) (Ca.ext E8)) (fun vm' q => St.warm (hV.ext X8) q) rfl (hw _ (List.mem_of_getElem? (i := 5) rfl)) (hw _ (List.mem_of_getElem? (i := 6) rfl)) (hw _ (List.mem_of_getElem? (i := 4) rfl)) (hw _ (List.mem_of_getElem? (i := 7) rfl)) (by decide) 1 (by decide) (by decide) (by decide) (by decide) (a := sa) (argsL := [(.ref ca)]) (rest := [(.ref sa)]) pd_20 rfl rfl rfl rfl rfl at_156 ?_
      rintro T9 h9 l9 vm9 _ W9 hw9 ⟨rfl, Kx, ⟨co, us, Sx, hE⟩, St1⟩
      refine w_astore W9 (L' := #[.val (.int rn), .val (.int ra), .val (.int rb), .val (.int rc), .val (.int (1 : Int32)), .val (.int x1), .val (.int y1), .val (.int z1), .val (.ref ca), .val (.ref sa)]) at_159 rfl rfl ?_
      refine w_aload W9 at_161 rfl rfl ?_
      refine w_callSW W9 (ctCp l Z a0 hw cz sa [x1] us co fv _ n0 (O.ext (own_extKeep X8 Kx (allS hsa all0))) G hcz (Nat.le_of_ble_eq_true rfl) hE Sx hnb hch Ga Gh Gl Gf hfv) (fun _ _ => trivial) (hw _ (List.mem_of_getElem? (i := 23) rfl)) (hw _ (List.mem_of_getElem? (i := 24) rfl)) (hw _ (List.mem_of_getElem? (i := 25) rfl)) (hw _ (List.mem_of_getElem? (i := 26) rfl)) (by decide) 0 (by decide) (by decide) (by decide) (by decide) (argsL := [(.ref sa)]) (rest := []) pd_21 rfl rfl rfl rfl rfl at_163 ?_
      rintro T10 h10 l10 vm10 _ W10 hw10 rfl
      refine w_iconst W10 (z := (1 : Int32)) at_166 (by rfl) ?_
      exact x_rN W10 rfl (by simp) (z' := (1 : Int32)) (by rfl) at_167 (by decide) (by decide) (fun vm' hvm' => rfl)
    · refine w_iconst W7 (z := (1 : Int32)) at_116 (by rfl) ?_
      exact x_rN W7 rfl (by simp) (z' := (1 : Int32)) (by rfl) at_117 (by decide) (by decide) (fun vm' hvm' => rfl)
  · refine w_iload W0 at_26 rfl ?_
    refine w_ifne W0 (pc' := 39) at_28 (by decide) (fun c28 => ?_) (fun c28 => absurd c28 (by decide))
    refine w_iload W0 at_39 rfl ?_
    refine w_iconst W0 (z := (1 : Int32)) at_41 (by rfl) ?_
    refine w_icmpne W0 (pc' := 58) at_42 (by decide) (fun c42 => ?_) (fun c42 => absurd c42 (by decide))
    refine w_iload W0 at_58 rfl ?_
    refine w_iconst W0 (z := (2 : Int32)) at_60 (by rfl) ?_
    refine w_icmpne W0 (pc' := 82) at_61 (by decide) (fun c61 => absurd c61 (by decide)) (fun c61 => ?_)
    refine w_iconst W0 (z := (2 : Int32)) at_64 (by rfl) ?_
    refine w_newarr W0 (ty := .char) (dv := (.int 0)) (hw _ (List.mem_of_getElem? (i := 1) rfl)) rfl rfl at_65 (by decide) 2 (by decide) (by decide) (by decide) (by decide) ?_
    intro T11 h11 ca k11 W11 E11 g11 V11
    have g0 : n0 ≤ ca := by rw [g11]; exact own_oldle O
    have V0 := V11.pad (pad_rep [] (.int 0) 2)
    refine w_dup W11 at_67 rfl ?_
    refine w_iconst W11 (z := (0 : Int32)) at_68 (by rfl) ?_
    refine w_iload W11 at_69 rfl ?_
    refine w_castore W11 V0 ⟨by decide, by decide⟩ 0 (by decide) (Nat.le_of_ble_eq_true rfl) (x' := x1) (own_ncx bx1) g0 at_71 ?_
    intro T12 h12 l12 W12 Wr12 V12
    have X12 := own_extWr E11 Wr12 (Nat.le_of_eq g11.symm)
    refine w_dup W12 at_72 rfl ?_
    refine w_iconst W12 (z := (1 : Int32)) at_73 (by rfl) ?_
    refine w_iload W12 at_74 rfl ?_
    refine w_castore W12 V12 ⟨by decide, by decide⟩ 1 (by decide) (Nat.le_of_ble_eq_true rfl) (x' := y1) (own_ncx by1) g0 at_76 ?_
    intro T13 h13 l13 W13 Wr13 V13
    have X13 := own_extWr X12 Wr13 (Nat.le_of_eq g11.symm)
    refine w_astore W13 (L' := #[.val (.int rn), .val (.int ra), .val (.int rb), .val (.int rc), .val (.int (2 : Int32)), .val (.int x1), .val (.int y1), .val (.int z1), .val (.ref ca), .unset]) at_77 rfl rfl ?_
    refine w_goto W13 (pc' := 102) at_79 (by decide) ?_
    refine w_iload W13 at_102 rfl ?_
    refine w_iconst W13 (z := (1 : Int32)) at_104 (by rfl) ?_
    refine w_icmplt W13 (pc' := 118) at_105 (by decide) (fun c105 => absurd c105 (by decide)) (fun c105 => ?_)
    refine w_iload W13 at_108 rfl ?_
    refine w_callS W13 (ctIb l Z a0 hw x1 _ n0) (hw _ (List.mem_of_getElem? (i := 75) rfl)) (hw _ (List.mem_of_getElem? (i := 76) rfl)) (hw _ (List.mem_of_getElem? (i := 77) rfl)) (hw _ (List.mem_of_getElem? (i := 78) rfl)) (by decide) 0 (by decide) (by decide) (by decide) (by decide) (argsL := [(.int x1)]) (rest := []) pd_22 rfl rfl rfl rfl rfl at_110 ?_
    rintro T14 h14 l14 _ W14 ⟨rfl, rfl⟩
    refine w_ifeq W14 (pc' := 118) at_113 (by decide) (fun c113 => ?_) (fun c113 => ?_)
    · refine w_iload W14 at_118 rfl ?_
      refine w_iconst W14 (z := (2 : Int32)) at_120 (by rfl) ?_
      refine w_icmplt W14 (pc' := 134) at_121 (by decide) (fun c121 => absurd c121 (by decide)) (fun c121 => ?_)
      refine w_iload W14 at_124 rfl ?_
      refine w_callS W14 (ctIb l Z a0 hw y1 _ n0) (hw _ (List.mem_of_getElem? (i := 75) rfl)) (hw _ (List.mem_of_getElem? (i := 76) rfl)) (hw _ (List.mem_of_getElem? (i := 77) rfl)) (hw _ (List.mem_of_getElem? (i := 78) rfl)) (by decide) 0 (by decide) (by decide) (by decide) (by decide) (argsL := [(.int y1)]) (rest := []) pd_22 rfl rfl rfl rfl rfl at_126 ?_
      rintro T15 h15 l15 _ W15 ⟨rfl, rfl⟩
      refine w_ifeq W15 (pc' := 134) at_129 (by decide) (fun c129 => ?_) (fun c129 => ?_)
      · refine w_iload W15 at_134 rfl ?_
        refine w_iconst W15 (z := (3 : Int32)) at_136 (by rfl) ?_
        refine w_icmplt W15 (pc' := 150) at_137 (by decide) (fun c137 => ?_) (fun c137 => absurd c137 (by decide))
        have Ca : Arv Z h13 ca _ .char (Int32.ofNat ([x1, y1] : List Int32).length) (([x1, y1] : List Int32).map Value.int) (.int 0) := V13
        have hch : ∀ c ∈ ([x1, y1] : List Int32), 0 ≤ c.toInt ∧ c.toInt < 65536 := by
          intro c hc
          simp only [List.mem_cons, List.not_mem_nil, or_false] at hc
          rcases hc with rfl | rfl
          · exact bx1
          · exact by1
        have hnb : ∀ c ∈ ([x1, y1] : List Int32), Nob c := by
          intro c hc
          simp only [List.mem_cons, List.not_mem_nil, or_false] at hc
          rcases hc with rfl | rfl
          · exact own_nob c113
          · exact own_nob c129
        refine w_new W15 (hw _ (List.mem_of_getElem? (i := 2) rfl)) (hw _ (List.mem_of_getElem? (i := 3) rfl)) (hw _ (List.mem_of_getElem? (i := 4) rfl)) at_150 (by decide) (by decide) ?_
        intro T16 h16 sa W16 E16 g16 A16 D16
        have X16 := own_extTrans X13 E16
        have hsa : h0.size ≤ sa := by rw [g16]; exact (X13).1
        have Fv := (D16 (Or.inr (hw _ (List.mem_of_getElem? (i := 17) rfl))) (ty := (.array .byte)) (by decide) : Fld Z h16 _ "java/lang/String" "value" "[B" .null)
        have Fc := (D16 (Or.inr (hw _ (List.mem_of_getElem? (i := 18) rfl))) (ty := .byte) (by decide) : Fld Z h16 _ "java/lang/String" "coder" "B" (.int 0))
        refine w_dup W16 at_153 rfl ?_
        refine w_aload W16 at_154 rfl rfl ?_
        refine w_specialW W16 (ctS1 l Z a0 hw cz sa ca _ [x1, y1] _ n0 hCH (Nat.le_of_ble_eq_true rfl) hch (O.ext X16) G hcz Ga Gh Gl A16 Fv Fc (Nat.le_trans (own_oldle O) hsa) (Ca.ext E16)) (fun vm' q => St.warm (hV.ext X16) q) rfl (hw _ (List.mem_of_getElem? (i := 5) rfl)) (hw _ (List.mem_of_getElem? (i := 6) rfl)) (hw _ (List.mem_of_getElem? (i := 4) rfl)) (hw _ (List.mem_of_getElem? (i := 7) rfl)) (by decide) 1 (by decide) (by decide) (by decide) (by decide) (a := sa) (argsL := [(.ref ca)]) (rest := [(.ref sa)]) pd_20 rfl rfl rfl rfl rfl at_156 ?_
        rintro T17 h17 l17 vm17 _ W17 hw17 ⟨rfl, Kx, ⟨co, us, Sx, hE⟩, St1⟩
        refine w_astore W17 (L' := #[.val (.int rn), .val (.int ra), .val (.int rb), .val (.int rc), .val (.int (2 : Int32)), .val (.int x1), .val (.int y1), .val (.int z1), .val (.ref ca), .val (.ref sa)]) at_159 rfl rfl ?_
        refine w_aload W17 at_161 rfl rfl ?_
        refine w_callSW W17 (ctCp l Z a0 hw cz sa [x1, y1] us co fv _ n0 (O.ext (own_extKeep X16 Kx (allS hsa all0))) G hcz (Nat.le_of_ble_eq_true rfl) hE Sx hnb hch Ga Gh Gl Gf hfv) (fun _ _ => trivial) (hw _ (List.mem_of_getElem? (i := 23) rfl)) (hw _ (List.mem_of_getElem? (i := 24) rfl)) (hw _ (List.mem_of_getElem? (i := 25) rfl)) (hw _ (List.mem_of_getElem? (i := 26) rfl)) (by decide) 0 (by decide) (by decide) (by decide) (by decide) (argsL := [(.ref sa)]) (rest := []) pd_21 rfl rfl rfl rfl rfl at_163 ?_
        rintro T18 h18 l18 vm18 _ W18 hw18 rfl
        refine w_iconst W18 (z := (1 : Int32)) at_166 (by rfl) ?_
        exact x_rN W18 rfl (by simp) (z' := (1 : Int32)) (by rfl) at_167 (by decide) (by decide) (fun vm' hvm' => rfl)
      · refine w_iconst W15 (z := (1 : Int32)) at_132 (by rfl) ?_
        exact x_rN W15 rfl (by simp) (z' := (1 : Int32)) (by rfl) at_133 (by decide) (by decide) (fun vm' hvm' => rfl)
    · refine w_iconst W14 (z := (1 : Int32)) at_116 (by rfl) ?_
      exact x_rN W14 rfl (by simp) (z' := (1 : Int32)) (by rfl) at_117 (by decide) (by decide) (fun vm' hvm' => rfl)
  · refine w_iload W0 at_26 rfl ?_
    refine w_ifne W0 (pc' := 39) at_28 (by decide) (fun c28 => ?_) (fun c28 => absurd c28 (by decide))
    refine w_iload W0 at_39 rfl ?_
    refine w_iconst W0 (z := (1 : Int32)) at_41 (by rfl) ?_
    refine w_icmpne W0 (pc' := 58) at_42 (by decide) (fun c42 => ?_) (fun c42 => absurd c42 (by decide))
    refine w_iload W0 at_58 rfl ?_
    refine w_iconst W0 (z := (2 : Int32)) at_60 (by rfl) ?_
    refine w_icmpne W0 (pc' := 82) at_61 (by decide) (fun c61 => ?_) (fun c61 => absurd c61 (by decide))
    refine w_iconst W0 (z := (3 : Int32)) at_82 (by rfl) ?_
    refine w_newarr W0 (ty := .char) (dv := (.int 0)) (hw _ (List.mem_of_getElem? (i := 1) rfl)) rfl rfl at_83 (by decide) 3 (by decide) (by decide) (by decide) (by decide) ?_
    intro T19 h19 ca k19 W19 E19 g19 V19
    have g0 : n0 ≤ ca := by rw [g19]; exact own_oldle O
    have V0 := V19.pad (pad_rep [] (.int 0) 3)
    refine w_dup W19 at_85 rfl ?_
    refine w_iconst W19 (z := (0 : Int32)) at_86 (by rfl) ?_
    refine w_iload W19 at_87 rfl ?_
    refine w_castore W19 V0 ⟨by decide, by decide⟩ 0 (by decide) (Nat.le_of_ble_eq_true rfl) (x' := x1) (own_ncx bx1) g0 at_89 ?_
    intro T20 h20 l20 W20 Wr20 V20
    have X20 := own_extWr E19 Wr20 (Nat.le_of_eq g19.symm)
    refine w_dup W20 at_90 rfl ?_
    refine w_iconst W20 (z := (1 : Int32)) at_91 (by rfl) ?_
    refine w_iload W20 at_92 rfl ?_
    refine w_castore W20 V20 ⟨by decide, by decide⟩ 1 (by decide) (Nat.le_of_ble_eq_true rfl) (x' := y1) (own_ncx by1) g0 at_94 ?_
    intro T21 h21 l21 W21 Wr21 V21
    have X21 := own_extWr X20 Wr21 (Nat.le_of_eq g19.symm)
    refine w_dup W21 at_95 rfl ?_
    refine w_iconst W21 (z := (2 : Int32)) at_96 (by rfl) ?_
    refine w_iload W21 at_97 rfl ?_
    refine w_castore W21 V21 ⟨by decide, by decide⟩ 2 (by decide) (Nat.le_of_ble_eq_true rfl) (x' := z1) (own_ncx bz1) g0 at_99 ?_
    intro T22 h22 l22 W22 Wr22 V22
    have X22 := own_extWr X21 Wr22 (Nat.le_of_eq g19.symm)
    refine w_astore W22 (L' := #[.val (.int rn), .val (.int ra), .val (.int rb), .val (.int rc), .val (.int (3 : Int32)), .val (.int x1), .val (.int y1), .val (.int z1), .val (.ref ca), .unset]) at_100 rfl rfl ?_
    refine w_iload W22 at_102 rfl ?_
    refine w_iconst W22 (z := (1 : Int32)) at_104 (by rfl) ?_
    refine w_icmplt W22 (pc' := 118) at_105 (by decide) (fun c105 => absurd c105 (by decide)) (fun c105 => ?_)
    refine w_iload W22 at_108 rfl ?_
    refine w_callS W22 (ctIb l Z a0 hw x1 _ n0) (hw _ (List.mem_of_getElem? (i := 75) rfl)) (hw _ (List.mem_of_getElem? (i := 76) rfl)) (hw _ (List.mem_of_getElem? (i := 77) rfl)) (hw _ (List.mem_of_getElem? (i := 78) rfl)) (by decide) 0 (by decide) (by decide) (by decide) (by decide) (argsL := [(.int x1)]) (rest := []) pd_22 rfl rfl rfl rfl rfl at_110 ?_
    rintro T23 h23 l23 _ W23 ⟨rfl, rfl⟩
    refine w_ifeq W23 (pc' := 118) at_113 (by decide) (fun c113 => ?_) (fun c113 => ?_)
    · refine w_iload W23 at_118 rfl ?_
      refine w_iconst W23 (z := (2 : Int32)) at_120 (by rfl) ?_
      refine w_icmplt W23 (pc' := 134) at_121 (by decide) (fun c121 => absurd c121 (by decide)) (fun c121 => ?_)
      refine w_iload W23 at_124 rfl ?_
      refine w_callS W23 (ctIb l Z a0 hw y1 _ n0) (hw _ (List.mem_of_getElem? (i := 75) rfl)) (hw _ (List.mem_of_getElem? (i := 76) rfl)) (hw _ (List.mem_of_getElem? (i := 77) rfl)) (hw _ (List.mem_of_getElem? (i := 78) rfl)) (by decide) 0 (by decide) (by decide) (by decide) (by decide) (argsL := [(.int y1)]) (rest := []) pd_22 rfl rfl rfl rfl rfl at_126 ?_
      rintro T24 h24 l24 _ W24 ⟨rfl, rfl⟩
      refine w_ifeq W24 (pc' := 134) at_129 (by decide) (fun c129 => ?_) (fun c129 => ?_)
      · refine w_iload W24 at_134 rfl ?_
        refine w_iconst W24 (z := (3 : Int32)) at_136 (by rfl) ?_
        refine w_icmplt W24 (pc' := 150) at_137 (by decide) (fun c137 => absurd c137 (by decide)) (fun c137 => ?_)
        refine w_iload W24 at_140 rfl ?_
        refine w_callS W24 (ctIb l Z a0 hw z1 _ n0) (hw _ (List.mem_of_getElem? (i := 75) rfl)) (hw _ (List.mem_of_getElem? (i := 76) rfl)) (hw _ (List.mem_of_getElem? (i := 77) rfl)) (hw _ (List.mem_of_getElem? (i := 78) rfl)) (by decide) 0 (by decide) (by decide) (by decide) (by decide) (argsL := [(.int z1)]) (rest := []) pd_22 rfl rfl rfl rfl rfl at_142 ?_
        rintro T25 h25 l25 _ W25 ⟨rfl, rfl⟩
        refine w_ifeq W25 (pc' := 150) at_145 (by decide) (fun c145 => ?_) (fun c145 => ?_)
        · have Ca : Arv Z h22 ca _ .char (Int32.ofNat ([x1, y1, z1] : List Int32).length) (([x1, y1, z1] : List Int32).map Value.int) (.int 0) := V22
          have hch : ∀ c ∈ ([x1, y1, z1] : List Int32), 0 ≤ c.toInt ∧ c.toInt < 65536 := by
            intro c hc
            simp only [List.mem_cons, List.not_mem_nil, or_false] at hc
            rcases hc with rfl | rfl | rfl
            · exact bx1
            · exact by1
            · exact bz1
          have hnb : ∀ c ∈ ([x1, y1, z1] : List Int32), Nob c := by
            intro c hc
            simp only [List.mem_cons, List.not_mem_nil, or_false] at hc
            rcases hc with rfl | rfl | rfl
            · exact own_nob c113
            · exact own_nob c129
            · exact own_nob c145
          refine w_new W25 (hw _ (List.mem_of_getElem? (i := 2) rfl)) (hw _ (List.mem_of_getElem? (i := 3) rfl)) (hw _ (List.mem_of_getElem? (i := 4) rfl)) at_150 (by decide) (by decide) ?_
          intro T26 h26 sa W26 E26 g26 A26 D26
          have X26 := own_extTrans X22 E26
          have hsa : h0.size ≤ sa := by rw [g26]; exact (X22).1
          have Fv := (D26 (Or.inr (hw _ (List.mem_of_getElem? (i := 17) rfl))) (ty := (.array .byte)) (by decide) : Fld Z h26 _ "java/lang/String" "value" "[B" .null)
          have Fc := (D26 (Or.inr (hw _ (List.mem_of_getElem? (i := 18) rfl))) (ty := .byte) (by decide) : Fld Z h26 _ "java/lang/String" "coder" "B" (.int 0))
          refine w_dup W26 at_153 rfl ?_
          refine w_aload W26 at_154 rfl rfl ?_
          refine w_specialW W26 (ctS1 l Z a0 hw cz sa ca _ [x1, y1, z1] _ n0 hCH (Nat.le_of_ble_eq_true rfl) hch (O.ext X26) G hcz Ga Gh Gl A26 Fv Fc (Nat.le_trans (own_oldle O) hsa) (Ca.ext E26)) (fun vm' q => St.warm (hV.ext X26) q) rfl (hw _ (List.mem_of_getElem? (i := 5) rfl)) (hw _ (List.mem_of_getElem? (i := 6) rfl)) (hw _ (List.mem_of_getElem? (i := 4) rfl)) (hw _ (List.mem_of_getElem? (i := 7) rfl)) (by decide) 1 (by decide) (by decide) (by decide) (by decide) (a := sa) (argsL := [(.ref ca)]) (rest := [(.ref sa)]) pd_20 rfl rfl rfl rfl rfl at_156 ?_
          rintro T27 h27 l27 vm27 _ W27 hw27 ⟨rfl, Kx, ⟨co, us, Sx, hE⟩, St1⟩
          refine w_astore W27 (L' := #[.val (.int rn), .val (.int ra), .val (.int rb), .val (.int rc), .val (.int (3 : Int32)), .val (.int x1), .val (.int y1), .val (.int z1), .val (.ref ca), .val (.ref sa)]) at_159 rfl rfl ?_
          refine w_aload W27 at_161 rfl rfl ?_
          refine w_callSW W27 (ctCp l Z a0 hw cz sa [x1, y1, z1] us co fv _ n0 (O.ext (own_extKeep X26 Kx (allS hsa all0))) G hcz (Nat.le_of_ble_eq_true rfl) hE Sx hnb hch Ga Gh Gl Gf hfv) (fun _ _ => trivial) (hw _ (List.mem_of_getElem? (i := 23) rfl)) (hw _ (List.mem_of_getElem? (i := 24) rfl)) (hw _ (List.mem_of_getElem? (i := 25) rfl)) (hw _ (List.mem_of_getElem? (i := 26) rfl)) (by decide) 0 (by decide) (by decide) (by decide) (by decide) (argsL := [(.ref sa)]) (rest := []) pd_21 rfl rfl rfl rfl rfl at_163 ?_
          rintro T28 h28 l28 vm28 _ W28 hw28 rfl
          refine w_iconst W28 (z := (1 : Int32)) at_166 (by rfl) ?_
          exact x_rN W28 rfl (by simp) (z' := (1 : Int32)) (by rfl) at_167 (by decide) (by decide) (fun vm' hvm' => rfl)
        · refine w_iconst W25 (z := (1 : Int32)) at_148 (by rfl) ?_
          exact x_rN W25 rfl (by simp) (z' := (1 : Int32)) (by rfl) at_149 (by decide) (by decide) (fun vm' hvm' => rfl)
      · refine w_iconst W24 (z := (1 : Int32)) at_132 (by rfl) ?_
        exact x_rN W24 rfl (by simp) (z' := (1 : Int32)) (by rfl) at_133 (by decide) (by decide) (fun vm' hvm' => rfl)
    · refine w_iconst W23 (z := (1 : Int32)) at_116 (by rfl) ?_
      exact x_rN W23 rfl (by simp) (z' := (1 : Int32)) (by rfl) at_117 (by decide) (by decide) (fun vm' hvm' => rfl)
set_option maxRecDepth 65536 in
set_option maxHeartbeats 40000000 in
theorem comes_1 {Post : Tables → Env → Array Value → State → Outcome → State → Prop} (hpost : ∀ tb e args s v u, (limb_1_1.after args s (.returned v) u = true ∧ limb_1_2.after args s (.returned v) u = true ∧ True) → ReturnedEndW s (.returned v) u (Jvm.fieldLocs frame_1_writes args s ++ Jvm.arrayLocs frame_1_arrays args s ++ Jvm.staticLocs frame_1_statics s) 24 2176 → Post tb e args s (.returned v) u) :
    ArmFor flags0 classFile x code maxLocals ret World_1 tables_1 room_1 Calls_1 rest_1 Pre_1 Post := by
  intro l hfl _ _ p e ha hc hk s m args below hf hA hF happ hP
  obtain ⟨hcalls, hrest, hpre⟩ := hP
  obtain ⟨-, -, -, hnamed, -, -, -, hat⟩ := (Spec.applies_iff hf).mp happ
  obtain ⟨hg, hn⟩ := and_e (Cond.before_iff.mp (show (Jvm.Cond.and given_1 narrow_1).before args s = true from hpre))
  obtain ⟨g0, r0⟩ := and_e hg
  obtain ⟨g1, r1⟩ := and_e r0
  obtain ⟨g2, r2⟩ := and_e r1
  obtain ⟨g3, r3⟩ := and_e r2
  obtain ⟨w0, w1, w2, w3, rfl⟩ : ∃ w0 w1 w2 w3 : Value, args = #[w0, w1, w2, w3] := by
    have hs : args.size = 4 := by simpa [Cond.value, given_1] using g0
    obtain ⟨L⟩ := args
    match L, hs with
    | [w0, w1, w2, w3], _ => exact ⟨w0, w1, w2, w3, rfl⟩
  have hw := fun d (hd : d ∈ tables_1) => atoms_spec (ws := Jvm.Cond.code x code maxLocals ret :: tables_1) hat d (List.mem_cons_of_mem _ hd)
  obtain ⟨i0, ei0⟩ := is_v g1
  obtain rfl : w0 = (.int i0) := Option.some.inj ei0
  obtain ⟨i1, ei1⟩ := is_v g2
  obtain rfl : w1 = (.int i1) := Option.some.inj ei1
  obtain ⟨i2, ei2⟩ := is_v g3
  obtain rfl : w2 = (.int i2) := Option.some.inj ei2
  obtain ⟨i3, ei3⟩ := is_v r3
  obtain rfl : w3 = (.int i3) := Option.some.inj ei3
  obtain ⟨hsets, hown0⟩ := atoms_of _ (rest_1_c_eq ▸ (show rest_1_c.before _ s = true from hrest))
  have n3 := not_v (Cond.before_iff.mp (hsets _ (List.mem_of_getElem? (i := 2) rfl)))
  obtain ⟨cz, e6⟩ := is_v (Cond.before_iff.mp (hsets _ (List.mem_of_getElem? (i := 1) rfl)))
  have G : Sta s s.heap "java/lang/String" "COMPACT_STRINGS" "Z" (.int cz) := Sta.start e6 (Or.inl (hsets _ (List.mem_of_getElem? (i := 0) rfl)))
  have hcz : ¬ (cz = (0 : Int32)) := gotF (Cond.eq_ints e6 (Term.int_eval (0))) n3
  have hCH : Jvm.Lit.constHeld s "java/lang/String" 7 := hcalls.1 ("java/lang/String", 7) (by simp [consts_1])
  have Ga : Sta s s.heap "java/lang/StringUTF16" "$assertionsDisabled" "Z" (.int 1) := Sta.start (own_eqInt (Cond.before_iff.mp (hsets _ (List.mem_of_getElem? (i := 12) rfl)))) (Or.inl (hsets _ (List.mem_of_getElem? (i := 11) rfl)))
  have Gh : Sta s s.heap "java/lang/StringUTF16" "HI_BYTE_SHIFT" "I" (.int 0) := Sta.start (own_eqInt (Cond.before_iff.mp (hsets _ (List.mem_of_getElem? (i := 15) rfl)))) (Or.inl (hsets _ (List.mem_of_getElem? (i := 14) rfl)))
  have Gl : Sta s s.heap "java/lang/StringUTF16" "LO_BYTE_SHIFT" "I" (.int 8) := Sta.start (own_eqInt (Cond.before_iff.mp (hsets _ (List.mem_of_getElem? (i := 18) rfl)))) (Or.inl (hsets _ (List.mem_of_getElem? (i := 17) rfl)))
  obtain ⟨fv, e8, hfv⟩ := isR_v (Cond.before_iff.mp (hsets _ (List.mem_of_getElem? (i := 8) rfl)))
  have Gf : Sta s s.heap "jdk/internal/util/Preconditions" "SIOOBE_FORMATTER" "Ljava/util/function/BiFunction;" fv := Sta.start e8 (Or.inl (hsets _ (List.mem_of_getElem? (i := 7) rfl)))
  obtain ⟨n, o, h1, h2, h3, _, L, rfl, ⟨rfl, N⟩, hq⟩ := ctLaw l s _ hw cz fv i0 i1 i2 i3 s.heap s.heap.size hCH (Old.start s) G hcz Ga Gh Gl Gf hfv tables_1 p e ha hc hk s m _ below hf ((Spec.applies_iff_loose hf).mp happ).1 ⟨rfl, State.Warmed39.refl s, rfl, St.start s⟩ trivial
  refine ⟨n, _, h1, h2, h3, hpost _ _ _ _ _ _ ⟨Cond.after_iff.mpr rfl, Cond.after_iff.mpr (eq_i res_at (Term.int_eval (1)) rfl), trivial⟩ ⟨hq.1, hq.2.1, hq.2.2.1, (hq.2.2.2.sift fun y hy => Or.inr (N y hy)).mono (by decide) (by decide)⟩⟩
theorem main_1_1 : Claimed_1_1 := comes_1 fun _ _ _ _ _ _ h hF => ⟨h.1, hF⟩
theorem main_1_2 : Claimed_1_2 := comes_1 fun _ _ _ _ _ _ h hF => ⟨h.2.1, hF⟩
end Jvm.Pilot.@@N@@
namespace Jvm.Pilot.@@N@@
open Jvm Jvm.ClassFile Sem Op Lib Jvm.Free Jvm.Stand Jvm.Pilot.@@N@@.Jvm.D
/-! MADE BY PROGRAM (witnessworld.py) out of the Statement's table words and the real class files: 22 classes; the members and pool entries that the words name. The judged class is class 1, her method 2. -/
namespace start1
open Jvm.ClassFile
def u (s : String) : CpInfo := .utf8 (stringToUtf16 s)
/-- a pool by its gaps: so many unusable entries, then the entry; so many at the end -/
def gap : Nat → List CpInfo → List CpInfo
  | 0, r => r
  | n + 1, r => .unusable :: gap n r
def poolList (es : List (Nat × CpInfo)) (last : Nat) : List CpInfo := es.foldr (fun e r => gap e.1 (e.2 :: r)) (gap last [])
def pool (es : List (Nat × CpInfo)) (last : Nat) : Array CpInfo := ⟨poolList es last⟩
def fileOf (pool : Array CpInfo) (this : Nat) (attrs : Array Attribute := #[]) (ms : Array MethodInfo := #[]) (fl : Nat := 33) (sup : Nat := 0) (ifs : Array Nat := #[]) (fds : Array FieldInfo := #[]) : ClassFile where
  minorVersion := 0
  majorVersion := 65
  constantPool := pool
  accessFlags := fl
  thisClass := this
  superClass := sup
  interfaces := ifs
  fields := fds
  methods := ms
  attributes := attrs
def plain (name : String) (sup : Option ClassId) : Class where
  name := name
  kind := .ordinary
  loader := none
  accessFlags := 33
  super := sup
  interfaces := #[]
  cf := none
  fields := #[]
  methods := #[]
  instanceTypes := #[]
  staticTypes := #[]
  resolved := #[]
  callSites := []
  init := .initialized
  statics := none
  mirror := none

def pool0 : Array CpInfo := pool [(5, u "<init>"), (0, u "()V"), (1, .class_ 10), (1, u "java/lang/Object")] 113

def k0c0 : Code := { maxStack := 0, maxLocals := 1, code := object_method_1_code, exceptionTable := #[], attributes := #[] }
def k0m0 : Method := { name := "<init>", desc := "()V", sig := { parameters := [], returnType := none }, accessFlags := 1, code := some k0c0 }
/-- java/lang/Object -/
def k0 : Class := { plain "java/lang/Object" none with
  accessFlags := 33
  interfaces := #[]
  cf := some (fileOf pool0 8 #[] #[{ accessFlags := 1, nameIndex := 5, descriptorIndex := 6, attributes := #[] }] 33 0 #[] #[])
  fields := #[]
  methods := #[k0m0]
  instanceTypes := #[]
  staticTypes := #[]
  resolved := Array.replicate 124 none
  statics := none }

def pool1 : Array CpInfo := pool [(2, .class_ 4), (1, u "java/lang/Object"), (0, u "<init>"), (0, u "()V"), (0, .integer 65535), (0, .methodref 9 10), (0, .class_ 11), (0, .nameAndType 12 13), (0, u "com/example/setnix/setnix/model/LockNameCheckPrefixPinLaw"), (0, u "isBrace"), (0, u "(C)Z"), (0, .class_ 15), (0, u "java/lang/String"), (0, .methodref 14 17), (0, .nameAndType 5 18), (0, u "([C)V"), (0, .methodref 20 21), (0, .class_ 22), (0, .nameAndType 23 24), (0, u "com/example/setnix/setnix/model/LockName"), (0, u "checkPrefix"), (0, u "(Ljava/lang/String;)V"), (3, u "law"), (0, u "(IIII)Z")] 4

def k1m0 : Method := { name := "<init>", desc := "()V", sig := { parameters := [], returnType := none }, accessFlags := 1, code := none }
def k1c1 : Code := { maxStack := 2, maxLocals := 1, code := method_2_code, exceptionTable := #[], attributes := #[] }
def k1m1 : Method := { name := "isBrace", desc := "(C)Z", sig := { parameters := [.char], returnType := some .boolean }, accessFlags := 10, code := some k1c1 }
def k1c2 : Code := { maxStack := 4, maxLocals := 10, code := code, exceptionTable := #[], attributes := #[] }
def k1m2 : Method := { name := "law", desc := "(IIII)Z", sig := { parameters := [.int, .int, .int, .int], returnType := some .boolean }, accessFlags := 9, code := some k1c2 }
/-- com/example/setnix/setnix/model/LockNameCheckPrefixPinLaw -/
def k1 : Class := { plain "com/example/setnix/setnix/model/LockNameCheckPrefixPinLaw" (some 0) with
  accessFlags := 49
  interfaces := #[]
  cf := some (fileOf pool1 9 #[] #[{ accessFlags := 1, nameIndex := 5, descriptorIndex := 6, attributes := #[] }, { accessFlags := 10, nameIndex := 12, descriptorIndex := 13, attributes := #[] }, { accessFlags := 9, nameIndex := 28, descriptorIndex := 29, attributes := #[] }] 49 2 #[] #[])
  fields := #[]
  methods := #[k1m0, k1m1, k1m2]
  instanceTypes := #[]
  staticTypes := #[]
  resolved := Array.replicate 34 none
  statics := none }

def pool2 : Array CpInfo := pool [(1, .class_ 2), (0, u "java/io/Serializable"), (0, .class_ 4), (0, u "java/lang/Object")] 2

/-- java/io/Serializable -/
def k2 : Class := { plain "java/io/Serializable" (some 0) with
  accessFlags := 1537
  interfaces := #[]
  cf := some (fileOf pool2 1 #[] #[] 1537 3 #[] #[])
  fields := #[]
  methods := #[]
  instanceTypes := #[]
  staticTypes := #[]
  resolved := Array.replicate 7 none
  statics := none }

def pool3 : Array CpInfo := pool [(1, .class_ 2), (0, u "java/lang/Comparable"), (0, .class_ 4), (0, u "java/lang/Object")] 7

/-- java/lang/Comparable -/
def k3 : Class := { plain "java/lang/Comparable" (some 0) with
  accessFlags := 1537
  interfaces := #[]
  cf := some (fileOf pool3 1 #[] #[] 1537 3 #[] #[])
  fields := #[]
  methods := #[]
  instanceTypes := #[]
  staticTypes := #[]
  resolved := Array.replicate 12 none
  statics := none }

def pool4 : Array CpInfo := pool [(2, .class_ 4), (1, u "java/lang/CharSequence"), (42, .class_ 48), (0, u "java/lang/CharSequence$1CodePointIterator"), (10, .class_ 60), (0, u "java/lang/CharSequence$1CharIterator"), (5, .class_ 67), (0, u "java/lang/Object")] 63

/-- java/lang/CharSequence -/
def k4 : Class := { plain "java/lang/CharSequence" (some 0) with
  accessFlags := 1537
  interfaces := #[]
  cf := some (fileOf pool4 2 #[.nestMembers #[47, 59]] #[] 1537 66 #[] #[])
  fields := #[]
  methods := #[]
  instanceTypes := #[]
  staticTypes := #[]
  resolved := Array.replicate 131 none
  statics := none }

def pool5 : Array CpInfo := pool [(1, .class_ 2), (0, u "java/lang/constant/Constable"), (0, .class_ 4), (0, u "java/lang/Object")] 6

/-- java/lang/constant/Constable -/
def k5 : Class := { plain "java/lang/constant/Constable" (some 0) with
  accessFlags := 1537
  interfaces := #[]
  cf := some (fileOf pool5 1 #[] #[] 1537 3 #[] #[])
  fields := #[]
  methods := #[]
  instanceTypes := #[]
  staticTypes := #[]
  resolved := Array.replicate 11 none
  statics := none }

def pool6 : Array CpInfo := pool [(1, .class_ 2), (0, u "java/lang/constant/ConstantDesc"), (0, .class_ 4), (0, u "java/lang/Object")] 32

/-- java/lang/constant/ConstantDesc -/
def k6 : Class := { plain "java/lang/constant/ConstantDesc" (some 0) with
  accessFlags := 1537
  interfaces := #[]
  cf := some (fileOf pool6 1 #[] #[] 1537 3 #[] #[])
  fields := #[]
  methods := #[]
  instanceTypes := #[]
  staticTypes := #[]
  resolved := Array.replicate 37 none
  statics := none }

def pool7 : Array CpInfo := pool [(1, .methodref 2 3), (0, .class_ 4), (0, .nameAndType 5 6), (0, u "java/lang/Object"), (0, u "<init>"), (0, u "()V"), (0, .string 8), (0, u ""), (0, .fieldref 10 11), (0, .class_ 12), (0, .nameAndType 13 14), (0, u "java/lang/String"), (0, u "value"), (0, u "[B"), (0, .fieldref 10 16), (0, .nameAndType 17 18), (0, u "coder"), (0, u "B"), (2, u "hash"), (0, u "I"), (2, u "hashIsZero"), (0, u "Z"), (0, .methodref 10 28), (0, .nameAndType 5 29), (0, u "([CIILjava/lang/Void;)V"), (8, .fieldref 10 39), (0, .nameAndType 40 26), (0, u "COMPACT_STRINGS"), (1, .class_ 44), (1, u "java/lang/StringUTF16"), (0, u "compress"), (1, .methodref 42 48), (0, .nameAndType 49 50), (0, u "coderFromArrayLen"), (0, u "([BI)B"), (56, .class_ 109), (1, u "java/lang/StringLatin1"), (32, u "()Z"), (34, .methodref 42 178), (0, .nameAndType 45 179), (0, u "([CII)[B"), (154, u "()I"), (0, .methodref 10 336), (0, .nameAndType 17 337), (0, u "()B"), (154, .methodref 10 493), (0, .nameAndType 494 142), (0, u "isLatin1"), (10, .methodref 10 506), (0, .nameAndType 507 334), (0, u "length"), (5, u "checkFromToIndex"), (9, u "checkBoundsBeginEnd"), (0, u "(III)V"), (50, .class_ 576), (0, u "java/lang/CharSequence"), (22, u "CASE_INSENSITIVE_ORDER"), (0, u "Ljava/util/Comparator;"), (32, .methodref 10 634), (0, .nameAndType 635 636), (0, u "indexOf"), (0, u "(II)I"), (0, .methodref 107 638), (0, .nameAndType 635 639), (0, u "([BIII)I"), (0, .methodref 42 638), (124, u "(I)I"), (244, u "([C)V"), (42, .fieldref 1054 1055), (0, .class_ 1056), (0, .nameAndType 1057 1058), (0, u "jdk/internal/util/Preconditions"), (0, u "SIOOBE_FORMATTER"), (0, u "Ljava/util/function/BiFunction;"), (3, .methodref 1054 1063), (0, .nameAndType 513 1064), (0, u "(IIILjava/util/function/BiFunction;)I"), (36, u "serialPersistentFields"), (0, u "[Ljava/io/ObjectStreamField;"), (0, .class_ 1104), (0, u "java/lang/String$CaseInsensitiveComparator"), (1, .class_ 1107), (0, u "java/io/Serializable"), (0, .class_ 1109), (0, u "java/lang/Comparable"), (0, .class_ 1111), (0, u "java/lang/constant/Constable"), (0, .class_ 1113), (0, u "java/lang/constant/ConstantDesc"), (2, u "serialVersionUID"), (0, u "J"), (3, u "REPL"), (0, u "C"), (2, u "LATIN1"), (1, u "UTF16")] 323

def k7m0 : Method := { name := "<init>", desc := "()V", sig := { parameters := [], returnType := none }, accessFlags := 1, code := none }
def k7c1 : Code := { maxStack := 5, maxLocals := 2, code := jdk_42_method_3_code, exceptionTable := #[], attributes := #[] }
def k7m1 : Method := { name := "<init>", desc := "([C)V", sig := { parameters := [(.array .char)], returnType := none }, accessFlags := 1, code := some k7c1 }
def k7c2 : Code := { maxStack := 2, maxLocals := 1, code := jdk_42_method_54_code, exceptionTable := #[], attributes := #[] }
def k7m2 : Method := { name := "length", desc := "()I", sig := { parameters := [], returnType := some .int }, accessFlags := 1, code := some k7c2 }
def k7c3 : Code := { maxStack := 3, maxLocals := 2, code := jdk_42_method_79_code, exceptionTable := #[], attributes := #[] }
def k7m3 : Method := { name := "indexOf", desc := "(I)I", sig := { parameters := [.int], returnType := some .int }, accessFlags := 1, code := some k7c3 }
def k7c4 : Code := { maxStack := 4, maxLocals := 3, code := jdk_42_method_80_code, exceptionTable := #[], attributes := #[] }
def k7m4 : Method := { name := "indexOf", desc := "(II)I", sig := { parameters := [.int, .int], returnType := some .int }, accessFlags := 1, code := some k7c4 }
def k7c5 : Code := { maxStack := 4, maxLocals := 6, code := jdk_42_method_149_code, exceptionTable := #[], attributes := #[] }
def k7m5 : Method := { name := "<init>", desc := "([CIILjava/lang/Void;)V", sig := { parameters := [(.array .char), .int, .int, (.object "java/lang/Void")], returnType := none }, accessFlags := 2, code := some k7c5 }
def k7c6 : Code := { maxStack := 1, maxLocals := 1, code := jdk_42_method_152_code, exceptionTable := #[], attributes := #[] }
def k7m6 : Method := { name := "coder", desc := "()B", sig := { parameters := [], returnType := some .byte }, accessFlags := 0, code := some k7c6 }
def k7c7 : Code := { maxStack := 1, maxLocals := 1, code := jdk_42_method_154_code, exceptionTable := #[], attributes := #[] }
def k7m7 : Method := { name := "isLatin1", desc := "()Z", sig := { parameters := [], returnType := some .boolean }, accessFlags := 0, code := some k7c7 }
def k7c8 : Code := { maxStack := 4, maxLocals := 3, code := jdk_42_method_158_code, exceptionTable := #[], attributes := #[] }
def k7m8 : Method := { name := "checkBoundsBeginEnd", desc := "(III)V", sig := { parameters := [.int, .int, .int], returnType := none }, accessFlags := 8, code := some k7c8 }
/-- java/lang/String -/
def k7 : Class := { plain "java/lang/String" (some 0) with
  accessFlags := 49
  interfaces := #[2, 3, 4, 5, 6]
  cf := some (fileOf pool7 10 #[.nestMembers #[1103]] #[{ accessFlags := 1, nameIndex := 5, descriptorIndex := 6, attributes := #[] }, { accessFlags := 1, nameIndex := 5, descriptorIndex := 1010, attributes := #[] }, { accessFlags := 1, nameIndex := 507, descriptorIndex := 334, attributes := #[] }, { accessFlags := 1, nameIndex := 635, descriptorIndex := 765, attributes := #[] }, { accessFlags := 1, nameIndex := 635, descriptorIndex := 636, attributes := #[] }, { accessFlags := 2, nameIndex := 5, descriptorIndex := 29, attributes := #[] }, { accessFlags := 0, nameIndex := 17, descriptorIndex := 337, attributes := #[] }, { accessFlags := 0, nameIndex := 494, descriptorIndex := 142, attributes := #[] }, { accessFlags := 8, nameIndex := 523, descriptorIndex := 524, attributes := #[] }] 49 2 #[1106, 1108, 575, 1110, 1112] #[{ accessFlags := 18, nameIndex := 13, descriptorIndex := 14, attributes := #[] }, { accessFlags := 18, nameIndex := 17, descriptorIndex := 18, attributes := #[] }, { accessFlags := 2, nameIndex := 21, descriptorIndex := 22, attributes := #[] }, { accessFlags := 2, nameIndex := 25, descriptorIndex := 26, attributes := #[] }, { accessFlags := 26, nameIndex := 1116, descriptorIndex := 1117, attributes := #[] }, { accessFlags := 24, nameIndex := 40, descriptorIndex := 26, attributes := #[] }, { accessFlags := 26, nameIndex := 1101, descriptorIndex := 1102, attributes := #[] }, { accessFlags := 26, nameIndex := 1121, descriptorIndex := 1122, attributes := #[] }, { accessFlags := 25, nameIndex := 599, descriptorIndex := 600, attributes := #[] }, { accessFlags := 24, nameIndex := 1125, descriptorIndex := 18, attributes := #[] }, { accessFlags := 24, nameIndex := 1127, descriptorIndex := 18, attributes := #[] }])
  fields := #[{ name := "value", type := (.array .byte), accessFlags := 18, slot := 0, constantValue := 0 }, { name := "coder", type := .byte, accessFlags := 18, slot := 1, constantValue := 0 }, { name := "hash", type := .int, accessFlags := 2, slot := 2, constantValue := 0 }, { name := "hashIsZero", type := .boolean, accessFlags := 2, slot := 3, constantValue := 0 }, { name := "serialVersionUID", type := .long, accessFlags := 26, slot := 0, constantValue := 0 }, { name := "COMPACT_STRINGS", type := .boolean, accessFlags := 24, slot := 1, constantValue := 0 }, { name := "serialPersistentFields", type := (.array (.object "java/io/ObjectStreamField")), accessFlags := 26, slot := 2, constantValue := 0 }, { name := "REPL", type := .char, accessFlags := 26, slot := 3, constantValue := 0 }, { name := "CASE_INSENSITIVE_ORDER", type := (.object "java/util/Comparator"), accessFlags := 25, slot := 4, constantValue := 0 }, { name := "LATIN1", type := .byte, accessFlags := 24, slot := 5, constantValue := 0 }, { name := "UTF16", type := .byte, accessFlags := 24, slot := 6, constantValue := 0 }]
  methods := #[k7m0, k7m1, k7m2, k7m3, k7m4, k7m5, k7m6, k7m7, k7m8]
  instanceTypes := #[(.array .byte), .byte, .int, .boolean]
  staticTypes := #[.long, .boolean, (.array (.object "java/io/ObjectStreamField")), .char, (.object "java/util/Comparator"), .byte, .byte]
  resolved := Array.replicate 1451 none
  statics := some 0 }

def pool8 : Array CpInfo := pool [(2, .class_ 4), (1, u "java/lang/Object"), (3, .class_ 10), (1, u "com/example/setnix/setnix/model/LockName"), (0, u "name"), (0, u "Ljava/lang/String;"), (1, .class_ 16), (1, u "java/lang/String"), (8, u "(Ljava/lang/String;)V"), (0, .methodref 8 27), (0, .nameAndType 28 29), (0, u "braceIndex"), (0, u "(Ljava/lang/String;)I"), (16, u "checkPrefix"), (3, .string 51), (0, u "prefix"), (0, .methodref 53 54), (0, .class_ 55), (0, .nameAndType 56 57), (0, u "java/util/Objects"), (0, u "requireNonNull"), (0, u "(Ljava/lang/Object;Ljava/lang/String;)Ljava/lang/Object;"), (3, .methodref 14 62), (0, .nameAndType 63 64), (0, u "indexOf"), (0, u "(I)I"), (36, u "MAX_UTF8_BYTES"), (0, u "I")] 32

def k8c0 : Code := { maxStack := 4, maxLocals := 2, code := prog_17_method_4_code, exceptionTable := #[], attributes := #[] }
def k8m0 : Method := { name := "checkPrefix", desc := "(Ljava/lang/String;)V", sig := { parameters := [(.object "java/lang/String")], returnType := none }, accessFlags := 9, code := some k8c0 }
def k8c1 : Code := { maxStack := 2, maxLocals := 2, code := prog_17_method_6_code, exceptionTable := #[], attributes := #[] }
def k8m1 : Method := { name := "braceIndex", desc := "(Ljava/lang/String;)I", sig := { parameters := [(.object "java/lang/String")], returnType := some .int }, accessFlags := 10, code := some k8c1 }
/-- com/example/setnix/setnix/model/LockName -/
def k8 : Class := { plain "com/example/setnix/setnix/model/LockName" (some 0) with
  accessFlags := 49
  interfaces := #[]
  cf := some (fileOf pool8 8 #[] #[{ accessFlags := 9, nameIndex := 46, descriptorIndex := 25, attributes := #[] }, { accessFlags := 10, nameIndex := 28, descriptorIndex := 29, attributes := #[] }] 49 2 #[] #[{ accessFlags := 25, nameIndex := 101, descriptorIndex := 102, attributes := #[] }, { accessFlags := 18, nameIndex := 11, descriptorIndex := 12, attributes := #[] }])
  fields := #[{ name := "MAX_UTF8_BYTES", type := .int, accessFlags := 25, slot := 0, constantValue := 0 }, { name := "name", type := (.object "java/lang/String"), accessFlags := 18, slot := 0, constantValue := 0 }]
  methods := #[k8m0, k8m1]
  instanceTypes := #[(.object "java/lang/String")]
  staticTypes := #[.int]
  resolved := Array.replicate 135 none
  statics := none }

def pool9 : Array CpInfo := pool [(2, .class_ 4), (1, u "java/lang/Object"), (0, u "<init>"), (0, u "()V"), (35, .class_ 44), (1, u "java/util/Objects"), (0, u "requireNonNull"), (48, u "(Ljava/lang/Object;Ljava/lang/String;)Ljava/lang/Object;")] 89

def k9m0 : Method := { name := "<init>", desc := "()V", sig := { parameters := [], returnType := none }, accessFlags := 2, code := none }
def k9c1 : Code := { maxStack := 3, maxLocals := 2, code := jdk_31_method_11_code, exceptionTable := #[], attributes := #[] }
def k9m1 : Method := { name := "requireNonNull", desc := "(Ljava/lang/Object;Ljava/lang/String;)Ljava/lang/Object;", sig := { parameters := [(.object "java/lang/Object"), (.object "java/lang/String")], returnType := some (.object "java/lang/Object") }, accessFlags := 9, code := some k9c1 }
/-- java/util/Objects -/
def k9 : Class := { plain "java/util/Objects" (some 0) with
  accessFlags := 49
  interfaces := #[]
  cf := some (fileOf pool9 42 #[] #[{ accessFlags := 2, nameIndex := 5, descriptorIndex := 6, attributes := #[] }, { accessFlags := 9, nameIndex := 45, descriptorIndex := 94, attributes := #[] }] 49 2 #[] #[])
  fields := #[]
  methods := #[k9m0, k9m1]
  instanceTypes := #[]
  staticTypes := #[]
  resolved := Array.replicate 184 none
  statics := none }

def pool10 : Array CpInfo := pool [(4, .class_ 6), (1, u "java/lang/Object"), (0, u "<init>"), (0, u "()V"), (5, .class_ 16), (1, u "java/lang/StringLatin1"), (21, .methodref 39 40), (0, .class_ 41), (0, .nameAndType 42 43), (0, u "java/lang/Math"), (0, u "min"), (0, u "(II)I"), (44, .methodref 14 89), (0, .nameAndType 90 91), (0, u "canEncode"), (0, u "(I)Z"), (0, .methodref 39 93), (0, .nameAndType 94 43), (0, u "max"), (0, .methodref 14 96), (0, .nameAndType 97 98), (0, u "indexOfChar"), (0, u "([BIII)I"), (2, u "indexOf"), (19, u "$assertionsDisabled"), (0, u "Z"), (98, .class_ 223), (1, u "java/lang/StringLatin1$LinesSpliterator"), (166, .class_ 391), (0, u "java/lang/StringLatin1$CharsSpliterator")] 3

def k10m0 : Method := { name := "<init>", desc := "()V", sig := { parameters := [], returnType := none }, accessFlags := 0, code := none }
def k10c1 : Code := { maxStack := 2, maxLocals := 1, code := jdk_43_method_4_code, exceptionTable := #[], attributes := #[] }
def k10m1 : Method := { name := "canEncode", desc := "(I)Z", sig := { parameters := [.int], returnType := some .boolean }, accessFlags := 9, code := some k10c1 }
def k10c2 : Code := { maxStack := 4, maxLocals := 4, code := jdk_43_method_22_code, exceptionTable := #[], attributes := #[] }
def k10m2 : Method := { name := "indexOf", desc := "([BIII)I", sig := { parameters := [(.array .byte), .int, .int, .int], returnType := some .int }, accessFlags := 9, code := some k10c2 }
def k10c3 : Code := { maxStack := 2, maxLocals := 6, code := jdk_43_method_23_code, exceptionTable := #[], attributes := #[] }
def k10m3 : Method := { name := "indexOfChar", desc := "([BIII)I", sig := { parameters := [(.array .byte), .int, .int, .int], returnType := some .int }, accessFlags := 10, code := some k10c3 }
/-- java/lang/StringLatin1 -/
def k10 : Class := { plain "java/lang/StringLatin1" (some 0) with
  accessFlags := 48
  interfaces := #[]
  cf := some (fileOf pool10 14 #[.nestMembers #[390, 221]] #[{ accessFlags := 0, nameIndex := 7, descriptorIndex := 8, attributes := #[] }, { accessFlags := 9, nameIndex := 90, descriptorIndex := 91, attributes := #[] }, { accessFlags := 9, nameIndex := 101, descriptorIndex := 98, attributes := #[] }, { accessFlags := 10, nameIndex := 97, descriptorIndex := 98, attributes := #[] }] 48 4 #[] #[{ accessFlags := 4120, nameIndex := 121, descriptorIndex := 122, attributes := #[] }])
  fields := #[{ name := "$assertionsDisabled", type := .boolean, accessFlags := 4120, slot := 0, constantValue := 0 }]
  methods := #[k10m0, k10m1, k10m2, k10m3]
  instanceTypes := #[]
  staticTypes := #[.boolean]
  resolved := Array.replicate 395 none
  statics := none }

def pool11 : Array CpInfo := pool [(1, .class_ 2), (0, u "java/lang/Math"), (1, .class_ 6), (1, u "java/lang/Object"), (0, u "<init>"), (0, u "()V"), (89, .class_ 100), (1, u "java/lang/Math$RandomNumberGeneratorHolder"), (71, u "negativeZeroFloatBits"), (0, u "J"), (2, u "negativeZeroDoubleBits"), (21, u "max"), (2, u "min"), (43, u "$assertionsDisabled"), (0, u "Z"), (88, u "(II)I"), (2, u "twoToTheDoubleScaleDown"), (0, u "D"), (4, u "twoToTheDoubleScaleUp"), (9, u "E"), (3, u "PI"), (2, u "TAU"), (2, u "DEGREES_TO_RADIANS"), (0, u "RADIANS_TO_DEGREES")] 94

def k11m0 : Method := { name := "<init>", desc := "()V", sig := { parameters := [], returnType := none }, accessFlags := 2, code := none }
def k11c1 : Code := { maxStack := 2, maxLocals := 2, code := jdk_29_method_65_code, exceptionTable := #[], attributes := #[] }
def k11m1 : Method := { name := "max", desc := "(II)I", sig := { parameters := [.int, .int], returnType := some .int }, accessFlags := 9, code := some k11c1 }
def k11c2 : Code := { maxStack := 2, maxLocals := 2, code := jdk_29_method_69_code, exceptionTable := #[], attributes := #[] }
def k11m2 : Method := { name := "min", desc := "(II)I", sig := { parameters := [.int, .int], returnType := some .int }, accessFlags := 9, code := some k11c2 }
/-- java/lang/Math -/
def k11 : Class := { plain "java/lang/Math" (some 0) with
  accessFlags := 49
  interfaces := #[]
  cf := some (fileOf pool11 1 #[.nestMembers #[98]] #[{ accessFlags := 2, nameIndex := 7, descriptorIndex := 8, attributes := #[] }, { accessFlags := 9, nameIndex := 198, descriptorIndex := 335, attributes := #[] }, { accessFlags := 9, nameIndex := 201, descriptorIndex := 335, attributes := #[] }] 49 4 #[] #[{ accessFlags := 25, nameIndex := 354, descriptorIndex := 339, attributes := #[] }, { accessFlags := 25, nameIndex := 358, descriptorIndex := 339, attributes := #[] }, { accessFlags := 25, nameIndex := 361, descriptorIndex := 339, attributes := #[] }, { accessFlags := 26, nameIndex := 364, descriptorIndex := 339, attributes := #[] }, { accessFlags := 26, nameIndex := 365, descriptorIndex := 339, attributes := #[] }, { accessFlags := 26, nameIndex := 172, descriptorIndex := 173, attributes := #[] }, { accessFlags := 26, nameIndex := 176, descriptorIndex := 173, attributes := #[] }, { accessFlags := 8, nameIndex := 344, descriptorIndex := 339, attributes := #[] }, { accessFlags := 8, nameIndex := 338, descriptorIndex := 339, attributes := #[] }, { accessFlags := 4120, nameIndex := 245, descriptorIndex := 246, attributes := #[] }])
  fields := #[{ name := "E", type := .double, accessFlags := 25, slot := 0, constantValue := 0 }, { name := "PI", type := .double, accessFlags := 25, slot := 1, constantValue := 0 }, { name := "TAU", type := .double, accessFlags := 25, slot := 2, constantValue := 0 }, { name := "DEGREES_TO_RADIANS", type := .double, accessFlags := 26, slot := 3, constantValue := 0 }, { name := "RADIANS_TO_DEGREES", type := .double, accessFlags := 26, slot := 4, constantValue := 0 }, { name := "negativeZeroFloatBits", type := .long, accessFlags := 26, slot := 5, constantValue := 0 }, { name := "negativeZeroDoubleBits", type := .long, accessFlags := 26, slot := 6, constantValue := 0 }, { name := "twoToTheDoubleScaleUp", type := .double, accessFlags := 8, slot := 7, constantValue := 0 }, { name := "twoToTheDoubleScaleDown", type := .double, accessFlags := 8, slot := 8, constantValue := 0 }, { name := "$assertionsDisabled", type := .boolean, accessFlags := 4120, slot := 9, constantValue := 0 }]
  methods := #[k11m0, k11m1, k11m2]
  instanceTypes := #[]
  staticTypes := #[.double, .double, .double, .double, .double, .long, .long, .double, .double, .boolean]
  resolved := Array.replicate 460 none
  statics := none }

def pool12 : Array CpInfo := pool [(3, .class_ 4), (0, u "java/lang/String"), (1, .class_ 8), (1, u "java/lang/Object"), (0, u "<init>"), (0, u "()V"), (0, .methodref 12 13), (0, .class_ 14), (0, .nameAndType 15 16), (0, u "java/lang/StringUTF16"), (0, u "newBytesLength"), (0, u "(I)I"), (3, .integer 1073741823), (23, .fieldref 12 45), (0, .nameAndType 46 47), (0, u "$assertionsDisabled"), (0, u "Z"), (0, .methodref 12 49), (0, .nameAndType 50 51), (0, u "length"), (0, u "([B)I"), (7, .fieldref 12 60), (0, .nameAndType 61 62), (0, u "HI_BYTE_SHIFT"), (0, u "I"), (0, .fieldref 12 64), (0, .nameAndType 65 62), (0, u "LO_BYTE_SHIFT"), (5, .methodref 12 72), (0, .nameAndType 73 74), (0, u "getChar"), (0, u "([BI)C"), (21, .methodref 12 97), (0, .nameAndType 98 99), (0, u "checkBoundsBeginEnd"), (0, u "(II[B)V"), (7, .methodref 12 108), (0, .nameAndType 109 110), (0, u "newBytesFor"), (0, u "(I)[B"), (0, .methodref 12 112), (0, .nameAndType 113 114), (0, u "putChar"), (0, u "([BII)V"), (0, .methodref 12 116), (0, .nameAndType 117 118), (0, u "compress"), (0, u "([CI[BII)I"), (0, .methodref 12 120), (0, .nameAndType 121 122), (0, u "toBytes"), (0, u "([CII)[B"), (60, .methodref 184 185), (0, .class_ 186), (0, .nameAndType 187 188), (0, u "java/lang/Math"), (0, u "min"), (0, u "(II)I"), (35, .methodref 184 225), (0, .nameAndType 226 188), (0, u "max"), (0, .integer 65536), (0, .methodref 12 229), (0, .nameAndType 230 231), (0, u "indexOfChar"), (0, u "([BIII)I"), (9, .methodref 3 242), (0, .nameAndType 98 243), (0, u "(III)V"), (0, .methodref 12 245), (0, .nameAndType 246 231), (0, u "indexOfCharUnsafe"), (14, u "coderFromArrayLen"), (0, u "([BI)B"), (5, u "indexOf"), (100, .class_ 371), (1, u "java/lang/StringUTF16$LinesSpliterator"), (58, u "MAX_LENGTH"), (196, .class_ 628), (0, u "java/lang/StringUTF16$CodePointsSpliterator"), (0, .class_ 630), (0, u "java/lang/StringUTF16$CharsSpliterator")] 4

def k12m0 : Method := { name := "<init>", desc := "()V", sig := { parameters := [], returnType := none }, accessFlags := 0, code := none }
def k12c1 : Code := { maxStack := 1, maxLocals := 1, code := jdk_52_method_2_code, exceptionTable := #[], attributes := #[] }
def k12m1 : Method := { name := "newBytesFor", desc := "(I)[B", sig := { parameters := [.int], returnType := some (.array .byte) }, accessFlags := 9, code := some k12c1 }
def k12c2 : Code := { maxStack := 4, maxLocals := 1, code := jdk_52_method_3_code, exceptionTable := #[], attributes := #[] }
def k12m2 : Method := { name := "newBytesLength", desc := "(I)I", sig := { parameters := [.int], returnType := some .int }, accessFlags := 9, code := some k12c2 }
def k12c3 : Code := { maxStack := 4, maxLocals := 3, code := jdk_52_method_4_code, exceptionTable := #[], attributes := #[] }
def k12m3 : Method := { name := "putChar", desc := "([BII)V", sig := { parameters := [(.array .byte), .int, .int], returnType := none }, accessFlags := 8, code := some k12c3 }
def k12c4 : Code := { maxStack := 3, maxLocals := 2, code := jdk_52_method_5_code, exceptionTable := #[], attributes := #[] }
def k12m4 : Method := { name := "getChar", desc := "([BI)C", sig := { parameters := [(.array .byte), .int], returnType := some .char }, accessFlags := 8, code := some k12c4 }
def k12c5 : Code := { maxStack := 2, maxLocals := 1, code := jdk_52_method_6_code, exceptionTable := #[], attributes := #[] }
def k12m5 : Method := { name := "length", desc := "([B)I", sig := { parameters := [(.array .byte)], returnType := some .int }, accessFlags := 9, code := some k12c5 }
def k12c6 : Code := { maxStack := 4, maxLocals := 5, code := jdk_52_method_14_code, exceptionTable := #[], attributes := #[] }
def k12m6 : Method := { name := "toBytes", desc := "([CII)[B", sig := { parameters := [(.array .char), .int, .int], returnType := some (.array .byte) }, accessFlags := 9, code := some k12c6 }
def k12c7 : Code := { maxStack := 2, maxLocals := 2, code := jdk_52_method_15_code, exceptionTable := #[], attributes := #[] }
def k12m7 : Method := { name := "coderFromArrayLen", desc := "([BI)B", sig := { parameters := [(.array .byte), .int], returnType := some .byte }, accessFlags := 8, code := some k12c7 }
def k12c8 : Code := { maxStack := 5, maxLocals := 6, code := jdk_52_method_16_code, exceptionTable := #[], attributes := #[] }
def k12m8 : Method := { name := "compress", desc := "([CII)[B", sig := { parameters := [(.array .char), .int, .int], returnType := some (.array .byte) }, accessFlags := 9, code := some k12c8 }
def k12c9 : Code := { maxStack := 3, maxLocals := 7, code := jdk_52_method_21_code, exceptionTable := #[], attributes := #[] }
def k12m9 : Method := { name := "compress", desc := "([CI[BII)I", sig := { parameters := [(.array .char), .int, (.array .byte), .int, .int], returnType := some .int }, accessFlags := 9, code := some k12c9 }
def k12c10 : Code := { maxStack := 4, maxLocals := 4, code := jdk_52_method_40_code, exceptionTable := #[], attributes := #[] }
def k12m10 : Method := { name := "indexOf", desc := "([BIII)I", sig := { parameters := [(.array .byte), .int, .int, .int], returnType := some .int }, accessFlags := 9, code := some k12c10 }
def k12c11 : Code := { maxStack := 4, maxLocals := 4, code := jdk_52_method_47_code, exceptionTable := #[], attributes := #[] }
def k12m11 : Method := { name := "indexOfChar", desc := "([BIII)I", sig := { parameters := [(.array .byte), .int, .int, .int], returnType := some .int }, accessFlags := 10, code := some k12c11 }
def k12c12 : Code := { maxStack := 2, maxLocals := 5, code := jdk_52_method_48_code, exceptionTable := #[], attributes := #[] }
def k12m12 : Method := { name := "indexOfCharUnsafe", desc := "([BIII)I", sig := { parameters := [(.array .byte), .int, .int, .int], returnType := some .int }, accessFlags := 10, code := some k12c12 }
def k12c13 : Code := { maxStack := 3, maxLocals := 3, code := jdk_52_method_93_code, exceptionTable := #[], attributes := #[] }
def k12m13 : Method := { name := "checkBoundsBeginEnd", desc := "(II[B)V", sig := { parameters := [.int, .int, (.array .byte)], returnType := none }, accessFlags := 9, code := some k12c13 }
/-- java/lang/StringUTF16 -/
def k12 : Class := { plain "java/lang/StringUTF16" (some 0) with
  accessFlags := 48
  interfaces := #[]
  cf := some (fileOf pool12 12 #[.nestMembers #[627, 629, 369]] #[{ accessFlags := 0, nameIndex := 9, descriptorIndex := 10, attributes := #[] }, { accessFlags := 9, nameIndex := 109, descriptorIndex := 110, attributes := #[] }, { accessFlags := 9, nameIndex := 15, descriptorIndex := 16, attributes := #[] }, { accessFlags := 8, nameIndex := 113, descriptorIndex := 114, attributes := #[] }, { accessFlags := 8, nameIndex := 73, descriptorIndex := 74, attributes := #[] }, { accessFlags := 9, nameIndex := 50, descriptorIndex := 51, attributes := #[] }, { accessFlags := 9, nameIndex := 121, descriptorIndex := 122, attributes := #[] }, { accessFlags := 8, nameIndex := 261, descriptorIndex := 262, attributes := #[] }, { accessFlags := 9, nameIndex := 117, descriptorIndex := 122, attributes := #[] }, { accessFlags := 9, nameIndex := 117, descriptorIndex := 118, attributes := #[] }, { accessFlags := 9, nameIndex := 268, descriptorIndex := 231, attributes := #[] }, { accessFlags := 10, nameIndex := 230, descriptorIndex := 231, attributes := #[] }, { accessFlags := 10, nameIndex := 246, descriptorIndex := 231, attributes := #[] }, { accessFlags := 9, nameIndex := 98, descriptorIndex := 99, attributes := #[] }] 48 6 #[] #[{ accessFlags := 26, nameIndex := 61, descriptorIndex := 62, attributes := #[] }, { accessFlags := 26, nameIndex := 65, descriptorIndex := 62, attributes := #[] }, { accessFlags := 24, nameIndex := 430, descriptorIndex := 62, attributes := #[] }, { accessFlags := 4120, nameIndex := 46, descriptorIndex := 47, attributes := #[] }])
  fields := #[{ name := "HI_BYTE_SHIFT", type := .int, accessFlags := 26, slot := 0, constantValue := 0 }, { name := "LO_BYTE_SHIFT", type := .int, accessFlags := 26, slot := 1, constantValue := 0 }, { name := "MAX_LENGTH", type := .int, accessFlags := 24, slot := 2, constantValue := 0 }, { name := "$assertionsDisabled", type := .boolean, accessFlags := 4120, slot := 3, constantValue := 0 }]
  methods := #[k12m0, k12m1, k12m2, k12m3, k12m4, k12m5, k12m6, k12m7, k12m8, k12m9, k12m10, k12m11, k12m12, k12m13]
  instanceTypes := #[]
  staticTypes := #[.int, .int, .int, .boolean]
  resolved := Array.replicate 635 none
  statics := some 1 }

def pool13 : Array CpInfo := pool [(2, .class_ 4), (1, u "java/lang/Object"), (0, u "<init>"), (0, u "()V"), (17, .class_ 26), (1, u "jdk/internal/util/Preconditions"), (20, u "checkFromToIndex"), (7, .class_ 56), (0, u "jdk/internal/util/Preconditions$4"), (57, .class_ 115), (0, u "jdk/internal/util/Preconditions$1"), (7, u "SIOOBE_FORMATTER"), (0, u "Ljava/util/function/BiFunction;"), (0, .class_ 126), (0, u "jdk/internal/util/Preconditions$2"), (3, u "AIOOBE_FORMATTER"), (0, .class_ 132), (0, u "jdk/internal/util/Preconditions$3"), (3, u "IOOBE_FORMATTER"), (46, u "(IIILjava/util/function/BiFunction;)I")] 10

def k13m0 : Method := { name := "<init>", desc := "()V", sig := { parameters := [], returnType := none }, accessFlags := 1, code := none }
def k13c1 : Code := { maxStack := 4, maxLocals := 4, code := jdk_41_method_12_code, exceptionTable := #[], attributes := #[] }
def k13m1 : Method := { name := "checkFromToIndex", desc := "(IIILjava/util/function/BiFunction;)I", sig := { parameters := [.int, .int, .int, (.object "java/util/function/BiFunction")], returnType := some .int }, accessFlags := 9, code := some k13c1 }
/-- jdk/internal/util/Preconditions -/
def k13 : Class := { plain "jdk/internal/util/Preconditions" (some 0) with
  accessFlags := 33
  interfaces := #[]
  cf := some (fileOf pool13 24 #[.nestMembers #[55, 131, 125, 114]] #[{ accessFlags := 1, nameIndex := 5, descriptorIndex := 6, attributes := #[] }, { accessFlags := 9, nameIndex := 47, descriptorIndex := 183, attributes := #[] }] 33 2 #[] #[{ accessFlags := 25, nameIndex := 123, descriptorIndex := 124, attributes := #[] }, { accessFlags := 25, nameIndex := 130, descriptorIndex := 124, attributes := #[] }, { accessFlags := 25, nameIndex := 136, descriptorIndex := 124, attributes := #[] }])
  fields := #[{ name := "SIOOBE_FORMATTER", type := (.object "java/util/function/BiFunction"), accessFlags := 25, slot := 0, constantValue := 0 }, { name := "AIOOBE_FORMATTER", type := (.object "java/util/function/BiFunction"), accessFlags := 25, slot := 1, constantValue := 0 }, { name := "IOOBE_FORMATTER", type := (.object "java/util/function/BiFunction"), accessFlags := 25, slot := 2, constantValue := 0 }]
  methods := #[k13m0, k13m1]
  instanceTypes := #[]
  staticTypes := #[(.object "java/util/function/BiFunction"), (.object "java/util/function/BiFunction"), (.object "java/util/function/BiFunction")]
  resolved := Array.replicate 194 none
  statics := some 2 }

def pool14 : Array CpInfo := pool [(9, u "<init>"), (6, .class_ 18), (1, u "java/lang/Object"), (0, u "()V"), (1, .class_ 23), (1, u "jdk/internal/util/ArraysSupport"), (0, u "LOG2_ARRAY_LONG_INDEX_SCALE"), (0, u "I"), (2, u "U"), (0, u "Ljdk/internal/misc/Unsafe;"), (8, u "BIG_ENDIAN"), (0, u "Z"), (8, u "LOG2_BYTE_BIT_SIZE"), (4, u "LOG2_ARRAY_INT_INDEX_SCALE"), (54, u "JLA"), (0, u "Ljdk/internal/access/JavaLangAccess;"), (11, u "LOG2_ARRAY_BOOLEAN_INDEX_SCALE"), (9, u "LOG2_ARRAY_BYTE_INDEX_SCALE"), (5, u "LOG2_ARRAY_CHAR_INDEX_SCALE"), (5, u "LOG2_ARRAY_SHORT_INDEX_SCALE"), (18, u "LOG2_ARRAY_FLOAT_INDEX_SCALE"), (24, u "LOG2_ARRAY_DOUBLE_INDEX_SCALE"), (89, u "T_BOOLEAN"), (2, u "T_CHAR"), (1, u "T_FLOAT"), (1, u "T_DOUBLE"), (1, u "T_BYTE"), (1, u "T_SHORT"), (1, u "T_INT"), (1, u "T_LONG"), (1, u "SOFT_MAX_ARRAY_LENGTH")] 83

def k14m0 : Method := { name := "<init>", desc := "()V", sig := { parameters := [], returnType := none }, accessFlags := 2, code := none }
/-- jdk/internal/util/ArraysSupport -/
def k14 : Class := { plain "jdk/internal/util/ArraysSupport" (some 0) with
  accessFlags := 33
  interfaces := #[]
  cf := some (fileOf pool14 21 #[] #[{ accessFlags := 2, nameIndex := 9, descriptorIndex := 19, attributes := #[] }] 33 16 #[] #[{ accessFlags := 24, nameIndex := 28, descriptorIndex := 29, attributes := #[] }, { accessFlags := 26, nameIndex := 38, descriptorIndex := 39, attributes := #[] }, { accessFlags := 25, nameIndex := 121, descriptorIndex := 25, attributes := #[] }, { accessFlags := 25, nameIndex := 131, descriptorIndex := 25, attributes := #[] }, { accessFlags := 25, nameIndex := 137, descriptorIndex := 25, attributes := #[] }, { accessFlags := 25, nameIndex := 143, descriptorIndex := 25, attributes := #[] }, { accessFlags := 25, nameIndex := 53, descriptorIndex := 25, attributes := #[] }, { accessFlags := 25, nameIndex := 24, descriptorIndex := 25, attributes := #[] }, { accessFlags := 25, nameIndex := 162, descriptorIndex := 25, attributes := #[] }, { accessFlags := 25, nameIndex := 187, descriptorIndex := 25, attributes := #[] }, { accessFlags := 26, nameIndex := 48, descriptorIndex := 25, attributes := #[] }, { accessFlags := 25, nameIndex := 277, descriptorIndex := 25, attributes := #[] }, { accessFlags := 25, nameIndex := 280, descriptorIndex := 25, attributes := #[] }, { accessFlags := 25, nameIndex := 282, descriptorIndex := 25, attributes := #[] }, { accessFlags := 25, nameIndex := 284, descriptorIndex := 25, attributes := #[] }, { accessFlags := 25, nameIndex := 286, descriptorIndex := 25, attributes := #[] }, { accessFlags := 25, nameIndex := 288, descriptorIndex := 25, attributes := #[] }, { accessFlags := 25, nameIndex := 290, descriptorIndex := 25, attributes := #[] }, { accessFlags := 25, nameIndex := 292, descriptorIndex := 25, attributes := #[] }, { accessFlags := 26, nameIndex := 108, descriptorIndex := 109, attributes := #[] }, { accessFlags := 25, nameIndex := 294, descriptorIndex := 25, attributes := #[] }])
  fields := #[{ name := "U", type := (.object "jdk/internal/misc/Unsafe"), accessFlags := 24, slot := 0, constantValue := 0 }, { name := "BIG_ENDIAN", type := .boolean, accessFlags := 26, slot := 1, constantValue := 0 }, { name := "LOG2_ARRAY_BOOLEAN_INDEX_SCALE", type := .int, accessFlags := 25, slot := 2, constantValue := 0 }, { name := "LOG2_ARRAY_BYTE_INDEX_SCALE", type := .int, accessFlags := 25, slot := 3, constantValue := 0 }, { name := "LOG2_ARRAY_CHAR_INDEX_SCALE", type := .int, accessFlags := 25, slot := 4, constantValue := 0 }, { name := "LOG2_ARRAY_SHORT_INDEX_SCALE", type := .int, accessFlags := 25, slot := 5, constantValue := 0 }, { name := "LOG2_ARRAY_INT_INDEX_SCALE", type := .int, accessFlags := 25, slot := 6, constantValue := 0 }, { name := "LOG2_ARRAY_LONG_INDEX_SCALE", type := .int, accessFlags := 25, slot := 7, constantValue := 0 }, { name := "LOG2_ARRAY_FLOAT_INDEX_SCALE", type := .int, accessFlags := 25, slot := 8, constantValue := 0 }, { name := "LOG2_ARRAY_DOUBLE_INDEX_SCALE", type := .int, accessFlags := 25, slot := 9, constantValue := 0 }, { name := "LOG2_BYTE_BIT_SIZE", type := .int, accessFlags := 26, slot := 10, constantValue := 0 }, { name := "T_BOOLEAN", type := .int, accessFlags := 25, slot := 11, constantValue := 0 }, { name := "T_CHAR", type := .int, accessFlags := 25, slot := 12, constantValue := 0 }, { name := "T_FLOAT", type := .int, accessFlags := 25, slot := 13, constantValue := 0 }, { name := "T_DOUBLE", type := .int, accessFlags := 25, slot := 14, constantValue := 0 }, { name := "T_BYTE", type := .int, accessFlags := 25, slot := 15, constantValue := 0 }, { name := "T_SHORT", type := .int, accessFlags := 25, slot := 16, constantValue := 0 }, { name := "T_INT", type := .int, accessFlags := 25, slot := 17, constantValue := 0 }, { name := "T_LONG", type := .int, accessFlags := 25, slot := 18, constantValue := 0 }, { name := "JLA", type := (.object "jdk/internal/access/JavaLangAccess"), accessFlags := 26, slot := 19, constantValue := 0 }, { name := "SOFT_MAX_ARRAY_LENGTH", type := .int, accessFlags := 25, slot := 20, constantValue := 0 }]
  methods := #[k14m0]
  instanceTypes := #[]
  staticTypes := #[(.object "jdk/internal/misc/Unsafe"), .boolean, .int, .int, .int, .int, .int, .int, .int, .int, .int, .int, .int, .int, .int, .int, .int, .int, .int, (.object "jdk/internal/access/JavaLangAccess"), .int]
  resolved := Array.replicate 378 none
  statics := none }

def pool15 : Array CpInfo := pool [(1, u "java/lang/Cloneable"), (0, .class_ 1), (0, u "java/lang/Object"), (0, .class_ 3)] 3

/-- java/lang/Cloneable -/
def k15 : Class := { plain "java/lang/Cloneable" (some 0) with
  accessFlags := 1537
  interfaces := #[]
  cf := some (fileOf pool15 2 #[] #[] 1537 4 #[] #[])
  fields := #[]
  methods := #[]
  instanceTypes := #[]
  staticTypes := #[]
  resolved := Array.replicate 8 none
  statics := none }

/-- the primitive byte -/
def k16 : Class := { plain "byte" none with kind := .primitive 'B', accessFlags := 0x411 }
/-- [B -/
def k17 : Class := { plain "[B" (some 0) with kind := .array 16 .byte, interfaces := #[15, 2], accessFlags := 1041 }

/-- the primitive char -/
def k18 : Class := { plain "char" none with kind := .primitive 'C', accessFlags := 0x411 }
/-- [C -/
def k19 : Class := { plain "[C" (some 0) with kind := .array 18 .char, interfaces := #[15, 2], accessFlags := 1041 }

/-- the primitive int -/
def k20 : Class := { plain "int" none with kind := .primitive 'I', accessFlags := 0x411 }
/-- [I -/
def k21 : Class := { plain "[I" (some 0) with kind := .array 20 .int, interfaces := #[15, 2], accessFlags := 1041 }

def heap : Heap := #[{ cls := 7, slots := #[.long 0, .int 1, .null, .int 0, .null, .int 0, .int 0], vm := .statics 7 },
  { cls := 12, slots := #[.int 0, .int 8, .int 0, .int 1], vm := .statics 12 },
  { cls := 13, slots := #[.null, .null, .null], vm := .statics 13 }]
def classes : Array Class := #[k0, k1, k2, k3, k4, k5, k6, k7, k8, k9, k10, k11, k12, k13, k14, k15, k16, k17, k18, k19, k20, k21]
def interned : List (Array UInt16 × Addr) := []
def slotsUsed : Nat := 14
def theMethod : MethodId := ⟨1, 2⟩
def args0 : Array Value := #[.int 1, .int 66, .int 67, .int 68]
def aboutOver (below : List Frame) : State where
  vm := { classes := classes, interned := interned.toArray }
  heap := heap
  slotsUsed := slotsUsed
  threads := #[{ frames := .invoking theMethod args0 :: below }]
def below0 : List Frame := [.native { method := ⟨0, 0⟩, args := #[] }]
def about1 : State := aboutOver below0
def p0 : Program := .bare "" "" ""
def e0 : Env := launch0.env 0 0 0
theorem w_frames : about1.frames = Frame.invoking theMethod args0 :: below0 := rfl
set_option maxRecDepth 65536 in
theorem w_args : argsFit about1.vm theMethod args0 = true := by decide +kernel
set_option maxRecDepth 65536 in
theorem w_heap : heapFits about1 = true := by decide +kernel
set_option maxRecDepth 65536 in
theorem w_runnable : about1.curStatus? = some .runnable := by decide +kernel
set_option maxRecDepth 65536 in
theorem w_alone : about1.alone = true := by decide +kernel
set_option maxRecDepth 65536 in
theorem w_named : about1.methodNamed? x = some theMethod := by decide +kernel
set_option maxRecDepth 65536 in
theorem w_hears : about1.hears theMethod below0 = true := by decide +kernel
set_option maxRecDepth 65536 in
theorem w_ripe : about1.ripe theMethod args0 below0 = true := by decide +kernel
theorem w_running : about1.status = .running := rfl
set_option maxRecDepth 65536 in
theorem w_room : about1.hasRoom e0.platform room_1 = true :=
  launch0.hasRoom_least _ room_1 (by decide +kernel) (by decide +kernel) (by decide +kernel) (by decide +kernel) (by decide +kernel) (by decide +kernel)
theorem allAtoms_all (ts : List Jvm.Cond) (a : Array Jvm.Value) (st : Jvm.State) : (allAtoms ts).before a st = ts.all (fun c => c.before a st) := by
  induction ts with
  | nil => rfl
  | cons c t ih =>
    show (Jvm.Cond.and c (allAtoms t)).before a st = _
    rw [Jvm.Cond.before_and, ih, List.all_cons]
def words1 : List Jvm.Cond := Jvm.Cond.code x code maxLocals ret :: tables_1
/-- a 'code' word, met by the world's own term for the bytes: nothing is compared byte by byte -/
theorem code_word {y : MethodName} {bytes : ByteArray} {mx : Nat} {rt : Option FieldType} {a : Array Value} {s : State} {m : MethodId} {meth : Method} {c : Code} (h1 : s.methodNamed? y = some m) (h2 : s.vm.method? m = some meth) (h3 : meth.code = some c) (h4 : c.code = bytes)
    (h5 : (c.maxLocals == mx && c.exceptionTable.isEmpty && decide (c.maxStack ≤ mostOperands) && decide (meth.sig.returnType = rt) && !meth.locks && decide (parseMethodDescriptor y.desc = some meth.sig)) = true) : (Jvm.Cond.code y bytes mx rt).before a s = true := by
  simp only [Bool.and_eq_true, beq_iff_eq, Bool.not_eq_true', decide_eq_true_eq] at h5
  obtain ⟨⟨⟨⟨⟨g1, g2⟩, g3⟩, g4⟩, g5⟩, g6⟩ := h5
  simp [Cond.before, Cond.holds, Cond.value, h1, h2, h3, h4, g1, g2, g3, g4, g5, g6]
def isCode : Jvm.Cond → Bool
  | .code _ _ _ _ => true
  | _ => false
theorem all_split {L : List Jvm.Cond} {P : Jvm.Cond → Bool} (h1 : L.all (fun c => isCode c || P c) = true) (h2 : ∀ c ∈ L.filter isCode, P c = true) : L.all P = true := by
  refine List.all_eq_true.mpr fun c hc => ?_
  have h := List.all_eq_true.mp h1 c hc
  rcases Bool.eq_false_or_eq_true (isCode c) with hi | hi
  · exact h2 c (List.mem_filter.mpr ⟨hc, hi⟩)
  · simpa [hi] using h
set_option maxRecDepth 65536 in
theorem w_c0 : (Jvm.Cond.code x code maxLocals ret).before args0 about1 = true := code_word (m := ⟨1, 2⟩) (meth := k1m2) (c := k1c2) (by decide +kernel) rfl rfl rfl (by decide +kernel)
set_option maxRecDepth 65536 in
theorem w_c1 : (Jvm.Cond.code ({ cls := "java/lang/String", name := "<init>", desc := "([C)V" } : Jvm.MethodName) jdk_42_method_3_code (2 : Nat) (Option.none : Option Jvm.ClassFile.FieldType)).before args0 about1 = true := code_word (m := ⟨7, 1⟩) (meth := k7m1) (c := k7c1) (by decide +kernel) rfl rfl rfl (by decide +kernel)
set_option maxRecDepth 65536 in
theorem w_c2 : (Jvm.Cond.code ({ cls := "java/lang/String", name := "<init>", desc := "([CIILjava/lang/Void;)V" } : Jvm.MethodName) jdk_42_method_149_code (6 : Nat) (Option.none : Option Jvm.ClassFile.FieldType)).before args0 about1 = true := code_word (m := ⟨7, 5⟩) (meth := k7m5) (c := k7c5) (by decide +kernel) rfl rfl rfl (by decide +kernel)
set_option maxRecDepth 65536 in
theorem w_c3 : (Jvm.Cond.code ({ cls := "java/lang/Object", name := "<init>", desc := "()V" } : Jvm.MethodName) object_method_1_code (1 : Nat) (Option.none : Option Jvm.ClassFile.FieldType)).before args0 about1 = true := code_word (m := ⟨0, 0⟩) (meth := k0m0) (c := k0c0) (by decide +kernel) rfl rfl rfl (by decide +kernel)
set_option maxRecDepth 65536 in
theorem w_c4 : (Jvm.Cond.code ({ cls := "com/example/setnix/setnix/model/LockName", name := "checkPrefix", desc := "(Ljava/lang/String;)V" } : Jvm.MethodName) prog_17_method_4_code (2 : Nat) (Option.none : Option Jvm.ClassFile.FieldType)).before args0 about1 = true := code_word (m := ⟨8, 0⟩) (meth := k8m0) (c := k8c0) (by decide +kernel) rfl rfl rfl (by decide +kernel)
set_option maxRecDepth 65536 in
theorem w_c5 : (Jvm.Cond.code ({ cls := "java/util/Objects", name := "requireNonNull", desc := "(Ljava/lang/Object;Ljava/lang/String;)Ljava/lang/Object;" } : Jvm.MethodName) jdk_31_method_11_code (2 : Nat) (Option.some (Jvm.ClassFile.FieldType.object "java/lang/Object"))).before args0 about1 = true := code_word (m := ⟨9, 1⟩) (meth := k9m1) (c := k9c1) (by decide +kernel) rfl rfl rfl (by decide +kernel)
set_option maxRecDepth 65536 in
theorem w_c6 : (Jvm.Cond.code ({ cls := "com/example/setnix/setnix/model/LockName", name := "braceIndex", desc := "(Ljava/lang/String;)I" } : Jvm.MethodName) prog_17_method_6_code (2 : Nat) (Option.some Jvm.ClassFile.FieldType.int)).before args0 about1 = true := code_word (m := ⟨8, 1⟩) (meth := k8m1) (c := k8c1) (by decide +kernel) rfl rfl rfl (by decide +kernel)
set_option maxRecDepth 65536 in
theorem w_c7 : (Jvm.Cond.code ({ cls := "java/lang/String", name := "indexOf", desc := "(I)I" } : Jvm.MethodName) jdk_42_method_79_code (2 : Nat) (Option.some Jvm.ClassFile.FieldType.int)).before args0 about1 = true := code_word (m := ⟨7, 3⟩) (meth := k7m3) (c := k7c3) (by decide +kernel) rfl rfl rfl (by decide +kernel)
set_option maxRecDepth 65536 in
theorem w_c8 : (Jvm.Cond.code ({ cls := "java/lang/String", name := "indexOf", desc := "(II)I" } : Jvm.MethodName) jdk_42_method_80_code (3 : Nat) (Option.some Jvm.ClassFile.FieldType.int)).before args0 about1 = true := code_word (m := ⟨7, 4⟩) (meth := k7m4) (c := k7c4) (by decide +kernel) rfl rfl rfl (by decide +kernel)
set_option maxRecDepth 65536 in
theorem w_c9 : (Jvm.Cond.code ({ cls := "java/lang/String", name := "isLatin1", desc := "()Z" } : Jvm.MethodName) jdk_42_method_154_code (1 : Nat) (Option.some Jvm.ClassFile.FieldType.boolean)).before args0 about1 = true := code_word (m := ⟨7, 7⟩) (meth := k7m7) (c := k7c7) (by decide +kernel) rfl rfl rfl (by decide +kernel)
set_option maxRecDepth 65536 in
theorem w_c10 : (Jvm.Cond.code ({ cls := "java/lang/String", name := "length", desc := "()I" } : Jvm.MethodName) jdk_42_method_54_code (1 : Nat) (Option.some Jvm.ClassFile.FieldType.int)).before args0 about1 = true := code_word (m := ⟨7, 2⟩) (meth := k7m2) (c := k7c2) (by decide +kernel) rfl rfl rfl (by decide +kernel)
set_option maxRecDepth 65536 in
theorem w_c11 : (Jvm.Cond.code ({ cls := "java/lang/String", name := "coder", desc := "()B" } : Jvm.MethodName) jdk_42_method_152_code (1 : Nat) (Option.some Jvm.ClassFile.FieldType.byte)).before args0 about1 = true := code_word (m := ⟨7, 6⟩) (meth := k7m6) (c := k7c6) (by decide +kernel) rfl rfl rfl (by decide +kernel)
set_option maxRecDepth 65536 in
theorem w_c12 : (Jvm.Cond.code ({ cls := "java/lang/StringLatin1", name := "indexOf", desc := "([BIII)I" } : Jvm.MethodName) jdk_43_method_22_code (4 : Nat) (Option.some Jvm.ClassFile.FieldType.int)).before args0 about1 = true := code_word (m := ⟨10, 2⟩) (meth := k10m2) (c := k10c2) (by decide +kernel) rfl rfl rfl (by decide +kernel)
set_option maxRecDepth 65536 in
theorem w_c13 : (Jvm.Cond.code ({ cls := "java/lang/StringLatin1", name := "canEncode", desc := "(I)Z" } : Jvm.MethodName) jdk_43_method_4_code (1 : Nat) (Option.some Jvm.ClassFile.FieldType.boolean)).before args0 about1 = true := code_word (m := ⟨10, 1⟩) (meth := k10m1) (c := k10c1) (by decide +kernel) rfl rfl rfl (by decide +kernel)
set_option maxRecDepth 65536 in
theorem w_c14 : (Jvm.Cond.code ({ cls := "java/lang/Math", name := "max", desc := "(II)I" } : Jvm.MethodName) jdk_29_method_65_code (2 : Nat) (Option.some Jvm.ClassFile.FieldType.int)).before args0 about1 = true := code_word (m := ⟨11, 1⟩) (meth := k11m1) (c := k11c1) (by decide +kernel) rfl rfl rfl (by decide +kernel)
set_option maxRecDepth 65536 in
theorem w_c15 : (Jvm.Cond.code ({ cls := "java/lang/Math", name := "min", desc := "(II)I" } : Jvm.MethodName) jdk_29_method_69_code (2 : Nat) (Option.some Jvm.ClassFile.FieldType.int)).before args0 about1 = true := code_word (m := ⟨11, 2⟩) (meth := k11m2) (c := k11c2) (by decide +kernel) rfl rfl rfl (by decide +kernel)
set_option maxRecDepth 65536 in
theorem w_c16 : (Jvm.Cond.code ({ cls := "com/example/setnix/setnix/model/LockNameCheckPrefixPinLaw", name := "isBrace", desc := "(C)Z" } : Jvm.MethodName) method_2_code (1 : Nat) (Option.some Jvm.ClassFile.FieldType.boolean)).before args0 about1 = true := code_word (m := ⟨1, 1⟩) (meth := k1m1) (c := k1c1) (by decide +kernel) rfl rfl rfl (by decide +kernel)
set_option maxRecDepth 65536 in
theorem w_c17 : (Jvm.Cond.code ({ cls := "java/lang/StringUTF16", name := "compress", desc := "([CII)[B" } : Jvm.MethodName) jdk_52_method_16_code (6 : Nat) (Option.some (Jvm.ClassFile.FieldType.array Jvm.ClassFile.FieldType.byte))).before args0 about1 = true := code_word (m := ⟨12, 8⟩) (meth := k12m8) (c := k12c8) (by decide +kernel) rfl rfl rfl (by decide +kernel)
set_option maxRecDepth 65536 in
theorem w_c18 : (Jvm.Cond.code ({ cls := "java/lang/StringUTF16", name := "compress", desc := "([CI[BII)I" } : Jvm.MethodName) jdk_52_method_21_code (7 : Nat) (Option.some Jvm.ClassFile.FieldType.int)).before args0 about1 = true := code_word (m := ⟨12, 9⟩) (meth := k12m9) (c := k12c9) (by decide +kernel) rfl rfl rfl (by decide +kernel)
set_option maxRecDepth 65536 in
theorem w_c19 : (Jvm.Cond.code ({ cls := "java/lang/StringUTF16", name := "coderFromArrayLen", desc := "([BI)B" } : Jvm.MethodName) jdk_52_method_15_code (2 : Nat) (Option.some Jvm.ClassFile.FieldType.byte)).before args0 about1 = true := code_word (m := ⟨12, 7⟩) (meth := k12m7) (c := k12c7) (by decide +kernel) rfl rfl rfl (by decide +kernel)
set_option maxRecDepth 65536 in
theorem w_c20 : (Jvm.Cond.code ({ cls := "java/lang/StringLatin1", name := "indexOfChar", desc := "([BIII)I" } : Jvm.MethodName) jdk_43_method_23_code (6 : Nat) (Option.some Jvm.ClassFile.FieldType.int)).before args0 about1 = true := code_word (m := ⟨10, 3⟩) (meth := k10m3) (c := k10c3) (by decide +kernel) rfl rfl rfl (by decide +kernel)
set_option maxRecDepth 65536 in
theorem w_c21 : (Jvm.Cond.code ({ cls := "java/lang/StringUTF16", name := "toBytes", desc := "([CII)[B" } : Jvm.MethodName) jdk_52_method_14_code (5 : Nat) (Option.some (Jvm.ClassFile.FieldType.array Jvm.ClassFile.FieldType.byte))).before args0 about1 = true := code_word (m := ⟨12, 6⟩) (meth := k12m6) (c := k12c6) (by decide +kernel) rfl rfl rfl (by decide +kernel)
set_option maxRecDepth 65536 in
theorem w_c22 : (Jvm.Cond.code ({ cls := "java/lang/StringUTF16", name := "newBytesFor", desc := "(I)[B" } : Jvm.MethodName) jdk_52_method_2_code (1 : Nat) (Option.some (Jvm.ClassFile.FieldType.array Jvm.ClassFile.FieldType.byte))).before args0 about1 = true := code_word (m := ⟨12, 1⟩) (meth := k12m1) (c := k12c1) (by decide +kernel) rfl rfl rfl (by decide +kernel)
set_option maxRecDepth 65536 in
theorem w_c23 : (Jvm.Cond.code ({ cls := "java/lang/StringUTF16", name := "newBytesLength", desc := "(I)I" } : Jvm.MethodName) jdk_52_method_3_code (1 : Nat) (Option.some Jvm.ClassFile.FieldType.int)).before args0 about1 = true := code_word (m := ⟨12, 2⟩) (meth := k12m2) (c := k12c2) (by decide +kernel) rfl rfl rfl (by decide +kernel)
set_option maxRecDepth 65536 in
theorem w_c24 : (Jvm.Cond.code ({ cls := "java/lang/StringUTF16", name := "putChar", desc := "([BII)V" } : Jvm.MethodName) jdk_52_method_4_code (3 : Nat) (Option.none : Option Jvm.ClassFile.FieldType)).before args0 about1 = true := code_word (m := ⟨12, 3⟩) (meth := k12m3) (c := k12c3) (by decide +kernel) rfl rfl rfl (by decide +kernel)
set_option maxRecDepth 65536 in
theorem w_c25 : (Jvm.Cond.code ({ cls := "java/lang/StringUTF16", name := "getChar", desc := "([BI)C" } : Jvm.MethodName) jdk_52_method_5_code (2 : Nat) (Option.some Jvm.ClassFile.FieldType.char)).before args0 about1 = true := code_word (m := ⟨12, 4⟩) (meth := k12m4) (c := k12c4) (by decide +kernel) rfl rfl rfl (by decide +kernel)
set_option maxRecDepth 65536 in
theorem w_c26 : (Jvm.Cond.code ({ cls := "java/lang/StringUTF16", name := "indexOf", desc := "([BIII)I" } : Jvm.MethodName) jdk_52_method_40_code (4 : Nat) (Option.some Jvm.ClassFile.FieldType.int)).before args0 about1 = true := code_word (m := ⟨12, 10⟩) (meth := k12m10) (c := k12c10) (by decide +kernel) rfl rfl rfl (by decide +kernel)
set_option maxRecDepth 65536 in
theorem w_c27 : (Jvm.Cond.code ({ cls := "java/lang/StringUTF16", name := "indexOfChar", desc := "([BIII)I" } : Jvm.MethodName) jdk_52_method_47_code (4 : Nat) (Option.some Jvm.ClassFile.FieldType.int)).before args0 about1 = true := code_word (m := ⟨12, 11⟩) (meth := k12m11) (c := k12c11) (by decide +kernel) rfl rfl rfl (by decide +kernel)
set_option maxRecDepth 65536 in
theorem w_c28 : (Jvm.Cond.code ({ cls := "java/lang/StringUTF16", name := "checkBoundsBeginEnd", desc := "(II[B)V" } : Jvm.MethodName) jdk_52_method_93_code (3 : Nat) (Option.none : Option Jvm.ClassFile.FieldType)).before args0 about1 = true := code_word (m := ⟨12, 13⟩) (meth := k12m13) (c := k12c13) (by decide +kernel) rfl rfl rfl (by decide +kernel)
set_option maxRecDepth 65536 in
theorem w_c29 : (Jvm.Cond.code ({ cls := "java/lang/StringUTF16", name := "length", desc := "([B)I" } : Jvm.MethodName) jdk_52_method_6_code (1 : Nat) (Option.some Jvm.ClassFile.FieldType.int)).before args0 about1 = true := code_word (m := ⟨12, 5⟩) (meth := k12m5) (c := k12c5) (by decide +kernel) rfl rfl rfl (by decide +kernel)
set_option maxRecDepth 65536 in
theorem w_c30 : (Jvm.Cond.code ({ cls := "java/lang/String", name := "checkBoundsBeginEnd", desc := "(III)V" } : Jvm.MethodName) jdk_42_method_158_code (3 : Nat) (Option.none : Option Jvm.ClassFile.FieldType)).before args0 about1 = true := code_word (m := ⟨7, 8⟩) (meth := k7m8) (c := k7c8) (by decide +kernel) rfl rfl rfl (by decide +kernel)
set_option maxRecDepth 65536 in
theorem w_c31 : (Jvm.Cond.code ({ cls := "jdk/internal/util/Preconditions", name := "checkFromToIndex", desc := "(IIILjava/util/function/BiFunction;)I" } : Jvm.MethodName) jdk_41_method_12_code (4 : Nat) (Option.some Jvm.ClassFile.FieldType.int)).before args0 about1 = true := code_word (m := ⟨13, 1⟩) (meth := k13m1) (c := k13c1) (by decide +kernel) rfl rfl rfl (by decide +kernel)
set_option maxRecDepth 65536 in
theorem w_c32 : (Jvm.Cond.code ({ cls := "java/lang/StringUTF16", name := "indexOfCharUnsafe", desc := "([BIII)I" } : Jvm.MethodName) jdk_52_method_48_code (5 : Nat) (Option.some Jvm.ClassFile.FieldType.int)).before args0 about1 = true := code_word (m := ⟨12, 12⟩) (meth := k12m12) (c := k12c12) (by decide +kernel) rfl rfl rfl (by decide +kernel)
def codes1 : List Jvm.Cond := [Jvm.Cond.code x code maxLocals ret, Jvm.Cond.code ({ cls := "java/lang/String", name := "<init>", desc := "([C)V" } : Jvm.MethodName) jdk_42_method_3_code (2 : Nat) (Option.none : Option Jvm.ClassFile.FieldType), Jvm.Cond.code ({ cls := "java/lang/String", name := "<init>", desc := "([CIILjava/lang/Void;)V" } : Jvm.MethodName) jdk_42_method_149_code (6 : Nat) (Option.none : Option Jvm.ClassFile.FieldType), Jvm.Cond.code ({ cls := "java/lang/Object", name := "<init>", desc := "()V" } : Jvm.MethodName) object_method_1_code (1 : Nat) (Option.none : Option Jvm.ClassFile.FieldType), Jvm.Cond.code ({ cls := "com/example/setnix/setnix/model/LockName", name := "checkPrefix", desc := "(Ljava/lang/String;)V" } : Jvm.MethodName) prog_17_method_4_code (2 : Nat) (Option.none : Option Jvm.ClassFile.FieldType), Jvm.Cond.code ({ cls := "java/util/Objects", name := "requireNonNull", desc := "(Ljava/lang/Object;Ljava/lang/String;)Ljava/lang/Object;" } : Jvm.MethodName) jdk_31_method_11_code (2 : Nat) (Option.some (Jvm.ClassFile.FieldType.object "java/lang/Object")), Jvm.Cond.code ({ cls := "com/example/setnix/setnix/model/LockName", name := "braceIndex", desc := "(Ljava/lang/String;)I" } : Jvm.MethodName) prog_17_method_6_code (2 : Nat) (Option.some Jvm.ClassFile.FieldType.int), Jvm.Cond.code ({ cls := "java/lang/String", name := "indexOf", desc := "(I)I" } : Jvm.MethodName) jdk_42_method_79_code (2 : Nat) (Option.some Jvm.ClassFile.FieldType.int), Jvm.Cond.code ({ cls := "java/lang/String", name := "indexOf", desc := "(II)I" } : Jvm.MethodName) jdk_42_method_80_code (3 : Nat) (Option.some Jvm.ClassFile.FieldType.int), Jvm.Cond.code ({ cls := "java/lang/String", name := "isLatin1", desc := "()Z" } : Jvm.MethodName) jdk_42_method_154_code (1 : Nat) (Option.some Jvm.ClassFile.FieldType.boolean), Jvm.Cond.code ({ cls := "java/lang/String", name := "length", desc := "()I" } : Jvm.MethodName) jdk_42_method_54_code (1 : Nat) (Option.some Jvm.ClassFile.FieldType.int), Jvm.Cond.code ({ cls := "java/lang/String", name := "coder", desc := "()B" } : Jvm.MethodName) jdk_42_method_152_code (1 : Nat) (Option.some Jvm.ClassFile.FieldType.byte), Jvm.Cond.code ({ cls := "java/lang/StringLatin1", name := "indexOf", desc := "([BIII)I" } : Jvm.MethodName) jdk_43_method_22_code (4 : Nat) (Option.some Jvm.ClassFile.FieldType.int), Jvm.Cond.code ({ cls := "java/lang/StringLatin1", name := "canEncode", desc := "(I)Z" } : Jvm.MethodName) jdk_43_method_4_code (1 : Nat) (Option.some Jvm.ClassFile.FieldType.boolean), Jvm.Cond.code ({ cls := "java/lang/Math", name := "max", desc := "(II)I" } : Jvm.MethodName) jdk_29_method_65_code (2 : Nat) (Option.some Jvm.ClassFile.FieldType.int), Jvm.Cond.code ({ cls := "java/lang/Math", name := "min", desc := "(II)I" } : Jvm.MethodName) jdk_29_method_69_code (2 : Nat) (Option.some Jvm.ClassFile.FieldType.int), Jvm.Cond.code ({ cls := "com/example/setnix/setnix/model/LockNameCheckPrefixPinLaw", name := "isBrace", desc := "(C)Z" } : Jvm.MethodName) method_2_code (1 : Nat) (Option.some Jvm.ClassFile.FieldType.boolean), Jvm.Cond.code ({ cls := "java/lang/StringUTF16", name := "compress", desc := "([CII)[B" } : Jvm.MethodName) jdk_52_method_16_code (6 : Nat) (Option.some (Jvm.ClassFile.FieldType.array Jvm.ClassFile.FieldType.byte)), Jvm.Cond.code ({ cls := "java/lang/StringUTF16", name := "compress", desc := "([CI[BII)I" } : Jvm.MethodName) jdk_52_method_21_code (7 : Nat) (Option.some Jvm.ClassFile.FieldType.int), Jvm.Cond.code ({ cls := "java/lang/StringUTF16", name := "coderFromArrayLen", desc := "([BI)B" } : Jvm.MethodName) jdk_52_method_15_code (2 : Nat) (Option.some Jvm.ClassFile.FieldType.byte), Jvm.Cond.code ({ cls := "java/lang/StringLatin1", name := "indexOfChar", desc := "([BIII)I" } : Jvm.MethodName) jdk_43_method_23_code (6 : Nat) (Option.some Jvm.ClassFile.FieldType.int), Jvm.Cond.code ({ cls := "java/lang/StringUTF16", name := "toBytes", desc := "([CII)[B" } : Jvm.MethodName) jdk_52_method_14_code (5 : Nat) (Option.some (Jvm.ClassFile.FieldType.array Jvm.ClassFile.FieldType.byte)), Jvm.Cond.code ({ cls := "java/lang/StringUTF16", name := "newBytesFor", desc := "(I)[B" } : Jvm.MethodName) jdk_52_method_2_code (1 : Nat) (Option.some (Jvm.ClassFile.FieldType.array Jvm.ClassFile.FieldType.byte)), Jvm.Cond.code ({ cls := "java/lang/StringUTF16", name := "newBytesLength", desc := "(I)I" } : Jvm.MethodName) jdk_52_method_3_code (1 : Nat) (Option.some Jvm.ClassFile.FieldType.int), Jvm.Cond.code ({ cls := "java/lang/StringUTF16", name := "putChar", desc := "([BII)V" } : Jvm.MethodName) jdk_52_method_4_code (3 : Nat) (Option.none : Option Jvm.ClassFile.FieldType), Jvm.Cond.code ({ cls := "java/lang/StringUTF16", name := "getChar", desc := "([BI)C" } : Jvm.MethodName) jdk_52_method_5_code (2 : Nat) (Option.some Jvm.ClassFile.FieldType.char), Jvm.Cond.code ({ cls := "java/lang/StringUTF16", name := "indexOf", desc := "([BIII)I" } : Jvm.MethodName) jdk_52_method_40_code (4 : Nat) (Option.some Jvm.ClassFile.FieldType.int), Jvm.Cond.code ({ cls := "java/lang/StringUTF16", name := "indexOfChar", desc := "([BIII)I" } : Jvm.MethodName) jdk_52_method_47_code (4 : Nat) (Option.some Jvm.ClassFile.FieldType.int), Jvm.Cond.code ({ cls := "java/lang/StringUTF16", name := "checkBoundsBeginEnd", desc := "(II[B)V" } : Jvm.MethodName) jdk_52_method_93_code (3 : Nat) (Option.none : Option Jvm.ClassFile.FieldType), Jvm.Cond.code ({ cls := "java/lang/StringUTF16", name := "length", desc := "([B)I" } : Jvm.MethodName) jdk_52_method_6_code (1 : Nat) (Option.some Jvm.ClassFile.FieldType.int), Jvm.Cond.code ({ cls := "java/lang/String", name := "checkBoundsBeginEnd", desc := "(III)V" } : Jvm.MethodName) jdk_42_method_158_code (3 : Nat) (Option.none : Option Jvm.ClassFile.FieldType), Jvm.Cond.code ({ cls := "jdk/internal/util/Preconditions", name := "checkFromToIndex", desc := "(IIILjava/util/function/BiFunction;)I" } : Jvm.MethodName) jdk_41_method_12_code (4 : Nat) (Option.some Jvm.ClassFile.FieldType.int), Jvm.Cond.code ({ cls := "java/lang/StringUTF16", name := "indexOfCharUnsafe", desc := "([BIII)I" } : Jvm.MethodName) jdk_52_method_48_code (5 : Nat) (Option.some Jvm.ClassFile.FieldType.int)]
set_option maxRecDepth 65536 in
theorem codes_eq : words1.filter isCode = codes1 := rfl
theorem w_codes : ∀ c ∈ words1.filter isCode, c.before args0 about1 = true := by
  rw [codes_eq]
  intro c hc
  simp only [codes1, List.mem_cons, List.not_mem_nil, or_false] at hc
  rcases hc with rfl | rfl | rfl | rfl | rfl | rfl | rfl | rfl | rfl | rfl | rfl | rfl | rfl | rfl | rfl | rfl | rfl | rfl | rfl | rfl | rfl | rfl | rfl | rfl | rfl | rfl | rfl | rfl | rfl | rfl | rfl | rfl | rfl
  · exact w_c0
  · exact w_c1
  · exact w_c2
  · exact w_c3
  · exact w_c4
  · exact w_c5
  · exact w_c6
  · exact w_c7
  · exact w_c8
  · exact w_c9
  · exact w_c10
  · exact w_c11
  · exact w_c12
  · exact w_c13
  · exact w_c14
  · exact w_c15
  · exact w_c16
  · exact w_c17
  · exact w_c18
  · exact w_c19
  · exact w_c20
  · exact w_c21
  · exact w_c22
  · exact w_c23
  · exact w_c24
  · exact w_c25
  · exact w_c26
  · exact w_c27
  · exact w_c28
  · exact w_c29
  · exact w_c30
  · exact w_c31
  · exact w_c32
set_option maxRecDepth 65536 in
theorem w_t1 : (words1.take 24).all (fun c => isCode c || c.before args0 about1) = true := by decide +kernel
set_option maxRecDepth 65536 in
theorem w_t2 : ((words1.drop 24).take 24).all (fun c => isCode c || c.before args0 about1) = true := by decide +kernel
set_option maxRecDepth 65536 in
theorem w_t3 : (((words1.drop 24).drop 24).take 24).all (fun c => isCode c || c.before args0 about1) = true := by decide +kernel
set_option maxRecDepth 65536 in
theorem w_t4 : ((((words1.drop 24).drop 24).drop 24).take 24).all (fun c => isCode c || c.before args0 about1) = true := by decide +kernel
set_option maxRecDepth 65536 in
theorem w_t5 : (((((words1.drop 24).drop 24).drop 24).drop 24).take 24).all (fun c => isCode c || c.before args0 about1) = true := by decide +kernel
set_option maxRecDepth 65536 in
theorem w_t6 : (((((words1.drop 24).drop 24).drop 24).drop 24).drop 24).all (fun c => isCode c || c.before args0 about1) = true := by decide +kernel
theorem w_tables : (allAtoms (Jvm.Cond.code x code maxLocals ret :: tables_1)).before args0 about1 = true := by
  rw [allAtoms_all]
  show words1.all (fun c => c.before args0 about1) = true
  refine all_split ?_ w_codes
  rw [← List.take_append_drop 24 words1, List.all_append, w_t1, ← List.take_append_drop 24 (words1.drop 24), List.all_append, w_t2, ← List.take_append_drop 24 ((words1.drop 24).drop 24), List.all_append, w_t3, ← List.take_append_drop 24 (((words1.drop 24).drop 24).drop 24), List.all_append, w_t4, ← List.take_append_drop 24 ((((words1.drop 24).drop 24).drop 24).drop 24), List.all_append, w_t5, w_t6]
  rfl
set_option maxRecDepth 65536 in
theorem w_rest : rest_1_c.before args0 about1 = true := by decide +kernel
set_option maxRecDepth 65536 in
theorem w_case : (Jvm.Cond.and given_1 narrow_1).before args0 about1 = true := by decide +kernel
set_option maxRecDepth 65536 in
theorem w_consts : constsHeld consts_1 about1 := Jvm.Lit.constsHeldB_iff.mp (by decide +kernel)
theorem w_applies : (headSpec (Jvm.Cond.code x code maxLocals ret :: tables_1) room_1).applies x e0.platform about1 = true :=
  (Spec.applies_iff w_frames).mpr ⟨w_running, w_runnable, w_alone, w_named, w_hears, w_ripe, w_room, w_tables⟩
theorem atStart : AtStart classFile x code maxLocals ret World_1 tables_1 room_1 Calls_1 rest_1 Pre_1 launch0 p0 e0 about1 theMethod args0 below0 :=
  ⟨lists_1, trivial, launch0.admits_env _ _ _, launch0.least_env, fairChoices_fair.cas, fairChoices_fair.clock, w_frames, w_args, w_heap, w_applies, ⟨w_consts, trivial⟩, w_rest, w_case⟩
end start1
theorem witness_1 : WitnessClaimed_1 := ⟨start1.p0, start1.e0, start1.about1, start1.theMethod, start1.args0, start1.below0, start1.atStart⟩
end Jvm.Pilot.@@N@@
