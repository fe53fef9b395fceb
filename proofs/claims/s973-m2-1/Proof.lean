import JvmDerived
import JvmDerived.Pilot.@@N@@Statement
import JvmDerived.Pilot.@@N@@Code
set_option linter.unusedVariables false
set_option linter.unusedSimpArgs false
namespace Jvm.Pilot.@@N@@
open Jvm Jvm.ClassFile Sem Op Lib Jvm.Free Jvm.Stand Jvm.LawKit Jvm.RoadKit Bundle Jvm.Pilot.@@N@@.Jvm.D
/-! OwnKit: one predicate for where a walk stands (Wk), one for what is still to be shown (Wp), and a lemma a step, in continuation form. -/
section OwnKit
variable {p : Program} {l : Launch} {e : Env} {R : Room} {s : State} {vm0 : Vm} {m : MethodId} {args : Array Value} {below : List Frame} {meth : Method} {c : Code} {Z : State} {own : String} {n0 : Nat} {B : ByteArray} {ML : Nat} {ret : Option FieldType} {T : State} {h : Heap} {locs : List Loc} {cells slots : Nat} {a0 : Array Value} {Post : Outcome → State → Prop} {pc : Nat} {L : Array Slot} {S : List Value}
/-- where a walk stands -/
def Wk (p : Program) (l : Launch) (e : Env) (R : Room) (s : State) (vm0 : Vm) (m : MethodId) (args : Array Value) (below : List Frame) (meth : Method) (c : Code) (Z : State) (own : String) (n0 : Nat) (B : ByteArray) (ML : Nat) (ret : Option FieldType) (T : State) (h : Heap) (locs : List Loc) (cells slots : Nat) : Prop :=
  Stand p l e R (s.setVm vm0) m args below meth c T locs cells slots ∧ s.Since vm0 h.size ∧ Z.Warmed39 vm0 ∧ vm0.findClass own = some m.cls ∧ T.heap = h ∧ Fr n0 locs ∧ p.tables.exec = Jvm.exec ∧ c.code = B ∧ c.maxLocals = ML ∧ meth.sig.returnType = ret ∧ meth.locks = false
/-- what is still to be shown -/
def Wp (p : Program) (e : Env) (below : List Frame) (Post : Outcome → State → Prop) (T : State) (g : JFrame) : Prop :=
  ∃ s₂ o, Steps p.tables e below (T.setTop g) s₂ ∧ s₂.status = .running ∧ Ended s₂ below o ∧ Post o s₂
theorem Wp.imp {T' : State} {g g' : JFrame} (w : Wp p e below Post T' g') (k : ∀ t, Steps p.tables e below (T'.setTop g') t → Steps p.tables e below (T.setTop g) t) : Wp p e below Post T g := by
  obtain ⟨s₂, o, h1, r⟩ := w
  exact ⟨s₂, o, k _ h1, r⟩
theorem Wk.st (W : Wk p l e R s vm0 m args below meth c Z own n0 B ML ret T h locs cells slots) : Stand p l e R (s.setVm vm0) m args below meth c T locs cells slots := W.1
theorem Wk.here (W : Wk p l e R s vm0 m args below meth c Z own n0 B ML ret T h locs cells slots) : At T m c below := W.1.here
theorem Wk.since (W : Wk p l e R s vm0 m args below meth c Z own n0 B ML ret T h locs cells slots) : s.Since vm0 h.size := W.2.1
theorem Wk.wZ (W : Wk p l e R s vm0 m args below meth c Z own n0 B ML ret T h locs cells slots) : Z.Warmed39 (s.setVm vm0).vm := W.2.2.1
theorem Wk.own' (W : Wk p l e R s vm0 m args below meth c Z own n0 B ML ret T h locs cells slots) : (s.setVm vm0).vm.findClass own = some m.cls := W.2.2.2.1
theorem Wk.heap (W : Wk p l e R s vm0 m args below meth c Z own n0 B ML ret T h locs cells slots) : T.heap = h := W.2.2.2.2.1
theorem Wk.fr (W : Wk p l e R s vm0 m args below meth c Z own n0 B ML ret T h locs cells slots) : Fr n0 locs := W.2.2.2.2.2.1
theorem Wk.exec (W : Wk p l e R s vm0 m args below meth c Z own n0 B ML ret T h locs cells slots) : p.tables.exec = Jvm.exec := W.2.2.2.2.2.2.1
theorem Wk.bytes (W : Wk p l e R s vm0 m args below meth c Z own n0 B ML ret T h locs cells slots) : c.code = B := W.2.2.2.2.2.2.2.1
theorem Wk.ml (W : Wk p l e R s vm0 m args below meth c Z own n0 B ML ret T h locs cells slots) : c.maxLocals = ML := W.2.2.2.2.2.2.2.2.1
theorem Wk.ret' (W : Wk p l e R s vm0 m args below meth c Z own n0 B ML ret T h locs cells slots) : meth.sig.returnType = ret := W.2.2.2.2.2.2.2.2.2.1
theorem Wk.lk (W : Wk p l e R s vm0 m args below meth c Z own n0 B ML ret T h locs cells slots) : meth.locks = false := W.2.2.2.2.2.2.2.2.2.2
/-- on to a later state, the tables' base as it was -/
theorem Wk.on {T' : State} {h' : Heap} {locs' : List Loc} {cells' slots' : Nat} (W : Wk p l e R s vm0 m args below meth c Z own n0 B ML ret T h locs cells slots) (X : Stand p l e R (s.setVm vm0) m args below meth c T' locs' cells' slots') (e' : T'.heap = h') (g : h.size ≤ h'.size) (N : Fr n0 locs') : Wk p l e R s vm0 m args below meth c Z own n0 B ML ret T' h' locs' cells' slots' :=
  ⟨X, ⟨W.since.1, W.since.2.mono g⟩, W.wZ, W.own', e', N, W.exec, W.bytes, W.ml, W.ret', W.lk⟩
/-- fewer cells and slots than are booked -/
theorem Wk.mono {cells' slots' : Nat} (W : Wk p l e R s vm0 m args below meth c Z own n0 B ML ret T h locs cells slots) (hc : cells ≤ cells') (hn : slots ≤ slots') : Wk p l e R s vm0 m args below meth c Z own n0 B ML ret T h locs cells' slots' := W.on (W.st.mono hc hn) W.heap (Nat.le_refl _) W.fr

theorem w_iload (W : Wk p l e R s vm0 m args below meth c Z own n0 B ML ret T h locs cells slots) {k : Nat} {v : Int32} (hd : decode B pc = .ok (.iload k, 2)) (hl : L[k]? = some (.val (.int v))) (hr : Wp p e below Post T (mkF m (pc + 2) L (.int v :: S))) : Wp p e below Post T (mkF m pc L S) :=
  hr.imp fun t q => XS.iload W.here W.exec rfl (hb W.bytes hd) hl q
theorem w_iloadN (W : Wk p l e R s vm0 m args below meth c Z own n0 B ML ret T h locs cells slots) {k : Fin 4} {v : Int32} (hd : decode B pc = .ok (.iload_n k, 1)) (hl : L[k.val]? = some (.val (.int v))) (hr : Wp p e below Post T (mkF m (pc + 1) L (.int v :: S))) : Wp p e below Post T (mkF m pc L S) :=
  hr.imp fun t q => XS.iloadN W.here W.exec rfl (hb W.bytes hd) hl q
theorem w_istore (W : Wk p l e R s vm0 m args below meth c Z own n0 B ML ret T h locs cells slots) {k : Nat} {v : Int32} {L' : Array Slot} (hd : decode B pc = .ok (.istore k, 2)) (hl : storeLocals L k (.int v) = some L') (hr : Wp p e below Post T (mkF m (pc + 2) L' S)) : Wp p e below Post T (mkF m pc L (.int v :: S)) :=
  hr.imp fun t q => XS.istore W.here W.exec rfl (hb W.bytes hd) rfl hl q
theorem w_istoreN (W : Wk p l e R s vm0 m args below meth c Z own n0 B ML ret T h locs cells slots) {k : Fin 4} {v : Int32} {L' : Array Slot} (hd : decode B pc = .ok (.istore_n k, 1)) (hl : storeLocals L k.val (.int v) = some L') (hr : Wp p e below Post T (mkF m (pc + 1) L' S)) : Wp p e below Post T (mkF m pc L (.int v :: S)) :=
  hr.imp fun t q => XS.istoreN W.here W.exec rfl (hb W.bytes hd) rfl hl q
theorem w_lload (W : Wk p l e R s vm0 m args below meth c Z own n0 B ML ret T h locs cells slots) {k : Nat} {v : Int64} (hd : decode B pc = .ok (.lload k, 2)) (hl : L[k]? = some (.val (.long v))) (hr : Wp p e below Post T (mkF m (pc + 2) L (.long v :: S))) : Wp p e below Post T (mkF m pc L S) :=
  hr.imp fun t q => XS.lload W.here W.exec rfl (hb W.bytes hd) hl q
theorem w_lloadN (W : Wk p l e R s vm0 m args below meth c Z own n0 B ML ret T h locs cells slots) {k : Fin 4} {v : Int64} (hd : decode B pc = .ok (.lload_n k, 1)) (hl : L[k.val]? = some (.val (.long v))) (hr : Wp p e below Post T (mkF m (pc + 1) L (.long v :: S))) : Wp p e below Post T (mkF m pc L S) :=
  hr.imp fun t q => XS.lloadN W.here W.exec rfl (hb W.bytes hd) hl q
theorem w_lstore (W : Wk p l e R s vm0 m args below meth c Z own n0 B ML ret T h locs cells slots) {k : Nat} {v : Int64} {L' : Array Slot} (hd : decode B pc = .ok (.lstore k, 2)) (hl : storeLocals L k (.long v) = some L') (hr : Wp p e below Post T (mkF m (pc + 2) L' S)) : Wp p e below Post T (mkF m pc L (.long v :: S)) :=
  hr.imp fun t q => XS.lstore W.here W.exec rfl (hb W.bytes hd) rfl hl q
theorem w_lstoreN (W : Wk p l e R s vm0 m args below meth c Z own n0 B ML ret T h locs cells slots) {k : Fin 4} {v : Int64} {L' : Array Slot} (hd : decode B pc = .ok (.lstore_n k, 1)) (hl : storeLocals L k.val (.long v) = some L') (hr : Wp p e below Post T (mkF m (pc + 1) L' S)) : Wp p e below Post T (mkF m pc L (.long v :: S)) :=
  hr.imp fun t q => XS.lstoreN W.here W.exec rfl (hb W.bytes hd) rfl hl q
theorem w_aload (W : Wk p l e R s vm0 m args below meth c Z own n0 B ML ret T h locs cells slots) {k : Nat} {v : Value} (hd : decode B pc = .ok (.aload k, 2)) (hl : L[k]? = some (.val v)) (hv : v.isRef = true) (hr : Wp p e below Post T (mkF m (pc + 2) L (v :: S))) : Wp p e below Post T (mkF m pc L S) :=
  hr.imp fun t q => XS.aload W.here W.exec rfl (hb W.bytes hd) hl hv q
theorem w_aloadN (W : Wk p l e R s vm0 m args below meth c Z own n0 B ML ret T h locs cells slots) {k : Fin 4} {v : Value} (hd : decode B pc = .ok (.aload_n k, 1)) (hl : L[k.val]? = some (.val v)) (hv : v.isRef = true) (hr : Wp p e below Post T (mkF m (pc + 1) L (v :: S))) : Wp p e below Post T (mkF m pc L S) :=
  hr.imp fun t q => XS.aloadN W.here W.exec rfl (hb W.bytes hd) hl hv q
theorem w_astore (W : Wk p l e R s vm0 m args below meth c Z own n0 B ML ret T h locs cells slots) {k : Nat} {v : Value} {L' : Array Slot} (hd : decode B pc = .ok (.astore k, 2)) (hv : v.isRef = true) (hl : storeLocals L k v = some L') (hr : Wp p e below Post T (mkF m (pc + 2) L' S)) : Wp p e below Post T (mkF m pc L (v :: S)) :=
  hr.imp fun t q => XS.astore W.here W.exec rfl (hb W.bytes hd) rfl hv hl q
theorem w_astoreN (W : Wk p l e R s vm0 m args below meth c Z own n0 B ML ret T h locs cells slots) {k : Fin 4} {v : Value} {L' : Array Slot} (hd : decode B pc = .ok (.astore_n k, 1)) (hv : v.isRef = true) (hl : storeLocals L k.val v = some L') (hr : Wp p e below Post T (mkF m (pc + 1) L' S)) : Wp p e below Post T (mkF m pc L (v :: S)) :=
  hr.imp fun t q => XS.astoreN W.here W.exec rfl (hb W.bytes hd) rfl hv hl q
theorem w_iconst (W : Wk p l e R s vm0 m args below meth c Z own n0 B ML ret T h locs cells slots) {i : Int} {z : Int32} (hd : decode B pc = .ok (.iconst i, 1)) (hz : Int32.ofInt i = z) (hr : Wp p e below Post T (mkF m (pc + 1) L (.int z :: S))) : Wp p e below Post T (mkF m pc L S) := by
  subst hz; exact hr.imp fun t q => XS.iconst W.here W.exec rfl (hb W.bytes hd)  q
theorem w_bipush (W : Wk p l e R s vm0 m args below meth c Z own n0 B ML ret T h locs cells slots) {i : Int} {z : Int32} (hd : decode B pc = .ok (.bipush i, 2)) (hz : (Int8.ofInt i).toInt32 = z) (hr : Wp p e below Post T (mkF m (pc + 2) L (.int z :: S))) : Wp p e below Post T (mkF m pc L S) := by
  subst hz; exact hr.imp fun t q => XS.bipush W.here W.exec rfl (hb W.bytes hd)  q
theorem w_sipush (W : Wk p l e R s vm0 m args below meth c Z own n0 B ML ret T h locs cells slots) {i : Int} {z : Int32} (hd : decode B pc = .ok (.sipush i, 3)) (hz : (Int16.ofInt i).toInt32 = z) (hr : Wp p e below Post T (mkF m (pc + 3) L (.int z :: S))) : Wp p e below Post T (mkF m pc L S) := by
  subst hz; exact hr.imp fun t q => XS.sipush W.here W.exec rfl (hb W.bytes hd)  q
theorem w_iadd (W : Wk p l e R s vm0 m args below meth c Z own n0 B ML ret T h locs cells slots) {x y : Int32} {z : Int32} (hd : decode B pc = .ok (.iadd, 1)) (hz : x + y = z) (hr : Wp p e below Post T (mkF m (pc + 1) L (.int z :: S))) : Wp p e below Post T (mkF m pc L (.int y :: .int x :: S)) := by
  subst hz; exact hr.imp fun t q => XS.iadd W.here W.exec rfl (hb W.bytes hd) rfl q
theorem w_isub (W : Wk p l e R s vm0 m args below meth c Z own n0 B ML ret T h locs cells slots) {x y : Int32} {z : Int32} (hd : decode B pc = .ok (.isub, 1)) (hz : x - y = z) (hr : Wp p e below Post T (mkF m (pc + 1) L (.int z :: S))) : Wp p e below Post T (mkF m pc L (.int y :: .int x :: S)) := by
  subst hz; exact hr.imp fun t q => XS.isub W.here W.exec rfl (hb W.bytes hd) rfl q
theorem w_imul (W : Wk p l e R s vm0 m args below meth c Z own n0 B ML ret T h locs cells slots) {x y : Int32} {z : Int32} (hd : decode B pc = .ok (.imul, 1)) (hz : x * y = z) (hr : Wp p e below Post T (mkF m (pc + 1) L (.int z :: S))) : Wp p e below Post T (mkF m pc L (.int y :: .int x :: S)) := by
  subst hz; exact hr.imp fun t q => XS.imul W.here W.exec rfl (hb W.bytes hd) rfl q
theorem w_iand (W : Wk p l e R s vm0 m args below meth c Z own n0 B ML ret T h locs cells slots) {x y : Int32} {z : Int32} (hd : decode B pc = .ok (.iand, 1)) (hz : x &&& y = z) (hr : Wp p e below Post T (mkF m (pc + 1) L (.int z :: S))) : Wp p e below Post T (mkF m pc L (.int y :: .int x :: S)) := by
  subst hz; exact hr.imp fun t q => XS.iand W.here W.exec rfl (hb W.bytes hd) rfl q
theorem w_ior (W : Wk p l e R s vm0 m args below meth c Z own n0 B ML ret T h locs cells slots) {x y : Int32} {z : Int32} (hd : decode B pc = .ok (.ior, 1)) (hz : x ||| y = z) (hr : Wp p e below Post T (mkF m (pc + 1) L (.int z :: S))) : Wp p e below Post T (mkF m pc L (.int y :: .int x :: S)) := by
  subst hz; exact hr.imp fun t q => XS.ior W.here W.exec rfl (hb W.bytes hd) rfl q
theorem w_ixor (W : Wk p l e R s vm0 m args below meth c Z own n0 B ML ret T h locs cells slots) {x y : Int32} {z : Int32} (hd : decode B pc = .ok (.ixor, 1)) (hz : x ^^^ y = z) (hr : Wp p e below Post T (mkF m (pc + 1) L (.int z :: S))) : Wp p e below Post T (mkF m pc L (.int y :: .int x :: S)) := by
  subst hz; exact hr.imp fun t q => XS.ixor W.here W.exec rfl (hb W.bytes hd) rfl q
theorem w_ladd (W : Wk p l e R s vm0 m args below meth c Z own n0 B ML ret T h locs cells slots) {x y : Int64} {z : Int64} (hd : decode B pc = .ok (.ladd, 1)) (hz : x + y = z) (hr : Wp p e below Post T (mkF m (pc + 1) L (.long z :: S))) : Wp p e below Post T (mkF m pc L (.long y :: .long x :: S)) := by
  subst hz; exact hr.imp fun t q => XS.ladd W.here W.exec rfl (hb W.bytes hd) rfl q
theorem w_lsub (W : Wk p l e R s vm0 m args below meth c Z own n0 B ML ret T h locs cells slots) {x y : Int64} {z : Int64} (hd : decode B pc = .ok (.lsub, 1)) (hz : x - y = z) (hr : Wp p e below Post T (mkF m (pc + 1) L (.long z :: S))) : Wp p e below Post T (mkF m pc L (.long y :: .long x :: S)) := by
  subst hz; exact hr.imp fun t q => XS.lsub W.here W.exec rfl (hb W.bytes hd) rfl q
theorem w_lmul (W : Wk p l e R s vm0 m args below meth c Z own n0 B ML ret T h locs cells slots) {x y : Int64} {z : Int64} (hd : decode B pc = .ok (.lmul, 1)) (hz : x * y = z) (hr : Wp p e below Post T (mkF m (pc + 1) L (.long z :: S))) : Wp p e below Post T (mkF m pc L (.long y :: .long x :: S)) := by
  subst hz; exact hr.imp fun t q => XS.lmul W.here W.exec rfl (hb W.bytes hd) rfl q
theorem w_land (W : Wk p l e R s vm0 m args below meth c Z own n0 B ML ret T h locs cells slots) {x y : Int64} {z : Int64} (hd : decode B pc = .ok (.land, 1)) (hz : x &&& y = z) (hr : Wp p e below Post T (mkF m (pc + 1) L (.long z :: S))) : Wp p e below Post T (mkF m pc L (.long y :: .long x :: S)) := by
  subst hz; exact hr.imp fun t q => XS.land W.here W.exec rfl (hb W.bytes hd) rfl q
theorem w_lor (W : Wk p l e R s vm0 m args below meth c Z own n0 B ML ret T h locs cells slots) {x y : Int64} {z : Int64} (hd : decode B pc = .ok (.lor, 1)) (hz : x ||| y = z) (hr : Wp p e below Post T (mkF m (pc + 1) L (.long z :: S))) : Wp p e below Post T (mkF m pc L (.long y :: .long x :: S)) := by
  subst hz; exact hr.imp fun t q => XS.lor W.here W.exec rfl (hb W.bytes hd) rfl q
theorem w_lxor (W : Wk p l e R s vm0 m args below meth c Z own n0 B ML ret T h locs cells slots) {x y : Int64} {z : Int64} (hd : decode B pc = .ok (.lxor, 1)) (hz : x ^^^ y = z) (hr : Wp p e below Post T (mkF m (pc + 1) L (.long z :: S))) : Wp p e below Post T (mkF m pc L (.long y :: .long x :: S)) := by
  subst hz; exact hr.imp fun t q => XS.lxor W.here W.exec rfl (hb W.bytes hd) rfl q
theorem w_ishl (W : Wk p l e R s vm0 m args below meth c Z own n0 B ML ret T h locs cells slots) {x y : Int32} {z : Int32} (hd : decode B pc = .ok (.ishl, 1)) (hz : x <<< (y &&& 31) = z) (hr : Wp p e below Post T (mkF m (pc + 1) L (.int z :: S))) : Wp p e below Post T (mkF m pc L (.int y :: .int x :: S)) := by
  subst hz; exact hr.imp fun t q => XS.ishl W.here W.exec rfl (hb W.bytes hd) rfl q
theorem w_ishr (W : Wk p l e R s vm0 m args below meth c Z own n0 B ML ret T h locs cells slots) {x y : Int32} {z : Int32} (hd : decode B pc = .ok (.ishr, 1)) (hz : x >>> (y &&& 31) = z) (hr : Wp p e below Post T (mkF m (pc + 1) L (.int z :: S))) : Wp p e below Post T (mkF m pc L (.int y :: .int x :: S)) := by
  subst hz; exact hr.imp fun t q => XS.ishr W.here W.exec rfl (hb W.bytes hd) rfl q
theorem w_iushr (W : Wk p l e R s vm0 m args below meth c Z own n0 B ML ret T h locs cells slots) {x y : Int32} {z : Int32} (hd : decode B pc = .ok (.iushr, 1)) (hz : (x.toUInt32 >>> (y &&& 31).toUInt32).toInt32 = z) (hr : Wp p e below Post T (mkF m (pc + 1) L (.int z :: S))) : Wp p e below Post T (mkF m pc L (.int y :: .int x :: S)) := by
  subst hz; exact hr.imp fun t q => XS.iushr W.here W.exec rfl (hb W.bytes hd) rfl q
theorem w_lshl (W : Wk p l e R s vm0 m args below meth c Z own n0 B ML ret T h locs cells slots) {x : Int64} {y : Int32} {z : Int64} (hd : decode B pc = .ok (.lshl, 1)) (hz : x <<< (y &&& 0x3f).toInt64 = z) (hr : Wp p e below Post T (mkF m (pc + 1) L (.long z :: S))) : Wp p e below Post T (mkF m pc L (.int y :: .long x :: S)) := by
  subst hz; exact hr.imp fun t q => XS.lshl W.here W.exec rfl (hb W.bytes hd) rfl q
theorem w_lshr (W : Wk p l e R s vm0 m args below meth c Z own n0 B ML ret T h locs cells slots) {x : Int64} {y : Int32} {z : Int64} (hd : decode B pc = .ok (.lshr, 1)) (hz : x >>> (y &&& 0x3f).toInt64 = z) (hr : Wp p e below Post T (mkF m (pc + 1) L (.long z :: S))) : Wp p e below Post T (mkF m pc L (.int y :: .long x :: S)) := by
  subst hz; exact hr.imp fun t q => XS.lshr W.here W.exec rfl (hb W.bytes hd) rfl q
theorem w_lushr (W : Wk p l e R s vm0 m args below meth c Z own n0 B ML ret T h locs cells slots) {x : Int64} {y : Int32} {z : Int64} (hd : decode B pc = .ok (.lushr, 1)) (hz : (x.toUInt64 >>> (y &&& 0x3f).toInt64.toUInt64).toInt64 = z) (hr : Wp p e below Post T (mkF m (pc + 1) L (.long z :: S))) : Wp p e below Post T (mkF m pc L (.int y :: .long x :: S)) := by
  subst hz; exact hr.imp fun t q => XS.lushr W.here W.exec rfl (hb W.bytes hd) rfl q
theorem w_ineg (W : Wk p l e R s vm0 m args below meth c Z own n0 B ML ret T h locs cells slots) {x : Int32} {z : Int32} (hd : decode B pc = .ok (.ineg, 1)) (hz : -x = z) (hr : Wp p e below Post T (mkF m (pc + 1) L (.int z :: S))) : Wp p e below Post T (mkF m pc L (.int x :: S)) := by
  subst hz; exact hr.imp fun t q => XS.ineg W.here W.exec rfl (hb W.bytes hd) rfl q
theorem w_lneg (W : Wk p l e R s vm0 m args below meth c Z own n0 B ML ret T h locs cells slots) {x : Int64} {z : Int64} (hd : decode B pc = .ok (.lneg, 1)) (hz : -x = z) (hr : Wp p e below Post T (mkF m (pc + 1) L (.long z :: S))) : Wp p e below Post T (mkF m pc L (.long x :: S)) := by
  subst hz; exact hr.imp fun t q => XS.lneg W.here W.exec rfl (hb W.bytes hd) rfl q
theorem w_i2l (W : Wk p l e R s vm0 m args below meth c Z own n0 B ML ret T h locs cells slots) {x : Int32} {z : Int64} (hd : decode B pc = .ok (.i2l, 1)) (hz : x.toInt64 = z) (hr : Wp p e below Post T (mkF m (pc + 1) L (.long z :: S))) : Wp p e below Post T (mkF m pc L (.int x :: S)) := by
  subst hz; exact hr.imp fun t q => XS.i2l W.here W.exec rfl (hb W.bytes hd) rfl q
theorem w_l2i (W : Wk p l e R s vm0 m args below meth c Z own n0 B ML ret T h locs cells slots) {x : Int64} {z : Int32} (hd : decode B pc = .ok (.l2i, 1)) (hz : x.toInt32 = z) (hr : Wp p e below Post T (mkF m (pc + 1) L (.int z :: S))) : Wp p e below Post T (mkF m pc L (.long x :: S)) := by
  subst hz; exact hr.imp fun t q => XS.l2i W.here W.exec rfl (hb W.bytes hd) rfl q
theorem w_i2b (W : Wk p l e R s vm0 m args below meth c Z own n0 B ML ret T h locs cells slots) {x : Int32} {z : Int32} (hd : decode B pc = .ok (.i2b, 1)) (hz : x.toInt8.toInt32 = z) (hr : Wp p e below Post T (mkF m (pc + 1) L (.int z :: S))) : Wp p e below Post T (mkF m pc L (.int x :: S)) := by
  subst hz; exact hr.imp fun t q => XS.i2b W.here W.exec rfl (hb W.bytes hd) rfl q
theorem w_i2c (W : Wk p l e R s vm0 m args below meth c Z own n0 B ML ret T h locs cells slots) {x : Int32} {z : Int32} (hd : decode B pc = .ok (.i2c, 1)) (hz : x.toUInt32.toUInt16.toUInt32.toInt32 = z) (hr : Wp p e below Post T (mkF m (pc + 1) L (.int z :: S))) : Wp p e below Post T (mkF m pc L (.int x :: S)) := by
  subst hz; exact hr.imp fun t q => XS.i2c W.here W.exec rfl (hb W.bytes hd) rfl q
theorem w_i2s (W : Wk p l e R s vm0 m args below meth c Z own n0 B ML ret T h locs cells slots) {x : Int32} {z : Int32} (hd : decode B pc = .ok (.i2s, 1)) (hz : x.toInt16.toInt32 = z) (hr : Wp p e below Post T (mkF m (pc + 1) L (.int z :: S))) : Wp p e below Post T (mkF m pc L (.int x :: S)) := by
  subst hz; exact hr.imp fun t q => XS.i2s W.here W.exec rfl (hb W.bytes hd) rfl q
theorem w_lcmp (W : Wk p l e R s vm0 m args below meth c Z own n0 B ML ret T h locs cells slots) {x y : Int64} {z : Int32} (hd : decode B pc = .ok (.lcmp, 1)) (hz : lcmpW x y = z) (hr : Wp p e below Post T (mkF m (pc + 1) L (.int z :: S))) : Wp p e below Post T (mkF m pc L (.long y :: .long x :: S)) := by
  subst hz; exact hr.imp fun t q => XS.lcmp W.here W.exec rfl (hb W.bytes hd) rfl q
theorem w_idiv (W : Wk p l e R s vm0 m args below meth c Z own n0 B ML ret T h locs cells slots) {x y : Int32} {z : Int32} (hd : decode B pc = .ok (.idiv, 1)) (hy : y ≠ 0) (hz : x / y = z) (hr : Wp p e below Post T (mkF m (pc + 1) L (.int z :: S))) : Wp p e below Post T (mkF m pc L (.int y :: .int x :: S)) := by
  subst hz; exact hr.imp fun t q => XS.idiv W.here W.exec rfl (hb W.bytes hd) rfl hy q
theorem w_irem (W : Wk p l e R s vm0 m args below meth c Z own n0 B ML ret T h locs cells slots) {x y z : Int32} (hd : decode B pc = .ok (.irem, 1)) (hy : y ≠ 0) (hz : x % y = z) (hr : Wp p e below Post T (mkF m (pc + 1) L (.int z :: S))) : Wp p e below Post T (mkF m pc L (.int y :: .int x :: S)) := by
  subst hz; exact hr.imp fun t q => iremM W.st W.exec rfl (hb W.bytes hd) rfl hy q
theorem w_lconst (W : Wk p l e R s vm0 m args below meth c Z own n0 B ML ret T h locs cells slots) {k : Fin 2} {z : Int64} (hd : decode B pc = .ok (.lconst k, 1)) (hz : (Int64.ofNat k.val) = z) (hr : Wp p e below Post T (mkF m (pc + 1) L (.long z :: S))) : Wp p e below Post T (mkF m pc L S) := by
  subst hz; exact hr.imp fun t q => XS.lconst W.here W.exec rfl (hb W.bytes hd) q
theorem w_aconstNull (W : Wk p l e R s vm0 m args below meth c Z own n0 B ML ret T h locs cells slots)  (hd : decode B pc = .ok (.aconst_null, 1)) (hr : Wp p e below Post T (mkF m (pc + 1) L (.null :: S))) : Wp p e below Post T (mkF m pc L S) :=
  hr.imp fun t q => XS.aconstNull W.here W.exec rfl (hb W.bytes hd)  q
theorem w_dup (W : Wk p l e R s vm0 m args below meth c Z own n0 B ML ret T h locs cells slots) {v : Value} (hd : decode B pc = .ok (.dup, 1)) (hc : v.category = 1) (hr : Wp p e below Post T (mkF m (pc + 1) L (v :: v :: S))) : Wp p e below Post T (mkF m pc L (v :: S)) :=
  hr.imp fun t q => XS.dup W.here W.exec rfl (hb W.bytes hd) rfl hc q
theorem w_pop (W : Wk p l e R s vm0 m args below meth c Z own n0 B ML ret T h locs cells slots) {v : Value} (hd : decode B pc = .ok (.pop, 1)) (hc : v.category = 1) (hr : Wp p e below Post T (mkF m (pc + 1) L S)) : Wp p e below Post T (mkF m pc L (v :: S)) :=
  hr.imp fun t q => XS.pop W.here W.exec rfl (hb W.bytes hd) rfl hc q
theorem w_dupX1 (W : Wk p l e R s vm0 m args below meth c Z own n0 B ML ret T h locs cells slots) {v w : Value} (hd : decode B pc = .ok (.dup_x1, 1)) (hc : v.category = 1) (hc' : w.category = 1) (hr : Wp p e below Post T (mkF m (pc + 1) L (v :: w :: v :: S))) : Wp p e below Post T (mkF m pc L (v :: w :: S)) :=
  hr.imp fun t q => XS.dupX1 W.here W.exec rfl (hb W.bytes hd) rfl hc hc' q
theorem w_dup2 (W : Wk p l e R s vm0 m args below meth c Z own n0 B ML ret T h locs cells slots) {v w : Value} (hd : decode B pc = .ok (.dup2, 1)) (hc : v.category = 1) (hc' : w.category = 1) (hr : Wp p e below Post T (mkF m (pc + 1) L (v :: w :: v :: w :: S))) : Wp p e below Post T (mkF m pc L (v :: w :: S)) :=
  hr.imp fun t q => XT.dup2 W.here W.exec rfl (hb W.bytes hd) rfl hc hc' q
theorem w_iinc (W : Wk p l e R s vm0 m args below meth c Z own n0 B ML ret T h locs cells slots) {k : Nat} {cst : Int} {x z : Int32} {L' : Array Slot} (hd : decode B pc = .ok (.iinc k cst, 3)) (hl : L[k]? = some (.val (.int x))) (hz : x + Int32.ofInt cst = z) (hl' : storeLocals L k (.int z) = some L') (hr : Wp p e below Post T (mkF m (pc + 3) L' S)) : Wp p e below Post T (mkF m pc L S) := by
  subst hz; exact hr.imp fun t q => XS.iinc W.here W.exec rfl (hb W.bytes hd) hl hl' q
theorem w_goto (W : Wk p l e R s vm0 m args below meth c Z own n0 B ML ret T h locs cells slots) {o : Int} {pc' : Nat} (hd : decode B pc = .ok (.goto o, 3)) (hp : (pc : Int) + o = (pc' : Int)) (hr : Wp p e below Post T (mkF m pc' L S)) : Wp p e below Post T (mkF m pc L S) :=
  hr.imp fun t q => XS.goto W.here W.exec rfl (pc0 := pc) rfl (hb W.bytes hd) (by omega) (by omega) q
theorem w_icmpeq (W : Wk p l e R s vm0 m args below meth c Z own n0 B ML ret T h locs cells slots) {x y : Int32} {o : Int} {pc' : Nat} (hd : decode B pc = .ok (.if_icmp .eq o, 3)) (hp : (pc : Int) + o = (pc' : Int)) (k1 : x = y → Wp p e below Post T (mkF m pc' L S)) (k2 : ¬ (x = y) → Wp p e below Post T (mkF m (pc + 3) L S)) : Wp p e below Post T (mkF m pc L (.int y :: .int x :: S)) := by
  by_cases hq : x = y
  · exact (k1 hq).imp fun t q => XS.icmpYes W.here W.exec rfl (pc0 := pc) rfl (hb W.bytes hd) rfl (teq hq).1 (by omega) (by omega) q
  · exact (k2 hq).imp fun t q => XS.icmpNo W.here W.exec rfl (hb W.bytes hd) rfl (feq hq).1 q
theorem w_ifeq (W : Wk p l e R s vm0 m args below meth c Z own n0 B ML ret T h locs cells slots) {x : Int32} {o : Int} {pc' : Nat} (hd : decode B pc = .ok (.ifCond .eq o, 3)) (hp : (pc : Int) + o = (pc' : Int)) (k1 : x = 0 → Wp p e below Post T (mkF m pc' L S)) (k2 : ¬ (x = 0) → Wp p e below Post T (mkF m (pc + 3) L S)) : Wp p e below Post T (mkF m pc L (.int x :: S)) := by
  by_cases hq : x = 0
  · exact (k1 hq).imp fun t q => XS.ifYes W.here W.exec rfl (pc0 := pc) rfl (hb W.bytes hd) rfl ((if0 _ _).trans (teq hq).1) (by omega) (by omega) q
  · exact (k2 hq).imp fun t q => XS.ifNo W.here W.exec rfl (hb W.bytes hd) rfl ((if0 _ _).trans (feq hq).1) q
theorem w_icmpne (W : Wk p l e R s vm0 m args below meth c Z own n0 B ML ret T h locs cells slots) {x y : Int32} {o : Int} {pc' : Nat} (hd : decode B pc = .ok (.if_icmp .ne o, 3)) (hp : (pc : Int) + o = (pc' : Int)) (k1 : ¬ (x = y) → Wp p e below Post T (mkF m pc' L S)) (k2 : x = y → Wp p e below Post T (mkF m (pc + 3) L S)) : Wp p e below Post T (mkF m pc L (.int y :: .int x :: S)) := by
  by_cases hq : x = y
  · exact (k2 hq).imp fun t q => XS.icmpNo W.here W.exec rfl (hb W.bytes hd) rfl (teq hq).2 q
  · exact (k1 hq).imp fun t q => XS.icmpYes W.here W.exec rfl (pc0 := pc) rfl (hb W.bytes hd) rfl (feq hq).2 (by omega) (by omega) q
theorem w_ifne (W : Wk p l e R s vm0 m args below meth c Z own n0 B ML ret T h locs cells slots) {x : Int32} {o : Int} {pc' : Nat} (hd : decode B pc = .ok (.ifCond .ne o, 3)) (hp : (pc : Int) + o = (pc' : Int)) (k1 : ¬ (x = 0) → Wp p e below Post T (mkF m pc' L S)) (k2 : x = 0 → Wp p e below Post T (mkF m (pc + 3) L S)) : Wp p e below Post T (mkF m pc L (.int x :: S)) := by
  by_cases hq : x = 0
  · exact (k2 hq).imp fun t q => XS.ifNo W.here W.exec rfl (hb W.bytes hd) rfl ((if0 _ _).trans (teq hq).2) q
  · exact (k1 hq).imp fun t q => XS.ifYes W.here W.exec rfl (pc0 := pc) rfl (hb W.bytes hd) rfl ((if0 _ _).trans (feq hq).2) (by omega) (by omega) q
theorem w_icmplt (W : Wk p l e R s vm0 m args below meth c Z own n0 B ML ret T h locs cells slots) {x y : Int32} {o : Int} {pc' : Nat} (hd : decode B pc = .ok (.if_icmp .lt o, 3)) (hp : (pc : Int) + o = (pc' : Int)) (k1 : x < y → Wp p e below Post T (mkF m pc' L S)) (k2 : ¬ (x < y) → Wp p e below Post T (mkF m (pc + 3) L S)) : Wp p e below Post T (mkF m pc L (.int y :: .int x :: S)) := by
  by_cases hq : x < y
  · exact (k1 hq).imp fun t q => XS.icmpYes W.here W.exec rfl (pc0 := pc) rfl (hb W.bytes hd) rfl (tlt hq).1 (by omega) (by omega) q
  · exact (k2 hq).imp fun t q => XS.icmpNo W.here W.exec rfl (hb W.bytes hd) rfl (flt hq).1 q
theorem w_iflt (W : Wk p l e R s vm0 m args below meth c Z own n0 B ML ret T h locs cells slots) {x : Int32} {o : Int} {pc' : Nat} (hd : decode B pc = .ok (.ifCond .lt o, 3)) (hp : (pc : Int) + o = (pc' : Int)) (k1 : x < 0 → Wp p e below Post T (mkF m pc' L S)) (k2 : ¬ (x < 0) → Wp p e below Post T (mkF m (pc + 3) L S)) : Wp p e below Post T (mkF m pc L (.int x :: S)) := by
  by_cases hq : x < 0
  · exact (k1 hq).imp fun t q => XS.ifYes W.here W.exec rfl (pc0 := pc) rfl (hb W.bytes hd) rfl ((if0 _ _).trans (tlt hq).1) (by omega) (by omega) q
  · exact (k2 hq).imp fun t q => XS.ifNo W.here W.exec rfl (hb W.bytes hd) rfl ((if0 _ _).trans (flt hq).1) q
theorem w_icmpge (W : Wk p l e R s vm0 m args below meth c Z own n0 B ML ret T h locs cells slots) {x y : Int32} {o : Int} {pc' : Nat} (hd : decode B pc = .ok (.if_icmp .ge o, 3)) (hp : (pc : Int) + o = (pc' : Int)) (k1 : ¬ (x < y) → Wp p e below Post T (mkF m pc' L S)) (k2 : x < y → Wp p e below Post T (mkF m (pc + 3) L S)) : Wp p e below Post T (mkF m pc L (.int y :: .int x :: S)) := by
  by_cases hq : x < y
  · exact (k2 hq).imp fun t q => XS.icmpNo W.here W.exec rfl (hb W.bytes hd) rfl (tlt hq).2.1 q
  · exact (k1 hq).imp fun t q => XS.icmpYes W.here W.exec rfl (pc0 := pc) rfl (hb W.bytes hd) rfl (flt hq).2.1 (by omega) (by omega) q
theorem w_ifge (W : Wk p l e R s vm0 m args below meth c Z own n0 B ML ret T h locs cells slots) {x : Int32} {o : Int} {pc' : Nat} (hd : decode B pc = .ok (.ifCond .ge o, 3)) (hp : (pc : Int) + o = (pc' : Int)) (k1 : ¬ (x < 0) → Wp p e below Post T (mkF m pc' L S)) (k2 : x < 0 → Wp p e below Post T (mkF m (pc + 3) L S)) : Wp p e below Post T (mkF m pc L (.int x :: S)) := by
  by_cases hq : x < 0
  · exact (k2 hq).imp fun t q => XS.ifNo W.here W.exec rfl (hb W.bytes hd) rfl ((if0 _ _).trans (tlt hq).2.1) q
  · exact (k1 hq).imp fun t q => XS.ifYes W.here W.exec rfl (pc0 := pc) rfl (hb W.bytes hd) rfl ((if0 _ _).trans (flt hq).2.1) (by omega) (by omega) q
theorem w_icmpgt (W : Wk p l e R s vm0 m args below meth c Z own n0 B ML ret T h locs cells slots) {x y : Int32} {o : Int} {pc' : Nat} (hd : decode B pc = .ok (.if_icmp .gt o, 3)) (hp : (pc : Int) + o = (pc' : Int)) (k1 : y < x → Wp p e below Post T (mkF m pc' L S)) (k2 : ¬ (y < x) → Wp p e below Post T (mkF m (pc + 3) L S)) : Wp p e below Post T (mkF m pc L (.int y :: .int x :: S)) := by
  by_cases hq : y < x
  · exact (k1 hq).imp fun t q => XS.icmpYes W.here W.exec rfl (pc0 := pc) rfl (hb W.bytes hd) rfl (tlt hq).2.2.1 (by omega) (by omega) q
  · exact (k2 hq).imp fun t q => XS.icmpNo W.here W.exec rfl (hb W.bytes hd) rfl (flt hq).2.2.1 q
theorem w_ifgt (W : Wk p l e R s vm0 m args below meth c Z own n0 B ML ret T h locs cells slots) {x : Int32} {o : Int} {pc' : Nat} (hd : decode B pc = .ok (.ifCond .gt o, 3)) (hp : (pc : Int) + o = (pc' : Int)) (k1 : 0 < x → Wp p e below Post T (mkF m pc' L S)) (k2 : ¬ (0 < x) → Wp p e below Post T (mkF m (pc + 3) L S)) : Wp p e below Post T (mkF m pc L (.int x :: S)) := by
  by_cases hq : 0 < x
  · exact (k1 hq).imp fun t q => XS.ifYes W.here W.exec rfl (pc0 := pc) rfl (hb W.bytes hd) rfl ((if0 _ _).trans (tlt hq).2.2.1) (by omega) (by omega) q
  · exact (k2 hq).imp fun t q => XS.ifNo W.here W.exec rfl (hb W.bytes hd) rfl ((if0 _ _).trans (flt hq).2.2.1) q
theorem w_icmple (W : Wk p l e R s vm0 m args below meth c Z own n0 B ML ret T h locs cells slots) {x y : Int32} {o : Int} {pc' : Nat} (hd : decode B pc = .ok (.if_icmp .le o, 3)) (hp : (pc : Int) + o = (pc' : Int)) (k1 : ¬ (y < x) → Wp p e below Post T (mkF m pc' L S)) (k2 : y < x → Wp p e below Post T (mkF m (pc + 3) L S)) : Wp p e below Post T (mkF m pc L (.int y :: .int x :: S)) := by
  by_cases hq : y < x
  · exact (k2 hq).imp fun t q => XS.icmpNo W.here W.exec rfl (hb W.bytes hd) rfl (tlt hq).2.2.2 q
  · exact (k1 hq).imp fun t q => XS.icmpYes W.here W.exec rfl (pc0 := pc) rfl (hb W.bytes hd) rfl (flt hq).2.2.2 (by omega) (by omega) q
theorem w_ifle (W : Wk p l e R s vm0 m args below meth c Z own n0 B ML ret T h locs cells slots) {x : Int32} {o : Int} {pc' : Nat} (hd : decode B pc = .ok (.ifCond .le o, 3)) (hp : (pc : Int) + o = (pc' : Int)) (k1 : ¬ (0 < x) → Wp p e below Post T (mkF m pc' L S)) (k2 : 0 < x → Wp p e below Post T (mkF m (pc + 3) L S)) : Wp p e below Post T (mkF m pc L (.int x :: S)) := by
  by_cases hq : 0 < x
  · exact (k2 hq).imp fun t q => XS.ifNo W.here W.exec rfl (hb W.bytes hd) rfl ((if0 _ _).trans (tlt hq).2.2.2) q
  · exact (k1 hq).imp fun t q => XS.ifYes W.here W.exec rfl (pc0 := pc) rfl (hb W.bytes hd) rfl ((if0 _ _).trans (flt hq).2.2.2) (by omega) (by omega) q
theorem w_ifnullY (W : Wk p l e R s vm0 m args below meth c Z own n0 B ML ret T h locs cells slots) {b : Addr} {o : Int} {pc' : Nat} (hd : decode B pc = .ok (.ifnull o, 3)) (hp : (pc : Int) + o = (pc' : Int)) (hr : Wp p e below Post T (mkF m pc' L S)) : Wp p e below Post T (mkF m pc L (.null :: S)) :=
  hr.imp fun t q => XS.ifnullYes W.here W.exec rfl (pc0 := pc) rfl (hb W.bytes hd) rfl (by omega) (by omega) q
theorem w_ifnullN (W : Wk p l e R s vm0 m args below meth c Z own n0 B ML ret T h locs cells slots) {b : Addr} {o : Int} (hd : decode B pc = .ok (.ifnull o, 3)) (hr : Wp p e below Post T (mkF m (pc + 3) L S)) : Wp p e below Post T (mkF m pc L (.ref b :: S)) :=
  hr.imp fun t q => XS.ifnullNo W.here W.exec rfl (hb W.bytes hd) rfl q
theorem w_ifnonnullY (W : Wk p l e R s vm0 m args below meth c Z own n0 B ML ret T h locs cells slots) {b : Addr} {o : Int} {pc' : Nat} (hd : decode B pc = .ok (.ifnonnull o, 3)) (hp : (pc : Int) + o = (pc' : Int)) (hr : Wp p e below Post T (mkF m pc' L S)) : Wp p e below Post T (mkF m pc L (.ref b :: S)) :=
  hr.imp fun t q => XS.ifnonnullYes W.here W.exec rfl (pc0 := pc) rfl (hb W.bytes hd) rfl (by omega) (by omega) q
theorem w_ifnonnullN (W : Wk p l e R s vm0 m args below meth c Z own n0 B ML ret T h locs cells slots) {b : Addr} {o : Int} (hd : decode B pc = .ok (.ifnonnull o, 3)) (hr : Wp p e below Post T (mkF m (pc + 3) L S)) : Wp p e below Post T (mkF m pc L (.null :: S)) :=
  hr.imp fun t q => XS.ifnonnullNo W.here W.exec rfl (hb W.bytes hd) rfl q
theorem w_acmp (W : Wk p l e R s vm0 m args below meth c Z own n0 B ML ret T h locs cells slots) {cd : ACond} {x y : Value} {o : Int} {pc' : Nat} (same : Bool) (h1 : x.isRef = true) (h2 : y.isRef = true) (hd : decode B pc = .ok (.if_acmp cd o, 3)) (hq : decide (x = y) = same) (ho : 0 ≤ (pc : Int) + o) (hp : pc' = if acV cd same = true then ((pc : Int) + o).toNat else pc + 3) (hr : Wp p e below Post T (mkF m pc' L S)) : Wp p e below Post T (mkF m pc L (y :: x :: S)) :=
  hr.imp fun t q => Jvm.RoadKit.acmp (g := mkF m pc L (y :: x :: S)) W.st W.exec rfl h1 h2 (pc0 := pc) rfl (hb W.bytes hd) rfl hq ho hp q
theorem w_ldcI (W : Wk p l e R s vm0 m args below meth c Z own n0 B ML ret T h locs cells slots) {index : Nat} {v : Int32} (w : (Jvm.Cond.constant own index v).before a0 Z = true) (hd : decode B pc = .ok (.ldc index, 2)) (hr : Wp p e below Post T (mkF m (pc + 2) L (.int v :: S))) : Wp p e below Post T (mkF m pc L S) :=
  hr.imp fun t q => W.st.ldcInt W.exec W.own' (mvT W.wZ w) (g := mkF m pc L S) rfl (hb W.bytes hd) t q
theorem w_ldc2L (W : Wk p l e R s vm0 m args below meth c Z own n0 B ML ret T h locs cells slots) {index : Nat} {v : Int64} (w : (Jvm.Cond.constantLong own index v).before a0 Z = true) (hd : decode B pc = .ok (.ldc2_w index, 3)) (hr : Wp p e below Post T (mkF m (pc + 3) L (.long v :: S))) : Wp p e below Post T (mkF m pc L S) :=
  hr.imp fun t q => W.st.ldc2Long W.exec W.own' (mvT W.wZ w) (g := mkF m pc L S) rfl (hb W.bytes hd) t q
/-! the ends -/
/-- what a body that interns nothing leaves -/
def PoN (n0 : Nat) (s : State) (kc ks : Nat) (Q : Option Value → Heap → Prop) (o : Outcome) (t : State) : Prop := ∃ v Ls, o = .returned v ∧ (Q v t.heap ∧ Fr n0 Ls) ∧ FrameEnd s o t Ls kc ks
theorem endN {kc ks : Nat} {Q : Option Value → Heap → Prop} (W : Wk p l e R s s.vm m args below meth c Z own n0 B ML ret T h locs cells slots) {v : Option Value} {g : JFrame} (hv : ret = none → v = none) (hc : cells ≤ kc) (hk : slots ≤ ks) (hq : Q v h)
    (k : ∀ fs, (∀ (f : JFrame) (acts : List Action), f.method = m → f.locked = none → f.entered = [] → (doReturn e (T.setTop f) acts v).1 = T.setFrames fs) → Steps p.tables e below (T.setTop g) (T.setFrames fs)) : Wp p e below (PoN n0 s kc ks Q) T g := by
  have hlk := W.lk
  obtain ⟨fs, hr, hrun, hended, hW, hsame⟩ := W.st.leave (v := v) (fun q => hv (W.ret'.symm.trans q))
  have hh : (T.setFrames fs).heap = h := W.heap
  exact ⟨_, _, k fs hr, hrun, hended, v, locs, rfl, ⟨by rw [hh]; exact hq, W.fr⟩, ⟨_, rfl⟩, hW, hsame.mono hc hk⟩
theorem rV (W : Wk p l e R s vm0 m args below meth c Z own n0 B ML ret T h locs cells slots) (hret : ret = none) (hd : decode B pc = .ok (.return_, 1)) {fs : List Frame} (hr : ∀ (f : JFrame) (acts : List Action), f.method = m → f.locked = none → f.entered = [] → (doReturn e (T.setTop f) acts none).1 = T.setFrames fs) : Steps p.tables e below (T.setTop (mkF m pc L [])) (T.setFrames fs) :=
  W.st.returnOut W.exec (W.ret'.trans hret) (hb W.bytes hd) hr
theorem rI {z : Int32} (W : Wk p l e R s vm0 m args below meth c Z own n0 B ML ret T h locs cells slots) (hret : ret = some .int) (hd : decode B pc = .ok (.ireturn, 1)) {fs : List Frame} (hr : ∀ (f : JFrame) (acts : List Action), f.method = m → f.locked = none → f.entered = [] → (doReturn e (T.setTop f) acts (some (.int z))).1 = T.setFrames fs) : Steps p.tables e below (T.setTop (mkF m pc L (.int z :: S))) (T.setFrames fs) :=
  retOut W.st W.exec (W.ret'.trans hret) rfl (Or.inl ⟨rfl, Or.inl rfl, z, rfl⟩) (hb W.bytes hd) hr
theorem rL {z : Int64} (W : Wk p l e R s vm0 m args below meth c Z own n0 B ML ret T h locs cells slots) (hret : ret = some .long) (hd : decode B pc = .ok (.lreturn, 1)) {fs : List Frame} (hr : ∀ (f : JFrame) (acts : List Action), f.method = m → f.locked = none → f.entered = [] → (doReturn e (T.setTop f) acts (some (.long z))).1 = T.setFrames fs) : Steps p.tables e below (T.setTop (mkF m pc L (.long z :: S))) (T.setFrames fs) :=
  retOut W.st W.exec (W.ret'.trans hret) rfl (Or.inr (Or.inl ⟨rfl, rfl, z, rfl⟩)) (hb W.bytes hd) hr
theorem rA {v : Value} {t : FieldType} (W : Wk p l e R s vm0 m args below meth c Z own n0 B ML ret T h locs cells slots) (hret : ret = some t) (ht : t.isReference = true) (hv : v.isRef = true) (hd : decode B pc = .ok (.areturn, 1)) {fs : List Frame} (hr : ∀ (f : JFrame) (acts : List Action), f.method = m → f.locked = none → f.entered = [] → (doReturn e (T.setTop f) acts (some v)).1 = T.setFrames fs) : Steps p.tables e below (T.setTop (mkF m pc L (v :: S))) (T.setFrames fs) :=
  retOut W.st W.exec (W.ret'.trans hret) (by cases v <;> cases t <;> first | rfl | (simp [Value.isRef] at hv) | (simp [FieldType.isReference] at ht)) (Or.inr (Or.inr (Or.inr (Or.inr ⟨rfl, ht, hv⟩)))) (hb W.bytes hd) hr
theorem rN {z z' : Int32} {t : FieldType} (W : Wk p l e R s vm0 m args below meth c Z own n0 B ML ret T h locs cells slots) (hret : ret = some t) (ht : t = .boolean ∨ t = .byte ∨ t = .char ∨ t = .short) (hz : nar t z = z') (hd : decode B pc = .ok (.ireturn, 1)) {fs : List Frame} (hr : ∀ (f : JFrame) (acts : List Action), f.method = m → f.locked = none → f.entered = [] → (doReturn e (T.setTop f) acts (some (.int z'))).1 = T.setFrames fs) : Steps p.tables e below (T.setTop (mkF m pc L (.int z :: S))) (T.setFrames fs) := by
  subst hz; exact retN W.st W.exec (W.ret'.trans hret) ht (hb W.bytes hd) hr
/-! a contract of a body that interns nothing; its entry; a call by it -/
def CtN (l : Launch) (Z : State) (y : MethodName) (B : ByteArray) (ML : Nat) (ret : Option FieldType) (rm : Room) (n0 : Nat) (as : Array Value) (h : Heap) (Q : Option Value → Heap → Prop) : Prop :=
  ∀ ws : List Jvm.Cond, MetFree l y (head1 (Jvm.Cond.code y B ML ret :: ws) rm) (fun a U => a = as ∧ Z.Warmed39 U.vm ∧ U.heap = h) (fun _ _ _ _ _ => True) (fun _ U o U' => ∃ v Ls, o = .returned v ∧ (Q v U'.heap ∧ Fr n0 Ls) ∧ FrameEnd U o U' Ls rm.cells rm.slots)
theorem CtN.of {y : MethodName} {rm : Room} {as : Array Value} {Q : Option Value → Heap → Prop} (hpl : plainFor y = true)
    (k : ∀ p e s m below meth c T, Wk p l e rm s s.vm m as below meth c Z y.cls n0 B ML ret T h [] 0 0 → meth.name = y.name → Wp p e below (PoN n0 s rm.cells rm.slots Q) T (entryFrame m as ML)) : CtN l Z y B ML ret rm n0 as h Q := by
  intro ws
  refine MetFree.of_bodySF hpl hisR ?_
  intro p e s m args below meth c s₁ Bd hml0 hP hK
  obtain ⟨rfl, hZ, hh⟩ := hP
  have hown : s.vm.findClass y.cls = some m.cls := findClass_of_methodNamed Bd.named
  have hnm := (name_of_methodNamed Bd.named Bd.method).1
  have X0 : Stand p l e rm s m args below meth c s₁ [] 0 0 := Stand.of_body Bd
  have e0 : s₁.heap = h := by rw [← hh, Bd.state]; rfl
  exact k p e s m below meth c s₁ ⟨X0, (State.WarmedH.refl s).since h.size, hZ, hown, e0, Fr.nil n0, Bd.exec, Bd.bytes, hml0, Bd.returns, Bd.notSynchronized⟩ hnm
theorem CtN.grow {y : MethodName} {rm : Room} {as : Array Value} {Q : Option Value → Heap → Prop} (C : CtN l Z y B ML ret rm n0 as h Q) : CtN l Z y B ML ret rm n0 as h (fun v h' => Q v h' ∧ h.size ≤ h'.size) := by
  intro ws p e ha hc hk s m args below hf happ hP hK
  obtain ⟨n, o, h1, h2, h3, v, Ls, e1, ⟨q1, q2⟩, fe⟩ := C ws p e ha hc hk s m args below hf happ hP hK
  exact ⟨n, o, h1, h2, h3, v, Ls, e1, ⟨⟨q1, by rw [← hP.2.2]; exact fe.2.2.2.1⟩, q2⟩, fe⟩
theorem CtN.imp {y : MethodName} {rm : Room} {as : Array Value} {Q Q' : Option Value → Heap → Prop} (C : CtN l Z y B ML ret rm n0 as h Q) (k : ∀ v h', Q v h' → Q' v h') : CtN l Z y B ML ret rm n0 as h Q' := by
  intro ws p e ha hc hk s m args below hf happ hP hK
  obtain ⟨n, o, h1, h2, h3, v, Ls, e1, ⟨q1, q2⟩, fe⟩ := C ws p e ha hc hk s m args below hf happ hP hK
  exact ⟨n, o, h1, h2, h3, v, Ls, e1, ⟨k _ _ q1, q2⟩, fe⟩
theorem w_callS {y : MethodName} {yB : ByteArray} {yML : Nat} {yret : Option FieldType} {rm : Room} {as : Array Value} {Q : Option Value → Heap → Prop} (W : Wk p l e R s vm0 m args below meth c Z own n0 B ML ret T h locs cells slots) {index : Nat} (C : CtN l Z y yB yML yret rm n0 as h Q)
    (w1 : (Jvm.Cond.methodLink own index y).before a0 Z = true) (w2 : (Jvm.Cond.static y).before a0 Z = true) (w3 : (Jvm.Cond.initialized y.cls).before a0 Z = true) (w4 : (Jvm.Cond.code y yB yML yret).before a0 Z = true)
    (hy : y.cls ≠ "java/lang/invoke/MethodHandle" ∧ y.cls ≠ "java/lang/invoke/VarHandle") (Wd : Nat) (hf : rm.frames + 1 ≤ R.frames) (hl : Wd + (yML + 11) + rm.locals ≤ R.locals) (hc : cells + rm.cells ≤ R.cells) (hs : slots + rm.slots ≤ R.slots)
    {argsL rest : List Value} {ps : List FieldType} {r : Option FieldType} (hpd : parseMethodDescriptor y.desc = some ⟨ps, r⟩) (hlen : argsL.length = ps.length) (has : as = argsL.toArray) (hS : S = argsL.reverse ++ rest) (hW : (rest.map fun v => v.category).sum = Wd) (hL : L.size = ML)
    (hd : decode B pc = .ok (.invokestatic index, 3))
    (k : ∀ T' h' locs' v, Wk p l e R s vm0 m args below meth c Z own n0 B ML ret T' h' locs' (cells + rm.cells) (slots + rm.slots) → Q v h' → Wp p e below Post T' (mkF m (pc + 3) L (v.toList ++ rest))) : Wp p e below Post T (mkF m pc L S) := by
  subst has
  have hZ := W.wZ
  obtain ⟨v, vm₁, ⟨T', L', k', n'⟩, -, X', ⟨Lc, hQ, l1, y1, z1⟩, st⟩ := Jvm.LawKit.callS W.st W.exec (y := y) W.own' (mvT hZ w1) (mvT hZ w2) (mvT hZ w3) (mvT hZ w4) hy (backOf (W := Wd) (Q := fun v h' Ls => (Q v h' ∧ h.size ≤ h'.size) ∧ Fr n0 Ls) (C.grow []) hZ w4 w3 hf hl) (g := mkF m pc L S) rfl (hL.trans W.ml.symm) (argsL := argsL) (rest := rest) (lenOf hpd hlen) hS (by show 2 * 0 + _ ≤ _; rw [hW]; omega) (hb W.bytes hd) (fun _ _ => ⟨rfl, W.heap, hc, hs⟩)
  dsimp only [Pt.U, Pt.locs, Pt.cells, Pt.slots] at X' l1 y1 z1 st hQ
  subst l1 y1 z1
  exact (k T' T'.heap _ v (W.on X' rfl hQ.1.2 (W.fr.app hQ.2)) hQ.1.1).imp fun t q => st t q
theorem Wp.cast {g g' : JFrame} (q : g = g') (w : Wp p e below Post T g') : Wp p e below Post T g := q ▸ w
theorem n_rV {kc ks : Nat} {Q : Option Value → Heap → Prop} (W : Wk p l e R s s.vm m args below meth c Z own n0 B ML ret T h locs cells slots) (hret : ret = none) (hd : decode B pc = .ok (.return_, 1)) (hc : cells ≤ kc) (hk : slots ≤ ks) (hq : Q none h) : Wp p e below (PoN n0 s kc ks Q) T (mkF m pc L []) := endN W (fun _ => rfl) hc hk hq fun fs hr => rV W hret hd hr
theorem n_rI {kc ks : Nat} {Q : Option Value → Heap → Prop} {z : Int32} (W : Wk p l e R s s.vm m args below meth c Z own n0 B ML ret T h locs cells slots) (hret : ret = some .int) (hd : decode B pc = .ok (.ireturn, 1)) (hc : cells ≤ kc) (hk : slots ≤ ks) (hq : Q (some (.int z)) h) : Wp p e below (PoN n0 s kc ks Q) T (mkF m pc L (.int z :: S)) := endN W (fun q => by rw [hret] at q; cases q) hc hk hq fun fs hr => rI W hret hd hr
theorem n_rL {kc ks : Nat} {Q : Option Value → Heap → Prop} {z : Int64} (W : Wk p l e R s s.vm m args below meth c Z own n0 B ML ret T h locs cells slots) (hret : ret = some .long) (hd : decode B pc = .ok (.lreturn, 1)) (hc : cells ≤ kc) (hk : slots ≤ ks) (hq : Q (some (.long z)) h) : Wp p e below (PoN n0 s kc ks Q) T (mkF m pc L (.long z :: S)) := endN W (fun q => by rw [hret] at q; cases q) hc hk hq fun fs hr => rL W hret hd hr
theorem n_rA {kc ks : Nat} {Q : Option Value → Heap → Prop} {v : Value} {t : FieldType} (W : Wk p l e R s s.vm m args below meth c Z own n0 B ML ret T h locs cells slots) (hret : ret = some t) (ht : t.isReference = true) (hv : v.isRef = true) (hd : decode B pc = .ok (.areturn, 1)) (hc : cells ≤ kc) (hk : slots ≤ ks) (hq : Q (some v) h) : Wp p e below (PoN n0 s kc ks Q) T (mkF m pc L (v :: S)) := endN W (fun q => by rw [hret] at q; cases q) hc hk hq fun fs hr => rA W hret ht hv hd hr
theorem n_rN {kc ks : Nat} {Q : Option Value → Heap → Prop} {z z' : Int32} {t : FieldType} (W : Wk p l e R s s.vm m args below meth c Z own n0 B ML ret T h locs cells slots) (hret : ret = some t) (ht : t = .boolean ∨ t = .byte ∨ t = .char ∨ t = .short) (hz : nar t z = z') (hd : decode B pc = .ok (.ireturn, 1)) (hc : cells ≤ kc) (hk : slots ≤ ks) (hq : Q (some (.int z')) h) : Wp p e below (PoN n0 s kc ks Q) T (mkF m pc L (.int z :: S)) := endN W (fun q => by rw [hret] at q; cases q) hc hk hq fun fs hr => rN W hret ht hz hd hr

end OwnKit

/-! what the law and its callees reckon, in plain numbers -/
theorem own_lc3 (x y : Int64) : lcmpW x y = -1 ∨ lcmpW x y = 0 ∨ lcmpW x y = 1 := by
  unfold lcmpW; split
  · exact Or.inr (Or.inr rfl)
  · split
    · exact Or.inr (Or.inl rfl)
    · exact Or.inl rfl
theorem own_lcN {x y : Int64} (h : lcmpW x y < 0) : lcmpW x y = -1 := by
  rcases own_lc3 x y with q | q | q
  · exact q
  · rw [q] at h; exact absurd h (by decide)
  · rw [q] at h; exact absurd h (by decide)
theorem own_lcZ {x y : Int64} (h : lcmpW x y = 0) : lcmpW x y = 0 := h
theorem own_lcP {x y : Int64} (h : ¬ (lcmpW x y < 0)) (h2 : ¬ (lcmpW x y = 0)) : lcmpW x y = 1 := by
  rcases own_lc3 x y with q | q | q
  · rw [q] at h; exact absurd (by decide) h
  · exact absurd q h2
  · exact q
theorem own_lcEq {x y : Int64} : lcmpW x y = 0 ↔ x = y := by rw [lcW]; exact lc_eq x y
def own_max (x y : Int64) : Int64 := if lcmpW x y < 0 then y else x
def own_mh (q1 q2 : Int64) : Int64 := ((((q1 >>> ((32 : Int32) &&& 0x3f).toInt64) * (q2 >>> ((32 : Int32) &&& 0x3f).toInt64)) + ((((q1 >>> ((32 : Int32) &&& 0x3f).toInt64) * (q2 &&& (4294967295 : Int64))) + ((((q1 &&& (4294967295 : Int64)) * (q2 &&& (4294967295 : Int64))).toUInt64 >>> ((32 : Int32) &&& 0x3f).toInt64.toUInt64).toInt64)) >>> ((32 : Int32) &&& 0x3f).toInt64)) + ((((((q1 >>> ((32 : Int32) &&& 0x3f).toInt64) * (q2 &&& (4294967295 : Int64))) + ((((q1 &&& (4294967295 : Int64)) * (q2 &&& (4294967295 : Int64))).toUInt64 >>> ((32 : Int32) &&& 0x3f).toInt64.toUInt64).toInt64)) &&& (4294967295 : Int64)) + ((q1 &&& (4294967295 : Int64)) * (q2 >>> ((32 : Int32) &&& 0x3f).toInt64))) >>> ((32 : Int32) &&& 0x3f).toInt64))
def own_cu (x y : Int64) : Int32 := lcmpW (x + (-9223372036854775808 : Int64)) (y + (-9223372036854775808 : Int64))
def own_cp (q1 q2 q3 q4 : Int64) : Int32 := if lcmpW (own_mh q1 q2) q3 = 0 then own_cu (q1 * q2) q4 else lcmpW (own_mh q1 q2) q3
theorem own_nn {r x : Int64} (h : r &&& (9223372036854775807 : Int64) = x) : 0 ≤ x.toInt := by
  subst h
  have := c_maskL r (9223372036854775807 : Int64) 63 (by decide) (by decide)
  rw [this]; exact Int.emod_nonneg _ (by decide)
theorem own_m32 (r : Int64) : (r &&& (4294967295 : Int64)).toInt = r.toInt % 4294967296 := c_maskL r (4294967295 : Int64) 32 (by decide) (by decide)
theorem own_ush (r : Int64) : ((r.toUInt64 >>> ((32 : Int32) &&& 0x3f).toInt64.toUInt64).toInt64).toInt = (r.toInt % 18446744073709551616) / 4294967296 := c_lushr r 32 32 (by decide) (by decide)
theorem own_shr (r : Int64) : (r >>> ((32 : Int32) &&& 0x3f).toInt64).toInt = r.toInt / 4294967296 := c_lshr r 32 32 (by decide)
theorem own_shl (r : Int64) : ((r <<< ((32 : Int32) &&& 0x3f).toInt64).toInt - r.toInt * 4294967296) % 18446744073709551616 = 0 := c_lshl r 32 32 (by decide)
/-- a product of two bounded factors -/
theorem own_mul {x y a b : Int} (h1 : 0 ≤ x) (h2 : x ≤ a) (h3 : 0 ≤ y) (h4 : y ≤ b) : 0 ≤ x * y ∧ x * y ≤ a * b :=
  ⟨Int.mul_nonneg h1 h3, Int.mul_le_mul h2 h4 h3 (Int.le_trans h1 h2)⟩
theorem own_addE {a b : Int64} {A B : Int} (ha : a.toInt = A) (hb : b.toInt = B) (h1 : 0 ≤ A + B) (h2 : A + B < 9223372036854775808) : (a + b).toInt = A + B := by
  have e := c_ladd a b
  have r := rng64 (a + b)
  rw [ha, hb] at e
  generalize (a + b).toInt = G at *
  generalize A + B = E at *
  clear ha hb
  omega
theorem own_ushE {a : Int64} {A : Int} (ha : a.toInt = A) (h0 : 0 ≤ A) (h1 : A < 9223372036854775808) : ((a.toUInt64 >>> ((32 : Int32) &&& 0x3f).toInt64.toUInt64).toInt64).toInt = A / 4294967296 := by
  rw [own_ush, ha, Int.emod_eq_of_lt h0 (by omega)]
theorem own_mulE {a b : Int64} {P : Int} (hP : a.toInt * b.toInt = P) (h0 : 0 ≤ P) (h1 : P < 9223372036854775808) : (a * b).toInt = P := by
  have e := c_lmul a b
  have r := rng64 (a * b)
  rw [hP] at e
  generalize (a * b).toInt = G at *
  clear hP
  omega
theorem own_mulW {a b : Int64} {P : Int} (hP : a.toInt * b.toInt = P) (h0 : 0 ≤ P) (h1 : P < 18446744073709551616) : (a * b).toInt % 18446744073709551616 = P := by
  have e := c_lmul a b
  rw [hP] at e
  generalize (a * b).toInt = G at *
  clear hP
  omega
/-- the numbers alone: q = P00 / 2^32, P01 = c * 2^32 + d, P10 = a * 2^32 + b -/
theorem own_int {q a b c d : Int} (hq : 0 ≤ q) (hb : 0 ≤ b) (hb' : b < 4294967296) (hd : 0 ≤ d) (hd' : d < 4294967296) :
    (a * 4294967296 + b + q) / 4294967296 + ((a * 4294967296 + b + q) % 4294967296 + (c * 4294967296 + d)) / 4294967296 = c + a + (q + d + b) / 4294967296 := by
  omega
theorem own_half {x : Int64} (h0 : 0 ≤ x.toInt) : (0 ≤ x.toInt % 4294967296 ∧ x.toInt % 4294967296 ≤ 4294967295) ∧ 0 ≤ x.toInt / 4294967296 ∧ x.toInt / 4294967296 ≤ 2147483647 := by
  have r := rng64 x
  generalize x.toInt = G at *
  omega
theorem own_hiEq {xa xb aL aH bL bH p00 p01 p10 p11 t1 t2 t3 t4 mid v1 v2 v3 v4 v5 hi : Int64} (ha0 : 0 ≤ xa.toInt) (hb0 : 0 ≤ xb.toInt)
    (haL : (xa &&& (4294967295 : Int64)) = aL) (haH : ((xa.toUInt64 >>> ((32 : Int32) &&& 0x3f).toInt64.toUInt64).toInt64) = aH) (hbL : (xb &&& (4294967295 : Int64)) = bL) (hbH : ((xb.toUInt64 >>> ((32 : Int32) &&& 0x3f).toInt64.toUInt64).toInt64) = bH)
    (hp00 : (aL * bL) = p00) (hp01 : (aL * bH) = p01) (hp10 : (aH * bL) = p10) (hp11 : (aH * bH) = p11)
    (ht1 : ((p00.toUInt64 >>> ((32 : Int32) &&& 0x3f).toInt64.toUInt64).toInt64) = t1) (ht2 : (p01 &&& (4294967295 : Int64)) = t2) (ht3 : (t1 + t2) = t3) (ht4 : (p10 &&& (4294967295 : Int64)) = t4) (hmid : (t3 + t4) = mid)
    (hv1 : ((p01.toUInt64 >>> ((32 : Int32) &&& 0x3f).toInt64.toUInt64).toInt64) = v1) (hv2 : (p11 + v1) = v2) (hv3 : ((p10.toUInt64 >>> ((32 : Int32) &&& 0x3f).toInt64.toUInt64).toInt64) = v3) (hv4 : (v2 + v3) = v4) (hv5 : ((mid.toUInt64 >>> ((32 : Int32) &&& 0x3f).toInt64.toUInt64).toInt64) = v5) (hhi : (v4 + v5) = hi) : own_mh xa xb = hi := by
  obtain ⟨⟨la0, la1⟩, la2, la3⟩ := own_half ha0
  obtain ⟨⟨lb0, lb1⟩, lb2, lb3⟩ := own_half hb0
  have eaL : aL.toInt = xa.toInt % 4294967296 := by rw [← haL, own_m32]
  have ebL : bL.toInt = xb.toInt % 4294967296 := by rw [← hbL, own_m32]
  have eaH : aH.toInt = xa.toInt / 4294967296 := by rw [← haH]; exact own_ushE rfl ha0 (rng64 xa).2
  have ebH : bH.toInt = xb.toInt / 4294967296 := by rw [← hbH]; exact own_ushE rfl hb0 (rng64 xb).2
  have q1 : xa >>> ((32 : Int32) &&& 0x3f).toInt64 = aH := Int64.toInt_inj.mp (by rw [own_shr, eaH])
  have q2 : xb >>> ((32 : Int32) &&& 0x3f).toInt64 = bH := Int64.toInt_inj.mp (by rw [own_shr, ebH])
  rw [← eaL] at la0 la1; rw [← ebL] at lb0 lb1; rw [← eaH] at la2 la3; rw [← ebH] at lb2 lb3
  obtain ⟨m00, m00'⟩ := own_mul la0 la1 lb0 lb1
  obtain ⟨m01, m01'⟩ := own_mul la0 la1 lb2 lb3
  obtain ⟨m10, m10'⟩ := own_mul la2 la3 lb0 lb1
  obtain ⟨m11, m11'⟩ := own_mul la2 la3 lb2 lb3
  have n00 : p00.toInt % 18446744073709551616 = aL.toInt * bL.toInt := by rw [← hp00]; exact own_mulW rfl m00 (Int.lt_of_le_of_lt m00' (by decide))
  have n01 : p01.toInt = aL.toInt * bH.toInt := by rw [← hp01]; exact own_mulE rfl m01 (Int.lt_of_le_of_lt m01' (by decide))
  have n10 : p10.toInt = aH.toInt * bL.toInt := by rw [← hp10]; exact own_mulE rfl m10 (Int.lt_of_le_of_lt m10' (by decide))
  have n11 : p11.toInt = aH.toInt * bH.toInt := by rw [← hp11]; exact own_mulE rfl m11 (Int.lt_of_le_of_lt m11' (by decide))
  have hmh : own_mh xa xb = (p11 + ((p10 + t1) >>> ((32 : Int32) &&& 0x3f).toInt64)) + ((((p10 + t1) &&& (4294967295 : Int64)) + p01) >>> ((32 : Int32) &&& 0x3f).toInt64) := by
    unfold own_mh
    rw [q1, q2, haL, hbL, hp00, hp10, hp11, hp01, ht1]
  rw [hmh]
  generalize aL.toInt * bL.toInt = P00 at *
  generalize aL.toInt * bH.toInt = P01 at *
  generalize aH.toInt * bL.toInt = P10 at *
  generalize aH.toInt * bH.toInt = P11 at *
  clear hmh q1 q2 eaL ebL eaH ebH la0 la1 la2 la3 lb0 lb1 lb2 lb3 haL haH hbL hbH hp00 hp01 hp10 hp11 ha0 hb0
  have et1 : t1.toInt = P00 / 4294967296 := by rw [← ht1, own_ush, n00]
  have bq : 0 ≤ P00 / 4294967296 ∧ P00 / 4294967296 ≤ 4294967295 := by clear n00 n01 n10 n11 et1; omega
  obtain ⟨c1, d1, e1, hd1, hd1', hc1, hc1'⟩ : ∃ c d : Int, P01 = c * 4294967296 + d ∧ 0 ≤ d ∧ d < 4294967296 ∧ 0 ≤ c ∧ c ≤ 2147483647 := ⟨P01 / 4294967296, P01 % 4294967296, by omega, by omega, by omega, by omega, by omega⟩
  obtain ⟨a1, b1, e2, hb1, hb1', ha1, ha1'⟩ : ∃ c d : Int, P10 = c * 4294967296 + d ∧ 0 ≤ d ∧ d < 4294967296 ∧ 0 ≤ c ∧ c ≤ 2147483647 := ⟨P10 / 4294967296, P10 % 4294967296, by omega, by omega, by omega, by omega, by omega⟩
  have m11b : P11 ≤ 4611686014132420609 := by have h : (2147483647 : Int) * 2147483647 = 4611686014132420609 := by decide
                                              omega
  have mb01 : P01 ≤ 9223372030412324865 := by have h : (4294967295 : Int) * 2147483647 = 9223372030412324865 := by decide
                                              omega
  have mb10 : P10 ≤ 9223372030412324865 := by have h : (2147483647 : Int) * 4294967295 = 9223372030412324865 := by decide
                                              omega
  generalize P00 / 4294967296 = q0 at *
  clear m00 m00' m01' m10' m11' n00
  subst e1 e2
  have et2 : t2.toInt = d1 := by rw [← ht2, own_m32, n01]; omega
  have et4 : t4.toInt = b1 := by rw [← ht4, own_m32, n10]; omega
  have et3 : t3.toInt = q0 + d1 := by rw [← ht3]; exact own_addE et1 et2 (by omega) (by omega)
  have emid : mid.toInt = q0 + d1 + b1 := by rw [← hmid]; exact own_addE et3 et4 (by omega) (by omega)
  have ev1 : v1.toInt = c1 := by rw [← hv1, own_ushE n01 (by omega) (by omega)]; omega
  have ev3 : v3.toInt = a1 := by rw [← hv3, own_ushE n10 (by omega) (by omega)]; omega
  have ev5 : v5.toInt = (q0 + d1 + b1) / 4294967296 := by rw [← hv5, own_ushE emid (by omega) (by omega)]
  have bm : 0 ≤ (q0 + d1 + b1) / 4294967296 ∧ (q0 + d1 + b1) / 4294967296 ≤ 2 := by clear ev5 emid et3 et1 et2 et4 ev1 ev3 n01 n10 n11; omega
  have ev2 : v2.toInt = P11 + c1 := by rw [← hv2]; exact own_addE n11 ev1 (by omega) (by omega)
  have ev4 : v4.toInt = P11 + c1 + a1 := by rw [← hv4]; exact own_addE ev2 ev3 (by omega) (by omega)
  have ehi : hi.toInt = P11 + c1 + a1 + (q0 + d1 + b1) / 4294967296 := by rw [← hhi]; exact own_addE ev4 ev5 (by omega) (by omega)
  have ett : (p10 + t1).toInt = a1 * 4294967296 + b1 + q0 := own_addE n10 et1 (by omega) (by omega)
  have ez0 : ((p10 + t1) >>> ((32 : Int32) &&& 0x3f).toInt64).toInt = (a1 * 4294967296 + b1 + q0) / 4294967296 := by rw [own_shr, ett]
  have ez1a : ((p10 + t1) &&& (4294967295 : Int64)).toInt = (a1 * 4294967296 + b1 + q0) % 4294967296 := by rw [own_m32, ett]
  have bz0 : 0 ≤ (a1 * 4294967296 + b1 + q0) / 4294967296 ∧ (a1 * 4294967296 + b1 + q0) / 4294967296 ≤ 4294967295 := by clear ez0 ez1a ett ehi ev4 ev2 ev5 emid et3 et1 et2 et4 ev1 ev3 n01 n10 n11; omega
  have bz1 : 0 ≤ (a1 * 4294967296 + b1 + q0) % 4294967296 ∧ (a1 * 4294967296 + b1 + q0) % 4294967296 ≤ 4294967295 := by clear bz0 ez0 ez1a ett ehi ev4 ev2 ev5 emid et3 et1 et2 et4 ev1 ev3 n01 n10 n11; omega
  have hint := own_int (q := q0) (a := a1) (b := b1) (c := c1) (d := d1) bq.1 hb1 hb1' hd1 hd1'
  generalize (a1 * 4294967296 + b1 + q0) / 4294967296 = Y0 at *
  generalize (a1 * 4294967296 + b1 + q0) % 4294967296 = Y1 at *
  have ez1 : ((((p10 + t1) &&& (4294967295 : Int64)) + p01)).toInt = Y1 + (c1 * 4294967296 + d1) := own_addE ez1a n01 (by omega) (by omega)
  have ez2 : ((((p10 + t1) &&& (4294967295 : Int64)) + p01) >>> ((32 : Int32) &&& 0x3f).toInt64).toInt = (Y1 + (c1 * 4294967296 + d1)) / 4294967296 := by rw [own_shr, ez1]
  have bz2 : 0 ≤ (Y1 + (c1 * 4294967296 + d1)) / 4294967296 ∧ (Y1 + (c1 * 4294967296 + d1)) / 4294967296 ≤ 4294967295 := by clear hint ez2 ez1 ez0 ez1a ett ehi ev4 ev2 ev5 emid et3 et1 et2 et4 ev1 ev3 n01 n10 n11; omega
  have ez3 : (p11 + ((p10 + t1) >>> ((32 : Int32) &&& 0x3f).toInt64)).toInt = P11 + Y0 := own_addE n11 ez0 (by omega) (by omega)
  generalize (Y1 + (c1 * 4294967296 + d1)) / 4294967296 = Y2 at *
  generalize (q0 + d1 + b1) / 4294967296 = Y3 at *
  refine Int64.toInt_inj.mp ?_
  rw [own_addE ez3 ez2 (by omega) (by omega), ehi]
  omega
set_option maxHeartbeats 4000000 in
theorem own_loEq {xa xb aL aH bL bH p00 p01 p10 p11 t1 t2 t3 t4 mid u1 u2 lo : Int64} (ha0 : 0 ≤ xa.toInt) (hb0 : 0 ≤ xb.toInt)
    (haL : (xa &&& (4294967295 : Int64)) = aL) (haH : ((xa.toUInt64 >>> ((32 : Int32) &&& 0x3f).toInt64.toUInt64).toInt64) = aH) (hbL : (xb &&& (4294967295 : Int64)) = bL) (hbH : ((xb.toUInt64 >>> ((32 : Int32) &&& 0x3f).toInt64.toUInt64).toInt64) = bH)
    (hp00 : (aL * bL) = p00) (hp01 : (aL * bH) = p01) (hp10 : (aH * bL) = p10) (hp11 : (aH * bH) = p11)
    (ht1 : ((p00.toUInt64 >>> ((32 : Int32) &&& 0x3f).toInt64.toUInt64).toInt64) = t1) (ht2 : (p01 &&& (4294967295 : Int64)) = t2) (ht3 : (t1 + t2) = t3) (ht4 : (p10 &&& (4294967295 : Int64)) = t4) (hmid : (t3 + t4) = mid)
    (hu1 : (mid <<< ((32 : Int32) &&& 0x3f).toInt64) = u1) (hu2 : (p00 &&& (4294967295 : Int64)) = u2) (hlo : (u1 ||| u2) = lo) : xa * xb = lo := by
  have ra := rng64 xa
  have rb := rng64 xb
  have eaL := own_m32 xa
  have ebL := own_m32 xb
  have eaH := own_ush xa
  have ebH := own_ush xb
  rw [haL] at eaL; rw [hbL] at ebL; rw [haH] at eaH; rw [hbH] at ebH
  have hxa : xa.toInt = aH.toInt * 4294967296 + aL.toInt := by omega
  have hxb : xb.toInt = bH.toInt * 4294967296 + bL.toInt := by omega
  have hprod : xa.toInt * xb.toInt = (aH.toInt * bH.toInt) * 18446744073709551616 + (aH.toInt * bL.toInt + aL.toInt * bH.toInt) * 4294967296 + aL.toInt * bL.toInt := by
    rw [hxa, hxb]; simp only [Int.add_mul, Int.mul_add]
    have s1 : aH.toInt * 4294967296 * (bH.toInt * 4294967296) = aH.toInt * bH.toInt * 18446744073709551616 := by
      rw [Int.mul_assoc, Int.mul_left_comm 4294967296, ← Int.mul_assoc aH.toInt]; rfl
    have s2 : aL.toInt * (bH.toInt * 4294967296) = aL.toInt * bH.toInt * 4294967296 := by rw [Int.mul_assoc]
    have s3 : aH.toInt * 4294967296 * bL.toInt = aH.toInt * bL.toInt * 4294967296 := by rw [Int.mul_right_comm]
    rw [s1, s2, s3]; omega
  have m00 := own_mul (x := aL.toInt) (y := bL.toInt) (a := 4294967295) (b := 4294967295) (by omega) (by omega) (by omega) (by omega)
  have m01 := own_mul (x := aL.toInt) (y := bH.toInt) (a := 4294967295) (b := 2147483647) (by omega) (by omega) (by omega) (by omega)
  have m10 := own_mul (x := aH.toInt) (y := bL.toInt) (a := 2147483647) (b := 4294967295) (by omega) (by omega) (by omega) (by omega)
  have e00 := c_lmul aL bL
  have e01 := c_lmul aL bH
  have e10 := c_lmul aH bL
  have exy := c_lmul xa xb
  rw [hprod] at exy
  rw [hp00] at e00; rw [hp01] at e01; rw [hp10] at e10
  generalize aL.toInt * bL.toInt = P00 at *
  generalize aL.toInt * bH.toInt = P01 at *
  generalize aH.toInt * bL.toInt = P10 at *
  generalize aH.toInt * bH.toInt = P11 at *
  have r00 := rng64 p00
  have r01 := rng64 p01
  have r10 := rng64 p10
  have n00 : p00.toInt % 18446744073709551616 = P00 := by omega
  have n01 : p01.toInt = P01 := by omega
  have n10 : p10.toInt = P10 := by omega
  have et1 := own_ush p00
  rw [ht1, n00] at et1
  have et2 := own_m32 p01
  rw [ht2, n01] at et2
  have et4 := own_m32 p10
  rw [ht4, n10] at et4
  have et3 := c_ladd t1 t2
  rw [ht3] at et3
  have rt3 := rng64 t3
  have emid := c_ladd t3 t4
  rw [hmid] at emid
  have rmid := rng64 mid
  have nmid : mid.toInt = P00 / 4294967296 + P01 % 4294967296 + P10 % 4294967296 := by omega
  have eu1 := own_shl mid
  rw [hu1, nmid] at eu1
  have eu2 := own_m32 p00
  rw [hu2] at eu2
  have nu2 : u2.toInt = P00 % 4294967296 := by omega
  have elo := c_orL u1 u2 32 (by decide) 4294967296 (by decide) (by omega) (by omega) (by omega)
  rw [hlo] at elo
  have rlo := rng64 lo
  have rxy := rng64 (xa * xb)
  refine Int64.toInt_inj.mp ?_
  generalize (xa * xb).toInt = G at *
  clear haL haH hbL hbH hp00 hp01 hp10 hp11 ht1 ht2 ht3 ht4 hmid hu1 hu2 hlo et3 emid
  omega
theorem own_xmin (x : Int64) : x ^^^ (-9223372036854775808 : Int64) = x + (-9223372036854775808 : Int64) := by
  apply Int64.toBitVec_inj.mp
  rw [Int64.toBitVec_xor, Int64.toBitVec_add]
  generalize x.toBitVec = b
  have hm : (-9223372036854775808 : Int64).toBitVec = BitVec.ofNat 64 (2 ^ 63) := by decide
  rw [hm]
  apply BitVec.eq_of_toNat_eq
  rw [BitVec.toNat_xor, BitVec.toNat_add, BitVec.toNat_ofNat]
  have hb := b.isLt
  generalize b.toNat = n at hb
  apply Nat.eq_of_testBit_eq
  intro i
  have e : (2 ^ 63 % 2 ^ 64 : Nat) = 2 ^ 63 := by decide
  rw [e, Nat.testBit_xor, Nat.testBit_mod_two_pow, Nat.testBit_two_pow, Nat.add_comm]
  by_cases h63 : i = 63
  · subst h63
    rw [Nat.testBit_two_pow_add_eq]; simp
  · by_cases hlt : i < 63
    · rw [Nat.testBit_two_pow_add_gt hlt]
      have : i < 64 := by omega
      simp [this, Ne.symm h63]
    · have h64 : ¬ i < 64 := by omega
      have : n.testBit i = false := Nat.testBit_lt_two_pow (Nat.lt_of_lt_of_le hb (Nat.pow_le_pow_right (by decide) (by omega)))
      simp [h64, this, Ne.symm h63]
theorem own_lcNe {x y : Int64} : ¬ (lcmpW x y = 0) ↔ x ≠ y := by rw [own_lcEq]
theorem own_addMin {x y : Int64} : x + (-9223372036854775808 : Int64) = y + (-9223372036854775808 : Int64) ↔ x = y :=
  ⟨fun h => (Int64.add_left_inj _).mp h, fun h => by rw [h]⟩
section
variable {xa xb high low hi lo : Int64} (hmh : own_mh xa xb = hi) (hlo : xa * xb = lo)
theorem own_leaf_1 (hmh : own_mh xa xb = hi) (hlo : xa * xb = lo) (c1 : ¬ (lcmpW hi high = 0)) (c2 : lcmpW hi high < 0) : own_cp xa xb high low = (-1 : Int32) := by
  rw [own_cp, hmh, if_neg c1]; exact own_lcN c2
theorem own_leaf_2 (hmh : own_mh xa xb = hi) (hlo : xa * xb = lo) (c1 : ¬ (lcmpW hi high = 0)) (c2 : ¬ (lcmpW hi high < 0)) : own_cp xa xb high low = (1 : Int32) := by
  rw [own_cp, hmh, if_neg c1]; exact own_lcP c2 c1
theorem own_leaf_3 (hmh : own_mh xa xb = hi) (hlo : xa * xb = lo) (c1 : lcmpW hi high = 0) (c2 : lcmpW lo low = 0) : own_cp xa xb high low = (0 : Int32) := by
  rw [own_cp, hmh, if_pos c1, hlo, own_cu, own_lcEq.mp c2]; exact own_lcEq.mpr rfl
theorem own_leaf_4 (hmh : own_mh xa xb = hi) (hlo : xa * xb = lo) (c1 : lcmpW hi high = 0) (c2 : ¬ (lcmpW lo low = 0)) (c3 : lcmpW (lo ^^^ (-9223372036854775808 : Int64)) (low ^^^ (-9223372036854775808 : Int64)) < 0) : own_cp xa xb high low = (-1 : Int32) := by
  rw [own_xmin, own_xmin] at c3
  rw [own_cp, hmh, if_pos c1, hlo, own_cu]; exact own_lcN c3
theorem own_leaf_5 (hmh : own_mh xa xb = hi) (hlo : xa * xb = lo) (c1 : lcmpW hi high = 0) (c2 : ¬ (lcmpW lo low = 0)) (c3 : ¬ (lcmpW (lo ^^^ (-9223372036854775808 : Int64)) (low ^^^ (-9223372036854775808 : Int64)) < 0)) : own_cp xa xb high low = (1 : Int32) := by
  rw [own_xmin, own_xmin] at c3
  rw [own_cp, hmh, if_pos c1, hlo, own_cu]
  refine own_lcP c3 fun q => c2 (own_lcEq.mpr ?_)
  exact own_addMin.mp (own_lcEq.mp q)
end

theorem ef_4_JJ (m : MethodId) (x0 : Int64) (x1 : Int64) : entryFrame m #[(.long x0), (.long x1)] 4 = mkF m 0 #[.val (.long x0), .second, .val (.long x1), .second] [] := by first | (simp [entryFrame, mkF, argsToLocals, Value.category]; done) | rfl
theorem d4_0 : decode jdk_35_method_42_code 0 = .ok (.lload_n 0, 1) := by decide +kernel
theorem d4_1 : decode jdk_35_method_42_code 1 = .ok (.lload_n 2, 1) := by decide +kernel
theorem d4_2 : decode jdk_35_method_42_code 2 = .ok (.lcmp, 1) := by decide +kernel
theorem d4_3 : decode jdk_35_method_42_code 3 = .ok (.ifCond .ge 7, 3) := by decide +kernel
theorem d4_10 : decode jdk_35_method_42_code 10 = .ok (.lload_n 0, 1) := by decide +kernel
theorem d4_11 : decode jdk_35_method_42_code 11 = .ok (.lload_n 2, 1) := by decide +kernel
theorem d4_12 : decode jdk_35_method_42_code 12 = .ok (.lcmp, 1) := by decide +kernel
theorem d4_13 : decode jdk_35_method_42_code 13 = .ok (.ifCond .ne 7, 3) := by decide +kernel
theorem d4_20 : decode jdk_35_method_42_code 20 = .ok (.iconst 1, 1) := by decide +kernel
theorem d4_21 : decode jdk_35_method_42_code 21 = .ok (.ireturn, 1) := by decide +kernel
theorem d4_16 : decode jdk_35_method_42_code 16 = .ok (.iconst 0, 1) := by decide +kernel
theorem d4_17 : decode jdk_35_method_42_code 17 = .ok (.goto 4, 3) := by decide +kernel
theorem d4_6 : decode jdk_35_method_42_code 6 = .ok (.iconst (-1), 1) := by decide +kernel
theorem d4_7 : decode jdk_35_method_42_code 7 = .ok (.goto 14, 3) := by decide +kernel
theorem pn_java_lang_Long : plainName "java/lang/Long" = true := by first | (simp [plainName, overriddenIn]; done) | decide +kernel
set_option maxRecDepth 65536 in
set_option maxHeartbeats 40000000 in
theorem ctCmp (l : Launch) (Z : State) (a0 : Array Value) (hw : ∀ d ∈ tables_1, d.before a0 Z = true) (q1 q2 : Int64) (h0 : Heap) (n0 : Nat)  :
    CtN l Z (⟨"java/lang/Long", "compare", "(JJ)I"⟩ : MethodName) jdk_35_method_42_code 4 (some .int) ({ frames := 0, cells := 0, slots := 0, locals := 0 } : Room) n0 #[(.long q1), (.long q2)] h0 (fun v h => v = some (.int (lcmpW q1 q2)) ∧ h0 = h) := by
  refine CtN.of (plainFor_of_name pn_java_lang_Long) ?_
  intro p e s m below meth c T0 W0 hnm
  refine Wp.cast (ef_4_JJ m q1 q2) ?_
  refine w_lloadN W0 d4_0 rfl ?_
  refine w_lloadN W0 d4_1 rfl ?_
  refine w_lcmp W0 d4_2 rfl ?_
  refine w_ifge W0 (pc' := 10) d4_3 (by decide) (fun c3 => ?_) (fun c3 => ?_)
  · refine w_lloadN W0 d4_10 rfl ?_
    refine w_lloadN W0 d4_11 rfl ?_
    refine w_lcmp W0 d4_12 rfl ?_
    refine w_ifne W0 (pc' := 20) d4_13 (by decide) (fun c13 => ?_) (fun c13 => ?_)
    · refine w_iconst W0 (z := (1 : Int32)) d4_20 (by rfl) ?_
      exact n_rI W0 rfl d4_21 (by decide) (by decide) ⟨by rw [own_lcP c3 c13], rfl⟩
    · refine w_iconst W0 (z := (0 : Int32)) d4_16 (by rfl) ?_
      refine w_goto W0 (pc' := 21) d4_17 (by decide) ?_
      exact n_rI W0 rfl d4_21 (by decide) (by decide) ⟨by rw [own_lcZ c13], rfl⟩
  · refine w_iconst W0 (z := (-1 : Int32)) d4_6 (by rfl) ?_
    refine w_goto W0 (pc' := 21) d4_7 (by decide) ?_
    exact n_rI W0 rfl d4_21 (by decide) (by decide) ⟨by rw [own_lcN c3], rfl⟩
theorem ef_1_JJ (m : MethodId) (x0 : Int64) (x1 : Int64) : entryFrame m #[(.long x0), (.long x1)] 4 = mkF m 0 #[.val (.long x0), .second, .val (.long x1), .second] [] := by first | (simp [entryFrame, mkF, argsToLocals, Value.category]; done) | rfl
theorem d1_0 : decode jdk_29_method_66_code 0 = .ok (.lload_n 0, 1) := by decide +kernel
theorem d1_1 : decode jdk_29_method_66_code 1 = .ok (.lload_n 2, 1) := by decide +kernel
theorem d1_2 : decode jdk_29_method_66_code 2 = .ok (.lcmp, 1) := by decide +kernel
theorem d1_3 : decode jdk_29_method_66_code 3 = .ok (.ifCond .lt 7, 3) := by decide +kernel
theorem d1_10 : decode jdk_29_method_66_code 10 = .ok (.lload_n 2, 1) := by decide +kernel
theorem d1_11 : decode jdk_29_method_66_code 11 = .ok (.lreturn, 1) := by decide +kernel
theorem d1_6 : decode jdk_29_method_66_code 6 = .ok (.lload_n 0, 1) := by decide +kernel
theorem d1_7 : decode jdk_29_method_66_code 7 = .ok (.goto 4, 3) := by decide +kernel
set_option maxRecDepth 65536 in
set_option maxHeartbeats 40000000 in
theorem ctMax (l : Launch) (Z : State) (a0 : Array Value) (hw : ∀ d ∈ tables_1, d.before a0 Z = true) (q1 q2 : Int64) (h0 : Heap) (n0 : Nat)  :
    CtN l Z (⟨"java/lang/Math", "max", "(JJ)J"⟩ : MethodName) jdk_29_method_66_code 4 (some .long) ({ frames := 0, cells := 0, slots := 0, locals := 0 } : Room) n0 #[(.long q1), (.long q2)] h0 (fun v h => v = some (.long (own_max q1 q2)) ∧ h0 = h) := by
  refine CtN.of (Jvm.Free.JP.mathPlain rfl (by decide +kernel)) ?_
  intro p e s m below meth c T0 W0 hnm
  refine Wp.cast (ef_1_JJ m q1 q2) ?_
  refine w_lloadN W0 d1_0 rfl ?_
  refine w_lloadN W0 d1_1 rfl ?_
  refine w_lcmp W0 d1_2 rfl ?_
  refine w_iflt W0 (pc' := 10) d1_3 (by decide) (fun c3 => ?_) (fun c3 => ?_)
  · refine w_lloadN W0 d1_10 rfl ?_
    exact n_rL W0 rfl d1_11 (by decide) (by decide) ⟨by rw [own_max, if_pos c3], rfl⟩
  · refine w_lloadN W0 d1_6 rfl ?_
    refine w_goto W0 (pc' := 11) d1_7 (by decide) ?_
    exact n_rL W0 rfl d1_11 (by decide) (by decide) ⟨by rw [own_max, if_neg c3], rfl⟩
theorem ef_3_JJ (m : MethodId) (x0 : Int64) (x1 : Int64) : entryFrame m #[(.long x0), (.long x1)] 20 = mkF m 0 #[.val (.long x0), .second, .val (.long x1), .second, .unset, .unset, .unset, .unset, .unset, .unset, .unset, .unset, .unset, .unset, .unset, .unset, .unset, .unset, .unset, .unset] [] := by first | (simp [entryFrame, mkF, argsToLocals, Value.category]; done) | rfl
theorem d3_0 : decode jdk_29_method_45_code 0 = .ok (.lload_n 0, 1) := by decide +kernel
theorem d3_1 : decode jdk_29_method_45_code 1 = .ok (.bipush 32, 2) := by decide +kernel
theorem d3_3 : decode jdk_29_method_45_code 3 = .ok (.lshr, 1) := by decide +kernel
theorem d3_4 : decode jdk_29_method_45_code 4 = .ok (.lstore 4, 2) := by decide +kernel
theorem d3_6 : decode jdk_29_method_45_code 6 = .ok (.lload_n 0, 1) := by decide +kernel
theorem d3_7 : decode jdk_29_method_45_code 7 = .ok (.ldc2_w 138, 3) := by decide +kernel
theorem d3_10 : decode jdk_29_method_45_code 10 = .ok (.land, 1) := by decide +kernel
theorem d3_11 : decode jdk_29_method_45_code 11 = .ok (.lstore 6, 2) := by decide +kernel
theorem d3_13 : decode jdk_29_method_45_code 13 = .ok (.lload_n 2, 1) := by decide +kernel
theorem d3_14 : decode jdk_29_method_45_code 14 = .ok (.bipush 32, 2) := by decide +kernel
theorem d3_16 : decode jdk_29_method_45_code 16 = .ok (.lshr, 1) := by decide +kernel
theorem d3_17 : decode jdk_29_method_45_code 17 = .ok (.lstore 8, 2) := by decide +kernel
theorem d3_19 : decode jdk_29_method_45_code 19 = .ok (.lload_n 2, 1) := by decide +kernel
theorem d3_20 : decode jdk_29_method_45_code 20 = .ok (.ldc2_w 138, 3) := by decide +kernel
theorem d3_23 : decode jdk_29_method_45_code 23 = .ok (.land, 1) := by decide +kernel
theorem d3_24 : decode jdk_29_method_45_code 24 = .ok (.lstore 10, 2) := by decide +kernel
theorem d3_26 : decode jdk_29_method_45_code 26 = .ok (.lload 6, 2) := by decide +kernel
theorem d3_28 : decode jdk_29_method_45_code 28 = .ok (.lload 10, 2) := by decide +kernel
theorem d3_30 : decode jdk_29_method_45_code 30 = .ok (.lmul, 1) := by decide +kernel
theorem d3_31 : decode jdk_29_method_45_code 31 = .ok (.lstore 12, 2) := by decide +kernel
theorem d3_33 : decode jdk_29_method_45_code 33 = .ok (.lload 4, 2) := by decide +kernel
theorem d3_35 : decode jdk_29_method_45_code 35 = .ok (.lload 10, 2) := by decide +kernel
theorem d3_37 : decode jdk_29_method_45_code 37 = .ok (.lmul, 1) := by decide +kernel
theorem d3_38 : decode jdk_29_method_45_code 38 = .ok (.lload 12, 2) := by decide +kernel
theorem d3_40 : decode jdk_29_method_45_code 40 = .ok (.bipush 32, 2) := by decide +kernel
theorem d3_42 : decode jdk_29_method_45_code 42 = .ok (.lushr, 1) := by decide +kernel
theorem d3_43 : decode jdk_29_method_45_code 43 = .ok (.ladd, 1) := by decide +kernel
theorem d3_44 : decode jdk_29_method_45_code 44 = .ok (.lstore 14, 2) := by decide +kernel
theorem d3_46 : decode jdk_29_method_45_code 46 = .ok (.lload 14, 2) := by decide +kernel
theorem d3_48 : decode jdk_29_method_45_code 48 = .ok (.ldc2_w 138, 3) := by decide +kernel
theorem d3_51 : decode jdk_29_method_45_code 51 = .ok (.land, 1) := by decide +kernel
theorem d3_52 : decode jdk_29_method_45_code 52 = .ok (.lstore 16, 2) := by decide +kernel
theorem d3_54 : decode jdk_29_method_45_code 54 = .ok (.lload 14, 2) := by decide +kernel
theorem d3_56 : decode jdk_29_method_45_code 56 = .ok (.bipush 32, 2) := by decide +kernel
theorem d3_58 : decode jdk_29_method_45_code 58 = .ok (.lshr, 1) := by decide +kernel
theorem d3_59 : decode jdk_29_method_45_code 59 = .ok (.lstore 18, 2) := by decide +kernel
theorem d3_61 : decode jdk_29_method_45_code 61 = .ok (.lload 16, 2) := by decide +kernel
theorem d3_63 : decode jdk_29_method_45_code 63 = .ok (.lload 6, 2) := by decide +kernel
theorem d3_65 : decode jdk_29_method_45_code 65 = .ok (.lload 8, 2) := by decide +kernel
theorem d3_67 : decode jdk_29_method_45_code 67 = .ok (.lmul, 1) := by decide +kernel
theorem d3_68 : decode jdk_29_method_45_code 68 = .ok (.ladd, 1) := by decide +kernel
theorem d3_69 : decode jdk_29_method_45_code 69 = .ok (.lstore 16, 2) := by decide +kernel
theorem d3_71 : decode jdk_29_method_45_code 71 = .ok (.lload 4, 2) := by decide +kernel
theorem d3_73 : decode jdk_29_method_45_code 73 = .ok (.lload 8, 2) := by decide +kernel
theorem d3_75 : decode jdk_29_method_45_code 75 = .ok (.lmul, 1) := by decide +kernel
theorem d3_76 : decode jdk_29_method_45_code 76 = .ok (.lload 18, 2) := by decide +kernel
theorem d3_78 : decode jdk_29_method_45_code 78 = .ok (.ladd, 1) := by decide +kernel
theorem d3_79 : decode jdk_29_method_45_code 79 = .ok (.lload 16, 2) := by decide +kernel
theorem d3_81 : decode jdk_29_method_45_code 81 = .ok (.bipush 32, 2) := by decide +kernel
theorem d3_83 : decode jdk_29_method_45_code 83 = .ok (.lshr, 1) := by decide +kernel
theorem d3_84 : decode jdk_29_method_45_code 84 = .ok (.ladd, 1) := by decide +kernel
theorem d3_85 : decode jdk_29_method_45_code 85 = .ok (.lreturn, 1) := by decide +kernel
set_option maxRecDepth 65536 in
set_option maxHeartbeats 40000000 in
theorem ctMH (l : Launch) (Z : State) (a0 : Array Value) (hw : ∀ d ∈ tables_1, d.before a0 Z = true) (q1 q2 : Int64) (h0 : Heap) (n0 : Nat)  :
    CtN l Z (⟨"java/lang/Math", "multiplyHigh", "(JJ)J"⟩ : MethodName) jdk_29_method_45_code 20 (some .long) ({ frames := 0, cells := 0, slots := 0, locals := 0 } : Room) n0 #[(.long q1), (.long q2)] h0 (fun v h => v = some (.long (own_mh q1 q2)) ∧ h0 = h) := by
  refine CtN.of (Jvm.Free.JP.mathPlain rfl (by decide +kernel)) ?_
  intro p e s m below meth c T0 W0 hnm
  refine Wp.cast (ef_3_JJ m q1 q2) ?_
  refine w_lloadN W0 d3_0 rfl ?_
  refine w_bipush W0 (z := (32 : Int32)) d3_1 (by rfl) ?_
  obtain ⟨x1, hx1⟩ : ∃ z : Int64, (q1 >>> ((32 : Int32) &&& 0x3f).toInt64) = z := ⟨_, rfl⟩
  refine w_lshr W0 d3_3 hx1 ?_
  refine w_lstore W0 (L' := #[.val (.long q1), .second, .val (.long q2), .second, .val (.long x1), .second, .unset, .unset, .unset, .unset, .unset, .unset, .unset, .unset, .unset, .unset, .unset, .unset, .unset, .unset]) d3_4 rfl ?_
  refine w_lloadN W0 d3_6 rfl ?_
  refine w_ldc2L W0 (hw _ (List.mem_of_getElem? (i := 13) rfl)) d3_7 ?_
  obtain ⟨x2, hx2⟩ : ∃ z : Int64, (q1 &&& (4294967295 : Int64)) = z := ⟨_, rfl⟩
  refine w_land W0 d3_10 hx2 ?_
  refine w_lstore W0 (L' := #[.val (.long q1), .second, .val (.long q2), .second, .val (.long x1), .second, .val (.long x2), .second, .unset, .unset, .unset, .unset, .unset, .unset, .unset, .unset, .unset, .unset, .unset, .unset]) d3_11 rfl ?_
  refine w_lloadN W0 d3_13 rfl ?_
  refine w_bipush W0 (z := (32 : Int32)) d3_14 (by rfl) ?_
  obtain ⟨y1, hy1⟩ : ∃ z : Int64, (q2 >>> ((32 : Int32) &&& 0x3f).toInt64) = z := ⟨_, rfl⟩
  refine w_lshr W0 d3_16 hy1 ?_
  refine w_lstore W0 (L' := #[.val (.long q1), .second, .val (.long q2), .second, .val (.long x1), .second, .val (.long x2), .second, .val (.long y1), .second, .unset, .unset, .unset, .unset, .unset, .unset, .unset, .unset, .unset, .unset]) d3_17 rfl ?_
  refine w_lloadN W0 d3_19 rfl ?_
  refine w_ldc2L W0 (hw _ (List.mem_of_getElem? (i := 13) rfl)) d3_20 ?_
  obtain ⟨y2, hy2⟩ : ∃ z : Int64, (q2 &&& (4294967295 : Int64)) = z := ⟨_, rfl⟩
  refine w_land W0 d3_23 hy2 ?_
  refine w_lstore W0 (L' := #[.val (.long q1), .second, .val (.long q2), .second, .val (.long x1), .second, .val (.long x2), .second, .val (.long y1), .second, .val (.long y2), .second, .unset, .unset, .unset, .unset, .unset, .unset, .unset, .unset]) d3_24 rfl ?_
  refine w_lload W0 d3_26 rfl ?_
  refine w_lload W0 d3_28 rfl ?_
  obtain ⟨z2, hz2⟩ : ∃ z : Int64, (x2 * y2) = z := ⟨_, rfl⟩
  refine w_lmul W0 d3_30 hz2 ?_
  refine w_lstore W0 (L' := #[.val (.long q1), .second, .val (.long q2), .second, .val (.long x1), .second, .val (.long x2), .second, .val (.long y1), .second, .val (.long y2), .second, .val (.long z2), .second, .unset, .unset, .unset, .unset, .unset, .unset]) d3_31 rfl ?_
  refine w_lload W0 d3_33 rfl ?_
  refine w_lload W0 d3_35 rfl ?_
  refine w_lmul W0 d3_37 rfl ?_
  refine w_lload W0 d3_38 rfl ?_
  refine w_bipush W0 (z := (32 : Int32)) d3_40 (by rfl) ?_
  refine w_lushr W0 d3_42 rfl ?_
  obtain ⟨tt, htt⟩ : ∃ z : Int64, ((x1 * y2) + ((z2.toUInt64 >>> ((32 : Int32) &&& 0x3f).toInt64.toUInt64).toInt64)) = z := ⟨_, rfl⟩
  refine w_ladd W0 d3_43 htt ?_
  refine w_lstore W0 (L' := #[.val (.long q1), .second, .val (.long q2), .second, .val (.long x1), .second, .val (.long x2), .second, .val (.long y1), .second, .val (.long y2), .second, .val (.long z2), .second, .val (.long tt), .second, .unset, .unset, .unset, .unset]) d3_44 rfl ?_
  refine w_lload W0 d3_46 rfl ?_
  refine w_ldc2L W0 (hw _ (List.mem_of_getElem? (i := 13) rfl)) d3_48 ?_
  obtain ⟨z1a, hz1a⟩ : ∃ z : Int64, (tt &&& (4294967295 : Int64)) = z := ⟨_, rfl⟩
  refine w_land W0 d3_51 hz1a ?_
  refine w_lstore W0 (L' := #[.val (.long q1), .second, .val (.long q2), .second, .val (.long x1), .second, .val (.long x2), .second, .val (.long y1), .second, .val (.long y2), .second, .val (.long z2), .second, .val (.long tt), .second, .val (.long z1a), .second, .unset, .unset]) d3_52 rfl ?_
  refine w_lload W0 d3_54 rfl ?_
  refine w_bipush W0 (z := (32 : Int32)) d3_56 (by rfl) ?_
  obtain ⟨z0, hz0⟩ : ∃ z : Int64, (tt >>> ((32 : Int32) &&& 0x3f).toInt64) = z := ⟨_, rfl⟩
  refine w_lshr W0 d3_58 hz0 ?_
  refine w_lstore W0 (L' := #[.val (.long q1), .second, .val (.long q2), .second, .val (.long x1), .second, .val (.long x2), .second, .val (.long y1), .second, .val (.long y2), .second, .val (.long z2), .second, .val (.long tt), .second, .val (.long z1a), .second, .val (.long z0), .second]) d3_59 rfl ?_
  refine w_lload W0 d3_61 rfl ?_
  refine w_lload W0 d3_63 rfl ?_
  refine w_lload W0 d3_65 rfl ?_
  refine w_lmul W0 d3_67 rfl ?_
  obtain ⟨z1, hz1⟩ : ∃ z : Int64, (z1a + (x2 * y1)) = z := ⟨_, rfl⟩
  refine w_ladd W0 d3_68 hz1 ?_
  refine w_lstore W0 (L' := #[.val (.long q1), .second, .val (.long q2), .second, .val (.long x1), .second, .val (.long x2), .second, .val (.long y1), .second, .val (.long y2), .second, .val (.long z2), .second, .val (.long tt), .second, .val (.long z1), .second, .val (.long z0), .second]) d3_69 rfl ?_
  refine w_lload W0 d3_71 rfl ?_
  refine w_lload W0 d3_73 rfl ?_
  refine w_lmul W0 d3_75 rfl ?_
  refine w_lload W0 d3_76 rfl ?_
  refine w_ladd W0 d3_78 rfl ?_
  refine w_lload W0 d3_79 rfl ?_
  refine w_bipush W0 (z := (32 : Int32)) d3_81 (by rfl) ?_
  refine w_lshr W0 d3_83 rfl ?_
  refine w_ladd W0 d3_84 rfl ?_
  exact n_rL W0 rfl d3_85 (by decide) (by decide) ⟨by subst hx1 hx2 hy1 hy2 hz2 htt hz1a hz0 hz1; rfl, rfl⟩
theorem ef_5_JJ (m : MethodId) (x0 : Int64) (x1 : Int64) : entryFrame m #[(.long x0), (.long x1)] 4 = mkF m 0 #[.val (.long x0), .second, .val (.long x1), .second] [] := by first | (simp [entryFrame, mkF, argsToLocals, Value.category]; done) | rfl
theorem d5_0 : decode jdk_35_method_43_code 0 = .ok (.lload_n 0, 1) := by decide +kernel
theorem d5_1 : decode jdk_35_method_43_code 1 = .ok (.ldc2_w 168, 3) := by decide +kernel
theorem d5_4 : decode jdk_35_method_43_code 4 = .ok (.ladd, 1) := by decide +kernel
theorem d5_5 : decode jdk_35_method_43_code 5 = .ok (.lload_n 2, 1) := by decide +kernel
theorem d5_6 : decode jdk_35_method_43_code 6 = .ok (.ldc2_w 168, 3) := by decide +kernel
theorem d5_9 : decode jdk_35_method_43_code 9 = .ok (.ladd, 1) := by decide +kernel
theorem d5_10 : decode jdk_35_method_43_code 10 = .ok (.invokestatic 302, 3) := by decide +kernel
theorem pd_0 : parseMethodDescriptor "(JJ)I" = some ⟨[.long, .long], some .int⟩ := by decide +kernel
theorem d5_13 : decode jdk_35_method_43_code 13 = .ok (.ireturn, 1) := by decide +kernel
set_option maxRecDepth 65536 in
set_option maxHeartbeats 40000000 in
theorem ctCU (l : Launch) (Z : State) (a0 : Array Value) (hw : ∀ d ∈ tables_1, d.before a0 Z = true) (q1 q2 : Int64) (h0 : Heap) (n0 : Nat)  :
    CtN l Z (⟨"java/lang/Long", "compareUnsigned", "(JJ)I"⟩ : MethodName) jdk_35_method_43_code 4 (some .int) ({ frames := 1, cells := 0, slots := 0, locals := 15 } : Room) n0 #[(.long q1), (.long q2)] h0 (fun v h => v = some (.int (own_cu q1 q2)) ∧ h0 = h) := by
  refine CtN.of (plainFor_of_name pn_java_lang_Long) ?_
  intro p e s m below meth c T0 W0 hnm
  refine Wp.cast (ef_5_JJ m q1 q2) ?_
  refine w_lloadN W0 d5_0 rfl ?_
  refine w_ldc2L W0 (hw _ (List.mem_of_getElem? (i := 21) rfl)) d5_1 ?_
  refine w_ladd W0 d5_4 rfl ?_
  refine w_lloadN W0 d5_5 rfl ?_
  refine w_ldc2L W0 (hw _ (List.mem_of_getElem? (i := 21) rfl)) d5_6 ?_
  refine w_ladd W0 d5_9 rfl ?_
  refine w_callS W0 (ctCmp l Z a0 hw (q1 + (-9223372036854775808 : Int64)) (q2 + (-9223372036854775808 : Int64)) _ n0) (hw _ (List.mem_of_getElem? (i := 22) rfl)) (hw _ (List.mem_of_getElem? (i := 15) rfl)) (hw _ (List.mem_of_getElem? (i := 16) rfl)) (hw _ (List.mem_of_getElem? (i := 17) rfl)) (by decide) 0 (by decide) (by decide) (by decide) (by decide) (argsL := [(.long (q1 + (-9223372036854775808 : Int64))), (.long (q2 + (-9223372036854775808 : Int64)))]) (rest := []) pd_0 rfl rfl rfl rfl rfl d5_10 ?_
  rintro T1 h1 l1 _ W1 ⟨rfl, rfl⟩
  exact n_rI W1 rfl d5_13 (by decide) (by decide) ⟨rfl, rfl⟩
theorem ef_2_JJJJ (m : MethodId) (x0 : Int64) (x1 : Int64) (x2 : Int64) (x3 : Int64) : entryFrame m #[(.long x0), (.long x1), (.long x2), (.long x3)] 9 = mkF m 0 #[.val (.long x0), .second, .val (.long x1), .second, .val (.long x2), .second, .val (.long x3), .second, .unset] [] := by first | (simp [entryFrame, mkF, argsToLocals, Value.category]; done) | rfl
theorem d2_0 : decode prog_10_method_4_code 0 = .ok (.lload_n 0, 1) := by decide +kernel
theorem d2_1 : decode prog_10_method_4_code 1 = .ok (.lload_n 2, 1) := by decide +kernel
theorem d2_2 : decode prog_10_method_4_code 2 = .ok (.invokestatic 32, 3) := by decide +kernel
theorem pd_1 : parseMethodDescriptor "(JJ)J" = some ⟨[.long, .long], some .long⟩ := by decide +kernel
theorem d2_5 : decode prog_10_method_4_code 5 = .ok (.lload 4, 2) := by decide +kernel
theorem d2_7 : decode prog_10_method_4_code 7 = .ok (.invokestatic 38, 3) := by decide +kernel
theorem d2_10 : decode prog_10_method_4_code 10 = .ok (.istore 8, 2) := by decide +kernel
theorem d2_12 : decode prog_10_method_4_code 12 = .ok (.iload 8, 2) := by decide +kernel
theorem d2_14 : decode prog_10_method_4_code 14 = .ok (.ifCond .eq 8, 3) := by decide +kernel
theorem d2_22 : decode prog_10_method_4_code 22 = .ok (.lload_n 0, 1) := by decide +kernel
theorem d2_23 : decode prog_10_method_4_code 23 = .ok (.lload_n 2, 1) := by decide +kernel
theorem d2_24 : decode prog_10_method_4_code 24 = .ok (.lmul, 1) := by decide +kernel
theorem d2_25 : decode prog_10_method_4_code 25 = .ok (.lload 6, 2) := by decide +kernel
theorem d2_27 : decode prog_10_method_4_code 27 = .ok (.invokestatic 44, 3) := by decide +kernel
theorem d2_30 : decode prog_10_method_4_code 30 = .ok (.ireturn, 1) := by decide +kernel
theorem d2_17 : decode prog_10_method_4_code 17 = .ok (.iload 8, 2) := by decide +kernel
theorem d2_19 : decode prog_10_method_4_code 19 = .ok (.goto 11, 3) := by decide +kernel
theorem pn_com_example_tickfence_tickfence_Decimals : plainName "com/example/tickfence/tickfence/Decimals" = true := by first | (simp [plainName, overriddenIn]; done) | decide +kernel
set_option maxRecDepth 65536 in
set_option maxHeartbeats 40000000 in
theorem ctCP (l : Launch) (Z : State) (a0 : Array Value) (hw : ∀ d ∈ tables_1, d.before a0 Z = true) (q1 q2 q3 q4 : Int64) (h0 : Heap) (n0 : Nat)  :
    CtN l Z (⟨"com/example/tickfence/tickfence/Decimals", "compareProduct", "(JJJJ)I"⟩ : MethodName) prog_10_method_4_code 9 (some .int) ({ frames := 2, cells := 0, slots := 0, locals := 31 } : Room) n0 #[(.long q1), (.long q2), (.long q3), (.long q4)] h0 (fun v h => v = some (.int (own_cp q1 q2 q3 q4)) ∧ h0 = h) := by
  refine CtN.of (plainFor_of_name pn_com_example_tickfence_tickfence_Decimals) ?_
  intro p e s m below meth c T0 W0 hnm
  refine Wp.cast (ef_2_JJJJ m q1 q2 q3 q4) ?_
  refine w_lloadN W0 d2_0 rfl ?_
  refine w_lloadN W0 d2_1 rfl ?_
  refine w_callS W0 (ctMH l Z a0 hw q1 q2 _ n0) (hw _ (List.mem_of_getElem? (i := 10) rfl)) (hw _ (List.mem_of_getElem? (i := 11) rfl)) (hw _ (List.mem_of_getElem? (i := 4) rfl)) (hw _ (List.mem_of_getElem? (i := 12) rfl)) (by decide) 0 (by decide) (by decide) (by decide) (by decide) (argsL := [(.long q1), (.long q2)]) (rest := []) pd_1 rfl rfl rfl rfl rfl d2_2 ?_
  rintro T1 h1 l1 _ W1 ⟨rfl, rfl⟩
  refine w_lload W1 d2_5 rfl ?_
  refine w_callS W1 (ctCmp l Z a0 hw (own_mh q1 q2) q3 _ n0) (hw _ (List.mem_of_getElem? (i := 14) rfl)) (hw _ (List.mem_of_getElem? (i := 15) rfl)) (hw _ (List.mem_of_getElem? (i := 16) rfl)) (hw _ (List.mem_of_getElem? (i := 17) rfl)) (by decide) 0 (by decide) (by decide) (by decide) (by decide) (argsL := [(.long (own_mh q1 q2)), (.long q3)]) (rest := []) pd_0 rfl rfl rfl rfl rfl d2_7 ?_
  rintro T2 h2 l2 _ W2 ⟨rfl, rfl⟩
  refine w_istore W2 (L' := #[.val (.long q1), .second, .val (.long q2), .second, .val (.long q3), .second, .val (.long q4), .second, .val (.int (lcmpW (own_mh q1 q2) q3))]) d2_10 rfl ?_
  refine w_iload W2 d2_12 rfl ?_
  refine w_ifeq W2 (pc' := 22) d2_14 (by decide) (fun c14 => ?_) (fun c14 => ?_)
  · refine w_lloadN W2 d2_22 rfl ?_
    refine w_lloadN W2 d2_23 rfl ?_
    refine w_lmul W2 d2_24 rfl ?_
    refine w_lload W2 d2_25 rfl ?_
    refine w_callS W2 (ctCU l Z a0 hw (q1 * q2) q4 _ n0) (hw _ (List.mem_of_getElem? (i := 18) rfl)) (hw _ (List.mem_of_getElem? (i := 19) rfl)) (hw _ (List.mem_of_getElem? (i := 16) rfl)) (hw _ (List.mem_of_getElem? (i := 20) rfl)) (by decide) 0 (by decide) (by decide) (by decide) (by decide) (argsL := [(.long (q1 * q2)), (.long q4)]) (rest := []) pd_0 rfl rfl rfl rfl rfl d2_27 ?_
    rintro T3 h3 l3 _ W3 ⟨rfl, rfl⟩
    exact n_rI W3 rfl d2_30 (by decide) (by decide) ⟨by rw [own_cp, if_pos c14], rfl⟩
  · refine w_iload W2 d2_17 rfl ?_
    refine w_goto W2 (pc' := 30) d2_19 (by decide) ?_
    exact n_rI W2 rfl d2_30 (by decide) (by decide) ⟨by rw [own_cp, if_neg c14], rfl⟩
theorem ef_0_JJJJII (m : MethodId) (x0 : Int64) (x1 : Int64) (x2 : Int64) (x3 : Int64) (x4 : Int32) (x5 : Int32) : entryFrame m #[(.long x0), (.long x1), (.long x2), (.long x3), (.int x4), (.int x5)] maxLocals = mkF m 0 #[.val (.long x0), .second, .val (.long x1), .second, .val (.long x2), .second, .val (.long x3), .second, .val (.int x4), .val (.int x5), .unset, .unset, .unset, .unset, .unset, .unset, .unset, .unset, .unset, .unset, .unset, .unset, .unset, .unset, .unset, .unset, .unset, .unset, .unset, .unset, .unset, .unset, .unset, .unset, .unset, .unset, .unset, .unset, .unset, .unset, .unset, .unset, .unset, .unset] [] := by first | (simp [entryFrame, mkF, argsToLocals, Value.category, maxLocals]; done) | rfl
theorem pd_2 : parseMethodDescriptor "(JJJJ)I" = some ⟨[.long, .long, .long, .long], some .int⟩ := by decide +kernel
theorem pn_com_example_tickfence_tickfence_DecimalsCompareProductPinLaw : plainName "com/example/tickfence/tickfence/DecimalsCompareProductPinLaw" = true := by first | (simp [plainName, overriddenIn]; done) | decide +kernel
set_option maxRecDepth 65536 in
set_option maxHeartbeats 40000000 in
theorem ctLaw (l : Launch) (Z : State) (a0 : Array Value) (hw : ∀ d ∈ tables_1, d.before a0 Z = true) (r1 r2 r3 r4 : Int64) (r5 r6 : Int32) (h0 : Heap) (n0 : Nat) :
    CtN l Z x code maxLocals ret room_1 n0 #[(.long r1), (.long r2), (.long r3), (.long r4), (.int r5), (.int r6)] h0 (fun v _ => v = some (.int 1)) := by
  refine CtN.of (plainFor_of_name pn_com_example_tickfence_tickfence_DecimalsCompareProductPinLaw) ?_
  intro p e s m below meth c T0 W0 hnm
  refine Wp.cast (ef_0_JJJJII m r1 r2 r3 r4 r5 r6) ?_
  refine w_lloadN W0 at_0 rfl ?_
  refine w_ldc2L W0 (hw _ (List.mem_of_getElem? (i := 0) rfl)) at_1 ?_
  obtain ⟨xa, hxa⟩ : ∃ z : Int64, (r1 &&& (9223372036854775807 : Int64)) = z := ⟨_, rfl⟩
  refine w_land W0 at_4 hxa ?_
  refine w_lstore W0 (L' := #[.val (.long r1), .second, .val (.long r2), .second, .val (.long r3), .second, .val (.long r4), .second, .val (.int r5), .val (.int r6), .val (.long xa), .second, .unset, .unset, .unset, .unset, .unset, .unset, .unset, .unset, .unset, .unset, .unset, .unset, .unset, .unset, .unset, .unset, .unset, .unset, .unset, .unset, .unset, .unset, .unset, .unset, .unset, .unset, .unset, .unset, .unset, .unset, .unset, .unset]) at_5 rfl ?_
  refine w_lloadN W0 at_7 rfl ?_
  refine w_ldc2L W0 (hw _ (List.mem_of_getElem? (i := 0) rfl)) at_8 ?_
  obtain ⟨xb, hxb⟩ : ∃ z : Int64, (r2 &&& (9223372036854775807 : Int64)) = z := ⟨_, rfl⟩
  have ha0 : 0 ≤ xa.toInt := own_nn hxa
  have hb0 : 0 ≤ xb.toInt := own_nn hxb
  refine w_land W0 at_11 hxb ?_
  refine w_lstore W0 (L' := #[.val (.long r1), .second, .val (.long r2), .second, .val (.long r3), .second, .val (.long r4), .second, .val (.int r5), .val (.int r6), .val (.long xa), .second, .val (.long xb), .second, .unset, .unset, .unset, .unset, .unset, .unset, .unset, .unset, .unset, .unset, .unset, .unset, .unset, .unset, .unset, .unset, .unset, .unset, .unset, .unset, .unset, .unset, .unset, .unset, .unset, .unset, .unset, .unset, .unset, .unset]) at_12 rfl ?_
  refine w_lload W0 at_14 rfl ?_
  refine w_ldc2L W0 (hw _ (List.mem_of_getElem? (i := 1) rfl)) at_16 ?_
  obtain ⟨aL, haL⟩ : ∃ z : Int64, (xa &&& (4294967295 : Int64)) = z := ⟨_, rfl⟩
  refine w_land W0 at_19 haL ?_
  refine w_lstore W0 (L' := #[.val (.long r1), .second, .val (.long r2), .second, .val (.long r3), .second, .val (.long r4), .second, .val (.int r5), .val (.int r6), .val (.long xa), .second, .val (.long xb), .second, .val (.long aL), .second, .unset, .unset, .unset, .unset, .unset, .unset, .unset, .unset, .unset, .unset, .unset, .unset, .unset, .unset, .unset, .unset, .unset, .unset, .unset, .unset, .unset, .unset, .unset, .unset, .unset, .unset, .unset, .unset]) at_20 rfl ?_
  refine w_lload W0 at_22 rfl ?_
  refine w_bipush W0 (z := (32 : Int32)) at_24 (by rfl) ?_
  obtain ⟨aH, haH⟩ : ∃ z : Int64, ((xa.toUInt64 >>> ((32 : Int32) &&& 0x3f).toInt64.toUInt64).toInt64) = z := ⟨_, rfl⟩
  refine w_lushr W0 at_26 haH ?_
  refine w_lstore W0 (L' := #[.val (.long r1), .second, .val (.long r2), .second, .val (.long r3), .second, .val (.long r4), .second, .val (.int r5), .val (.int r6), .val (.long xa), .second, .val (.long xb), .second, .val (.long aL), .second, .val (.long aH), .second, .unset, .unset, .unset, .unset, .unset, .unset, .unset, .unset, .unset, .unset, .unset, .unset, .unset, .unset, .unset, .unset, .unset, .unset, .unset, .unset, .unset, .unset, .unset, .unset, .unset, .unset]) at_27 rfl ?_
  refine w_lload W0 at_29 rfl ?_
  refine w_ldc2L W0 (hw _ (List.mem_of_getElem? (i := 1) rfl)) at_31 ?_
  obtain ⟨bL, hbL⟩ : ∃ z : Int64, (xb &&& (4294967295 : Int64)) = z := ⟨_, rfl⟩
  refine w_land W0 at_34 hbL ?_
  refine w_lstore W0 (L' := #[.val (.long r1), .second, .val (.long r2), .second, .val (.long r3), .second, .val (.long r4), .second, .val (.int r5), .val (.int r6), .val (.long xa), .second, .val (.long xb), .second, .val (.long aL), .second, .val (.long aH), .second, .val (.long bL), .second, .unset, .unset, .unset, .unset, .unset, .unset, .unset, .unset, .unset, .unset, .unset, .unset, .unset, .unset, .unset, .unset, .unset, .unset, .unset, .unset, .unset, .unset, .unset, .unset]) at_35 rfl ?_
  refine w_lload W0 at_37 rfl ?_
  refine w_bipush W0 (z := (32 : Int32)) at_39 (by rfl) ?_
  obtain ⟨bH, hbH⟩ : ∃ z : Int64, ((xb.toUInt64 >>> ((32 : Int32) &&& 0x3f).toInt64.toUInt64).toInt64) = z := ⟨_, rfl⟩
  refine w_lushr W0 at_41 hbH ?_
  refine w_lstore W0 (L' := #[.val (.long r1), .second, .val (.long r2), .second, .val (.long r3), .second, .val (.long r4), .second, .val (.int r5), .val (.int r6), .val (.long xa), .second, .val (.long xb), .second, .val (.long aL), .second, .val (.long aH), .second, .val (.long bL), .second, .val (.long bH), .second, .unset, .unset, .unset, .unset, .unset, .unset, .unset, .unset, .unset, .unset, .unset, .unset, .unset, .unset, .unset, .unset, .unset, .unset, .unset, .unset, .unset, .unset]) at_42 rfl ?_
  refine w_lload W0 at_44 rfl ?_
  refine w_lload W0 at_46 rfl ?_
  obtain ⟨p00, hp00⟩ : ∃ z : Int64, (aL * bL) = z := ⟨_, rfl⟩
  refine w_lmul W0 at_48 hp00 ?_
  refine w_lstore W0 (L' := #[.val (.long r1), .second, .val (.long r2), .second, .val (.long r3), .second, .val (.long r4), .second, .val (.int r5), .val (.int r6), .val (.long xa), .second, .val (.long xb), .second, .val (.long aL), .second, .val (.long aH), .second, .val (.long bL), .second, .val (.long bH), .second, .val (.long p00), .second, .unset, .unset, .unset, .unset, .unset, .unset, .unset, .unset, .unset, .unset, .unset, .unset, .unset, .unset, .unset, .unset, .unset, .unset, .unset, .unset]) at_49 rfl ?_
  refine w_lload W0 at_51 rfl ?_
  refine w_lload W0 at_53 rfl ?_
  obtain ⟨p01, hp01⟩ : ∃ z : Int64, (aL * bH) = z := ⟨_, rfl⟩
  refine w_lmul W0 at_55 hp01 ?_
  refine w_lstore W0 (L' := #[.val (.long r1), .second, .val (.long r2), .second, .val (.long r3), .second, .val (.long r4), .second, .val (.int r5), .val (.int r6), .val (.long xa), .second, .val (.long xb), .second, .val (.long aL), .second, .val (.long aH), .second, .val (.long bL), .second, .val (.long bH), .second, .val (.long p00), .second, .val (.long p01), .second, .unset, .unset, .unset, .unset, .unset, .unset, .unset, .unset, .unset, .unset, .unset, .unset, .unset, .unset, .unset, .unset, .unset, .unset]) at_56 rfl ?_
  refine w_lload W0 at_58 rfl ?_
  refine w_lload W0 at_60 rfl ?_
  obtain ⟨p10, hp10⟩ : ∃ z : Int64, (aH * bL) = z := ⟨_, rfl⟩
  refine w_lmul W0 at_62 hp10 ?_
  refine w_lstore W0 (L' := #[.val (.long r1), .second, .val (.long r2), .second, .val (.long r3), .second, .val (.long r4), .second, .val (.int r5), .val (.int r6), .val (.long xa), .second, .val (.long xb), .second, .val (.long aL), .second, .val (.long aH), .second, .val (.long bL), .second, .val (.long bH), .second, .val (.long p00), .second, .val (.long p01), .second, .val (.long p10), .second, .unset, .unset, .unset, .unset, .unset, .unset, .unset, .unset, .unset, .unset, .unset, .unset, .unset, .unset, .unset, .unset]) at_63 rfl ?_
  refine w_lload W0 at_65 rfl ?_
  refine w_lload W0 at_67 rfl ?_
  obtain ⟨p11, hp11⟩ : ∃ z : Int64, (aH * bH) = z := ⟨_, rfl⟩
  refine w_lmul W0 at_69 hp11 ?_
  refine w_lstore W0 (L' := #[.val (.long r1), .second, .val (.long r2), .second, .val (.long r3), .second, .val (.long r4), .second, .val (.int r5), .val (.int r6), .val (.long xa), .second, .val (.long xb), .second, .val (.long aL), .second, .val (.long aH), .second, .val (.long bL), .second, .val (.long bH), .second, .val (.long p00), .second, .val (.long p01), .second, .val (.long p10), .second, .val (.long p11), .second, .unset, .unset, .unset, .unset, .unset, .unset, .unset, .unset, .unset, .unset, .unset, .unset, .unset, .unset]) at_70 rfl ?_
  refine w_lload W0 at_72 rfl ?_
  refine w_bipush W0 (z := (32 : Int32)) at_74 (by rfl) ?_
  obtain ⟨t1, ht1⟩ : ∃ z : Int64, ((p00.toUInt64 >>> ((32 : Int32) &&& 0x3f).toInt64.toUInt64).toInt64) = z := ⟨_, rfl⟩
  refine w_lushr W0 at_76 ht1 ?_
  refine w_lload W0 at_77 rfl ?_
  refine w_ldc2L W0 (hw _ (List.mem_of_getElem? (i := 1) rfl)) at_79 ?_
  obtain ⟨t2, ht2⟩ : ∃ z : Int64, (p01 &&& (4294967295 : Int64)) = z := ⟨_, rfl⟩
  refine w_land W0 at_82 ht2 ?_
  obtain ⟨t3, ht3⟩ : ∃ z : Int64, (t1 + t2) = z := ⟨_, rfl⟩
  refine w_ladd W0 at_83 ht3 ?_
  refine w_lload W0 at_84 rfl ?_
  refine w_ldc2L W0 (hw _ (List.mem_of_getElem? (i := 1) rfl)) at_86 ?_
  obtain ⟨t4, ht4⟩ : ∃ z : Int64, (p10 &&& (4294967295 : Int64)) = z := ⟨_, rfl⟩
  refine w_land W0 at_89 ht4 ?_
  obtain ⟨mid, hmid⟩ : ∃ z : Int64, (t3 + t4) = z := ⟨_, rfl⟩
  refine w_ladd W0 at_90 hmid ?_
  refine w_lstore W0 (L' := #[.val (.long r1), .second, .val (.long r2), .second, .val (.long r3), .second, .val (.long r4), .second, .val (.int r5), .val (.int r6), .val (.long xa), .second, .val (.long xb), .second, .val (.long aL), .second, .val (.long aH), .second, .val (.long bL), .second, .val (.long bH), .second, .val (.long p00), .second, .val (.long p01), .second, .val (.long p10), .second, .val (.long p11), .second, .val (.long mid), .second, .unset, .unset, .unset, .unset, .unset, .unset, .unset, .unset, .unset, .unset, .unset, .unset]) at_91 rfl ?_
  refine w_lload W0 at_93 rfl ?_
  refine w_bipush W0 (z := (32 : Int32)) at_95 (by rfl) ?_
  obtain ⟨u1, hu1⟩ : ∃ z : Int64, (mid <<< ((32 : Int32) &&& 0x3f).toInt64) = z := ⟨_, rfl⟩
  refine w_lshl W0 at_97 hu1 ?_
  refine w_lload W0 at_98 rfl ?_
  refine w_ldc2L W0 (hw _ (List.mem_of_getElem? (i := 1) rfl)) at_100 ?_
  obtain ⟨u2, hu2⟩ : ∃ z : Int64, (p00 &&& (4294967295 : Int64)) = z := ⟨_, rfl⟩
  refine w_land W0 at_103 hu2 ?_
  obtain ⟨lo, hlo⟩ : ∃ z : Int64, (u1 ||| u2) = z := ⟨_, rfl⟩
  refine w_lor W0 at_104 hlo ?_
  refine w_lstore W0 (L' := #[.val (.long r1), .second, .val (.long r2), .second, .val (.long r3), .second, .val (.long r4), .second, .val (.int r5), .val (.int r6), .val (.long xa), .second, .val (.long xb), .second, .val (.long aL), .second, .val (.long aH), .second, .val (.long bL), .second, .val (.long bH), .second, .val (.long p00), .second, .val (.long p01), .second, .val (.long p10), .second, .val (.long p11), .second, .val (.long mid), .second, .val (.long lo), .second, .unset, .unset, .unset, .unset, .unset, .unset, .unset, .unset, .unset, .unset]) at_105 rfl ?_
  refine w_lload W0 at_107 rfl ?_
  refine w_lload W0 at_109 rfl ?_
  refine w_bipush W0 (z := (32 : Int32)) at_111 (by rfl) ?_
  obtain ⟨v1, hv1⟩ : ∃ z : Int64, ((p01.toUInt64 >>> ((32 : Int32) &&& 0x3f).toInt64.toUInt64).toInt64) = z := ⟨_, rfl⟩
  refine w_lushr W0 at_113 hv1 ?_
  obtain ⟨v2, hv2⟩ : ∃ z : Int64, (p11 + v1) = z := ⟨_, rfl⟩
  refine w_ladd W0 at_114 hv2 ?_
  refine w_lload W0 at_115 rfl ?_
  refine w_bipush W0 (z := (32 : Int32)) at_117 (by rfl) ?_
  obtain ⟨v3, hv3⟩ : ∃ z : Int64, ((p10.toUInt64 >>> ((32 : Int32) &&& 0x3f).toInt64.toUInt64).toInt64) = z := ⟨_, rfl⟩
  refine w_lushr W0 at_119 hv3 ?_
  obtain ⟨v4, hv4⟩ : ∃ z : Int64, (v2 + v3) = z := ⟨_, rfl⟩
  refine w_ladd W0 at_120 hv4 ?_
  refine w_lload W0 at_121 rfl ?_
  refine w_bipush W0 (z := (32 : Int32)) at_123 (by rfl) ?_
  obtain ⟨v5, hv5⟩ : ∃ z : Int64, ((mid.toUInt64 >>> ((32 : Int32) &&& 0x3f).toInt64.toUInt64).toInt64) = z := ⟨_, rfl⟩
  refine w_lushr W0 at_125 hv5 ?_
  obtain ⟨hi, hhi⟩ : ∃ z : Int64, (v4 + v5) = z := ⟨_, rfl⟩
  refine w_ladd W0 at_126 hhi ?_
  refine w_lstore W0 (L' := #[.val (.long r1), .second, .val (.long r2), .second, .val (.long r3), .second, .val (.long r4), .second, .val (.int r5), .val (.int r6), .val (.long xa), .second, .val (.long xb), .second, .val (.long aL), .second, .val (.long aH), .second, .val (.long bL), .second, .val (.long bH), .second, .val (.long p00), .second, .val (.long p01), .second, .val (.long p10), .second, .val (.long p11), .second, .val (.long mid), .second, .val (.long lo), .second, .val (.long hi), .second, .unset, .unset, .unset, .unset, .unset, .unset, .unset, .unset]) at_127 rfl ?_
  refine w_iload W0 at_129 rfl ?_
  refine w_iconst W0 (z := (3 : Int32)) at_131 (by rfl) ?_
  obtain ⟨mm, hmm⟩ : ∃ z : Int32, (r5 &&& (3 : Int32)) = z := ⟨_, rfl⟩
  refine w_iand W0 at_132 hmm ?_
  refine w_istore W0 (L' := #[.val (.long r1), .second, .val (.long r2), .second, .val (.long r3), .second, .val (.long r4), .second, .val (.int r5), .val (.int r6), .val (.long xa), .second, .val (.long xb), .second, .val (.long aL), .second, .val (.long aH), .second, .val (.long bL), .second, .val (.long bH), .second, .val (.long p00), .second, .val (.long p01), .second, .val (.long p10), .second, .val (.long p11), .second, .val (.long mid), .second, .val (.long lo), .second, .val (.long hi), .second, .val (.int mm), .unset, .unset, .unset, .unset, .unset, .unset, .unset]) at_133 rfl ?_
  refine w_iload W0 at_135 rfl ?_
  refine w_bipush W0 (z := (7 : Int32)) at_137 (by rfl) ?_
  obtain ⟨e1, he1⟩ : ∃ z : Int32, (r6 &&& (7 : Int32)) = z := ⟨_, rfl⟩
  refine w_iand W0 at_139 he1 ?_
  refine w_iconst W0 (z := (3 : Int32)) at_140 (by rfl) ?_
  obtain ⟨e2, he2⟩ : ∃ z : Int32, (e1 - (3 : Int32)) = z := ⟨_, rfl⟩
  refine w_isub W0 at_141 he2 ?_
  obtain ⟨dd, hdd⟩ : ∃ z : Int64, (e2.toInt64) = z := ⟨_, rfl⟩
  refine w_i2l W0 at_142 hdd ?_
  refine w_lstore W0 (L' := #[.val (.long r1), .second, .val (.long r2), .second, .val (.long r3), .second, .val (.long r4), .second, .val (.int r5), .val (.int r6), .val (.long xa), .second, .val (.long xb), .second, .val (.long aL), .second, .val (.long aH), .second, .val (.long bL), .second, .val (.long bH), .second, .val (.long p00), .second, .val (.long p01), .second, .val (.long p10), .second, .val (.long p11), .second, .val (.long mid), .second, .val (.long lo), .second, .val (.long hi), .second, .val (.int mm), .val (.long dd), .second, .unset, .unset, .unset, .unset, .unset]) at_143 rfl ?_
  have J280 : ∀ (T : State) (locs : List Loc) (W : Wk p l e room_1 s s.vm m #[(.long r1), (.long r2), (.long r3), (.long r4), (.int r5), (.int r6)] below meth c Z x.cls n0 code maxLocals ret T h0 locs 0 0) (high low : Int64) (ex : Int32), own_cp xa xb high low = ex → Wp p e below (PoN n0 s 0 0 (fun v _ => v = some (.int 1))) T (mkF m 280 #[.val (.long r1), .second, .val (.long r2), .second, .val (.long r3), .second, .val (.long r4), .second, .val (.int r5), .val (.int r6), .val (.long xa), .second, .val (.long xb), .second, .val (.long aL), .second, .val (.long aH), .second, .val (.long bL), .second, .val (.long bH), .second, .val (.long p00), .second, .val (.long p01), .second, .val (.long p10), .second, .val (.long p11), .second, .val (.long mid), .second, .val (.long lo), .second, .val (.long hi), .second, .val (.int mm), .val (.long dd), .second, .val (.long high), .second, .val (.long low), .second, .val (.int ex)] []) := by
    intro T locs W high low ex hex
    refine w_lload W at_280 rfl ?_
    refine w_lload W at_282 rfl ?_
    refine w_lload W at_284 rfl ?_
    refine w_lload W at_286 rfl ?_
    refine w_callS W (ctCP l Z a0 hw xa xb high low _ n0) (hw _ (List.mem_of_getElem? (i := 6) rfl)) (hw _ (List.mem_of_getElem? (i := 7) rfl)) (hw _ (List.mem_of_getElem? (i := 8) rfl)) (hw _ (List.mem_of_getElem? (i := 9) rfl)) (by decide) 0 (by decide) (by decide) (by decide) (by decide) (argsL := [(.long xa), (.long xb), (.long high), (.long low)]) (rest := []) pd_2 rfl rfl rfl rfl rfl at_288 ?_
    rintro T1 h1 l1 _ W1 ⟨rfl, rfl⟩
    refine w_iload W1 at_291 rfl ?_
    refine w_icmpne W1 (pc' := 300) at_293 (by decide) (fun c293 => ?_) (fun c293 => ?_)
    · exact absurd hex c293
    · refine w_iconst W1 (z := (1 : Int32)) at_296 (by rfl) ?_
      refine w_goto W1 (pc' := 301) at_297 (by decide) ?_
      exact n_rN W1 rfl (by simp) (z' := (1 : Int32)) (by rfl) at_301 (by decide) (by decide) rfl
  have hmh : own_mh xa xb = hi := own_hiEq ha0 hb0 haL haH hbL hbH hp00 hp01 hp10 hp11 ht1 ht2 ht3 ht4 hmid hv1 hv2 hv3 hv4 hv5 hhi
  have hlo' : xa * xb = lo := own_loEq ha0 hb0 haL haH hbL hbH hp00 hp01 hp10 hp11 ht1 ht2 ht3 ht4 hmid hu1 hu2 hlo
  have J217 : ∀ (T : State) (locs : List Loc) (W : Wk p l e room_1 s s.vm m #[(.long r1), (.long r2), (.long r3), (.long r4), (.int r5), (.int r6)] below meth c Z x.cls n0 code maxLocals ret T h0 locs 0 0) (high low : Int64), Wp p e below (PoN n0 s 0 0 (fun v _ => v = some (.int 1))) T (mkF m 217 #[.val (.long r1), .second, .val (.long r2), .second, .val (.long r3), .second, .val (.long r4), .second, .val (.int r5), .val (.int r6), .val (.long xa), .second, .val (.long xb), .second, .val (.long aL), .second, .val (.long aH), .second, .val (.long bL), .second, .val (.long bH), .second, .val (.long p00), .second, .val (.long p01), .second, .val (.long p10), .second, .val (.long p11), .second, .val (.long mid), .second, .val (.long lo), .second, .val (.long hi), .second, .val (.int mm), .val (.long dd), .second, .val (.long high), .second, .val (.long low), .second, .unset] []) := by
    intro T locs W high low
    refine w_lload W at_217 rfl ?_
    refine w_lload W at_219 rfl ?_
    refine w_lcmp W at_221 rfl ?_
    refine w_ifeq W (pc' := 243) at_222 (by decide) (fun c222 => ?_) (fun c222 => ?_)
    · refine w_lload W at_243 rfl ?_
      refine w_lload W at_245 rfl ?_
      refine w_lcmp W at_247 rfl ?_
      refine w_ifne W (pc' := 257) at_248 (by decide) (fun c248 => ?_) (fun c248 => ?_)
      · refine w_lload W at_257 rfl ?_
        refine w_ldc2L W (hw _ (List.mem_of_getElem? (i := 23) rfl)) at_259 ?_
        refine w_lxor W at_262 rfl ?_
        refine w_lload W at_263 rfl ?_
        refine w_ldc2L W (hw _ (List.mem_of_getElem? (i := 23) rfl)) at_265 ?_
        refine w_lxor W at_268 rfl ?_
        refine w_lcmp W at_269 rfl ?_
        refine w_ifge W (pc' := 277) at_270 (by decide) (fun c270 => ?_) (fun c270 => ?_)
        · refine w_iconst W (z := (1 : Int32)) at_277 (by rfl) ?_
          refine w_istore W (L' := #[.val (.long r1), .second, .val (.long r2), .second, .val (.long r3), .second, .val (.long r4), .second, .val (.int r5), .val (.int r6), .val (.long xa), .second, .val (.long xb), .second, .val (.long aL), .second, .val (.long aH), .second, .val (.long bL), .second, .val (.long bH), .second, .val (.long p00), .second, .val (.long p01), .second, .val (.long p10), .second, .val (.long p11), .second, .val (.long mid), .second, .val (.long lo), .second, .val (.long hi), .second, .val (.int mm), .val (.long dd), .second, .val (.long high), .second, .val (.long low), .second, .val (.int (1 : Int32))]) at_278 rfl ?_
          exact J280 _ _ W high low (1 : Int32) (own_leaf_5 hmh hlo' c222 c248 c270)
        · refine w_iconst W (z := (-1 : Int32)) at_273 (by rfl) ?_
          refine w_goto W (pc' := 278) at_274 (by decide) ?_
          refine w_istore W (L' := #[.val (.long r1), .second, .val (.long r2), .second, .val (.long r3), .second, .val (.long r4), .second, .val (.int r5), .val (.int r6), .val (.long xa), .second, .val (.long xb), .second, .val (.long aL), .second, .val (.long aH), .second, .val (.long bL), .second, .val (.long bH), .second, .val (.long p00), .second, .val (.long p01), .second, .val (.long p10), .second, .val (.long p11), .second, .val (.long mid), .second, .val (.long lo), .second, .val (.long hi), .second, .val (.int mm), .val (.long dd), .second, .val (.long high), .second, .val (.long low), .second, .val (.int (-1 : Int32))]) at_278 rfl ?_
          exact J280 _ _ W high low (-1 : Int32) (own_leaf_4 hmh hlo' c222 c248 c270)
      · refine w_iconst W (z := (0 : Int32)) at_251 (by rfl) ?_
        refine w_istore W (L' := #[.val (.long r1), .second, .val (.long r2), .second, .val (.long r3), .second, .val (.long r4), .second, .val (.int r5), .val (.int r6), .val (.long xa), .second, .val (.long xb), .second, .val (.long aL), .second, .val (.long aH), .second, .val (.long bL), .second, .val (.long bH), .second, .val (.long p00), .second, .val (.long p01), .second, .val (.long p10), .second, .val (.long p11), .second, .val (.long mid), .second, .val (.long lo), .second, .val (.long hi), .second, .val (.int mm), .val (.long dd), .second, .val (.long high), .second, .val (.long low), .second, .val (.int (0 : Int32))]) at_252 rfl ?_
        refine w_goto W (pc' := 280) at_254 (by decide) ?_
        exact J280 _ _ W high low (0 : Int32) (own_leaf_3 hmh hlo' c222 c248)
    · refine w_lload W at_225 rfl ?_
      refine w_lload W at_227 rfl ?_
      refine w_lcmp W at_229 rfl ?_
      refine w_ifge W (pc' := 237) at_230 (by decide) (fun c230 => ?_) (fun c230 => ?_)
      · refine w_iconst W (z := (1 : Int32)) at_237 (by rfl) ?_
        refine w_istore W (L' := #[.val (.long r1), .second, .val (.long r2), .second, .val (.long r3), .second, .val (.long r4), .second, .val (.int r5), .val (.int r6), .val (.long xa), .second, .val (.long xb), .second, .val (.long aL), .second, .val (.long aH), .second, .val (.long bL), .second, .val (.long bH), .second, .val (.long p00), .second, .val (.long p01), .second, .val (.long p10), .second, .val (.long p11), .second, .val (.long mid), .second, .val (.long lo), .second, .val (.long hi), .second, .val (.int mm), .val (.long dd), .second, .val (.long high), .second, .val (.long low), .second, .val (.int (1 : Int32))]) at_238 rfl ?_
        refine w_goto W (pc' := 280) at_240 (by decide) ?_
        exact J280 _ _ W high low (1 : Int32) (own_leaf_2 hmh hlo' c222 c230)
      · refine w_iconst W (z := (-1 : Int32)) at_233 (by rfl) ?_
        refine w_goto W (pc' := 238) at_234 (by decide) ?_
        refine w_istore W (L' := #[.val (.long r1), .second, .val (.long r2), .second, .val (.long r3), .second, .val (.long r4), .second, .val (.int r5), .val (.int r6), .val (.long xa), .second, .val (.long xb), .second, .val (.long aL), .second, .val (.long aH), .second, .val (.long bL), .second, .val (.long bH), .second, .val (.long p00), .second, .val (.long p01), .second, .val (.long p10), .second, .val (.long p11), .second, .val (.long mid), .second, .val (.long lo), .second, .val (.long hi), .second, .val (.int mm), .val (.long dd), .second, .val (.long high), .second, .val (.long low), .second, .val (.int (-1 : Int32))]) at_238 rfl ?_
        refine w_goto W (pc' := 280) at_240 (by decide) ?_
        exact J280 _ _ W high low (-1 : Int32) (own_leaf_1 hmh hlo' c222 c230)
  refine w_iload W0 at_145 rfl ?_
  refine w_ifne W0 (pc' := 165) at_147 (by decide) (fun c147 => ?_) (fun c147 => ?_)
  · refine w_iload W0 at_165 rfl ?_
    refine w_iconst W0 (z := (1 : Int32)) at_167 (by rfl) ?_
    refine w_icmpne W0 (pc' := 182) at_168 (by decide) (fun c168 => ?_) (fun c168 => ?_)
    · refine w_iload W0 at_182 rfl ?_
      refine w_iconst W0 (z := (2 : Int32)) at_184 (by rfl) ?_
      refine w_icmpne W0 (pc' := 202) at_185 (by decide) (fun c185 => ?_) (fun c185 => ?_)
      · refine w_lconst W0 (z := (0 : Int64)) at_202 (by rfl) ?_
        refine w_lload W0 at_203 rfl ?_
        refine w_lload W0 at_205 rfl ?_
        refine w_ladd W0 at_207 rfl ?_
        refine w_callS W0 (ctMax l Z a0 hw (0 : Int64) (hi + dd) _ n0) (hw _ (List.mem_of_getElem? (i := 2) rfl)) (hw _ (List.mem_of_getElem? (i := 3) rfl)) (hw _ (List.mem_of_getElem? (i := 4) rfl)) (hw _ (List.mem_of_getElem? (i := 5) rfl)) (by decide) 0 (by decide) (by decide) (by decide) (by decide) (argsL := [(.long (0 : Int64)), (.long (hi + dd))]) (rest := []) pd_1 rfl rfl rfl rfl rfl at_208 ?_
        rintro T2 h2 l2 _ W2 ⟨rfl, rfl⟩
        refine w_lstore W2 (L' := #[.val (.long r1), .second, .val (.long r2), .second, .val (.long r3), .second, .val (.long r4), .second, .val (.int r5), .val (.int r6), .val (.long xa), .second, .val (.long xb), .second, .val (.long aL), .second, .val (.long aH), .second, .val (.long bL), .second, .val (.long bH), .second, .val (.long p00), .second, .val (.long p01), .second, .val (.long p10), .second, .val (.long p11), .second, .val (.long mid), .second, .val (.long lo), .second, .val (.long hi), .second, .val (.int mm), .val (.long dd), .second, .val (.long (own_max (0 : Int64) (hi + dd))), .second, .unset, .unset, .unset]) at_211 rfl ?_
        refine w_lload W2 at_213 rfl ?_
        refine w_lstore W2 (L' := #[.val (.long r1), .second, .val (.long r2), .second, .val (.long r3), .second, .val (.long r4), .second, .val (.int r5), .val (.int r6), .val (.long xa), .second, .val (.long xb), .second, .val (.long aL), .second, .val (.long aH), .second, .val (.long bL), .second, .val (.long bH), .second, .val (.long p00), .second, .val (.long p01), .second, .val (.long p10), .second, .val (.long p11), .second, .val (.long mid), .second, .val (.long lo), .second, .val (.long hi), .second, .val (.int mm), .val (.long dd), .second, .val (.long (own_max (0 : Int64) (hi + dd))), .second, .val (.long r4), .second, .unset]) at_215 rfl ?_
        exact J217 _ _ W2 (own_max (0 : Int64) (hi + dd)) r4
      · refine w_lload W0 at_188 rfl ?_
        refine w_lstore W0 (L' := #[.val (.long r1), .second, .val (.long r2), .second, .val (.long r3), .second, .val (.long r4), .second, .val (.int r5), .val (.int r6), .val (.long xa), .second, .val (.long xb), .second, .val (.long aL), .second, .val (.long aH), .second, .val (.long bL), .second, .val (.long bH), .second, .val (.long p00), .second, .val (.long p01), .second, .val (.long p10), .second, .val (.long p11), .second, .val (.long mid), .second, .val (.long lo), .second, .val (.long hi), .second, .val (.int mm), .val (.long dd), .second, .val (.long hi), .second, .unset, .unset, .unset]) at_190 rfl ?_
        refine w_lload W0 at_192 rfl ?_
        refine w_lload W0 at_194 rfl ?_
        refine w_ladd W0 at_196 rfl ?_
        refine w_lstore W0 (L' := #[.val (.long r1), .second, .val (.long r2), .second, .val (.long r3), .second, .val (.long r4), .second, .val (.int r5), .val (.int r6), .val (.long xa), .second, .val (.long xb), .second, .val (.long aL), .second, .val (.long aH), .second, .val (.long bL), .second, .val (.long bH), .second, .val (.long p00), .second, .val (.long p01), .second, .val (.long p10), .second, .val (.long p11), .second, .val (.long mid), .second, .val (.long lo), .second, .val (.long hi), .second, .val (.int mm), .val (.long dd), .second, .val (.long hi), .second, .val (.long (lo + dd)), .second, .unset]) at_197 rfl ?_
        refine w_goto W0 (pc' := 217) at_199 (by decide) ?_
        exact J217 _ _ W0 hi (lo + dd)
    · refine w_lload W0 at_171 rfl ?_
      refine w_lstore W0 (L' := #[.val (.long r1), .second, .val (.long r2), .second, .val (.long r3), .second, .val (.long r4), .second, .val (.int r5), .val (.int r6), .val (.long xa), .second, .val (.long xb), .second, .val (.long aL), .second, .val (.long aH), .second, .val (.long bL), .second, .val (.long bH), .second, .val (.long p00), .second, .val (.long p01), .second, .val (.long p10), .second, .val (.long p11), .second, .val (.long mid), .second, .val (.long lo), .second, .val (.long hi), .second, .val (.int mm), .val (.long dd), .second, .val (.long hi), .second, .unset, .unset, .unset]) at_173 rfl ?_
      refine w_lload W0 at_175 rfl ?_
      refine w_lstore W0 (L' := #[.val (.long r1), .second, .val (.long r2), .second, .val (.long r3), .second, .val (.long r4), .second, .val (.int r5), .val (.int r6), .val (.long xa), .second, .val (.long xb), .second, .val (.long aL), .second, .val (.long aH), .second, .val (.long bL), .second, .val (.long bH), .second, .val (.long p00), .second, .val (.long p01), .second, .val (.long p10), .second, .val (.long p11), .second, .val (.long mid), .second, .val (.long lo), .second, .val (.long hi), .second, .val (.int mm), .val (.long dd), .second, .val (.long hi), .second, .val (.long r4), .second, .unset]) at_177 rfl ?_
      refine w_goto W0 (pc' := 217) at_179 (by decide) ?_
      exact J217 _ _ W0 hi r4
  · refine w_lload W0 at_150 rfl ?_
    refine w_ldc2L W0 (hw _ (List.mem_of_getElem? (i := 0) rfl)) at_152 ?_
    refine w_land W0 at_155 rfl ?_
    refine w_lstore W0 (L' := #[.val (.long r1), .second, .val (.long r2), .second, .val (.long r3), .second, .val (.long r4), .second, .val (.int r5), .val (.int r6), .val (.long xa), .second, .val (.long xb), .second, .val (.long aL), .second, .val (.long aH), .second, .val (.long bL), .second, .val (.long bH), .second, .val (.long p00), .second, .val (.long p01), .second, .val (.long p10), .second, .val (.long p11), .second, .val (.long mid), .second, .val (.long lo), .second, .val (.long hi), .second, .val (.int mm), .val (.long dd), .second, .val (.long (r3 &&& (9223372036854775807 : Int64))), .second, .unset, .unset, .unset]) at_156 rfl ?_
    refine w_lload W0 at_158 rfl ?_
    refine w_lstore W0 (L' := #[.val (.long r1), .second, .val (.long r2), .second, .val (.long r3), .second, .val (.long r4), .second, .val (.int r5), .val (.int r6), .val (.long xa), .second, .val (.long xb), .second, .val (.long aL), .second, .val (.long aH), .second, .val (.long bL), .second, .val (.long bH), .second, .val (.long p00), .second, .val (.long p01), .second, .val (.long p10), .second, .val (.long p11), .second, .val (.long mid), .second, .val (.long lo), .second, .val (.long hi), .second, .val (.int mm), .val (.long dd), .second, .val (.long (r3 &&& (9223372036854775807 : Int64))), .second, .val (.long r4), .second, .unset]) at_160 rfl ?_
    refine w_goto W0 (pc' := 217) at_162 (by decide) ?_
    exact J217 _ _ W0 (r3 &&& (9223372036854775807 : Int64)) r4
set_option maxRecDepth 65536 in
set_option maxHeartbeats 40000000 in
theorem comes_1 {Post : Tables → Env → Array Value → State → Outcome → State → Prop} (hpost : ∀ tb e args s v u, (limb_1_1.after args s (.returned v) u = true ∧ limb_1_2.after args s (.returned v) u = true ∧ True) → FrameEnd s (.returned v) u (Jvm.fieldLocs frame_1_writes args s ++ Jvm.arrayLocs frame_1_arrays args s ++ Jvm.staticLocs frame_1_statics s) 0 0 → Post tb e args s (.returned v) u) :
    ArmFor flags0 classFile x code maxLocals ret World_1 tables_1 room_1 Calls_1 rest_1 Pre_1 Post := by
  intro l hfl _ _ p e ha hc hk s m args below hf hA hF happ hP
  obtain ⟨hcalls, hrest, hpre⟩ := hP
  obtain ⟨-, -, -, hnamed, -, -, -, hat⟩ := (Spec.applies_iff hf).mp happ
  obtain ⟨hg, hn⟩ := and_e (Cond.before_iff.mp (show (Jvm.Cond.and given_1 narrow_1).before args s = true from hpre))
  obtain ⟨g1, g2⟩ := and_e hg
  obtain ⟨g3, g4⟩ := and_e g2
  obtain ⟨g5, g6⟩ := and_e g4
  obtain ⟨g7, g8⟩ := and_e g6
  obtain ⟨g9, g10⟩ := and_e g8
  obtain ⟨g11, g12⟩ := and_e g10
  obtain ⟨w0, w1, w2, w3, w4, w5, rfl⟩ : ∃ w0 w1 w2 w3 w4 w5 : Value, args = #[w0, w1, w2, w3, w4, w5] := by
    have hs : args.size = 6 := by simpa [Cond.value, given_1] using g1
    obtain ⟨L⟩ := args
    match L, hs with
    | [w0, w1, w2, w3, w4, w5], _ => exact ⟨w0, w1, w2, w3, w4, w5, rfl⟩
  have hw := fun d (hd : d ∈ tables_1) => atoms_spec (ws := Jvm.Cond.code x code maxLocals ret :: tables_1) hat d (List.mem_cons_of_mem _ hd)
  obtain ⟨i0, ei0⟩ := isL_v g3
  obtain rfl : w0 = (.long i0) := Option.some.inj ei0
  obtain ⟨i1, ei1⟩ := isL_v g5
  obtain rfl : w1 = (.long i1) := Option.some.inj ei1
  obtain ⟨i2, ei2⟩ := isL_v g7
  obtain rfl : w2 = (.long i2) := Option.some.inj ei2
  obtain ⟨i3, ei3⟩ := isL_v g9
  obtain rfl : w3 = (.long i3) := Option.some.inj ei3
  obtain ⟨i4, ei4⟩ := is_v g11
  obtain rfl : w4 = (.int i4) := Option.some.inj ei4
  obtain ⟨i5, ei5⟩ := is_v g12
  obtain rfl : w5 = (.int i5) := Option.some.inj ei5
  obtain ⟨n, o, h1, h2, h3, _, L, rfl, ⟨rfl, N⟩, hq⟩ := ctLaw l s _ hw i0 i1 i2 i3 i4 i5 s.heap s.heap.size tables_1 p e ha hc hk s m _ below hf ((Spec.applies_iff_loose hf).mp happ).1 ⟨rfl, State.Warmed39.refl s, rfl⟩ trivial
  refine ⟨n, _, h1, h2, h3, hpost _ _ _ _ _ _ ⟨Cond.after_iff.mpr rfl, Cond.after_iff.mpr (eq_i res_at (Term.int_eval (1)) rfl), trivial⟩ ⟨hq.1, hq.2.1, (hq.2.2.sift fun y hy => Or.inr (N y hy)).mono (by decide) (by decide)⟩⟩
theorem main_1_1 : Claimed_1_1 := comes_1 fun _ _ _ _ _ _ h hF => ⟨h.1, hF⟩
theorem main_1_2 : Claimed_1_2 := comes_1 fun _ _ _ _ _ _ h hF => ⟨h.2.1, hF⟩
end Jvm.Pilot.@@N@@
namespace Jvm.Pilot.@@N@@
open Jvm Jvm.ClassFile Sem Op Lib Jvm.Free Jvm.Stand Jvm.Pilot.@@N@@.Jvm.D
/-! MADE BY PROGRAM (witnessworld.py) out of the Statement's table words and the real class files: 15 classes; the members and pool entries that the words name. The judged class is class 1, her method 1. -/
namespace start1
open Jvm.ClassFile
def u (s : String) : CpInfo := .utf8 (stringToUtf16 s)
/-- a pool by its gaps: so many unusable entries, then the entry; so many at the end -/
def gap : Nat → List CpInfo → List CpInfo
  | 0, r => r
  | n + 1, r => .unusable :: gap n r
def poolList (es : List (Nat × CpInfo)) (last : Nat) : List CpInfo := es.foldr (fun e r => gap e.1 (e.2 :: r)) (gap last [])
def pool (es : List (Nat × CpInfo)) (last : Nat) : Array CpInfo := ⟨poolList es last⟩
def fileOf (pool : Array CpInfo) (this : Nat) (attrs : Array Attribute := #[]) (ms : Array MethodInfo := #[]) (fl : Nat := 33) (sup : Nat := 0) (ifs : Array Nat := #[]) (fds : Array FieldInfo := #[]) : ClassFile where
  minorVersion := 0
  majorVersion := 65
  constantPool := pool
  accessFlags := fl
  thisClass := this
  superClass := sup
  interfaces := ifs
  fields := fds
  methods := ms
  attributes := attrs
def plain (name : String) (sup : Option ClassId) : Class where
  name := name
  kind := .ordinary
  loader := none
  accessFlags := 33
  super := sup
  interfaces := #[]
  cf := none
  fields := #[]
  methods := #[]
  instanceTypes := #[]
  staticTypes := #[]
  resolved := #[]
  callSites := []
  init := .initialized
  statics := none
  mirror := none

def pool0 : Array CpInfo := pool [(5, u "<init>"), (0, u "()V"), (1, .class_ 10), (1, u "java/lang/Object")] 113

def k0m0 : Method := { name := "<init>", desc := "()V", sig := { parameters := [], returnType := none }, accessFlags := 1, code := none }
/-- java/lang/Object -/
def k0 : Class := { plain "java/lang/Object" none with
  accessFlags := 33
  interfaces := #[]
  cf := some (fileOf pool0 8 #[] #[{ accessFlags := 1, nameIndex := 5, descriptorIndex := 6, attributes := #[] }] 33 0 #[] #[])
  fields := #[]
  methods := #[k0m0]
  instanceTypes := #[]
  staticTypes := #[]
  resolved := Array.replicate 124 none
  statics := none }

def pool1 : Array CpInfo := pool [(2, .class_ 4), (1, u "java/lang/Object"), (0, u "<init>"), (0, u "()V"), (0, .long 9223372036854775807), (1, .long 4294967295), (1, .methodref 12 13), (0, .class_ 14), (0, .nameAndType 15 16), (0, u "java/lang/Math"), (0, u "max"), (0, u "(JJ)J"), (0, .long 9223372036854775808), (1, .methodref 20 21), (0, .class_ 22), (0, .nameAndType 23 24), (0, u "com/example/tickfence/tickfence/Decimals"), (0, u "compareProduct"), (0, u "(JJJJ)I"), (0, .class_ 26), (0, u "com/example/tickfence/tickfence/DecimalsCompareProductPinLaw"), (2, u "law"), (0, u "(JJJJII)Z")] 3

def k1m0 : Method := { name := "<init>", desc := "()V", sig := { parameters := [], returnType := none }, accessFlags := 2, code := none }
def k1c1 : Code := { maxStack := 8, maxLocals := 44, code := code, exceptionTable := #[], attributes := #[] }
def k1m1 : Method := { name := "law", desc := "(JJJJII)Z", sig := { parameters := [.long, .long, .long, .long, .int, .int], returnType := some .boolean }, accessFlags := 9, code := some k1c1 }
/-- com/example/tickfence/tickfence/DecimalsCompareProductPinLaw -/
def k1 : Class := { plain "com/example/tickfence/tickfence/DecimalsCompareProductPinLaw" (some 0) with
  accessFlags := 49
  interfaces := #[]
  cf := some (fileOf pool1 25 #[] #[{ accessFlags := 2, nameIndex := 5, descriptorIndex := 6, attributes := #[] }, { accessFlags := 9, nameIndex := 29, descriptorIndex := 30, attributes := #[] }] 49 2 #[] #[])
  fields := #[]
  methods := #[k1m0, k1m1]
  instanceTypes := #[]
  staticTypes := #[]
  resolved := Array.replicate 34 none
  statics := none }

def pool2 : Array CpInfo := pool [(1, .class_ 2), (0, u "java/lang/Math"), (1, .class_ 6), (1, u "java/lang/Object"), (0, u "<init>"), (0, u "()V"), (89, .class_ 100), (1, u "java/lang/Math$RandomNumberGeneratorHolder"), (20, u "(JJ)J"), (16, .long 4294967295), (3, u "multiplyHigh"), (29, u "negativeZeroFloatBits"), (0, u "J"), (2, u "negativeZeroDoubleBits"), (21, u "max"), (46, u "$assertionsDisabled"), (0, u "Z"), (91, u "twoToTheDoubleScaleDown"), (0, u "D"), (4, u "twoToTheDoubleScaleUp"), (9, u "E"), (3, u "PI"), (2, u "TAU"), (2, u "DEGREES_TO_RADIANS"), (0, u "RADIANS_TO_DEGREES")] 94

def k2m0 : Method := { name := "<init>", desc := "()V", sig := { parameters := [], returnType := none }, accessFlags := 2, code := none }
def k2c1 : Code := { maxStack := 6, maxLocals := 20, code := jdk_29_method_45_code, exceptionTable := #[], attributes := #[] }
def k2m1 : Method := { name := "multiplyHigh", desc := "(JJ)J", sig := { parameters := [.long, .long], returnType := some .long }, accessFlags := 9, code := some k2c1 }
def k2c2 : Code := { maxStack := 4, maxLocals := 4, code := jdk_29_method_66_code, exceptionTable := #[], attributes := #[] }
def k2m2 : Method := { name := "max", desc := "(JJ)J", sig := { parameters := [.long, .long], returnType := some .long }, accessFlags := 9, code := some k2c2 }
/-- java/lang/Math -/
def k2 : Class := { plain "java/lang/Math" (some 0) with
  accessFlags := 49
  interfaces := #[]
  cf := some (fileOf pool2 1 #[.nestMembers #[98]] #[{ accessFlags := 2, nameIndex := 7, descriptorIndex := 8, attributes := #[] }, { accessFlags := 9, nameIndex := 142, descriptorIndex := 121, attributes := #[] }, { accessFlags := 9, nameIndex := 198, descriptorIndex := 121, attributes := #[] }] 49 4 #[] #[{ accessFlags := 25, nameIndex := 354, descriptorIndex := 339, attributes := #[] }, { accessFlags := 25, nameIndex := 358, descriptorIndex := 339, attributes := #[] }, { accessFlags := 25, nameIndex := 361, descriptorIndex := 339, attributes := #[] }, { accessFlags := 26, nameIndex := 364, descriptorIndex := 339, attributes := #[] }, { accessFlags := 26, nameIndex := 365, descriptorIndex := 339, attributes := #[] }, { accessFlags := 26, nameIndex := 172, descriptorIndex := 173, attributes := #[] }, { accessFlags := 26, nameIndex := 176, descriptorIndex := 173, attributes := #[] }, { accessFlags := 8, nameIndex := 344, descriptorIndex := 339, attributes := #[] }, { accessFlags := 8, nameIndex := 338, descriptorIndex := 339, attributes := #[] }, { accessFlags := 4120, nameIndex := 245, descriptorIndex := 246, attributes := #[] }])
  fields := #[{ name := "E", type := .double, accessFlags := 25, slot := 0, constantValue := 0 }, { name := "PI", type := .double, accessFlags := 25, slot := 1, constantValue := 0 }, { name := "TAU", type := .double, accessFlags := 25, slot := 2, constantValue := 0 }, { name := "DEGREES_TO_RADIANS", type := .double, accessFlags := 26, slot := 3, constantValue := 0 }, { name := "RADIANS_TO_DEGREES", type := .double, accessFlags := 26, slot := 4, constantValue := 0 }, { name := "negativeZeroFloatBits", type := .long, accessFlags := 26, slot := 5, constantValue := 0 }, { name := "negativeZeroDoubleBits", type := .long, accessFlags := 26, slot := 6, constantValue := 0 }, { name := "twoToTheDoubleScaleUp", type := .double, accessFlags := 8, slot := 7, constantValue := 0 }, { name := "twoToTheDoubleScaleDown", type := .double, accessFlags := 8, slot := 8, constantValue := 0 }, { name := "$assertionsDisabled", type := .boolean, accessFlags := 4120, slot := 9, constantValue := 0 }]
  methods := #[k2m0, k2m1, k2m2]
  instanceTypes := #[]
  staticTypes := #[.double, .double, .double, .double, .double, .long, .long, .double, .double, .boolean]
  resolved := Array.replicate 460 none
  statics := none }

def pool3 : Array CpInfo := pool [(2, .class_ 4), (1, u "java/lang/Object"), (0, u "<init>"), (0, u "()V"), (6, .class_ 14), (0, u "com/example/tickfence/tickfence/Decimals"), (15, u "POWERS_OF_TEN"), (0, u "[J"), (0, .methodref 33 34), (0, .class_ 35), (0, .nameAndType 36 37), (0, u "java/lang/Math"), (0, u "multiplyHigh"), (0, u "(JJ)J"), (0, .methodref 39 40), (0, .class_ 41), (0, .nameAndType 42 43), (0, u "java/lang/Long"), (0, u "compare"), (0, u "(JJ)I"), (0, .methodref 39 45), (0, .nameAndType 46 43), (0, u "compareUnsigned"), (28, u "PAST_MAX_DIGITS"), (0, u "[Ljava/math/BigDecimal;"), (76, u "MAX_UNIT_SCALE"), (0, u "I"), (2, u "PAST_EVERY_UNSCALED"), (0, u "J"), (2, u "MAX_DIGITS"), (8, u "compareProduct"), (0, u "(JJJJ)I")] 52

def k3m0 : Method := { name := "<init>", desc := "()V", sig := { parameters := [], returnType := none }, accessFlags := 2, code := none }
def k3c1 : Code := { maxStack := 4, maxLocals := 9, code := prog_10_method_4_code, exceptionTable := #[], attributes := #[] }
def k3m1 : Method := { name := "compareProduct", desc := "(JJJJ)I", sig := { parameters := [.long, .long, .long, .long], returnType := some .int }, accessFlags := 8, code := some k3c1 }
/-- com/example/tickfence/tickfence/Decimals -/
def k3 : Class := { plain "com/example/tickfence/tickfence/Decimals" (some 0) with
  accessFlags := 49
  interfaces := #[]
  cf := some (fileOf pool3 13 #[] #[{ accessFlags := 2, nameIndex := 5, descriptorIndex := 6, attributes := #[] }, { accessFlags := 8, nameIndex := 170, descriptorIndex := 171, attributes := #[] }] 49 2 #[] #[{ accessFlags := 24, nameIndex := 153, descriptorIndex := 154, attributes := #[] }, { accessFlags := 24, nameIndex := 157, descriptorIndex := 158, attributes := #[] }, { accessFlags := 25, nameIndex := 161, descriptorIndex := 154, attributes := #[] }, { accessFlags := 26, nameIndex := 75, descriptorIndex := 76, attributes := #[] }, { accessFlags := 26, nameIndex := 30, descriptorIndex := 31, attributes := #[] }])
  fields := #[{ name := "MAX_UNIT_SCALE", type := .int, accessFlags := 24, slot := 0, constantValue := 0 }, { name := "PAST_EVERY_UNSCALED", type := .long, accessFlags := 24, slot := 1, constantValue := 0 }, { name := "MAX_DIGITS", type := .int, accessFlags := 25, slot := 2, constantValue := 0 }, { name := "PAST_MAX_DIGITS", type := (.array (.object "java/math/BigDecimal")), accessFlags := 26, slot := 3, constantValue := 0 }, { name := "POWERS_OF_TEN", type := (.array .long), accessFlags := 26, slot := 4, constantValue := 0 }]
  methods := #[k3m0, k3m1]
  instanceTypes := #[]
  staticTypes := #[.int, .long, .int, (.array (.object "java/math/BigDecimal")), (.array .long)]
  resolved := Array.replicate 224 none
  statics := none }

def pool4 : Array CpInfo := pool [(1, .class_ 2), (0, u "java/io/Serializable"), (0, .class_ 4), (0, u "java/lang/Object")] 2

/-- java/io/Serializable -/
def k4 : Class := { plain "java/io/Serializable" (some 0) with
  accessFlags := 1537
  interfaces := #[]
  cf := some (fileOf pool4 1 #[] #[] 1537 3 #[] #[])
  fields := #[]
  methods := #[]
  instanceTypes := #[]
  staticTypes := #[]
  resolved := Array.replicate 7 none
  statics := none }

def pool5 : Array CpInfo := pool [(2, .class_ 4), (1, u "java/lang/Object"), (0, u "<init>"), (0, u "()V"), (1, .class_ 10), (1, u "java/lang/Number"), (2, .class_ 14), (0, u "java/io/Serializable"), (0, u "serialVersionUID"), (0, u "J")] 20

def k5m0 : Method := { name := "<init>", desc := "()V", sig := { parameters := [], returnType := none }, accessFlags := 1, code := none }
/-- java/lang/Number -/
def k5 : Class := { plain "java/lang/Number" (some 0) with
  accessFlags := 1057
  interfaces := #[4]
  cf := some (fileOf pool5 8 #[] #[{ accessFlags := 1, nameIndex := 5, descriptorIndex := 6, attributes := #[] }] 1057 2 #[13] #[{ accessFlags := 26, nameIndex := 15, descriptorIndex := 16, attributes := #[] }])
  fields := #[{ name := "serialVersionUID", type := .long, accessFlags := 26, slot := 0, constantValue := 0 }]
  methods := #[k5m0]
  instanceTypes := #[]
  staticTypes := #[.long]
  resolved := Array.replicate 37 none
  statics := none }

def pool6 : Array CpInfo := pool [(1, .class_ 2), (0, u "java/lang/Comparable"), (0, .class_ 4), (0, u "java/lang/Object")] 7

/-- java/lang/Comparable -/
def k6 : Class := { plain "java/lang/Comparable" (some 0) with
  accessFlags := 1537
  interfaces := #[]
  cf := some (fileOf pool6 1 #[] #[] 1537 3 #[] #[])
  fields := #[]
  methods := #[]
  instanceTypes := #[]
  staticTypes := #[]
  resolved := Array.replicate 12 none
  statics := none }

def pool7 : Array CpInfo := pool [(1, .class_ 2), (0, u "java/lang/constant/Constable"), (0, .class_ 4), (0, u "java/lang/Object")] 6

/-- java/lang/constant/Constable -/
def k7 : Class := { plain "java/lang/constant/Constable" (some 0) with
  accessFlags := 1537
  interfaces := #[]
  cf := some (fileOf pool7 1 #[] #[] 1537 3 #[] #[])
  fields := #[]
  methods := #[]
  instanceTypes := #[]
  staticTypes := #[]
  resolved := Array.replicate 11 none
  statics := none }

def pool8 : Array CpInfo := pool [(1, .class_ 2), (0, u "java/lang/constant/ConstantDesc"), (0, .class_ 4), (0, u "java/lang/Object")] 32

/-- java/lang/constant/ConstantDesc -/
def k8 : Class := { plain "java/lang/constant/ConstantDesc" (some 0) with
  accessFlags := 1537
  interfaces := #[]
  cf := some (fileOf pool8 1 #[] #[] 1537 3 #[] #[])
  fields := #[]
  methods := #[]
  instanceTypes := #[]
  staticTypes := #[]
  resolved := Array.replicate 37 none
  statics := none }

def pool9 : Array CpInfo := pool [(1, .class_ 2), (0, u "java/lang/Long"), (165, .long 9223372036854775808), (66, .class_ 237), (1, u "java/lang/Long$LongCache"), (33, .class_ 272), (0, u "java/lang/Number"), (2, u "value"), (0, u "J"), (25, .methodref 1 303), (0, .nameAndType 304 305), (0, u "compare"), (0, u "(JJ)I"), (55, u "TYPE"), (0, u "Ljava/lang/Class;"), (0, .class_ 364), (0, u "java/lang/Comparable"), (0, .class_ 366), (0, u "java/lang/constant/Constable"), (0, .class_ 368), (0, u "java/lang/constant/ConstantDesc"), (0, u "MIN_VALUE"), (1, u "MAX_VALUE"), (4, u "SIZE"), (0, u "I"), (1, u "BYTES"), (1, u "serialVersionUID"), (87, u "compareUnsigned")] 54

def k9c0 : Code := { maxStack := 4, maxLocals := 4, code := jdk_35_method_42_code, exceptionTable := #[], attributes := #[] }
def k9m0 : Method := { name := "compare", desc := "(JJ)I", sig := { parameters := [.long, .long], returnType := some .int }, accessFlags := 9, code := some k9c0 }
def k9c1 : Code := { maxStack := 6, maxLocals := 4, code := jdk_35_method_43_code, exceptionTable := #[], attributes := #[] }
def k9m1 : Method := { name := "compareUnsigned", desc := "(JJ)I", sig := { parameters := [.long, .long], returnType := some .int }, accessFlags := 9, code := some k9c1 }
/-- java/lang/Long -/
def k9 : Class := { plain "java/lang/Long" (some 5) with
  accessFlags := 49
  interfaces := #[6, 7, 8]
  cf := some (fileOf pool9 1 #[.nestMembers #[235]] #[{ accessFlags := 9, nameIndex := 304, descriptorIndex := 305, attributes := #[] }, { accessFlags := 9, nameIndex := 469, descriptorIndex := 305, attributes := #[] }] 49 271 #[363, 365, 367] #[{ accessFlags := 25, nameIndex := 369, descriptorIndex := 276, attributes := #[] }, { accessFlags := 25, nameIndex := 371, descriptorIndex := 276, attributes := #[] }, { accessFlags := 25, nameIndex := 361, descriptorIndex := 362, attributes := #[] }, { accessFlags := 18, nameIndex := 275, descriptorIndex := 276, attributes := #[] }, { accessFlags := 25, nameIndex := 376, descriptorIndex := 377, attributes := #[] }, { accessFlags := 25, nameIndex := 379, descriptorIndex := 377, attributes := #[] }, { accessFlags := 26, nameIndex := 381, descriptorIndex := 276, attributes := #[] }])
  fields := #[{ name := "MIN_VALUE", type := .long, accessFlags := 25, slot := 0, constantValue := 0 }, { name := "MAX_VALUE", type := .long, accessFlags := 25, slot := 1, constantValue := 0 }, { name := "TYPE", type := (.object "java/lang/Class"), accessFlags := 25, slot := 2, constantValue := 0 }, { name := "value", type := .long, accessFlags := 18, slot := 0, constantValue := 0 }, { name := "SIZE", type := .int, accessFlags := 25, slot := 3, constantValue := 0 }, { name := "BYTES", type := .int, accessFlags := 25, slot := 4, constantValue := 0 }, { name := "serialVersionUID", type := .long, accessFlags := 26, slot := 5, constantValue := 0 }]
  methods := #[k9m0, k9m1]
  instanceTypes := #[.long]
  staticTypes := #[.long, .long, (.object "java/lang/Class"), .int, .int, .long]
  resolved := Array.replicate 524 none
  statics := none }

def pool10 : Array CpInfo := pool [(1, u "java/lang/Cloneable"), (0, .class_ 1), (0, u "java/lang/Object"), (0, .class_ 3)] 3

/-- java/lang/Cloneable -/
def k10 : Class := { plain "java/lang/Cloneable" (some 0) with
  accessFlags := 1537
  interfaces := #[]
  cf := some (fileOf pool10 2 #[] #[] 1537 4 #[] #[])
  fields := #[]
  methods := #[]
  instanceTypes := #[]
  staticTypes := #[]
  resolved := Array.replicate 8 none
  statics := none }

/-- the primitive byte -/
def k11 : Class := { plain "byte" none with kind := .primitive 'B', accessFlags := 0x411 }
/-- [B -/
def k12 : Class := { plain "[B" (some 0) with kind := .array 11 .byte, interfaces := #[10, 4], accessFlags := 1041 }

/-- the primitive int -/
def k13 : Class := { plain "int" none with kind := .primitive 'I', accessFlags := 0x411 }
/-- [I -/
def k14 : Class := { plain "[I" (some 0) with kind := .array 13 .int, interfaces := #[10, 4], accessFlags := 1041 }

def heap : Heap := #[]
def classes : Array Class := #[k0, k1, k2, k3, k4, k5, k6, k7, k8, k9, k10, k11, k12, k13, k14]
def interned : List (Array UInt16 × Addr) := []
def slotsUsed : Nat := 0
def theMethod : MethodId := ⟨1, 1⟩
def args0 : Array Value := #[.long 5, .long 7, .long 11, .long 13, .int 1, .int 2]
def aboutOver (below : List Frame) : State where
  vm := { classes := classes, interned := interned.toArray }
  heap := heap
  slotsUsed := slotsUsed
  threads := #[{ frames := .invoking theMethod args0 :: below }]
def below0 : List Frame := [.native { method := ⟨0, 0⟩, args := #[] }]
def about1 : State := aboutOver below0
def p0 : Program := .bare "" "" ""
def e0 : Env := launch0.env 0 0 0
theorem w_frames : about1.frames = Frame.invoking theMethod args0 :: below0 := rfl
set_option maxRecDepth 65536 in
theorem w_args : argsFit about1.vm theMethod args0 = true := by decide +kernel
set_option maxRecDepth 65536 in
theorem w_heap : heapFits about1 = true := by decide +kernel
set_option maxRecDepth 65536 in
theorem w_runnable : about1.curStatus? = some .runnable := by decide +kernel
set_option maxRecDepth 65536 in
theorem w_alone : about1.alone = true := by decide +kernel
set_option maxRecDepth 65536 in
theorem w_named : about1.methodNamed? x = some theMethod := by decide +kernel
set_option maxRecDepth 65536 in
theorem w_hears : about1.hears theMethod below0 = true := by decide +kernel
set_option maxRecDepth 65536 in
theorem w_ripe : about1.ripe theMethod args0 below0 = true := by decide +kernel
theorem w_running : about1.status = .running := rfl
set_option maxRecDepth 65536 in
theorem w_room : about1.hasRoom e0.platform room_1 = true :=
  launch0.hasRoom_least _ room_1 (by decide +kernel) (by decide +kernel) (by decide +kernel) (by decide +kernel) (by decide +kernel) (by decide +kernel)
theorem allAtoms_all (ts : List Jvm.Cond) (a : Array Jvm.Value) (st : Jvm.State) : (allAtoms ts).before a st = ts.all (fun c => c.before a st) := by
  induction ts with
  | nil => rfl
  | cons c t ih =>
    show (Jvm.Cond.and c (allAtoms t)).before a st = _
    rw [Jvm.Cond.before_and, ih, List.all_cons]
def words1 : List Jvm.Cond := Jvm.Cond.code x code maxLocals ret :: tables_1
/-- a 'code' word, met by the world's own term for the bytes: nothing is compared byte by byte -/
theorem code_word {y : MethodName} {bytes : ByteArray} {mx : Nat} {rt : Option FieldType} {a : Array Value} {s : State} {m : MethodId} {meth : Method} {c : Code} (h1 : s.methodNamed? y = some m) (h2 : s.vm.method? m = some meth) (h3 : meth.code = some c) (h4 : c.code = bytes)
    (h5 : (c.maxLocals == mx && c.exceptionTable.isEmpty && decide (c.maxStack ≤ mostOperands) && decide (meth.sig.returnType = rt) && !meth.locks && decide (parseMethodDescriptor y.desc = some meth.sig)) = true) : (Jvm.Cond.code y bytes mx rt).before a s = true := by
  simp only [Bool.and_eq_true, beq_iff_eq, Bool.not_eq_true', decide_eq_true_eq] at h5
  obtain ⟨⟨⟨⟨⟨g1, g2⟩, g3⟩, g4⟩, g5⟩, g6⟩ := h5
  simp [Cond.before, Cond.holds, Cond.value, h1, h2, h3, h4, g1, g2, g3, g4, g5, g6]
def isCode : Jvm.Cond → Bool
  | .code _ _ _ _ => true
  | _ => false
theorem all_split {L : List Jvm.Cond} {P : Jvm.Cond → Bool} (h1 : L.all (fun c => isCode c || P c) = true) (h2 : ∀ c ∈ L.filter isCode, P c = true) : L.all P = true := by
  refine List.all_eq_true.mpr fun c hc => ?_
  have h := List.all_eq_true.mp h1 c hc
  rcases Bool.eq_false_or_eq_true (isCode c) with hi | hi
  · exact h2 c (List.mem_filter.mpr ⟨hc, hi⟩)
  · simpa [hi] using h
set_option maxRecDepth 65536 in
theorem w_c0 : (Jvm.Cond.code x code maxLocals ret).before args0 about1 = true := code_word (m := ⟨1, 1⟩) (meth := k1m1) (c := k1c1) (by decide +kernel) rfl rfl rfl (by decide +kernel)
set_option maxRecDepth 65536 in
theorem w_c1 : (Jvm.Cond.code ({ cls := "java/lang/Math", name := "max", desc := "(JJ)J" } : Jvm.MethodName) jdk_29_method_66_code (4 : Nat) (Option.some Jvm.ClassFile.FieldType.long)).before args0 about1 = true := code_word (m := ⟨2, 2⟩) (meth := k2m2) (c := k2c2) (by decide +kernel) rfl rfl rfl (by decide +kernel)
set_option maxRecDepth 65536 in
theorem w_c2 : (Jvm.Cond.code ({ cls := "com/example/tickfence/tickfence/Decimals", name := "compareProduct", desc := "(JJJJ)I" } : Jvm.MethodName) prog_10_method_4_code (9 : Nat) (Option.some Jvm.ClassFile.FieldType.int)).before args0 about1 = true := code_word (m := ⟨3, 1⟩) (meth := k3m1) (c := k3c1) (by decide +kernel) rfl rfl rfl (by decide +kernel)
set_option maxRecDepth 65536 in
theorem w_c3 : (Jvm.Cond.code ({ cls := "java/lang/Math", name := "multiplyHigh", desc := "(JJ)J" } : Jvm.MethodName) jdk_29_method_45_code (20 : Nat) (Option.some Jvm.ClassFile.FieldType.long)).before args0 about1 = true := code_word (m := ⟨2, 1⟩) (meth := k2m1) (c := k2c1) (by decide +kernel) rfl rfl rfl (by decide +kernel)
set_option maxRecDepth 65536 in
theorem w_c4 : (Jvm.Cond.code ({ cls := "java/lang/Long", name := "compare", desc := "(JJ)I" } : Jvm.MethodName) jdk_35_method_42_code (4 : Nat) (Option.some Jvm.ClassFile.FieldType.int)).before args0 about1 = true := code_word (m := ⟨9, 0⟩) (meth := k9m0) (c := k9c0) (by decide +kernel) rfl rfl rfl (by decide +kernel)
set_option maxRecDepth 65536 in
theorem w_c5 : (Jvm.Cond.code ({ cls := "java/lang/Long", name := "compareUnsigned", desc := "(JJ)I" } : Jvm.MethodName) jdk_35_method_43_code (4 : Nat) (Option.some Jvm.ClassFile.FieldType.int)).before args0 about1 = true := code_word (m := ⟨9, 1⟩) (meth := k9m1) (c := k9c1) (by decide +kernel) rfl rfl rfl (by decide +kernel)
def codes1 : List Jvm.Cond := [Jvm.Cond.code x code maxLocals ret, Jvm.Cond.code ({ cls := "java/lang/Math", name := "max", desc := "(JJ)J" } : Jvm.MethodName) jdk_29_method_66_code (4 : Nat) (Option.some Jvm.ClassFile.FieldType.long), Jvm.Cond.code ({ cls := "com/example/tickfence/tickfence/Decimals", name := "compareProduct", desc := "(JJJJ)I" } : Jvm.MethodName) prog_10_method_4_code (9 : Nat) (Option.some Jvm.ClassFile.FieldType.int), Jvm.Cond.code ({ cls := "java/lang/Math", name := "multiplyHigh", desc := "(JJ)J" } : Jvm.MethodName) jdk_29_method_45_code (20 : Nat) (Option.some Jvm.ClassFile.FieldType.long), Jvm.Cond.code ({ cls := "java/lang/Long", name := "compare", desc := "(JJ)I" } : Jvm.MethodName) jdk_35_method_42_code (4 : Nat) (Option.some Jvm.ClassFile.FieldType.int), Jvm.Cond.code ({ cls := "java/lang/Long", name := "compareUnsigned", desc := "(JJ)I" } : Jvm.MethodName) jdk_35_method_43_code (4 : Nat) (Option.some Jvm.ClassFile.FieldType.int)]
set_option maxRecDepth 65536 in
theorem codes_eq : words1.filter isCode = codes1 := rfl
theorem w_codes : ∀ c ∈ words1.filter isCode, c.before args0 about1 = true := by
  rw [codes_eq]
  intro c hc
  simp only [codes1, List.mem_cons, List.not_mem_nil, or_false] at hc
  rcases hc with rfl | rfl | rfl | rfl | rfl | rfl
  · exact w_c0
  · exact w_c1
  · exact w_c2
  · exact w_c3
  · exact w_c4
  · exact w_c5
set_option maxRecDepth 65536 in
theorem w_t1 : (words1.take 24).all (fun c => isCode c || c.before args0 about1) = true := by decide +kernel
set_option maxRecDepth 65536 in
theorem w_t2 : (words1.drop 24).all (fun c => isCode c || c.before args0 about1) = true := by decide +kernel
theorem w_tables : (allAtoms (Jvm.Cond.code x code maxLocals ret :: tables_1)).before args0 about1 = true := by
  rw [allAtoms_all]
  show words1.all (fun c => c.before args0 about1) = true
  refine all_split ?_ w_codes
  rw [← List.take_append_drop 24 words1, List.all_append, w_t1, w_t2]
  rfl
set_option maxRecDepth 65536 in
theorem w_case : (Jvm.Cond.and given_1 narrow_1).before args0 about1 = true := by decide +kernel
theorem w_applies : (headSpec (Jvm.Cond.code x code maxLocals ret :: tables_1) room_1).applies x e0.platform about1 = true :=
  (Spec.applies_iff w_frames).mpr ⟨w_running, w_runnable, w_alone, w_named, w_hears, w_ripe, w_room, w_tables⟩
theorem atStart : AtStart classFile x code maxLocals ret World_1 tables_1 room_1 Calls_1 rest_1 Pre_1 launch0 p0 e0 about1 theMethod args0 below0 :=
  ⟨lists_1, trivial, launch0.admits_env _ _ _, launch0.least_env, fairChoices_fair.cas, fairChoices_fair.clock, w_frames, w_args, w_heap, w_applies, trivial, trivial, w_case⟩
end start1
theorem witness_1 : WitnessClaimed_1 := ⟨start1.p0, start1.e0, start1.about1, start1.theMethod, start1.args0, start1.below0, start1.atStart⟩
end Jvm.Pilot.@@N@@
