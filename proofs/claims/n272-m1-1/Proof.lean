import JvmDerived
import JvmDerived.Pilot.@@N@@Statement
import JvmDerived.Pilot.@@N@@Code
set_option linter.unusedVariables false
set_option linter.unusedSimpArgs false
@@BLOCK:NumsL.lean.txt@@
namespace Jvm.Pilot.@@N@@
open Jvm Jvm.ClassFile Sem Op Lib Jvm.Free Jvm.Stand Jvm.LawKit Jvm.RoadKit Bundle Jvm.Pilot.@@N@@.Jvm.D
/-! ## the walk's own kit: 'from this pc on the body comes to its end, in Φ' (X.G), and one rule a step -/
def OwC (p : Program) (l : Launch) (e : Env) (R : Room) (s : State) (m : MethodId) (args : Array Value) (below : List Frame) (meth : Method) (c : Code) (Z : State) (own nm : String) (bytes : ByteArray) (mL : Nat) (ret : Option FieldType) (n0 kM nM : Nat) (Φ : Option Value → Heap → Prop) : Prop :=
  p.tables.exec = Jvm.exec ∧ c.code = bytes ∧ c.maxLocals = mL ∧ s.vm.findClass own = some m.cls ∧ Z.Warmed39 s.vm ∧ meth.sig.returnType = ret ∧ meth.locks = false ∧ meth.name = nm
section OwKit
variable {p : Program} {l : Launch} {e : Env} {R : Room} {s : State} {m : MethodId} {args : Array Value} {below : List Frame} {meth : Method} {c : Code} {Z : State} {own nm : String} {bytes : ByteArray} {mL : Nat} {ret : Option FieldType} {n0 kM nM : Nat} {Φ : Option Value → Heap → Prop}
variable {a0 : Array Value} {h : Heap} {k n pc q : Nat} {Ls Ls' : Array Slot} {st rest : List Value}
def OwC.G (_X : OwC p l e R s m args below meth c Z own nm bytes mL ret n0 kM nM Φ) (h : Heap) (k n pc : Nat) (Ls : Array Slot) (st : List Value) : Prop :=
  ∀ T locs, Stand p l e R s m args below meth c T locs k n → T.heap = h → Fr n0 locs →
    ∃ v s₂ L, Steps p.tables e below (T.setTop (mkF m pc Ls st)) s₂ ∧ s₂.status = .running ∧ Ended s₂ below (.returned v) ∧ (Φ v s₂.heap ∧ Fr n0 L) ∧ FrameEnd s (.returned v) s₂ L kM nM
variable (X : OwC p l e R s m args below meth c Z own nm bytes mL ret n0 kM nM Φ)
theorem OwC.step {pc' : Nat} {st' : List Value} (g : X.G h k n pc' Ls' st') (w : ∀ T locs, Stand p l e R s m args below meth c T locs k n → ∀ t, Steps p.tables e below (T.setTop (mkF m pc' Ls' st')) t → Steps p.tables e below (T.setTop (mkF m pc Ls st)) t) : X.G h k n pc Ls st := fun T locs Y eT N => by
  obtain ⟨v, s₂, L, r1, r⟩ := g T locs Y eT N
  exact ⟨v, s₂, L, w T locs Y _ r1, r⟩
theorem OwC.hd (X : OwC p l e R s m args below meth c Z own nm bytes mL ret n0 kM nM Φ) {i : Instr} {len : Nat} (d : decode bytes pc = .ok (i, len)) : decode c.code pc = .ok (i, len) := hb X.2.1 d
/-! a name for the top of the stack -/
theorem OwC.nmI {x : Int32} (g : ∀ v : Int32, v = x → X.G h k n pc Ls (.int v :: st)) : X.G h k n pc Ls (.int x :: st) := g x rfl
theorem OwC.nmJ {x : Int64} (g : ∀ v : Int64, v = x → X.G h k n pc Ls (.long v :: st)) : X.G h k n pc Ls (.long x :: st) := g x rfl
theorem OwC.foldI {x v : Int32} (e : x = v) (g : X.G h k n pc Ls (.int v :: st)) : X.G h k n pc Ls (.int x :: st) := by subst e; exact g
theorem OwC.foldJ {x v : Int64} (e : x = v) (g : X.G h k n pc Ls (.long v :: st)) : X.G h k n pc Ls (.long x :: st) := by subst e; exact g
/-! loads and stores -/
theorem OwC.iloadN {j : Fin 4} {v : Int32} (d : decode bytes pc = .ok (.iload_n j, 1)) (hl : Ls[j.val]? = some (.val (.int v))) (hq : pc + 1 = q) (g : X.G h k n q Ls (.int v :: st)) : X.G h k n pc Ls st := by
  subst hq; exact X.step g fun T _ Y t r => XS.iloadN Y.here X.1 rfl (X.hd d) hl r
theorem OwC.iload {j : Nat} {v : Int32} (d : decode bytes pc = .ok (.iload j, 2)) (hl : Ls[j]? = some (.val (.int v))) (hq : pc + 2 = q) (g : X.G h k n q Ls (.int v :: st)) : X.G h k n pc Ls st := by
  subst hq; exact X.step g fun T _ Y t r => XS.iload Y.here X.1 rfl (X.hd d) hl r
theorem OwC.lloadN {j : Fin 4} {v : Int64} (d : decode bytes pc = .ok (.lload_n j, 1)) (hl : Ls[j.val]? = some (.val (.long v))) (hq : pc + 1 = q) (g : X.G h k n q Ls (.long v :: st)) : X.G h k n pc Ls st := by
  subst hq; exact X.step g fun T _ Y t r => XT.lloadN Y.here X.1 rfl (X.hd d) hl r
theorem OwC.lload {j : Nat} {v : Int64} (d : decode bytes pc = .ok (.lload j, 2)) (hl : Ls[j]? = some (.val (.long v))) (hq : pc + 2 = q) (g : X.G h k n q Ls (.long v :: st)) : X.G h k n pc Ls st := by
  subst hq; exact X.step g fun T _ Y t r => XT.lload Y.here X.1 rfl (X.hd d) hl r
theorem OwC.aloadN {j : Fin 4} {v : Value} (d : decode bytes pc = .ok (.aload_n j, 1)) (hl : Ls[j.val]? = some (.val v)) (hv : v.isRef = true) (hq : pc + 1 = q) (g : X.G h k n q Ls (v :: st)) : X.G h k n pc Ls st := by
  subst hq; exact X.step g fun T _ Y t r => XS.aloadN Y.here X.1 rfl (X.hd d) hl hv r
theorem OwC.aload {j : Nat} {v : Value} (d : decode bytes pc = .ok (.aload j, 2)) (hl : Ls[j]? = some (.val v)) (hv : v.isRef = true) (hq : pc + 2 = q) (g : X.G h k n q Ls (v :: st)) : X.G h k n pc Ls st := by
  subst hq; exact X.step g fun T _ Y t r => XS.aload Y.here X.1 rfl (X.hd d) hl hv r
theorem OwC.istoreN {j : Fin 4} {x : Int32} (d : decode bytes pc = .ok (.istore_n j, 1)) (hl : storeLocals Ls j.val (.int x) = some Ls') (hq : pc + 1 = q) (g : X.G h k n q Ls' st) : X.G h k n pc Ls (.int x :: st) := by
  subst hq; exact X.step g fun T _ Y t r => XS.istoreN Y.here X.1 rfl (X.hd d) rfl hl r
theorem OwC.istore {j : Nat} {x : Int32} (d : decode bytes pc = .ok (.istore j, 2)) (hl : storeLocals Ls j (.int x) = some Ls') (hq : pc + 2 = q) (g : X.G h k n q Ls' st) : X.G h k n pc Ls (.int x :: st) := by
  subst hq; exact X.step g fun T _ Y t r => XS.istore Y.here X.1 rfl (X.hd d) rfl hl r
theorem OwC.lstoreN {j : Fin 4} {x : Int64} (d : decode bytes pc = .ok (.lstore_n j, 1)) (hl : storeLocals Ls j.val (.long x) = some Ls') (hq : pc + 1 = q) (g : X.G h k n q Ls' st) : X.G h k n pc Ls (.long x :: st) := by
  subst hq; exact X.step g fun T _ Y t r => XT.lstoreN Y.here X.1 rfl (X.hd d) rfl hl r
theorem OwC.lstore {j : Nat} {x : Int64} (d : decode bytes pc = .ok (.lstore j, 2)) (hl : storeLocals Ls j (.long x) = some Ls') (hq : pc + 2 = q) (g : X.G h k n q Ls' st) : X.G h k n pc Ls (.long x :: st) := by
  subst hq; exact X.step g fun T _ Y t r => XT.lstore Y.here X.1 rfl (X.hd d) rfl hl r
theorem OwC.astoreN {j : Fin 4} {x : Value} (d : decode bytes pc = .ok (.astore_n j, 1)) (hv : x.isRef = true) (hl : storeLocals Ls j.val x = some Ls') (hq : pc + 1 = q) (g : X.G h k n q Ls' st) : X.G h k n pc Ls (x :: st) := by
  subst hq; exact X.step g fun T _ Y t r => XS.astoreN Y.here X.1 rfl (X.hd d) rfl hv hl r
theorem OwC.astore {j : Nat} {x : Value} (d : decode bytes pc = .ok (.astore j, 2)) (hv : x.isRef = true) (hl : storeLocals Ls j x = some Ls') (hq : pc + 2 = q) (g : X.G h k n q Ls' st) : X.G h k n pc Ls (x :: st) := by
  subst hq; exact X.step g fun T _ Y t r => XS.astore Y.here X.1 rfl (X.hd d) rfl hv hl r
/-! constants -/
theorem OwC.iconst {i : Int} (v : Int32) (d : decode bytes pc = .ok (.iconst i, 1)) (hv : Int32.ofInt i = v) (hq : pc + 1 = q) (g : X.G h k n q Ls (.int v :: st)) : X.G h k n pc Ls st := by
  subst hq hv; exact X.step g fun T _ Y t r => XS.iconst Y.here X.1 rfl (X.hd d) r
theorem OwC.bipush {i : Int} (v : Int32) (d : decode bytes pc = .ok (.bipush i, 2)) (hv : (Int8.ofInt i).toInt32 = v) (hq : pc + 2 = q) (g : X.G h k n q Ls (.int v :: st)) : X.G h k n pc Ls st := by
  subst hq hv; exact X.step g fun T _ Y t r => XS.bipush Y.here X.1 rfl (X.hd d) r
theorem OwC.sipush {i : Int} (v : Int32) (d : decode bytes pc = .ok (.sipush i, 3)) (hv : (Int16.ofInt i).toInt32 = v) (hq : pc + 3 = q) (g : X.G h k n q Ls (.int v :: st)) : X.G h k n pc Ls st := by
  subst hq hv; exact X.step g fun T _ Y t r => XS.sipush Y.here X.1 rfl (X.hd d) r
theorem OwC.lconst {j : Fin 2} (v : Int64) (d : decode bytes pc = .ok (.lconst j, 1)) (hv : Int64.ofNat j = v) (hq : pc + 1 = q) (g : X.G h k n q Ls (.long v :: st)) : X.G h k n pc Ls st := by
  subst hq hv; exact X.step g fun T _ Y t r => XT.lconst Y.here X.1 rfl (X.hd d) r
theorem OwC.aconstNull (d : decode bytes pc = .ok (.aconst_null, 1)) (hq : pc + 1 = q) (g : X.G h k n q Ls (.null :: st)) : X.G h k n pc Ls st := by
  subst hq; exact X.step g fun T _ Y t r => XS.aconstNull Y.here X.1 rfl (X.hd d) r
theorem OwC.ldc {i : Nat} {v : Int32} (w : (Cond.constant own i v).before a0 Z = true) (d : decode bytes pc = .ok (.ldc i, 2)) (hq : pc + 2 = q) (g : X.G h k n q Ls (.int v :: st)) : X.G h k n pc Ls st := by
  subst hq; exact X.step g fun T _ Y t r => Y.ldcI X.1 X.2.2.2.1 (mvT X.2.2.2.2.1 w) rfl (X.hd d) r
theorem OwC.ldc_w {i : Nat} {v : Int32} (w : (Cond.constant own i v).before a0 Z = true) (d : decode bytes pc = .ok (.ldc_w i, 3)) (hq : pc + 3 = q) (g : X.G h k n q Ls (.int v :: st)) : X.G h k n pc Ls st := by
  subst hq; exact X.step g fun T _ Y t r => Y.ldcWI X.1 X.2.2.2.1 (mvT X.2.2.2.2.1 w) rfl (X.hd d) r
theorem OwC.ldc2_w {i : Nat} {v : Int64} (w : (Cond.constantLong own i v).before a0 Z = true) (d : decode bytes pc = .ok (.ldc2_w i, 3)) (hq : pc + 3 = q) (g : X.G h k n q Ls (.long v :: st)) : X.G h k n pc Ls st := by
  subst hq; exact X.step g fun T _ Y t r => Y.ldc2J X.1 X.2.2.2.1 (mvT X.2.2.2.2.1 w) rfl (X.hd d) r
/-! arithmetic -/
theorem OwC.iadd {x y : Int32} (d : decode bytes pc = .ok (.iadd, 1)) (hq : pc + 1 = q) (g : X.G h k n q Ls (.int (x + y) :: st)) : X.G h k n pc Ls (.int y :: .int x :: st) := by
  subst hq; exact X.step g fun T _ Y t r => XS.iadd Y.here X.1 rfl (X.hd d) rfl r
theorem OwC.isub {x y : Int32} (d : decode bytes pc = .ok (.isub, 1)) (hq : pc + 1 = q) (g : X.G h k n q Ls (.int (x - y) :: st)) : X.G h k n pc Ls (.int y :: .int x :: st) := by
  subst hq; exact X.step g fun T _ Y t r => XS.isub Y.here X.1 rfl (X.hd d) rfl r
theorem OwC.imul {x y : Int32} (d : decode bytes pc = .ok (.imul, 1)) (hq : pc + 1 = q) (g : X.G h k n q Ls (.int (x * y) :: st)) : X.G h k n pc Ls (.int y :: .int x :: st) := by
  subst hq; exact X.step g fun T _ Y t r => XS.imul Y.here X.1 rfl (X.hd d) rfl r
theorem OwC.iand {x y : Int32} (d : decode bytes pc = .ok (.iand, 1)) (hq : pc + 1 = q) (g : X.G h k n q Ls (.int (x &&& y) :: st)) : X.G h k n pc Ls (.int y :: .int x :: st) := by
  subst hq; exact X.step g fun T _ Y t r => XS.iand Y.here X.1 rfl (X.hd d) rfl r
theorem OwC.ixor {x y : Int32} (d : decode bytes pc = .ok (.ixor, 1)) (hq : pc + 1 = q) (g : X.G h k n q Ls (.int (x ^^^ y) :: st)) : X.G h k n pc Ls (.int y :: .int x :: st) := by
  subst hq; exact X.step g fun T _ Y t r => XT.ixor Y.here X.1 rfl (X.hd d) rfl r
theorem OwC.ior {x y : Int32} (d : decode bytes pc = .ok (.ior, 1)) (hq : pc + 1 = q) (g : X.G h k n q Ls (.int (x ||| y) :: st)) : X.G h k n pc Ls (.int y :: .int x :: st) := by
  subst hq; exact X.step g fun T _ Y t r => XT.ior Y.here X.1 rfl (X.hd d) rfl r
theorem OwC.ishl {x y : Int32} (d : decode bytes pc = .ok (.ishl, 1)) (hq : pc + 1 = q) (g : X.G h k n q Ls (.int (x <<< (y &&& 31)) :: st)) : X.G h k n pc Ls (.int y :: .int x :: st) := by
  subst hq; exact X.step g fun T _ Y t r => XT.ishl Y.here X.1 rfl (X.hd d) rfl r
theorem OwC.ishr {x y : Int32} (d : decode bytes pc = .ok (.ishr, 1)) (hq : pc + 1 = q) (g : X.G h k n q Ls (.int (x >>> (y &&& 31)) :: st)) : X.G h k n pc Ls (.int y :: .int x :: st) := by
  subst hq; exact X.step g fun T _ Y t r => XT.ishr Y.here X.1 rfl (X.hd d) rfl r
theorem OwC.iushr {x y : Int32} (d : decode bytes pc = .ok (.iushr, 1)) (hq : pc + 1 = q) (g : X.G h k n q Ls (.int (XT.ushr x y) :: st)) : X.G h k n pc Ls (.int y :: .int x :: st) := by
  subst hq; exact X.step g fun T _ Y t r => XT.iushr Y.here X.1 rfl (X.hd d) rfl r
theorem OwC.ladd {x y : Int64} (d : decode bytes pc = .ok (.ladd, 1)) (hq : pc + 1 = q) (g : X.G h k n q Ls (.long (x + y) :: st)) : X.G h k n pc Ls (.long y :: .long x :: st) := by
  subst hq; exact X.step g fun T _ Y t r => XT.ladd Y.here X.1 rfl (X.hd d) rfl r
theorem OwC.lsub {x y : Int64} (d : decode bytes pc = .ok (.lsub, 1)) (hq : pc + 1 = q) (g : X.G h k n q Ls (.long (x - y) :: st)) : X.G h k n pc Ls (.long y :: .long x :: st) := by
  subst hq; exact X.step g fun T _ Y t r => XT.lsub Y.here X.1 rfl (X.hd d) rfl r
theorem OwC.lmul {x y : Int64} (d : decode bytes pc = .ok (.lmul, 1)) (hq : pc + 1 = q) (g : X.G h k n q Ls (.long (x * y) :: st)) : X.G h k n pc Ls (.long y :: .long x :: st) := by
  subst hq; exact X.step g fun T _ Y t r => XT.lmul Y.here X.1 rfl (X.hd d) rfl r
theorem OwC.land {x y : Int64} (d : decode bytes pc = .ok (.land, 1)) (hq : pc + 1 = q) (g : X.G h k n q Ls (.long (x &&& y) :: st)) : X.G h k n pc Ls (.long y :: .long x :: st) := by
  subst hq; exact X.step g fun T _ Y t r => XT.land Y.here X.1 rfl (X.hd d) rfl r
theorem OwC.lxor {x y : Int64} (d : decode bytes pc = .ok (.lxor, 1)) (hq : pc + 1 = q) (g : X.G h k n q Ls (.long (x ^^^ y) :: st)) : X.G h k n pc Ls (.long y :: .long x :: st) := by
  subst hq; exact X.step g fun T _ Y t r => XT.lxor Y.here X.1 rfl (X.hd d) rfl r
theorem OwC.lor {x y : Int64} (d : decode bytes pc = .ok (.lor, 1)) (hq : pc + 1 = q) (g : X.G h k n q Ls (.long (x ||| y) :: st)) : X.G h k n pc Ls (.long y :: .long x :: st) := by
  subst hq; exact X.step g fun T _ Y t r => XT.lor Y.here X.1 rfl (X.hd d) rfl r
theorem OwC.lshl {x : Int64} {y : Int32} (d : decode bytes pc = .ok (.lshl, 1)) (hq : pc + 1 = q) (g : X.G h k n q Ls (.long (x <<< (y.toInt64 &&& 63)) :: st)) : X.G h k n pc Ls (.int y :: .long x :: st) := by
  subst hq; exact X.step g fun T _ Y t r => XT.lshl Y.here X.1 rfl (X.hd d) rfl r
theorem OwC.lshr {x : Int64} {y : Int32} (d : decode bytes pc = .ok (.lshr, 1)) (hq : pc + 1 = q) (g : X.G h k n q Ls (.long (x >>> (y.toInt64 &&& 63)) :: st)) : X.G h k n pc Ls (.int y :: .long x :: st) := by
  subst hq; exact X.step g fun T _ Y t r => XT.lshr Y.here X.1 rfl (X.hd d) rfl r
theorem OwC.lushr {x : Int64} {y : Int32} (d : decode bytes pc = .ok (.lushr, 1)) (hq : pc + 1 = q) (g : X.G h k n q Ls (.long (XT.ushrL x y) :: st)) : X.G h k n pc Ls (.int y :: .long x :: st) := by
  subst hq; exact X.step g fun T _ Y t r => XT.lushr Y.here X.1 rfl (X.hd d) rfl r
theorem OwC.idiv {x y : Int32} (d : decode bytes pc = .ok (.idiv, 1)) (hy : y ≠ 0) (hq : pc + 1 = q) (g : X.G h k n q Ls (.int (x / y) :: st)) : X.G h k n pc Ls (.int y :: .int x :: st) := by
  subst hq; exact X.step g fun T _ Y t r => XS.idiv Y.here X.1 rfl (X.hd d) rfl hy r
theorem OwC.ldiv {x y : Int64} (d : decode bytes pc = .ok (.ldiv, 1)) (hy : y ≠ 0) (hq : pc + 1 = q) (g : X.G h k n q Ls (.long (x / y) :: st)) : X.G h k n pc Ls (.long y :: .long x :: st) := by
  subst hq; exact X.step g fun T _ Y t r => XT.ldiv Y.here X.1 rfl (X.hd d) rfl hy r
theorem OwC.irem {x y : Int32} (d : decode bytes pc = .ok (.irem, 1)) (hy : y ≠ 0) (hq : pc + 1 = q) (g : X.G h k n q Ls (.int (x % y) :: st)) : X.G h k n pc Ls (.int y :: .int x :: st) := by
  subst hq; exact X.step g fun T _ Y t r => iremM Y X.1 rfl (X.hd d) rfl hy r
theorem ow_lrem (x y : Int64) : x - (x / y) * y = x % y := by
  rw [← Int64.toInt_inj, Int64.toInt_sub, Int64.toInt_mul, Int64.toInt_mod, Int64.toInt_div]
  have h1 : (((x.toInt.tdiv y.toInt).bmod (2 ^ 64) * y.toInt).bmod (2 ^ 64)) = (x.toInt.tdiv y.toInt * y.toInt).bmod (2 ^ 64) := by simp [Int.bmod_mul_bmod]
  rw [h1, Int.sub_bmod_bmod]
  have h2 : x.toInt - x.toInt.tdiv y.toInt * y.toInt = x.toInt.tmod y.toInt := by
    have := Int.mul_tdiv_add_tmod x.toInt y.toInt
    rw [Int.mul_comm] at this; omega
  rw [h2, ← Int64.toInt_mod, Int64.toInt_bmod]
theorem OwC.lrem {x y : Int64} (d : decode bytes pc = .ok (.lrem, 1)) (hy : y ≠ 0) (hq : pc + 1 = q) (g : X.G h k n q Ls (.long (x % y) :: st)) : X.G h k n pc Ls (.long y :: .long x :: st) := by
  subst hq; exact X.step g fun T _ Y t r => XT.lrem Y.here X.1 rfl (X.hd d) rfl hy (by rw [ow_lrem]; exact r)
theorem OwC.ineg {x : Int32} (d : decode bytes pc = .ok (.ineg, 1)) (hq : pc + 1 = q) (g : X.G h k n q Ls (.int (-x) :: st)) : X.G h k n pc Ls (.int x :: st) := by
  subst hq; exact X.step g fun T _ Y t r => XS.ineg Y.here X.1 rfl (X.hd d) rfl r
theorem OwC.lneg {x : Int64} (d : decode bytes pc = .ok (.lneg, 1)) (hq : pc + 1 = q) (g : X.G h k n q Ls (.long (-x) :: st)) : X.G h k n pc Ls (.long x :: st) := by
  subst hq; exact X.step g fun T _ Y t r => XT.lneg Y.here X.1 rfl (X.hd d) rfl r
theorem OwC.i2l {x : Int32} (d : decode bytes pc = .ok (.i2l, 1)) (hq : pc + 1 = q) (g : X.G h k n q Ls (.long (x.toInt64) :: st)) : X.G h k n pc Ls (.int x :: st) := by
  subst hq; exact X.step g fun T _ Y t r => XT.i2l Y.here X.1 rfl (X.hd d) rfl r
theorem OwC.l2i {x : Int64} (d : decode bytes pc = .ok (.l2i, 1)) (hq : pc + 1 = q) (g : X.G h k n q Ls (.int (x.toInt32) :: st)) : X.G h k n pc Ls (.long x :: st) := by
  subst hq; exact X.step g fun T _ Y t r => XT.l2i Y.here X.1 rfl (X.hd d) rfl r
theorem OwC.i2b {x : Int32} (d : decode bytes pc = .ok (.i2b, 1)) (hq : pc + 1 = q) (g : X.G h k n q Ls (.int (x.toInt8.toInt32) :: st)) : X.G h k n pc Ls (.int x :: st) := by
  subst hq; exact X.step g fun T _ Y t r => XT.i2b Y.here X.1 rfl (X.hd d) rfl r
theorem OwC.i2c {x : Int32} (d : decode bytes pc = .ok (.i2c, 1)) (hq : pc + 1 = q) (g : X.G h k n q Ls (.int (x.toUInt32.toUInt16.toUInt32.toInt32) :: st)) : X.G h k n pc Ls (.int x :: st) := by
  subst hq; exact X.step g fun T _ Y t r => XT.i2c Y.here X.1 rfl (X.hd d) rfl r
theorem OwC.iinc {j : Nat} {cst : Int} {x : Int32} (v : Int32) (d : decode bytes pc = .ok (.iinc j cst, 3)) (hv : Int32.ofInt cst = v) (hl : Ls[j]? = some (.val (.int x))) (hl' : storeLocals Ls j (.int (x + v)) = some Ls') (hq : pc + 3 = q) (g : X.G h k n q Ls' st) : X.G h k n pc Ls st := by
  subst hq hv; exact X.step g fun T _ Y t r => XS.iinc Y.here X.1 rfl (X.hd d) hl hl' r
/-! the stack -/
theorem OwC.dup {x : Value} (d : decode bytes pc = .ok (.dup, 1)) (hc : x.category = 1) (hq : pc + 1 = q) (g : X.G h k n q Ls (x :: x :: st)) : X.G h k n pc Ls (x :: st) := by
  subst hq; exact X.step g fun T _ Y t r => XS.dup Y.here X.1 rfl (X.hd d) rfl hc r
theorem OwC.pop {x : Value} (d : decode bytes pc = .ok (.pop, 1)) (hc : x.category = 1) (hq : pc + 1 = q) (g : X.G h k n q Ls st) : X.G h k n pc Ls (x :: st) := by
  subst hq; exact X.step g fun T _ Y t r => XT.pop Y.here X.1 rfl (X.hd d) rfl hc r
theorem OwC.dup_x1 {x y : Value} (d : decode bytes pc = .ok (.dup_x1, 1)) (hc : x.category = 1) (hc' : y.category = 1) (hq : pc + 1 = q) (g : X.G h k n q Ls (x :: y :: x :: st)) : X.G h k n pc Ls (x :: y :: st) := by
  subst hq; exact X.step g fun T _ Y t r => XT.dupX1 Y.here X.1 rfl (X.hd d) rfl hc hc' r
theorem OwC.dup2 {x y : Value} (d : decode bytes pc = .ok (.dup2, 1)) (hc : x.category = 1) (hc' : y.category = 1) (hq : pc + 1 = q) (g : X.G h k n q Ls (x :: y :: x :: y :: st)) : X.G h k n pc Ls (x :: y :: st) := by
  subst hq; exact X.step g fun T _ Y t r => XT.dup2 Y.here X.1 rfl (X.hd d) rfl hc hc' r
theorem OwC.dup2L {x : Int64} (d : decode bytes pc = .ok (.dup2, 1)) (hq : pc + 1 = q) (g : X.G h k n q Ls (.long x :: .long x :: st)) : X.G h k n pc Ls (.long x :: st) := by
  subst hq; exact X.step g fun T _ Y t r => XT.dup2L Y.here X.1 rfl (X.hd d) rfl r
/-! branches -/
theorem OwC.goto {o : Int} {q' : Nat} (d : decode bytes pc = .ok (.goto o, 3)) (hp : 0 ≤ (pc : Int) + o ∧ ((pc : Int) + o).toNat = q') (g : X.G h k n q' Ls st) : X.G h k n pc Ls st :=
  X.step g fun T _ Y t r => XS.goto Y.here X.1 rfl rfl (X.hd d) hp.1 hp.2 r
theorem OwC.icmpB {cd : ClassFile.Cond} {o : Int} {q' : Nat} {x y : Int32} (d : decode bytes pc = .ok (.if_icmp cd o, 3)) (hp : 0 ≤ (pc : Int) + o ∧ ((pc : Int) + o).toNat = q') (hq : pc + 3 = q) (g1 : if_icmp.holds cd x y = true → X.G h k n q' Ls st) (g0 : if_icmp.holds cd x y = false → X.G h k n q Ls st) : X.G h k n pc Ls (.int y :: .int x :: st) := by
  subst hq
  cases hc : if_icmp.holds cd x y with
  | true => exact X.step (g1 hc) fun T _ Y t r => XS.icmpYes Y.here X.1 rfl rfl (X.hd d) rfl hc hp.1 hp.2 r
  | false => exact X.step (g0 hc) fun T _ Y t r => XS.icmpNo Y.here X.1 rfl (X.hd d) rfl hc r
theorem OwC.ifB {cd : ClassFile.Cond} {o : Int} {q' : Nat} {x : Int32} (d : decode bytes pc = .ok (.ifCond cd o, 3)) (hp : 0 ≤ (pc : Int) + o ∧ ((pc : Int) + o).toNat = q') (hq : pc + 3 = q) (g1 : ifCond.holds cd x = true → X.G h k n q' Ls st) (g0 : ifCond.holds cd x = false → X.G h k n q Ls st) : X.G h k n pc Ls (.int x :: st) := by
  subst hq
  cases hc : ifCond.holds cd x with
  | true => exact X.step (g1 hc) fun T _ Y t r => XS.ifYes Y.here X.1 rfl rfl (X.hd d) rfl hc hp.1 hp.2 r
  | false => exact X.step (g0 hc) fun T _ Y t r => XS.ifNo Y.here X.1 rfl (X.hd d) rfl hc r
def owCd : ClassFile.Cond → Int → Int → Prop
  | .eq, a, b => a = b | .ne, a, b => ¬ a = b | .lt, a, b => a < b | .ge, a, b => b ≤ a | .gt, a, b => b < a | .le, a, b => a ≤ b
theorem ow_icmp (cd : ClassFile.Cond) (x y : Int32) : if_icmp.holds cd x y = true ↔ owCd cd x.toInt y.toInt := by
  cases cd <;> simp [if_icmp.holds, owCd, ← Int32.toInt_inj, Int32.lt_iff_toInt_lt, Int32.le_iff_toInt_le]
theorem ow_if (cd : ClassFile.Cond) (x : Int32) : ifCond.holds cd x = true ↔ owCd cd x.toInt 0 := by rw [if0, ow_icmp]; rfl
theorem ow_icmpF {cd : ClassFile.Cond} {x y : Int32} (hc : if_icmp.holds cd x y = false) : ¬ owCd cd x.toInt y.toInt := fun q => by rw [(ow_icmp cd x y).mpr q] at hc; cases hc
theorem ow_ifF {cd : ClassFile.Cond} {x : Int32} (hc : ifCond.holds cd x = false) : ¬ owCd cd x.toInt 0 := fun q => by rw [(ow_if cd x).mpr q] at hc; cases hc
theorem ow_lc (cd : ClassFile.Cond) (x y : Int64) : owCd cd (XT.cmpL x y).toInt 0 ↔ owCd cd x.toInt y.toInt := by
  have e1 : (1 : Int32).toInt = 1 := rfl
  have e0 : (0 : Int32).toInt = 0 := rfl
  have em : (-1 : Int32).toInt = -1 := rfl
  unfold XT.cmpL
  split
  · rename_i h1; rw [Int64.lt_iff_toInt_lt] at h1; cases cd <;> simp only [owCd, e1] <;> omega
  · rename_i h1; rw [Int64.lt_iff_toInt_lt] at h1
    split
    · rename_i h2; subst h2; cases cd <;> simp only [owCd, e0] <;> omega
    · rename_i h2; rw [← Int64.toInt_inj] at h2; cases cd <;> simp only [owCd, em] <;> omega
theorem OwC.icmp_eq {o : Int} {q' : Nat} {x y : Int32} {a b : Int} (d : decode bytes pc = .ok (.if_icmp .eq o, 3)) (hx : x.toInt = a) (hy : y.toInt = b) (hp : 0 ≤ (pc : Int) + o ∧ ((pc : Int) + o).toNat = q') (hq : pc + 3 = q) (g1 : a = b → X.G h k n q' Ls st) (g0 : ¬ a = b → X.G h k n q Ls st) : X.G h k n pc Ls (.int y :: .int x :: st) := by
  subst hx hy; exact X.icmpB d hp hq (fun hc => g1 ((ow_icmp _ _ _).mp hc)) (fun hc => g0 (by have := ow_icmpF hc; simp only [owCd] at this; omega))
theorem OwC.if_eq {o : Int} {q' : Nat} {x : Int32} {a : Int} (d : decode bytes pc = .ok (.ifCond .eq o, 3)) (hx : x.toInt = a) (hp : 0 ≤ (pc : Int) + o ∧ ((pc : Int) + o).toNat = q') (hq : pc + 3 = q) (g1 : a = 0 → X.G h k n q' Ls st) (g0 : ¬ a = 0 → X.G h k n q Ls st) : X.G h k n pc Ls (.int x :: st) := by
  subst hx; exact X.ifB d hp hq (fun hc => g1 ((ow_if _ _).mp hc)) (fun hc => g0 (by have := ow_ifF hc; simp only [owCd] at this; omega))
theorem OwC.lcmp_eq {o : Int} {q1 q' : Nat} {x y : Int64} {a b : Int} (d1 : decode bytes pc = .ok (.lcmp, 1)) (hq1 : pc + 1 = q1) (d : decode bytes q1 = .ok (.ifCond .eq o, 3)) (hx : x.toInt = a) (hy : y.toInt = b) (hp : 0 ≤ (q1 : Int) + o ∧ ((q1 : Int) + o).toNat = q') (hq : q1 + 3 = q) (g1 : a = b → X.G h k n q' Ls st) (g0 : ¬ a = b → X.G h k n q Ls st) : X.G h k n pc Ls (.long y :: .long x :: st) := by
  subst hx hy hq1; refine X.step (X.ifB d hp hq (fun hc => g1 ((ow_lc _ _ _).mp ((ow_if _ _).mp hc))) (fun hc => g0 (by have := mt (ow_lc _ _ _).mpr (ow_ifF hc); simp only [owCd] at this; omega))) fun T _ Y t r => XT.lcmp Y.here X.1 rfl (X.hd d1) rfl r
theorem OwC.icmp_ne {o : Int} {q' : Nat} {x y : Int32} {a b : Int} (d : decode bytes pc = .ok (.if_icmp .ne o, 3)) (hx : x.toInt = a) (hy : y.toInt = b) (hp : 0 ≤ (pc : Int) + o ∧ ((pc : Int) + o).toNat = q') (hq : pc + 3 = q) (g1 : ¬ a = b → X.G h k n q' Ls st) (g0 : a = b → X.G h k n q Ls st) : X.G h k n pc Ls (.int y :: .int x :: st) := by
  subst hx hy; exact X.icmpB d hp hq (fun hc => g1 ((ow_icmp _ _ _).mp hc)) (fun hc => g0 (by have := ow_icmpF hc; simp only [owCd] at this; omega))
theorem OwC.if_ne {o : Int} {q' : Nat} {x : Int32} {a : Int} (d : decode bytes pc = .ok (.ifCond .ne o, 3)) (hx : x.toInt = a) (hp : 0 ≤ (pc : Int) + o ∧ ((pc : Int) + o).toNat = q') (hq : pc + 3 = q) (g1 : ¬ a = 0 → X.G h k n q' Ls st) (g0 : a = 0 → X.G h k n q Ls st) : X.G h k n pc Ls (.int x :: st) := by
  subst hx; exact X.ifB d hp hq (fun hc => g1 ((ow_if _ _).mp hc)) (fun hc => g0 (by have := ow_ifF hc; simp only [owCd] at this; omega))
theorem OwC.lcmp_ne {o : Int} {q1 q' : Nat} {x y : Int64} {a b : Int} (d1 : decode bytes pc = .ok (.lcmp, 1)) (hq1 : pc + 1 = q1) (d : decode bytes q1 = .ok (.ifCond .ne o, 3)) (hx : x.toInt = a) (hy : y.toInt = b) (hp : 0 ≤ (q1 : Int) + o ∧ ((q1 : Int) + o).toNat = q') (hq : q1 + 3 = q) (g1 : ¬ a = b → X.G h k n q' Ls st) (g0 : a = b → X.G h k n q Ls st) : X.G h k n pc Ls (.long y :: .long x :: st) := by
  subst hx hy hq1; refine X.step (X.ifB d hp hq (fun hc => g1 ((ow_lc _ _ _).mp ((ow_if _ _).mp hc))) (fun hc => g0 (by have := mt (ow_lc _ _ _).mpr (ow_ifF hc); simp only [owCd] at this; omega))) fun T _ Y t r => XT.lcmp Y.here X.1 rfl (X.hd d1) rfl r
theorem OwC.icmp_lt {o : Int} {q' : Nat} {x y : Int32} {a b : Int} (d : decode bytes pc = .ok (.if_icmp .lt o, 3)) (hx : x.toInt = a) (hy : y.toInt = b) (hp : 0 ≤ (pc : Int) + o ∧ ((pc : Int) + o).toNat = q') (hq : pc + 3 = q) (g1 : a < b → X.G h k n q' Ls st) (g0 : b ≤ a → X.G h k n q Ls st) : X.G h k n pc Ls (.int y :: .int x :: st) := by
  subst hx hy; exact X.icmpB d hp hq (fun hc => g1 ((ow_icmp _ _ _).mp hc)) (fun hc => g0 (by have := ow_icmpF hc; simp only [owCd] at this; omega))
theorem OwC.if_lt {o : Int} {q' : Nat} {x : Int32} {a : Int} (d : decode bytes pc = .ok (.ifCond .lt o, 3)) (hx : x.toInt = a) (hp : 0 ≤ (pc : Int) + o ∧ ((pc : Int) + o).toNat = q') (hq : pc + 3 = q) (g1 : a < 0 → X.G h k n q' Ls st) (g0 : 0 ≤ a → X.G h k n q Ls st) : X.G h k n pc Ls (.int x :: st) := by
  subst hx; exact X.ifB d hp hq (fun hc => g1 ((ow_if _ _).mp hc)) (fun hc => g0 (by have := ow_ifF hc; simp only [owCd] at this; omega))
theorem OwC.lcmp_lt {o : Int} {q1 q' : Nat} {x y : Int64} {a b : Int} (d1 : decode bytes pc = .ok (.lcmp, 1)) (hq1 : pc + 1 = q1) (d : decode bytes q1 = .ok (.ifCond .lt o, 3)) (hx : x.toInt = a) (hy : y.toInt = b) (hp : 0 ≤ (q1 : Int) + o ∧ ((q1 : Int) + o).toNat = q') (hq : q1 + 3 = q) (g1 : a < b → X.G h k n q' Ls st) (g0 : b ≤ a → X.G h k n q Ls st) : X.G h k n pc Ls (.long y :: .long x :: st) := by
  subst hx hy hq1; refine X.step (X.ifB d hp hq (fun hc => g1 ((ow_lc _ _ _).mp ((ow_if _ _).mp hc))) (fun hc => g0 (by have := mt (ow_lc _ _ _).mpr (ow_ifF hc); simp only [owCd] at this; omega))) fun T _ Y t r => XT.lcmp Y.here X.1 rfl (X.hd d1) rfl r
theorem OwC.icmp_ge {o : Int} {q' : Nat} {x y : Int32} {a b : Int} (d : decode bytes pc = .ok (.if_icmp .ge o, 3)) (hx : x.toInt = a) (hy : y.toInt = b) (hp : 0 ≤ (pc : Int) + o ∧ ((pc : Int) + o).toNat = q') (hq : pc + 3 = q) (g1 : b ≤ a → X.G h k n q' Ls st) (g0 : a < b → X.G h k n q Ls st) : X.G h k n pc Ls (.int y :: .int x :: st) := by
  subst hx hy; exact X.icmpB d hp hq (fun hc => g1 ((ow_icmp _ _ _).mp hc)) (fun hc => g0 (by have := ow_icmpF hc; simp only [owCd] at this; omega))
theorem OwC.if_ge {o : Int} {q' : Nat} {x : Int32} {a : Int} (d : decode bytes pc = .ok (.ifCond .ge o, 3)) (hx : x.toInt = a) (hp : 0 ≤ (pc : Int) + o ∧ ((pc : Int) + o).toNat = q') (hq : pc + 3 = q) (g1 : 0 ≤ a → X.G h k n q' Ls st) (g0 : a < 0 → X.G h k n q Ls st) : X.G h k n pc Ls (.int x :: st) := by
  subst hx; exact X.ifB d hp hq (fun hc => g1 ((ow_if _ _).mp hc)) (fun hc => g0 (by have := ow_ifF hc; simp only [owCd] at this; omega))
theorem OwC.lcmp_ge {o : Int} {q1 q' : Nat} {x y : Int64} {a b : Int} (d1 : decode bytes pc = .ok (.lcmp, 1)) (hq1 : pc + 1 = q1) (d : decode bytes q1 = .ok (.ifCond .ge o, 3)) (hx : x.toInt = a) (hy : y.toInt = b) (hp : 0 ≤ (q1 : Int) + o ∧ ((q1 : Int) + o).toNat = q') (hq : q1 + 3 = q) (g1 : b ≤ a → X.G h k n q' Ls st) (g0 : a < b → X.G h k n q Ls st) : X.G h k n pc Ls (.long y :: .long x :: st) := by
  subst hx hy hq1; refine X.step (X.ifB d hp hq (fun hc => g1 ((ow_lc _ _ _).mp ((ow_if _ _).mp hc))) (fun hc => g0 (by have := mt (ow_lc _ _ _).mpr (ow_ifF hc); simp only [owCd] at this; omega))) fun T _ Y t r => XT.lcmp Y.here X.1 rfl (X.hd d1) rfl r
theorem OwC.icmp_gt {o : Int} {q' : Nat} {x y : Int32} {a b : Int} (d : decode bytes pc = .ok (.if_icmp .gt o, 3)) (hx : x.toInt = a) (hy : y.toInt = b) (hp : 0 ≤ (pc : Int) + o ∧ ((pc : Int) + o).toNat = q') (hq : pc + 3 = q) (g1 : b < a → X.G h k n q' Ls st) (g0 : a ≤ b → X.G h k n q Ls st) : X.G h k n pc Ls (.int y :: .int x :: st) := by
  subst hx hy; exact X.icmpB d hp hq (fun hc => g1 ((ow_icmp _ _ _).mp hc)) (fun hc => g0 (by have := ow_icmpF hc; simp only [owCd] at this; omega))
theorem OwC.if_gt {o : Int} {q' : Nat} {x : Int32} {a : Int} (d : decode bytes pc = .ok (.ifCond .gt o, 3)) (hx : x.toInt = a) (hp : 0 ≤ (pc : Int) + o ∧ ((pc : Int) + o).toNat = q') (hq : pc + 3 = q) (g1 : 0 < a → X.G h k n q' Ls st) (g0 : a ≤ 0 → X.G h k n q Ls st) : X.G h k n pc Ls (.int x :: st) := by
  subst hx; exact X.ifB d hp hq (fun hc => g1 ((ow_if _ _).mp hc)) (fun hc => g0 (by have := ow_ifF hc; simp only [owCd] at this; omega))
theorem OwC.lcmp_gt {o : Int} {q1 q' : Nat} {x y : Int64} {a b : Int} (d1 : decode bytes pc = .ok (.lcmp, 1)) (hq1 : pc + 1 = q1) (d : decode bytes q1 = .ok (.ifCond .gt o, 3)) (hx : x.toInt = a) (hy : y.toInt = b) (hp : 0 ≤ (q1 : Int) + o ∧ ((q1 : Int) + o).toNat = q') (hq : q1 + 3 = q) (g1 : b < a → X.G h k n q' Ls st) (g0 : a ≤ b → X.G h k n q Ls st) : X.G h k n pc Ls (.long y :: .long x :: st) := by
  subst hx hy hq1; refine X.step (X.ifB d hp hq (fun hc => g1 ((ow_lc _ _ _).mp ((ow_if _ _).mp hc))) (fun hc => g0 (by have := mt (ow_lc _ _ _).mpr (ow_ifF hc); simp only [owCd] at this; omega))) fun T _ Y t r => XT.lcmp Y.here X.1 rfl (X.hd d1) rfl r
theorem OwC.icmp_le {o : Int} {q' : Nat} {x y : Int32} {a b : Int} (d : decode bytes pc = .ok (.if_icmp .le o, 3)) (hx : x.toInt = a) (hy : y.toInt = b) (hp : 0 ≤ (pc : Int) + o ∧ ((pc : Int) + o).toNat = q') (hq : pc + 3 = q) (g1 : a ≤ b → X.G h k n q' Ls st) (g0 : b < a → X.G h k n q Ls st) : X.G h k n pc Ls (.int y :: .int x :: st) := by
  subst hx hy; exact X.icmpB d hp hq (fun hc => g1 ((ow_icmp _ _ _).mp hc)) (fun hc => g0 (by have := ow_icmpF hc; simp only [owCd] at this; omega))
theorem OwC.if_le {o : Int} {q' : Nat} {x : Int32} {a : Int} (d : decode bytes pc = .ok (.ifCond .le o, 3)) (hx : x.toInt = a) (hp : 0 ≤ (pc : Int) + o ∧ ((pc : Int) + o).toNat = q') (hq : pc + 3 = q) (g1 : a ≤ 0 → X.G h k n q' Ls st) (g0 : 0 < a → X.G h k n q Ls st) : X.G h k n pc Ls (.int x :: st) := by
  subst hx; exact X.ifB d hp hq (fun hc => g1 ((ow_if _ _).mp hc)) (fun hc => g0 (by have := ow_ifF hc; simp only [owCd] at this; omega))
theorem OwC.lcmp_le {o : Int} {q1 q' : Nat} {x y : Int64} {a b : Int} (d1 : decode bytes pc = .ok (.lcmp, 1)) (hq1 : pc + 1 = q1) (d : decode bytes q1 = .ok (.ifCond .le o, 3)) (hx : x.toInt = a) (hy : y.toInt = b) (hp : 0 ≤ (q1 : Int) + o ∧ ((q1 : Int) + o).toNat = q') (hq : q1 + 3 = q) (g1 : a ≤ b → X.G h k n q' Ls st) (g0 : b < a → X.G h k n q Ls st) : X.G h k n pc Ls (.long y :: .long x :: st) := by
  subst hx hy hq1; refine X.step (X.ifB d hp hq (fun hc => g1 ((ow_lc _ _ _).mp ((ow_if _ _).mp hc))) (fun hc => g0 (by have := mt (ow_lc _ _ _).mpr (ow_ifF hc); simp only [owCd] at this; omega))) fun T _ Y t r => XT.lcmp Y.here X.1 rfl (X.hd d1) rfl r
theorem OwC.ifnullT {o : Int} {q' : Nat} (d : decode bytes pc = .ok (.ifnull o, 3)) (hp : 0 ≤ (pc : Int) + o ∧ ((pc : Int) + o).toNat = q') (g : X.G h k n q' Ls st) : X.G h k n pc Ls (.null :: st) :=
  X.step g fun T _ Y t r => XS.ifnullYes Y.here X.1 rfl rfl (X.hd d) rfl hp.1 hp.2 r
theorem OwC.ifnullF {o : Int} {b : Addr} (d : decode bytes pc = .ok (.ifnull o, 3)) (hq : pc + 3 = q) (g : X.G h k n q Ls st) : X.G h k n pc Ls (.ref b :: st) := by
  subst hq; exact X.step g fun T _ Y t r => XS.ifnullNo Y.here X.1 rfl (X.hd d) rfl r
theorem OwC.ifnonnullT {o : Int} {q' : Nat} {b : Addr} (d : decode bytes pc = .ok (.ifnonnull o, 3)) (hp : 0 ≤ (pc : Int) + o ∧ ((pc : Int) + o).toNat = q') (g : X.G h k n q' Ls st) : X.G h k n pc Ls (.ref b :: st) :=
  X.step g fun T _ Y t r => XT.ifnonnullYes Y.here X.1 rfl rfl (X.hd d) rfl hp.1 hp.2 r
theorem OwC.ifnonnullF {o : Int} (d : decode bytes pc = .ok (.ifnonnull o, 3)) (hq : pc + 3 = q) (g : X.G h k n q Ls st) : X.G h k n pc Ls (.null :: st) := by
  subst hq; exact X.step g fun T _ Y t r => XT.ifnonnullNo Y.here X.1 rfl (X.hd d) rfl r
theorem OwC.acmp_ne {o : Int} {q' : Nat} {x y : Addr} (d : decode bytes pc = .ok (.if_acmp .ne o, 3)) (hp : 0 ≤ (pc : Int) + o ∧ ((pc : Int) + o).toNat = q') (hq : pc + 3 = q) (g1 : ¬ x = y → X.G h k n q' Ls st) (g0 : x = y → X.G h k n q Ls st) : X.G h k n pc Ls (.ref y :: .ref x :: st) := by
  subst hq
  by_cases hc : x = y
  · exact X.step (g0 hc) fun T _ Y t r => XT.acmpNo Y.here X.1 rfl (X.hd d) rfl rfl rfl (by simp [XT.acmp, hc]) r
  · exact X.step (g1 hc) fun T _ Y t r => XT.acmpYes Y.here X.1 rfl rfl (X.hd d) rfl rfl rfl (by simp [XT.acmp, hc]) hp.1 hp.2 r
theorem OwC.acmp_eq {o : Int} {q' : Nat} {x y : Addr} (d : decode bytes pc = .ok (.if_acmp .eq o, 3)) (hp : 0 ≤ (pc : Int) + o ∧ ((pc : Int) + o).toNat = q') (hq : pc + 3 = q) (g1 : x = y → X.G h k n q' Ls st) (g0 : ¬ x = y → X.G h k n q Ls st) : X.G h k n pc Ls (.ref y :: .ref x :: st) := by
  subst hq
  by_cases hc : x = y
  · exact X.step (g1 hc) fun T _ Y t r => XT.acmpYes Y.here X.1 rfl rfl (X.hd d) rfl rfl rfl (by simp [XT.acmp, hc]) hp.1 hp.2 r
  · exact X.step (g0 hc) fun T _ Y t r => XT.acmpNo Y.here X.1 rfl (X.hd d) rfl rfl rfl (by simp [XT.acmp, hc]) r
/-! returns -/
theorem OwC.fin {v : Option Value} (hv : meth.sig.returnType = none → v = none) (w : ∀ T locs, Stand p l e R s m args below meth c T locs k n → ∀ fs, (∀ (f : JFrame) (acts : List Action), f.method = m → f.locked = none → f.entered = [] → (doReturn e (T.setTop f) acts v).1 = T.setFrames fs) → Steps p.tables e below (T.setTop (mkF m pc Ls st)) (T.setFrames fs)) (hk : k ≤ kM) (hn : n ≤ nM) (hΦ : Φ v h) : X.G h k n pc Ls st := fun T locs Y eT N => by
  obtain ⟨fs, hr, hrun, hended, hW, hsame⟩ := Y.leave (v := v) hv X.2.2.2.2.2.2.1
  exact ⟨v, _, locs, w T locs Y fs hr, hrun, hended, ⟨by show Φ v T.heap; rw [eT]; exact hΦ, N⟩, ⟨_, rfl⟩, hW, hsame.mono hk hn⟩
theorem OwC.retV (d : decode bytes pc = .ok (.return_, 1)) (hret : ret = none) (hk : k ≤ kM) (hn : n ≤ nM) (hΦ : Φ none h) : X.G h k n pc Ls [] :=
  X.fin (fun _ => rfl) (fun T _ Y fs hr => Y.returnOut X.1 (X.2.2.2.2.2.1.trans hret) (X.hd d) hr) hk hn hΦ
theorem OwC.retI {z : Int32} (d : decode bytes pc = .ok (.ireturn, 1)) (hret : ret = some .int) (hk : k ≤ kM) (hn : n ≤ nM) (hΦ : Φ (some (.int z)) h) : X.G h k n pc Ls (.int z :: st) :=
  X.fin (fun q => by rw [X.2.2.2.2.2.1, hret] at q; cases q) (fun T _ Y fs hr => retOut Y X.1 (X.2.2.2.2.2.1.trans hret) rfl (Or.inl ⟨rfl, Or.inl rfl, z, rfl⟩) (X.hd d) hr) hk hn hΦ
theorem OwC.retN {z z' : Int32} {t : FieldType} (d : decode bytes pc = .ok (.ireturn, 1)) (hret : ret = some t) (ht : t = .boolean ∨ t = .byte ∨ t = .char ∨ t = .short) (hz : nar t z = z') (hk : k ≤ kM) (hn : n ≤ nM) (hΦ : Φ (some (.int z')) h) : X.G h k n pc Ls (.int z :: st) := by
  subst hz
  exact X.fin (fun q => by rw [X.2.2.2.2.2.1, hret] at q; cases q) (fun T _ Y fs hr => RoadKit.retN Y X.1 (X.2.2.2.2.2.1.trans hret) ht (X.hd d) hr) hk hn hΦ
theorem OwC.retJ {z : Int64} (d : decode bytes pc = .ok (.lreturn, 1)) (hret : ret = some .long) (hk : k ≤ kM) (hn : n ≤ nM) (hΦ : Φ (some (.long z)) h) : X.G h k n pc Ls (.long z :: st) :=
  X.fin (fun q => by rw [X.2.2.2.2.2.1, hret] at q; cases q) (fun T _ Y fs hr => retOut Y X.1 (X.2.2.2.2.2.1.trans hret) rfl (Or.inr (Or.inl ⟨rfl, rfl, z, rfl⟩)) (X.hd d) hr) hk hn hΦ
theorem OwC.retA {v : Value} {t : FieldType} (d : decode bytes pc = .ok (.areturn, 1)) (hret : ret = some t) (ht : t.isReference = true) (hv : v.isRef = true) (hnv : narrow t v = v) (hk : k ≤ kM) (hn : n ≤ nM) (hΦ : Φ (some v) h) : X.G h k n pc Ls (v :: st) :=
  X.fin (fun q => by rw [X.2.2.2.2.2.1, hret] at q; cases q) (fun T _ Y fs hr => retOut Y X.1 (X.2.2.2.2.2.1.trans hret) hnv (Or.inr (Or.inr (Or.inr (Or.inr ⟨rfl, ht, hv⟩)))) (X.hd d) hr) hk hn hΦ
/-! the heap -/
theorem OwC.getF {R0 O fn d0 host : String} {i : Nat} {a : Addr} {v : Value} (w : (Cond.fieldLink own i R0 fn d0).before a0 Z = true ∨ (Cond.fieldLinkNest own i R0 fn d0 host).before a0 Z = true) (via : Via Z R0 O fn d0) (F : Fld Z h a O fn d0 v) (d : decode bytes pc = .ok (.getfield i, 3)) (hq : pc + 3 = q) (g : X.G h k n q Ls (v :: st)) : X.G h k n pc Ls (.ref a :: st) := fun T locs Y eT N => by
  subst hq
  obtain ⟨T', Y', eT', w'⟩ := RoadKit.getF Y X.1 X.2.2.2.2.1 X.2.2.2.1 w via eT F (g := mkF m pc Ls (.ref a :: st)) rfl rfl (X.hd d)
  obtain ⟨v, s₂, L, r1, r⟩ := g T' locs Y' eT' N
  exact ⟨v, s₂, L, w' _ r1, r⟩
theorem OwC.getR {R0 fn d0 : String} {i : Nat} {a : Addr} {v : Value} (w : (Cond.fieldRef own i R0 fn d0).before a0 Z = true) (F : Fld Z h a R0 fn d0 v) (d : decode bytes pc = .ok (.getfield i, 3)) (hq : pc + 3 = q) (g : X.G h k n q Ls (v :: st)) : X.G h k n pc Ls (.ref a :: st) := fun T locs Y eT N => by
  subst hq
  have hT : Z.Warmed39 T.vm := wtrans X.2.2.2.2.1 Y.warmed
  have w' := Cond.fieldRef_warmed39 hT w
  have hcur : (Z.setVm T.vm).vm.findClass own = some m.cls := by rw [State.vm_setVm, Y.warmed.alike.findClass]; exact X.2.2.2.1
  obtain ⟨c1, k1, i1, f1, e1, e2⟩ := Cond.fieldRef_spec hcur w'
  obtain ⟨cell, cf, k, j, f, h1, h2, h3, h4, h5, h6, h7⟩ := F
  obtain ⟨k', q1, -⟩ := State.fieldFound?_setVm (s := Z) hT.alike h2
  cases q1.symm.trans e1
  obtain ⟨v', s₂, L, r1, r⟩ := g T locs Y eT N
  exact ⟨v', s₂, L, (Y.getfieldR X.1 (g := mkF m pc Ls (.ref a :: st)) rfl e2 h3 rfl (by rw [eT]; exact h1) h4 h7 (X.hd d) (Steps.refl _)).trans r1, r⟩
theorem OwC.getS {R0 O fn d0 : String} {i : Nat} {v : Value} (w : (Cond.fieldLink own i R0 fn d0).before a0 Z = true) (via : Via Z R0 O fn d0) (F : Sta Z h O fn d0 v) (d : decode bytes pc = .ok (.getstatic i, 3)) (hq : pc + 3 = q) (g : X.G h k n q Ls (v :: st)) : X.G h k n pc Ls st := fun T locs Y eT N => by
  subst hq
  obtain ⟨T', Y', eT', w'⟩ := RoadKit.getS (host := "") Y X.1 X.2.2.2.2.1 X.2.2.2.1 w via eT F (g := mkF m pc Ls st) rfl (X.hd d)
  obtain ⟨v, s₂, L, r1, r⟩ := g T' locs Y' eT' N
  exact ⟨v, s₂, L, w' _ r1, r⟩
theorem OwC.putF {R0 O fn d0 host C : String} {i kk : Nat} {a : Addr} {v old : Value} {ty : FieldType} (w : (Cond.fieldLink own i R0 fn d0).before a0 Z = true ∨ (Cond.fieldLinkNest own i R0 fn d0 host).before a0 Z = true) (via : Via Z R0 O fn d0) (F : Fld Z h a O fn d0 old) (E : Exa Z h a C)
    (L : (Cond.lays C O fn d0).before a0 Z = true ∨ ((Cond.laysFinal C O fn d0).before a0 Z = true ∧ own = O ∧ nm = "<init>")) (wi : (Cond.instantiable C kk).before a0 Z = true) (hty : parseFieldDescriptor d0 = some ty) (hnv : narrow ty v = v) (hf : fits ty v = true) (ge : n0 ≤ a)
    (d : decode bytes pc = .ok (.putfield i, 3)) (hq : pc + 3 = q) (g : ∀ h', Wr h h' a (RoadKit.slotOf Z O fn d0) v → X.G h' k n q Ls st) : X.G h k n pc Ls (v :: .ref a :: st) := fun T locs Y eT N => by
  subst hq
  obtain ⟨T', h', Y', eT', W, w'⟩ := RoadKit.putF Y X.1 X.2.2.2.2.1 X.2.2.2.1 w via eT F E (L.imp_right fun z => ⟨z.1, z.2.1, X.2.2.2.2.2.2.2.trans z.2.2⟩) wi hty hnv hf (g := mkF m pc Ls (v :: .ref a :: st)) rfl rfl (X.hd d)
  obtain ⟨v, s₂, L, r1, r⟩ := g h' W T' _ Y' eT' (Fr.snoc Y' N ge)
  exact ⟨v, s₂, L, w' _ r1, r⟩
theorem OwC.newO {C : String} {i N k' n' : Nat} (w : (Cond.classLink own i C).before a0 Z = true) (wi : (Cond.instantiable C N).before a0 Z = true) (wz : (Cond.initialized C).before a0 Z = true) (d : decode bytes pc = .ok (.new i, 3)) (hk : k + 1 = k') (hn : n + N = n') (hc : k' ≤ R.cells) (hs : n' ≤ R.slots) (hq : pc + 3 = q)
    (g : ∀ h' a, a = h.size → Ext h h' → Exa Z h' a C → (∀ {O fn d0 : String} {ty : FieldType}, Laid Z a0 C O fn d0 → parseFieldDescriptor d0 = some ty → Fld Z h' a O fn d0 (defaultValue ty)) → X.G h' k' n' q Ls (.ref a :: st)) : X.G h k n pc Ls st := fun T locs Y eT Nf => by
  subst hq hk hn
  obtain ⟨T', h', Y', eT', E, A, D, -, w'⟩ := RoadKit.newO Y X.1 X.2.2.2.2.1 X.2.2.2.1 w wi wz eT (g := mkF m pc Ls st) rfl (X.hd d) hc hs
  obtain ⟨v, s₂, L, r1, r⟩ := g h' h.size rfl E A D T' _ Y' eT' Nf
  exact ⟨v, s₂, L, w' _ r1, r⟩
theorem OwC.initO {i W : Nat} {a : Addr} (w1 : (Cond.methodLink own i Lib.objectInit).before a0 Z = true) (w2 : (Cond.instanceMethod Lib.objectInit).before a0 Z = true) (w3 : (Cond.code Lib.objectInit ⟨#[0xb1]⟩ 1 none).before a0 Z = true) (d : decode bytes pc = .ok (.invokespecial i, 3)) (hsz : Ls.size = mL) (hf : 1 ≤ R.frames) (hW : (st.map fun v => v.category).sum ≤ W) (hl : W + 12 ≤ R.locals) (hq : pc + 3 = q)
    (g : X.G h k n q Ls st) : X.G h k n pc Ls (.ref a :: st) := fun T locs Y eT N => by
  subst hq
  obtain ⟨T', Y', eT', w'⟩ := RoadKit.initO Y X.1 X.2.2.2.2.1 X.2.2.2.1 w1 w2 w3 eT (g := mkF m pc Ls (.ref a :: st)) rfl (hsz.trans X.2.2.1.symm) rfl (X.hd d) hf (W := W) (by show 2 * 0 + _ ≤ _; omega) hl
  obtain ⟨v, s₂, L, r1, r⟩ := g T' locs Y' eT' N
  exact ⟨v, s₂, L, w' _ r1, r⟩
/-! arrays: what stands in one, as a list -/
def OwA (Z : State) (h : Heap) (a : Addr) (ty : FieldType) (vs : List Value) : Prop := ∃ cl : Cell, Arr Z h a cl ty ∧ cl.slots.toList = vs ∧ vs.length < 2 ^ 31
variable {a : Addr} {ty : FieldType} {vs : List Value}
theorem OwA.lt (A : OwA Z h a ty vs) : a < h.size := by obtain ⟨cl, A, -⟩ := A; exact A.lt
theorem OwA.len (A : OwA Z h a ty vs) : vs.length < 2 ^ 31 := by obtain ⟨cl, A, -, r⟩ := A; exact r
theorem OwA.ext {h' : Heap} (A : OwA Z h a ty vs) (E : Ext h h') : OwA Z h' a ty vs := by obtain ⟨cl, A, r⟩ := A; exact ⟨cl, A.ext E, r⟩
theorem OwA.other {h' : Heap} {b : Addr} {sl : Nat} {v : Value} (A : OwA Z h a ty vs) (W : Wr h h' b sl v) (ne : a ≠ b) : OwA Z h' a ty vs := by obtain ⟨cl, A, r⟩ := A; exact ⟨cl, A.other W ne, r⟩
theorem OwA.keep {h' : Heap} {ws : List Addr} (A : OwA Z h a ty vs) (K : Keep h h' ws) (ni : a ∉ ws) : OwA Z h' a ty vs := by obtain ⟨cl, A, r⟩ := A; exact ⟨cl, ⟨K.2.1 a cl A.1 ni, A.2⟩, r⟩
theorem OwA.set {h' : Heap} {j : Nat} {v : Value} (A : OwA Z h a ty vs) (W : Wr h h' a j v) : OwA Z h' a ty (vs.set j v) := by
  obtain ⟨cl, A, r1, r2⟩ := A
  exact ⟨cl.setSlot j v, A.same W, by simp [Cell.setSlot, r1], by simpa using r2⟩
theorem ow_idx {i : Int32} {j : Nat} (hi : i.toInt = (j : Int)) : ¬ i < 0 ∧ i.toNatClampNeg = j := by
  refine ⟨?_, ?_⟩
  · rw [Int32.lt_iff_toInt_lt]; have : (0 : Int32).toInt = 0 := rfl; omega
  · have : i.toNatClampNeg = i.toInt.toNat := rfl
    omega
theorem OwA.inb {cl : Cell} {i : Int32} {j : Nat} (e : cl.slots.toList = vs) (hi : i.toInt = (j : Int)) (hj : j < vs.length) : ¬ (i < 0 ∨ cl.slots.size ≤ i.toNatClampNeg) := by
  obtain ⟨h1, h2⟩ := ow_idx hi
  have : cl.slots.size = vs.length := by rw [← e]; simp
  rintro (q | q)
  · exact h1 q
  · omega
theorem OwA.at {cl : Cell} {i : Int32} {j : Nat} {v : Value} (e : cl.slots.toList = vs) (hi : i.toInt = (j : Int)) (hv : vs[j]? = some v) : cl.slots[i.toNatClampNeg]? = some v := by
  rw [(ow_idx hi).2, ← hv, ← e]; simp
theorem ow_getlt {j : Nat} {v : Value} (hv : vs[j]? = some v) : j < vs.length := (List.getElem?_eq_some_iff.mp hv).1
theorem OwC.newP {aty : ArrayType} {z : Int32} {N k' n' : Nat} (w : (Cond.arrayClass (newarray.typeOf aty)).before a0 Z = true) (d : decode bytes pc = .ok (.newarray aty, 2)) (ht : newarray.typeOf aty = ty) (hz : z.toInt = (N : Int)) {cap : Nat} (hcap : N ≤ cap) (hb : cap * 8 ≤ 536870912) (hk : k + 1 = k') (hn : n + cap = n') (hc : k' ≤ R.cells) (hs : n' ≤ R.slots) (hq : pc + 2 = q)
    (g : ∀ h' a, a = h.size → Ext h h' → OwA Z h' a ty (List.replicate N (defaultValue ty)) → X.G h' k' n' q Ls (.ref a :: st)) : X.G h k n pc Ls (.int z :: st) := fun T locs Y eT Nf => by
  subst hq hk hn ht
  obtain ⟨z1, z2⟩ := ow_idx hz
  obtain ⟨T', h', cA, Y', eT', E, A, w'⟩ := RoadKit.newP Y X.1 X.2.2.2.2.1 w eT (g := mkF m pc Ls (.int z :: st)) rfl (X.hd d) rfl z1 (cap := cap) (by omega) hb hc hs
  obtain ⟨v, s₂, L, r1, r⟩ := g h' h.size rfl E ⟨_, A, by simp [newA, z2], by have := z.toInt_lt; simp; omega⟩ T' _ Y' eT' Nf
  exact ⟨v, s₂, L, w' _ r1, r⟩
theorem OwC.alen {z : Int32} (A : OwA Z h a ty vs) (hz : z.toInt = (vs.length : Int)) (d : decode bytes pc = .ok (.arraylength, 1)) (hq : pc + 1 = q) (g : X.G h k n q Ls (.int z :: st)) : X.G h k n pc Ls (.ref a :: st) := fun T locs Y eT N => by
  subst hq
  obtain ⟨cl, A, e, hl⟩ := A
  obtain ⟨v, s₂, L, r1, r⟩ := g T locs Y eT N
  have hsz : cl.slots.size = vs.length := by rw [← e]; simp
  have ez : cl.slots.size.toInt32 = z := by rw [hsz, ← Int32.toInt_inj, len_toInt hl, hz]
  exact ⟨v, s₂, L, Y.arraylength X.1 (by rw [eT]; exact A.1) (State.isArrayOf_alike X.2.2.2.2.1.alike A.2.1) (g := mkF m pc Ls (.ref a :: st)) rfl rfl (X.hd d) _ (by rw [ez]; exact r1), r⟩
theorem OwC.iaload {i : Int32} {j : Nat} {v : Value} (A : OwA Z h a .int vs) (hi : i.toInt = (j : Int)) (hv : vs[j]? = some v) (d : decode bytes pc = .ok (.iaload, 1)) (hq : pc + 1 = q) (g : X.G h k n q Ls (v :: st)) : X.G h k n pc Ls (.int i :: .ref a :: st) := fun T locs Y eT N => by
  subst hq
  obtain ⟨cl, A, e, -⟩ := A
  obtain ⟨v, s₂, L, r1, r⟩ := g T locs Y eT N
  exact ⟨v, s₂, L, Y.iaload X.1 (by rw [eT]; exact A.1) (State.isArrayOf_alike X.2.2.2.2.1.alike A.2.1) A.2.2 (OwA.inb e hi (ow_getlt hv)) (OwA.at e hi hv) (g := mkF m pc Ls (.int i :: .ref a :: st)) rfl rfl (X.hd d) _ r1, r⟩
theorem OwC.laload {i : Int32} {j : Nat} {v : Value} (A : OwA Z h a .long vs) (hi : i.toInt = (j : Int)) (hv : vs[j]? = some v) (d : decode bytes pc = .ok (.laload, 1)) (hq : pc + 1 = q) (g : X.G h k n q Ls (v :: st)) : X.G h k n pc Ls (.int i :: .ref a :: st) := fun T locs Y eT N => by
  subst hq
  obtain ⟨cl, A, e, -⟩ := A
  obtain ⟨v, s₂, L, r1, r⟩ := g T locs Y eT N
  exact ⟨v, s₂, L, Y.laload X.1 (by rw [eT]; exact A.1) (State.isArrayOf_alike X.2.2.2.2.1.alike A.2.1) A.2.2 (OwA.inb e hi (ow_getlt hv)) (OwA.at e hi hv) (g := mkF m pc Ls (.int i :: .ref a :: st)) rfl rfl (X.hd d) _ r1, r⟩
theorem OwC.baload {i : Int32} {j : Nat} {v : Value} (A : OwA Z h a .byte vs) (hi : i.toInt = (j : Int)) (hv : vs[j]? = some v) (d : decode bytes pc = .ok (.baload, 1)) (hq : pc + 1 = q) (g : X.G h k n q Ls (v :: st)) : X.G h k n pc Ls (.int i :: .ref a :: st) := fun T locs Y eT N => by
  subst hq
  obtain ⟨cl, A, e, -⟩ := A
  obtain ⟨v, s₂, L, r1, r⟩ := g T locs Y eT N
  exact ⟨v, s₂, L, Y.baloadBytes X.1 (by rw [eT]; exact A.1) (State.isArrayOf_alike X.2.2.2.2.1.alike A.2.1) A.2.2 (OwA.inb e hi (ow_getlt hv)) (OwA.at e hi hv) (g := mkF m pc Ls (.int i :: .ref a :: st)) rfl rfl (X.hd d) _ r1, r⟩
theorem OwC.caload {i : Int32} {j : Nat} {v : Value} (A : OwA Z h a .char vs) (hi : i.toInt = (j : Int)) (hv : vs[j]? = some v) (d : decode bytes pc = .ok (.caload, 1)) (hq : pc + 1 = q) (g : X.G h k n q Ls (v :: st)) : X.G h k n pc Ls (.int i :: .ref a :: st) := fun T locs Y eT N => by
  subst hq
  obtain ⟨cl, A, e, -⟩ := A
  obtain ⟨v, s₂, L, r1, r⟩ := g T locs Y eT N
  exact ⟨v, s₂, L, Y.caload X.1 (by rw [eT]; exact A.1) (State.isArrayOf_alike X.2.2.2.2.1.alike A.2.1) A.2.2 (OwA.inb e hi (ow_getlt hv)) (OwA.at e hi hv) (g := mkF m pc Ls (.int i :: .ref a :: st)) rfl rfl (X.hd d) _ r1, r⟩
theorem OwC.iastore {i : Int32} {j : Nat} {x : Int32} (A : OwA Z h a .int vs) (hi : i.toInt = (j : Int)) (hj : j < vs.length) (ge : n0 ≤ a) (d : decode bytes pc = .ok (.iastore, 1)) (hq : pc + 1 = q) (g : ∀ h', Wr h h' a j (.int x) → OwA Z h' a .int (vs.set j (.int x)) → X.G h' k n q Ls st) : X.G h k n pc Ls (.int x :: .int i :: .ref a :: st) := fun T locs Y eT N => by
  subst hq
  obtain ⟨cl, A1, e, hl⟩ := id A
  obtain ⟨T', h', Y', eT', W, w'⟩ := RoadKit.stI Y X.1 X.2.2.2.2.1 eT A1 (OwA.inb e hi hj) (g := mkF m pc Ls (.int x :: .int i :: .ref a :: st)) rfl rfl (X.hd d)
  have N' := Fr.snoc Y' N ge
  rw [(ow_idx hi).2] at W
  obtain ⟨v, s₂, L, r1, r⟩ := g h' W (A.set W) T' _ Y' eT' N'
  exact ⟨v, s₂, L, w' _ r1, r⟩
theorem OwC.lastore {i : Int32} {j : Nat} {x : Int64} (A : OwA Z h a .long vs) (hi : i.toInt = (j : Int)) (hj : j < vs.length) (ge : n0 ≤ a) (d : decode bytes pc = .ok (.lastore, 1)) (hq : pc + 1 = q) (g : ∀ h', Wr h h' a j (.long x) → OwA Z h' a .long (vs.set j (.long x)) → X.G h' k n q Ls st) : X.G h k n pc Ls (.long x :: .int i :: .ref a :: st) := fun T locs Y eT N => by
  subst hq
  obtain ⟨cl, A1, e, hl⟩ := id A
  obtain ⟨T', h', Y', eT', W, w'⟩ := RoadKit.stJ Y X.1 X.2.2.2.2.1 eT A1 (OwA.inb e hi hj) (g := mkF m pc Ls (.long x :: .int i :: .ref a :: st)) rfl rfl (X.hd d)
  have N' := Fr.snoc Y' N ge
  rw [(ow_idx hi).2] at W
  obtain ⟨v, s₂, L, r1, r⟩ := g h' W (A.set W) T' _ Y' eT' N'
  exact ⟨v, s₂, L, w' _ r1, r⟩
theorem OwC.bastore {i : Int32} {j : Nat} {x : Int32} (A : OwA Z h a .byte vs) (hi : i.toInt = (j : Int)) (hj : j < vs.length) (ge : n0 ≤ a) (d : decode bytes pc = .ok (.bastore, 1)) (hq : pc + 1 = q) (g : ∀ h', Wr h h' a j (.int (nar .byte x)) → OwA Z h' a .byte (vs.set j (.int (nar .byte x))) → X.G h' k n q Ls st) : X.G h k n pc Ls (.int x :: .int i :: .ref a :: st) := fun T locs Y eT N => by
  subst hq
  obtain ⟨cl, A1, e, hl⟩ := id A
  obtain ⟨T', h', Y', eT', W, w'⟩ := RoadKit.stB Y X.1 X.2.2.2.2.1 eT A1 (OwA.inb e hi hj) (g := mkF m pc Ls (.int x :: .int i :: .ref a :: st)) rfl rfl (X.hd d)
  have N' := Fr.snoc Y' N ge
  rw [(ow_idx hi).2] at W
  obtain ⟨v, s₂, L, r1, r⟩ := g h' W (A.set W) T' _ Y' eT' N'
  exact ⟨v, s₂, L, w' _ r1, r⟩
theorem OwC.castore {i : Int32} {j : Nat} {x : Int32} (A : OwA Z h a .char vs) (hi : i.toInt = (j : Int)) (hj : j < vs.length) (ge : n0 ≤ a) (d : decode bytes pc = .ok (.castore, 1)) (hq : pc + 1 = q) (g : ∀ h', Wr h h' a j (.int (nar .char x)) → OwA Z h' a .char (vs.set j (.int (nar .char x))) → X.G h' k n q Ls st) : X.G h k n pc Ls (.int x :: .int i :: .ref a :: st) := fun T locs Y eT N => by
  subst hq
  obtain ⟨cl, A1, e, hl⟩ := id A
  obtain ⟨T', h', Y', eT', W, w'⟩ := RoadKit.stC Y X.1 X.2.2.2.2.1 eT A1 (OwA.inb e hi hj) (g := mkF m pc Ls (.int x :: .int i :: .ref a :: st)) rfl rfl (X.hd d)
  have N' := Fr.snoc Y' N ge
  rw [(ow_idx hi).2] at W
  obtain ⟨v, s₂, L, r1, r⟩ := g h' W (A.set W) T' _ Y' eT' N'
  exact ⟨v, s₂, L, w' _ r1, r⟩
/-! contracts and calls -/
def OwM (l : Launch) (Z : State) (y : MethodName) (bytes : ByteArray) (mL : Nat) (ret : Option FieldType) (rm : Room) (kM nM : Nat) (ws : List Cond) (as : Array Value) (h0 : Heap) (n0 : Nat) (Φ : Option Value → Heap → Prop) : Prop :=
  MetFree l y (head1 (Cond.code y bytes mL ret :: ws) rm) (fun a U => a = as ∧ Z.Warmed39 U.vm ∧ U.heap = h0) (fun _ _ _ _ _ => True) (fun _ U o U' => ∃ v L, o = .returned v ∧ (Φ v U'.heap ∧ Fr n0 L) ∧ FrameEnd U o U' L kM nM)
theorem OwM.of {y : MethodName} {rm : Room} {ws : List Cond} {as : Array Value} {h0 : Heap} (hpn : plainFor y = true) (hef : ∀ m, entryFrame m as mL = mkF m 0 Ls [])
    (body : ∀ p e s m below meth c (X : OwC p l e rm s m as below meth c Z y.cls y.name bytes mL ret n0 kM nM Φ), X.G h0 0 0 0 Ls []) : OwM l Z y bytes mL ret rm kM nM ws as h0 n0 Φ := by
  refine MetFree.of_bodySF hpn hisR ?_
  intro p e s m args below meth c s₁ Bd hml0 hP hK
  obtain ⟨rfl, hZ, hh⟩ := hP
  have X : OwC p l e rm s m args below meth c Z y.cls y.name bytes mL ret n0 kM nM Φ := ⟨Bd.exec, Bd.bytes, hml0, findClass_of_methodNamed Bd.named, hZ, Bd.returns, Bd.notSynchronized, (name_of_methodNamed Bd.named Bd.method).1⟩
  obtain ⟨v, s₂, L, r1, r2, r3, r4, r5⟩ := body p e s m below meth c X s₁ [] (Stand.of_body Bd) (by rw [← hh, Bd.state]; rfl) (Fr.nil n0)
  exact ⟨s₂, _, castTop (hef m) r1, r2, r3, v, L, rfl, r4, r5⟩
variable {y : MethodName} {by' : ByteArray} {mL' : Nat} {ret' : Option FieldType} {rm : Room} {as : Array Value} {Ψ : Option Value → Heap → Prop}
theorem OwC.back (X : OwC p l e R s m args below meth c Z own nm bytes mL ret n0 kM nM Φ) {len W : Nat} (K : OwM l Z y by' mL' ret' rm rm.cells rm.slots [] as h n0 Ψ) (wc : (Cond.code y by' mL' ret').before a0 Z = true) (wz : (Cond.initialized y.cls).before a0 Z = true) (hf : rm.frames + 1 ≤ R.frames) (hl : W + (mL' + 11) + rm.locals ≤ R.locals) :
    Back l R p e below s args y len W (fun A a => a = as ∧ A.U.heap = h ∧ A.cells + rm.cells ≤ R.cells ∧ A.slots + rm.slots ≤ R.slots)
      (fun A _ v B => ∃ L, (Ψ v B.U.heap ∧ Fr n0 L) ∧ B.locs = A.locs ++ L ∧ B.cells = A.cells + rm.cells ∧ B.slots = A.slots + rm.slots) :=
  backOf (Q := fun v h L => Ψ v h ∧ Fr n0 L) K X.2.2.2.2.1 wc wz hf hl
theorem OwC.callS {i W k' n' : Nat} {argsL : List Value} {ps : List FieldType} {rt : Option FieldType} (K : OwM l Z y by' mL' ret' rm rm.cells rm.slots [] as h n0 Ψ) (w1 : (Cond.methodLink own i y).before a0 Z = true) (w2 : (Cond.static y).before a0 Z = true) (w3 : (Cond.initialized y.cls).before a0 Z = true) (w4 : (Cond.code y by' mL' ret').before a0 Z = true) (hy : y.cls ≠ "java/lang/invoke/MethodHandle" ∧ y.cls ≠ "java/lang/invoke/VarHandle")
    (pd : parseMethodDescriptor y.desc = some ⟨ps, rt⟩) (hlen : argsL.length = ps.length) (has : argsL.toArray = as) (hst : st = argsL.reverse ++ rest) (hW : (rest.map fun v => v.category).sum ≤ W) (hsz : Ls.size = mL) (hf : rm.frames + 1 ≤ R.frames) (hl : W + (mL' + 11) + rm.locals ≤ R.locals) (hk : k + rm.cells = k') (hn : n + rm.slots = n') (hc : k' ≤ R.cells) (hs : n' ≤ R.slots)
    (d : decode bytes pc = .ok (.invokestatic i, 3)) (hq : pc + 3 = q) (g : ∀ v h', Ψ v h' → X.G h' k' n' q Ls (v.toList ++ rest)) : X.G h k n pc Ls st := fun T locs Y eT N => by
  subst hq hk hn has
  obtain ⟨v, vm1, B, -, Y', ⟨L0, ⟨hΨ, N0⟩, l1, l2, l3⟩, w'⟩ := Jvm.LawKit.callS Y X.1 (y := y) X.2.2.2.1 (mvT X.2.2.2.2.1 w1) (mvT X.2.2.2.2.1 w2) (mvT X.2.2.2.2.1 w3) (mvT X.2.2.2.2.1 w4) hy (X.back K w4 w3 hf hl) (g := mkF m pc Ls st) rfl (hsz.trans X.2.2.1.symm) (argsL := argsL) (rest := rest) (lenOf pd hlen) hst (by show 2 * 0 + _ ≤ _; omega) (X.hd d) (fun _ _ => ⟨rfl, eT, hc, hs⟩)
  obtain ⟨T', L', k', n'⟩ := B
  dsimp only [Pt.U, Pt.locs, Pt.cells, Pt.slots] at Y' l1 l2 l3 w' hΨ
  subst l1 l2 l3
  obtain ⟨v, s₂, L, r1, r⟩ := g v _ hΨ T' _ Y' rfl (N.app N0)
  exact ⟨v, s₂, L, w' _ r1, r⟩
theorem OwC.special {i W k' n' : Nat} {a : Addr} {argsL : List Value} {ps : List FieldType} {rt : Option FieldType} (K : OwM l Z y by' mL' none rm rm.cells rm.slots [] as h n0 Ψ) (hin : y.name = "<init>") (w1 : (Cond.methodLink own i y).before a0 Z = true) (w2 : (Cond.instanceMethod y).before a0 Z = true) (w3 : (Cond.initialized y.cls).before a0 Z = true) (w4 : (Cond.code y by' mL' none).before a0 Z = true) (hy : y.cls ≠ "java/lang/invoke/MethodHandle" ∧ y.cls ≠ "java/lang/invoke/VarHandle")
    (pd : parseMethodDescriptor y.desc = some ⟨ps, rt⟩) (hlen : argsL.length = ps.length) (has : (.ref a :: argsL).toArray = as) (hst : st = argsL.reverse ++ .ref a :: rest) (hW : (rest.map fun v => v.category).sum ≤ W) (hsz : Ls.size = mL) (hf : rm.frames + 1 ≤ R.frames) (hl : W + (mL' + 11) + rm.locals ≤ R.locals) (hk : k + rm.cells = k') (hn : n + rm.slots = n') (hc : k' ≤ R.cells) (hs : n' ≤ R.slots)
    (d : decode bytes pc = .ok (.invokespecial i, 3)) (hq : pc + 3 = q) (g : ∀ v h', Ψ v h' → X.G h' k' n' q Ls (v.toList ++ rest)) : X.G h k n pc Ls st := fun T locs Y eT N => by
  subst hq hk hn has
  obtain ⟨v, vm1, B, -, Y', ⟨L0, ⟨hΨ, N0⟩, l1, l2, l3⟩, w'⟩ := Y.specialBack X.1 (y := y) hin X.2.2.2.1 (mvT X.2.2.2.2.1 w1) (mvT X.2.2.2.2.1 w2) (mvT X.2.2.2.2.1 w4) hy (X.back K w4 w3 hf hl) (g := mkF m pc Ls st) rfl (hsz.trans X.2.2.1.symm) (Steps.refl _) (a := a) (argsL := argsL) (rest := rest) (lenOf pd hlen) hst (by show 2 * 0 + _ ≤ _; omega) (X.hd d) (fun _ _ => ⟨rfl, eT, hc, hs⟩)
  obtain ⟨T', L', k', n'⟩ := B
  dsimp only [Pt.U, Pt.locs, Pt.cells, Pt.slots] at Y' l1 l2 l3 w' hΨ
  subst l1 l2 l3
  obtain ⟨v, s₂, L, r1, r⟩ := g v _ hΨ T' _ Y' rfl (N.app N0)
  exact ⟨v, s₂, L, w'.trans r1, r⟩
theorem OwC.virtual {C : String} {i W k' n' : Nat} {a : Addr} {argsL : List Value} {ps : List FieldType} {rt : Option FieldType} (K : OwM l Z y by' mL' ret' rm rm.cells rm.slots [] as h n0 Ψ) (w1 : (Cond.methodLink own i y).before a0 Z = true) (w2 : (Cond.declares y).before a0 Z = true) (w5 : (Cond.selects C y y).before a0 Z = true) (w6 : (Cond.instanceMethod y).before a0 Z = true) (w3 : (Cond.initialized y.cls).before a0 Z = true) (w4 : (Cond.code y by' mL' ret').before a0 Z = true) (hy : y.cls ≠ "java/lang/invoke/MethodHandle" ∧ y.cls ≠ "java/lang/invoke/VarHandle") (E : Exa Z h a C)
    (pd : parseMethodDescriptor y.desc = some ⟨ps, rt⟩) (hlen : argsL.length = ps.length) (has : (.ref a :: argsL).toArray = as) (hst : st = argsL.reverse ++ .ref a :: rest) (hW : (rest.map fun v => v.category).sum ≤ W) (hsz : Ls.size = mL) (hf : rm.frames + 1 ≤ R.frames) (hl : W + (mL' + 11) + rm.locals ≤ R.locals) (hk : k + rm.cells = k') (hn : n + rm.slots = n') (hc : k' ≤ R.cells) (hs : n' ≤ R.slots)
    (d : decode bytes pc = .ok (.invokevirtual i, 3)) (hq : pc + 3 = q) (g : ∀ v h', Ψ v h' → X.G h' k' n' q Ls (v.toList ++ rest)) : X.G h k n pc Ls st := fun T locs Y eT N => by
  subst hq hk hn has
  obtain ⟨cB, kB, q1, q2, q3⟩ := isOf (T := T) X.2.2.2.2.1 eT E
  obtain ⟨v, vm1, B, -, Y', ⟨L0, ⟨hΨ, N0⟩, l1, l2, l3⟩, w'⟩ := Y.virtualBack X.1 (y := y) (z := y) X.2.2.2.1 (mvT X.2.2.2.2.1 w1) (mvT X.2.2.2.2.1 w2) (notFace_of_selects (args := #[]) (mvT X.2.2.2.2.1 w5)) (mvT X.2.2.2.2.1 w5) (mvT X.2.2.2.2.1 w6) hy (X.back K w4 w3 hf hl) q1 q3 (g := mkF m pc Ls st) rfl (hsz.trans X.2.2.1.symm) (Steps.refl _) (argsL := argsL) (rest := rest) (lenOf pd hlen) hst (by show 2 * 0 + _ ≤ _; omega) (X.hd d) (fun _ _ => ⟨rfl, eT, hc, hs⟩)
  obtain ⟨T', L', k', n'⟩ := B
  dsimp only [Pt.U, Pt.locs, Pt.cells, Pt.slots] at Y' l1 l2 l3 w' hΨ
  subst l1 l2 l3
  obtain ⟨v, s₂, L, r1, r⟩ := g v _ hΨ T' _ Y' rfl (N.app N0)
  exact ⟨v, s₂, L, w'.trans r1, r⟩
theorem OwC.private {C : String} {i W k' n' kk : Nat} {a : Addr} {argsL : List Value} {ps : List FieldType} {rt : Option FieldType} (K : OwM l Z y by' mL' ret' rm rm.cells rm.slots [] as h n0 Ψ) (w1 : (Cond.methodLink own i y).before a0 Z = true) (w6 : (Cond.instanceMethod y).before a0 Z = true) (w7 : (Cond.privateMethod y).before a0 Z = true) (w8 : (Cond.instantiable y.cls kk).before a0 Z = true) (w3 : (Cond.initialized y.cls).before a0 Z = true) (w4 : (Cond.code y by' mL' ret').before a0 Z = true) (hy : y.cls ≠ "java/lang/invoke/MethodHandle" ∧ y.cls ≠ "java/lang/invoke/VarHandle") (E : Exa Z h a C)
    (pd : parseMethodDescriptor y.desc = some ⟨ps, rt⟩) (hlen : argsL.length = ps.length) (has : (.ref a :: argsL).toArray = as) (hst : st = argsL.reverse ++ .ref a :: rest) (hW : (rest.map fun v => v.category).sum ≤ W) (hsz : Ls.size = mL) (hf : rm.frames + 1 ≤ R.frames) (hl : W + (mL' + 11) + rm.locals ≤ R.locals) (hk : k + rm.cells = k') (hn : n + rm.slots = n') (hc : k' ≤ R.cells) (hs : n' ≤ R.slots)
    (d : decode bytes pc = .ok (.invokevirtual i, 3)) (hq : pc + 3 = q) (g : ∀ v h', Ψ v h' → X.G h' k' n' q Ls (v.toList ++ rest)) : X.G h k n pc Ls st := fun T locs Y eT N => by
  subst hq hk hn has
  obtain ⟨cell, e1, e2⟩ := E.cell
  obtain ⟨c8, k8, f1, f2, -, f4, -⟩ := Cond.instantiable_spec (mvT (args := #[]) X.2.2.2.2.1 w8)
  have hni : k8.isInterface = false := by cases hh : k8.isInterface with
    | false => rfl
    | true => rw [hh] at f4; cases f4
  have hpr := Cond.privateMethod_at (mvP X.2.2.2.2.1 w7 (args := #[]))
  obtain ⟨v, vm1, B, -, Y', ⟨L0, ⟨hΨ, N0⟩, l1, l2, l3⟩, w'⟩ := Y.privateBack X.1 (y := y) X.2.2.2.1 (mvT X.2.2.2.2.1 w1) (mvT X.2.2.2.2.1 w6) (Jvm.Stand.selects_self_of_private f1 f2 hni hpr (mvT X.2.2.2.2.1 w6) hy) hpr (mvT X.2.2.2.2.1 w4) hy (X.back K w4 w3 hf hl) (g := mkF m pc Ls st) rfl (hsz.trans X.2.2.1.symm) (Steps.refl _) (a := a) (cell := cell) (by rw [eT]; exact e1) e2 (argsL := argsL) (rest := rest) (lenOf pd hlen) hst (by show 2 * 0 + _ ≤ _; omega) (X.hd d) (fun _ _ => ⟨rfl, eT, hc, hs⟩)
  obtain ⟨T', L', k', n'⟩ := B
  dsimp only [Pt.U, Pt.locs, Pt.cells, Pt.slots] at Y' l1 l2 l3 w' hΨ
  subst l1 l2 l3
  obtain ⟨v, s₂, L, r1, r⟩ := g v _ hΨ T' _ Y' rfl (N.app N0)
  exact ⟨v, s₂, L, w'.trans r1, r⟩
end OwKit
/-! numbers -/
theorem own_ofNat {c : Int32} (h1 : 0 ≤ c.toInt) (h2 : c.toInt < 2147483648) : c = Int32.ofNat c.toInt.toNat := by
  rw [← Int32.toInt_inj, Int32.toInt_ofNat_small (by omega)]; omega
theorem own_natInt (x : Int32) : x.toInt = if x.toBitVec.toNat < 2147483648 then (x.toBitVec.toNat : Int) else (x.toBitVec.toNat : Int) - 4294967296 := by
  show x.toBitVec.toInt = _
  rw [BitVec.toInt_eq_toNat_cond]
  split <;> split <;> omega
theorem own_c16 (x : Int32) : x.toUInt32.toUInt16.toUInt32.toInt32.toInt = x.toInt % 65536 := by
  have e : x.toUInt32.toUInt16.toUInt32.toInt32.toBitVec.toNat = x.toBitVec.toNat % 65536 := rfl
  have h1 := own_natInt x.toUInt32.toUInt16.toUInt32.toInt32
  have h2 := own_natInt x
  have h3 := x.toBitVec.isLt
  rw [e] at h1
  split at h1 <;> split at h2 <;> omega

theorem own_sub {x y : Int32} {b : Int} (hy : y.toInt = b) (h1 : -2147483648 ≤ x.toInt - b) (h2 : x.toInt - b < 2147483648) : (x - y).toInt = x.toInt - b := by
  subst hy; rw [Int32.toInt_sub]; exact Int.bmod_eq_of_le (by omega) (by omega)
theorem own_add {x y : Int32} {b : Int} (hy : y.toInt = b) (h1 : -2147483648 ≤ x.toInt + b) (h2 : x.toInt + b < 2147483648) : (x + y).toInt = x.toInt + b := by
  subst hy; rw [Int32.toInt_add]; exact Int.bmod_eq_of_le (by omega) (by omega)
theorem own_nor32 (n : Nat) : n ||| 32 = n + 32 * (1 - n / 32 % 2) := by
  have h1 : (n ||| 32) / 64 = n / 64 := by
    have := Nat.or_div_two_pow (a := n) (b := 32) (n := 6)
    simpa using this
  have h2 : (n ||| 32) % 64 = (n % 64) ||| 32 := by
    have := Nat.or_mod_two_pow (a := n) (b := 32) (n := 6)
    simpa using this
  have key : ∀ k : Fin 64, k.val ||| 32 = k.val + 32 * (1 - k.val / 32 % 2) := by decide
  have h3 := key ⟨n % 64, Nat.mod_lt _ (by omega)⟩
  simp only at h3
  rw [h3] at h2
  omega
theorem own_or32 (c : Int32) (h0 : 0 ≤ c.toInt) : (c ||| 32).toInt = c.toInt + 32 * (1 - c.toInt / 32 % 2) := by
  have e : (c ||| 32).toBitVec.toNat = c.toBitVec.toNat ||| 32 := rfl
  have h1 := own_natInt (c ||| 32)
  have h2 := own_natInt c
  have h3 := c.toBitVec.isLt
  rw [e, own_nor32] at h1
  split at h1 <;> split at h2 <;> omega

theorem own_nbt (x : Int32) : (nar .byte x.toInt8.toInt32).toInt = (x.toInt + 128) % 256 - 128 := by
  show (x.toInt8.toInt32.toInt8.toInt32).toInt = _
  simp only [Int8.toInt_toInt32, Int32.toInt_toInt8]
  have h1 : x.toInt.bmod (2 ^ 8) = (x.toInt + 128) % 256 - 128 := by
    have q1 := Int.bmod_emod (x := x.toInt) (m := 2 ^ 8)
    have q2 := Int.bmod_lt (x := x.toInt) (m := 2 ^ 8) (by decide)
    have q3 := Int.le_bmod (x := x.toInt) (m := 2 ^ 8) (by decide)
    omega
  rw [h1]; exact Int.bmod_eq_of_le (by omega) (by omega)
theorem own_hB (L : List Int32) (j : Nat) (h : j < L.length) : (L.map Value.int)[j]? = some (.int (L.getD j 0)) := by
  rw [List.getElem?_map, List.getElem?_eq_getElem h, List.getD_eq_getElem?_getD, List.getElem?_eq_getElem h]; rfl
theorem own_rng {L : List Int32} (hr : ∀ x ∈ L, -128 ≤ x.toInt ∧ x.toInt ≤ 127) (j : Nat) : -128 ≤ (L.getD j 0).toInt ∧ (L.getD j 0).toInt ≤ 127 := by
  rcases Nat.lt_or_ge j L.length with h | h
  · rw [List.getD_eq_getElem?_getD, List.getElem?_eq_getElem h]
    exact hr _ (List.getElem_mem h)
  · rw [List.getD_eq_getElem?_getD, List.getElem?_eq_none h]
    exact ⟨by decide, by decide⟩
theorem own_b7 (b : Int32) (h1 : -128 ≤ b.toInt) (h2 : b.toInt ≤ 127) : (b &&& 128).toInt = 0 ↔ 0 ≤ b.toInt := by
  have key : ∀ k : Fin 256, ((Int32.ofInt ((k.val : Int) - 128)) &&& 128).toInt = 0 ↔ 0 ≤ (k.val : Int) - 128 := by decide +kernel
  have e : b = Int32.ofInt (((b.toInt + 128).toNat : Int) - 128) := by
    rw [show ((b.toInt + 128).toNat : Int) - 128 = b.toInt by omega, Int32.ofInt_toInt]
  have := key ⟨(b.toInt + 128).toNat, by omega⟩
  simp only at this
  rw [← e] at this
  rw [this]; omega
theorem own_b5 (t : Int32) (h1 : 0 ≤ t.toInt) (h2 : t.toInt ≤ 255) : (t &&& 32).toInt = 0 ↔ t.toInt / 32 % 2 = 0 := by
  have key : ∀ k : Fin 256, ((Int32.ofNat k.val) &&& 32).toInt = 0 ↔ (k.val : Int) / 32 % 2 = 0 := by decide +kernel
  have e := own_ofNat h1 (by omega)
  have := key ⟨t.toInt.toNat, by omega⟩
  simp only at this
  rw [← e] at this
  rw [this]; omega
theorem own_acc (b : Int32) : (((0 : Int64) <<< ((8 : Int32).toInt64 &&& 63)) ||| (b &&& 255).toInt64).toInt = b.toInt % 256 := by
  have e : ((0 : Int64) <<< ((8 : Int32).toInt64 &&& 63)) = 0 := by decide
  have e2 : (0 : Int64) ||| (b &&& 255).toInt64 = (b &&& 255).toInt64 := by
    rw [← Int64.toBitVec_inj, Int64.toBitVec_or]; exact BitVec.zero_or
  rw [e, e2, Int32.toInt_toInt64, Jvm.Kit.i32_mask (k := 8) _ _ (by decide) (by decide)]
  omega
/-- what stands at p of the bytes: a header with tag T, its content from s on, of length Ln -/
def own_hdr (L : List Int32) (p : Nat) (T : Int32) (q s : Nat) (S Ln : Int32) : Prop :=
  p < L.length ∧ T.toInt = (L.getD p 0).toInt % 256 ∧
  ((¬ T.toInt % 32 = 31 ∧ q = p + 1) ∨ (T.toInt % 32 = 31 ∧ p + 1 < L.length ∧ 0 ≤ (L.getD (p + 1) 0).toInt ∧ q = p + 2) ∨ (T.toInt % 32 = 31 ∧ p + 2 < L.length ∧ (L.getD (p + 1) 0).toInt < 0 ∧ 0 ≤ (L.getD (p + 2) 0).toInt ∧ q = p + 3)) ∧
  q < L.length ∧ S.toInt = (s : Int) ∧
  ((0 ≤ (L.getD q 0).toInt ∧ Ln.toInt = (L.getD q 0).toInt ∧ s = q + 1) ∨ ((L.getD q 0).toInt = -128 ∧ T.toInt / 32 % 2 = 1 ∧ Ln.toInt = -1 ∧ s = q + 1) ∨ ((L.getD q 0).toInt = -127 ∧ q + 1 < L.length ∧ Ln.toInt = (L.getD (q + 1) 0).toInt % 256 ∧ s = q + 2)) ∧
  Ln.toInt ≤ (L.length : Int) - s ∧ (¬ T.toInt = 0 ∨ Ln.toInt = 0)

theorem own_d_prog_2_method_2_0 : decode prog_2_method_2_code 0 = .ok (.aload_n 0, 1) := by decide +kernel
theorem own_d_prog_2_method_2_1 : decode prog_2_method_2_code 1 = .ok (.invokespecial 7, 3) := by decide +kernel
theorem own_d_prog_2_method_2_4 : decode prog_2_method_2_code 4 = .ok (.aload_n 0, 1) := by decide +kernel
theorem own_d_prog_2_method_2_5 : decode prog_2_method_2_code 5 = .ok (.aload_n 1, 1) := by decide +kernel
theorem own_d_prog_2_method_2_6 : decode prog_2_method_2_code 6 = .ok (.putfield 12, 3) := by decide +kernel
theorem own_d_prog_2_method_2_9 : decode prog_2_method_2_code 9 = .ok (.aload_n 0, 1) := by decide +kernel
theorem own_d_prog_2_method_2_10 : decode prog_2_method_2_code 10 = .ok (.iload_n 2, 1) := by decide +kernel
theorem own_d_prog_2_method_2_11 : decode prog_2_method_2_code 11 = .ok (.putfield 16, 3) := by decide +kernel
theorem own_d_prog_2_method_2_14 : decode prog_2_method_2_code 14 = .ok (.aload_n 0, 1) := by decide +kernel
theorem own_d_prog_2_method_2_15 : decode prog_2_method_2_code 15 = .ok (.iload_n 3, 1) := by decide +kernel
theorem own_d_prog_2_method_2_16 : decode prog_2_method_2_code 16 = .ok (.putfield 20, 3) := by decide +kernel
theorem own_d_prog_2_method_2_19 : decode prog_2_method_2_code 19 = .ok (.return_, 1) := by decide +kernel
def own_rm_own_i2 : Room := ({ frames := 1, cells := 0, slots := 0, locals := 12 } : Room)
set_option maxRecDepth 65536 in
set_option maxHeartbeats 1000000 in
theorem own_i2 (l : Launch) (Z : State) (a0 : Array Value) (hw : ∀ d ∈ tables_1, d.before a0 Z = true) (h : Heap) (n0 : Nat) (a b : Addr) (i j : Int32)  (hn0 : n0 ≤ h.size) (B : Exa Z h a "com/example/dircred/dircred/credential/DerReader") (Fb : Fld Z h a "com/example/dircred/dircred/credential/DerReader" "bytes" "[B" .null) (Fp : Fld Z h a "com/example/dircred/dircred/credential/DerReader" "position" "I" (.int (0 : Int32))) (Fe : Fld Z h a "com/example/dircred/dircred/credential/DerReader" "end" "I" (.int (0 : Int32))) (gea : n0 ≤ a) :
    OwM l Z (⟨"com/example/dircred/dircred/credential/DerReader", "<init>", "([BII)V"⟩ : MethodName) prog_2_method_2_code 4 none own_rm_own_i2 0 0 [] #[(.ref a), (.ref b), (.int i), (.int j)] h n0 (fun r h' => r = none ∧ Keep h h' [a] ∧ Fld Z h' a "com/example/dircred/dircred/credential/DerReader" "bytes" "[B" (.ref b) ∧ Fld Z h' a "com/example/dircred/dircred/credential/DerReader" "position" "I" (.int i) ∧ Fld Z h' a "com/example/dircred/dircred/credential/DerReader" "end" "I" (.int j)) := by
  refine OwM.of (Ls := #[.val (.ref a), .val (.ref b), .val (.int i), .val (.int j)]) (by decide +kernel) (fun m => by first | (simp [entryFrame, mkF, argsToLocals, Value.category]; done) | rfl) ?_
  intro _ _ _ _ _ _ _ X
  have K0 : Keep h h [a] := Keep.refl _ _
  refine X.aloadN (q := 1) own_d_prog_2_method_2_0 rfl rfl rfl ?_
  refine X.initO (q := 4) (W := 0) (hw _ (List.mem_of_getElem? (i := 10) rfl)) (hw _ (List.mem_of_getElem? (i := 11) rfl)) (hw _ (List.mem_of_getElem? (i := 12) rfl)) own_d_prog_2_method_2_1 rfl (by decide) (Nat.le_of_eq rfl) (by decide) rfl ?_
  refine X.aloadN (q := 5) own_d_prog_2_method_2_4 rfl rfl rfl ?_
  refine X.aloadN (q := 6) own_d_prog_2_method_2_5 rfl rfl rfl ?_
  refine X.putF (q := 9) (host := "") (Or.inl (hw _ (List.mem_of_getElem? (i := 13) rfl))) Via.refl Fb B (Or.inr ⟨(hw _ (List.mem_of_getElem? (i := 14) rfl)), rfl, rfl⟩) (hw _ (List.mem_of_getElem? (i := 1) rfl)) (ty := (.array .byte)) (by decide) rfl rfl gea own_d_prog_2_method_2_6 rfl (fun h1 Wh1 => ?_)
  have B'h1 : Exa Z h1 a "com/example/dircred/dircred/credential/DerReader" := Exa.wr Wh1 B
  have Fb'h1 : Fld Z h1 a "com/example/dircred/dircred/credential/DerReader" "bytes" "[B" (.ref b) := Fld.same Wh1 Fb
  have Fp'h1 : Fld Z h1 a "com/example/dircred/dircred/credential/DerReader" "position" "I" (.int (0 : Int32)) := Fld.other Wh1 Fp (Or.inr (slot_ne (Or.inl (hw _ (List.mem_of_getElem? (i := 16) rfl))) (Or.inr (hw _ (List.mem_of_getElem? (i := 14) rfl))) (by decide) (ht := (by decide : _ = some .int)) (ht' := (by decide : _ = some (.array .byte)))))
  have Fe'h1 : Fld Z h1 a "com/example/dircred/dircred/credential/DerReader" "end" "I" (.int (0 : Int32)) := Fld.other Wh1 Fe (Or.inr (slot_ne (Or.inr (hw _ (List.mem_of_getElem? (i := 18) rfl))) (Or.inr (hw _ (List.mem_of_getElem? (i := 14) rfl))) (by decide) (ht := (by decide : _ = some .int)) (ht' := (by decide : _ = some (.array .byte)))))
  have hsh1 : n0 ≤ h1.size := by rw [Wr.size Wh1]; exact hn0
  have Kh1 : Keep h h1 [a] := Keep.wr K0 Wh1 (Or.inl (List.mem_of_getElem? (i := 0) rfl))
  refine X.aloadN (q := 10) own_d_prog_2_method_2_9 rfl rfl rfl ?_
  refine X.iloadN (q := 11) own_d_prog_2_method_2_10 rfl rfl ?_
  refine X.putF (q := 14) (host := "") (Or.inl (hw _ (List.mem_of_getElem? (i := 15) rfl))) Via.refl Fp'h1 B'h1 (Or.inl (hw _ (List.mem_of_getElem? (i := 16) rfl))) (hw _ (List.mem_of_getElem? (i := 1) rfl)) (ty := .int) (by decide) rfl rfl gea own_d_prog_2_method_2_11 rfl (fun h2 Wh2 => ?_)
  have B'h2 : Exa Z h2 a "com/example/dircred/dircred/credential/DerReader" := Exa.wr Wh2 B'h1
  have Fb'h2 : Fld Z h2 a "com/example/dircred/dircred/credential/DerReader" "bytes" "[B" (.ref b) := Fld.other Wh2 Fb'h1 (Or.inr (slot_ne (Or.inr (hw _ (List.mem_of_getElem? (i := 14) rfl))) (Or.inl (hw _ (List.mem_of_getElem? (i := 16) rfl))) (by decide) (ht := (by decide : _ = some (.array .byte))) (ht' := (by decide : _ = some .int))))
  have Fp'h2 : Fld Z h2 a "com/example/dircred/dircred/credential/DerReader" "position" "I" (.int i) := Fld.same Wh2 Fp'h1
  have Fe'h2 : Fld Z h2 a "com/example/dircred/dircred/credential/DerReader" "end" "I" (.int (0 : Int32)) := Fld.other Wh2 Fe'h1 (Or.inr (slot_ne (Or.inr (hw _ (List.mem_of_getElem? (i := 18) rfl))) (Or.inl (hw _ (List.mem_of_getElem? (i := 16) rfl))) (by decide) (ht := (by decide : _ = some .int)) (ht' := (by decide : _ = some .int))))
  have hsh2 : n0 ≤ h2.size := by rw [Wr.size Wh2]; exact hsh1
  have Kh2 : Keep h h2 [a] := Keep.wr Kh1 Wh2 (Or.inl (List.mem_of_getElem? (i := 0) rfl))
  refine X.aloadN (q := 15) own_d_prog_2_method_2_14 rfl rfl rfl ?_
  refine X.iloadN (q := 16) own_d_prog_2_method_2_15 rfl rfl ?_
  refine X.putF (q := 19) (host := "") (Or.inl (hw _ (List.mem_of_getElem? (i := 17) rfl))) Via.refl Fe'h2 B'h2 (Or.inr ⟨(hw _ (List.mem_of_getElem? (i := 18) rfl)), rfl, rfl⟩) (hw _ (List.mem_of_getElem? (i := 1) rfl)) (ty := .int) (by decide) rfl rfl gea own_d_prog_2_method_2_16 rfl (fun h3 Wh3 => ?_)
  have B'h3 : Exa Z h3 a "com/example/dircred/dircred/credential/DerReader" := Exa.wr Wh3 B'h2
  have Fb'h3 : Fld Z h3 a "com/example/dircred/dircred/credential/DerReader" "bytes" "[B" (.ref b) := Fld.other Wh3 Fb'h2 (Or.inr (slot_ne (Or.inr (hw _ (List.mem_of_getElem? (i := 14) rfl))) (Or.inr (hw _ (List.mem_of_getElem? (i := 18) rfl))) (by decide) (ht := (by decide : _ = some (.array .byte))) (ht' := (by decide : _ = some .int))))
  have Fp'h3 : Fld Z h3 a "com/example/dircred/dircred/credential/DerReader" "position" "I" (.int i) := Fld.other Wh3 Fp'h2 (Or.inr (slot_ne (Or.inl (hw _ (List.mem_of_getElem? (i := 16) rfl))) (Or.inr (hw _ (List.mem_of_getElem? (i := 18) rfl))) (by decide) (ht := (by decide : _ = some .int)) (ht' := (by decide : _ = some .int))))
  have Fe'h3 : Fld Z h3 a "com/example/dircred/dircred/credential/DerReader" "end" "I" (.int j) := Fld.same Wh3 Fe'h2
  have hsh3 : n0 ≤ h3.size := by rw [Wr.size Wh3]; exact hsh2
  have Kh3 : Keep h h3 [a] := Keep.wr Kh2 Wh3 (Or.inl (List.mem_of_getElem? (i := 0) rfl))
  refine X.retV own_d_prog_2_method_2_19 rfl (by decide) (by decide) ?_
  exact ⟨rfl, Kh3, Fb'h3, Fp'h3, Fe'h3⟩
theorem own_d_prog_3_method_1_0 : decode prog_3_method_1_code 0 = .ok (.aload_n 0, 1) := by decide +kernel
theorem own_d_prog_3_method_1_1 : decode prog_3_method_1_code 1 = .ok (.invokespecial 1, 3) := by decide +kernel
theorem own_d_prog_3_method_1_4 : decode prog_3_method_1_code 4 = .ok (.aload_n 0, 1) := by decide +kernel
theorem own_d_prog_3_method_1_5 : decode prog_3_method_1_code 5 = .ok (.iload_n 1, 1) := by decide +kernel
theorem own_d_prog_3_method_1_6 : decode prog_3_method_1_code 6 = .ok (.putfield 7, 3) := by decide +kernel
theorem own_d_prog_3_method_1_9 : decode prog_3_method_1_code 9 = .ok (.aload_n 0, 1) := by decide +kernel
theorem own_d_prog_3_method_1_10 : decode prog_3_method_1_code 10 = .ok (.iload_n 2, 1) := by decide +kernel
theorem own_d_prog_3_method_1_11 : decode prog_3_method_1_code 11 = .ok (.putfield 13, 3) := by decide +kernel
theorem own_d_prog_3_method_1_14 : decode prog_3_method_1_code 14 = .ok (.aload_n 0, 1) := by decide +kernel
theorem own_d_prog_3_method_1_15 : decode prog_3_method_1_code 15 = .ok (.iload_n 3, 1) := by decide +kernel
theorem own_d_prog_3_method_1_16 : decode prog_3_method_1_code 16 = .ok (.putfield 16, 3) := by decide +kernel
theorem own_d_prog_3_method_1_19 : decode prog_3_method_1_code 19 = .ok (.return_, 1) := by decide +kernel
def own_rm_own_hi : Room := ({ frames := 1, cells := 0, slots := 0, locals := 12 } : Room)
set_option maxRecDepth 65536 in
set_option maxHeartbeats 1000000 in
theorem own_hi (l : Launch) (Z : State) (a0 : Array Value) (hw : ∀ d ∈ tables_1, d.before a0 Z = true) (h : Heap) (n0 : Nat) (a : Addr) (i j k : Int32)  (hn0 : n0 ≤ h.size) (B : Exa Z h a "com/example/dircred/dircred/credential/DerReader$Header") (Ft : Fld Z h a "com/example/dircred/dircred/credential/DerReader$Header" "tag" "I" (.int (0 : Int32))) (Fs : Fld Z h a "com/example/dircred/dircred/credential/DerReader$Header" "contentStart" "I" (.int (0 : Int32))) (Fl : Fld Z h a "com/example/dircred/dircred/credential/DerReader$Header" "length" "I" (.int (0 : Int32))) (gea : n0 ≤ a) :
    OwM l Z (⟨"com/example/dircred/dircred/credential/DerReader$Header", "<init>", "(III)V"⟩ : MethodName) prog_3_method_1_code 4 none own_rm_own_hi 0 0 [] #[(.ref a), (.int i), (.int j), (.int k)] h n0 (fun r h' => r = none ∧ Keep h h' [a] ∧ Fld Z h' a "com/example/dircred/dircred/credential/DerReader$Header" "tag" "I" (.int i) ∧ Fld Z h' a "com/example/dircred/dircred/credential/DerReader$Header" "contentStart" "I" (.int j) ∧ Fld Z h' a "com/example/dircred/dircred/credential/DerReader$Header" "length" "I" (.int k)) := by
  refine OwM.of (Ls := #[.val (.ref a), .val (.int i), .val (.int j), .val (.int k)]) (by decide +kernel) (fun m => by first | (simp [entryFrame, mkF, argsToLocals, Value.category]; done) | rfl) ?_
  intro _ _ _ _ _ _ _ X
  have K0 : Keep h h [a] := Keep.refl _ _
  refine X.aloadN (q := 1) own_d_prog_3_method_1_0 rfl rfl rfl ?_
  refine X.initO (q := 4) (W := 0) (hw _ (List.mem_of_getElem? (i := 44) rfl)) (hw _ (List.mem_of_getElem? (i := 11) rfl)) (hw _ (List.mem_of_getElem? (i := 12) rfl)) own_d_prog_3_method_1_1 rfl (by decide) (Nat.le_of_eq rfl) (by decide) rfl ?_
  refine X.aloadN (q := 5) own_d_prog_3_method_1_4 rfl rfl rfl ?_
  refine X.iloadN (q := 6) own_d_prog_3_method_1_5 rfl rfl ?_
  refine X.putF (q := 9) (host := "") (Or.inl (hw _ (List.mem_of_getElem? (i := 45) rfl))) Via.refl Ft B (Or.inr ⟨(hw _ (List.mem_of_getElem? (i := 46) rfl)), rfl, rfl⟩) (hw _ (List.mem_of_getElem? (i := 39) rfl)) (ty := .int) (by decide) rfl rfl gea own_d_prog_3_method_1_6 rfl (fun h1 Wh1 => ?_)
  have B'h1 : Exa Z h1 a "com/example/dircred/dircred/credential/DerReader$Header" := Exa.wr Wh1 B
  have Ft'h1 : Fld Z h1 a "com/example/dircred/dircred/credential/DerReader$Header" "tag" "I" (.int i) := Fld.same Wh1 Ft
  have Fs'h1 : Fld Z h1 a "com/example/dircred/dircred/credential/DerReader$Header" "contentStart" "I" (.int (0 : Int32)) := Fld.other Wh1 Fs (Or.inr (slot_ne (Or.inr (hw _ (List.mem_of_getElem? (i := 48) rfl))) (Or.inr (hw _ (List.mem_of_getElem? (i := 46) rfl))) (by decide) (ht := (by decide : _ = some .int)) (ht' := (by decide : _ = some .int))))
  have Fl'h1 : Fld Z h1 a "com/example/dircred/dircred/credential/DerReader$Header" "length" "I" (.int (0 : Int32)) := Fld.other Wh1 Fl (Or.inr (slot_ne (Or.inr (hw _ (List.mem_of_getElem? (i := 50) rfl))) (Or.inr (hw _ (List.mem_of_getElem? (i := 46) rfl))) (by decide) (ht := (by decide : _ = some .int)) (ht' := (by decide : _ = some .int))))
  have hsh1 : n0 ≤ h1.size := by rw [Wr.size Wh1]; exact hn0
  have Kh1 : Keep h h1 [a] := Keep.wr K0 Wh1 (Or.inl (List.mem_of_getElem? (i := 0) rfl))
  refine X.aloadN (q := 10) own_d_prog_3_method_1_9 rfl rfl rfl ?_
  refine X.iloadN (q := 11) own_d_prog_3_method_1_10 rfl rfl ?_
  refine X.putF (q := 14) (host := "") (Or.inl (hw _ (List.mem_of_getElem? (i := 47) rfl))) Via.refl Fs'h1 B'h1 (Or.inr ⟨(hw _ (List.mem_of_getElem? (i := 48) rfl)), rfl, rfl⟩) (hw _ (List.mem_of_getElem? (i := 39) rfl)) (ty := .int) (by decide) rfl rfl gea own_d_prog_3_method_1_11 rfl (fun h2 Wh2 => ?_)
  have B'h2 : Exa Z h2 a "com/example/dircred/dircred/credential/DerReader$Header" := Exa.wr Wh2 B'h1
  have Ft'h2 : Fld Z h2 a "com/example/dircred/dircred/credential/DerReader$Header" "tag" "I" (.int i) := Fld.other Wh2 Ft'h1 (Or.inr (slot_ne (Or.inr (hw _ (List.mem_of_getElem? (i := 46) rfl))) (Or.inr (hw _ (List.mem_of_getElem? (i := 48) rfl))) (by decide) (ht := (by decide : _ = some .int)) (ht' := (by decide : _ = some .int))))
  have Fs'h2 : Fld Z h2 a "com/example/dircred/dircred/credential/DerReader$Header" "contentStart" "I" (.int j) := Fld.same Wh2 Fs'h1
  have Fl'h2 : Fld Z h2 a "com/example/dircred/dircred/credential/DerReader$Header" "length" "I" (.int (0 : Int32)) := Fld.other Wh2 Fl'h1 (Or.inr (slot_ne (Or.inr (hw _ (List.mem_of_getElem? (i := 50) rfl))) (Or.inr (hw _ (List.mem_of_getElem? (i := 48) rfl))) (by decide) (ht := (by decide : _ = some .int)) (ht' := (by decide : _ = some .int))))
  have hsh2 : n0 ≤ h2.size := by rw [Wr.size Wh2]; exact hsh1
  have Kh2 : Keep h h2 [a] := Keep.wr Kh1 Wh2 (Or.inl (List.mem_of_getElem? (i := 0) rfl))
  refine X.aloadN (q := 15) own_d_prog_3_method_1_14 rfl rfl rfl ?_
  refine X.iloadN (q := 16) own_d_prog_3_method_1_15 rfl rfl ?_
  refine X.putF (q := 19) (host := "") (Or.inl (hw _ (List.mem_of_getElem? (i := 49) rfl))) Via.refl Fl'h2 B'h2 (Or.inr ⟨(hw _ (List.mem_of_getElem? (i := 50) rfl)), rfl, rfl⟩) (hw _ (List.mem_of_getElem? (i := 39) rfl)) (ty := .int) (by decide) rfl rfl gea own_d_prog_3_method_1_16 rfl (fun h3 Wh3 => ?_)
  have B'h3 : Exa Z h3 a "com/example/dircred/dircred/credential/DerReader$Header" := Exa.wr Wh3 B'h2
  have Ft'h3 : Fld Z h3 a "com/example/dircred/dircred/credential/DerReader$Header" "tag" "I" (.int i) := Fld.other Wh3 Ft'h2 (Or.inr (slot_ne (Or.inr (hw _ (List.mem_of_getElem? (i := 46) rfl))) (Or.inr (hw _ (List.mem_of_getElem? (i := 50) rfl))) (by decide) (ht := (by decide : _ = some .int)) (ht' := (by decide : _ = some .int))))
  have Fs'h3 : Fld Z h3 a "com/example/dircred/dircred/credential/DerReader$Header" "contentStart" "I" (.int j) := Fld.other Wh3 Fs'h2 (Or.inr (slot_ne (Or.inr (hw _ (List.mem_of_getElem? (i := 48) rfl))) (Or.inr (hw _ (List.mem_of_getElem? (i := 50) rfl))) (by decide) (ht := (by decide : _ = some .int)) (ht' := (by decide : _ = some .int))))
  have Fl'h3 : Fld Z h3 a "com/example/dircred/dircred/credential/DerReader$Header" "length" "I" (.int k) := Fld.same Wh3 Fl'h2
  have hsh3 : n0 ≤ h3.size := by rw [Wr.size Wh3]; exact hsh2
  have Kh3 : Keep h h3 [a] := Keep.wr Kh2 Wh3 (Or.inl (List.mem_of_getElem? (i := 0) rfl))
  refine X.retV own_d_prog_3_method_1_19 rfl (by decide) (by decide) ?_
  exact ⟨rfl, Kh3, Ft'h3, Fs'h3, Fl'h3⟩
theorem own_d_prog_4_method_1_0 : decode prog_4_method_1_code 0 = .ok (.aload_n 0, 1) := by decide +kernel
theorem own_d_prog_4_method_1_1 : decode prog_4_method_1_code 1 = .ok (.invokespecial 1, 3) := by decide +kernel
theorem own_d_prog_4_method_1_4 : decode prog_4_method_1_code 4 = .ok (.aload_n 0, 1) := by decide +kernel
theorem own_d_prog_4_method_1_5 : decode prog_4_method_1_code 5 = .ok (.iload_n 1, 1) := by decide +kernel
theorem own_d_prog_4_method_1_6 : decode prog_4_method_1_code 6 = .ok (.putfield 7, 3) := by decide +kernel
theorem own_d_prog_4_method_1_9 : decode prog_4_method_1_code 9 = .ok (.aload_n 0, 1) := by decide +kernel
theorem own_d_prog_4_method_1_10 : decode prog_4_method_1_code 10 = .ok (.iload_n 2, 1) := by decide +kernel
theorem own_d_prog_4_method_1_11 : decode prog_4_method_1_code 11 = .ok (.putfield 13, 3) := by decide +kernel
theorem own_d_prog_4_method_1_14 : decode prog_4_method_1_code 14 = .ok (.aload_n 0, 1) := by decide +kernel
theorem own_d_prog_4_method_1_15 : decode prog_4_method_1_code 15 = .ok (.iload_n 3, 1) := by decide +kernel
theorem own_d_prog_4_method_1_16 : decode prog_4_method_1_code 16 = .ok (.putfield 16, 3) := by decide +kernel
theorem own_d_prog_4_method_1_19 : decode prog_4_method_1_code 19 = .ok (.aload_n 0, 1) := by decide +kernel
theorem own_d_prog_4_method_1_20 : decode prog_4_method_1_code 20 = .ok (.iload 4, 2) := by decide +kernel
theorem own_d_prog_4_method_1_22 : decode prog_4_method_1_code 22 = .ok (.putfield 19, 3) := by decide +kernel
theorem own_d_prog_4_method_1_25 : decode prog_4_method_1_code 25 = .ok (.return_, 1) := by decide +kernel
def own_rm_own_vi : Room := ({ frames := 1, cells := 0, slots := 0, locals := 12 } : Room)
set_option maxRecDepth 65536 in
set_option maxHeartbeats 1000000 in
theorem own_vi (l : Launch) (Z : State) (a0 : Array Value) (hw : ∀ d ∈ tables_1, d.before a0 Z = true) (h : Heap) (n0 : Nat) (a : Addr) (i j k m : Int32)  (hn0 : n0 ≤ h.size) (B : Exa Z h a "com/example/dircred/dircred/credential/DerReader$Value") (Ft : Fld Z h a "com/example/dircred/dircred/credential/DerReader$Value" "tag" "I" (.int (0 : Int32))) (Fs : Fld Z h a "com/example/dircred/dircred/credential/DerReader$Value" "contentStart" "I" (.int (0 : Int32))) (Fc : Fld Z h a "com/example/dircred/dircred/credential/DerReader$Value" "contentEnd" "I" (.int (0 : Int32))) (Fe : Fld Z h a "com/example/dircred/dircred/credential/DerReader$Value" "end" "I" (.int (0 : Int32))) (gea : n0 ≤ a) :
    OwM l Z (⟨"com/example/dircred/dircred/credential/DerReader$Value", "<init>", "(IIII)V"⟩ : MethodName) prog_4_method_1_code 5 none own_rm_own_vi 0 0 [] #[(.ref a), (.int i), (.int j), (.int k), (.int m)] h n0 (fun r h' => r = none ∧ Keep h h' [a] ∧ Fld Z h' a "com/example/dircred/dircred/credential/DerReader$Value" "tag" "I" (.int i) ∧ Fld Z h' a "com/example/dircred/dircred/credential/DerReader$Value" "contentStart" "I" (.int j) ∧ Fld Z h' a "com/example/dircred/dircred/credential/DerReader$Value" "contentEnd" "I" (.int k) ∧ Fld Z h' a "com/example/dircred/dircred/credential/DerReader$Value" "end" "I" (.int m)) := by
  refine OwM.of (Ls := #[.val (.ref a), .val (.int i), .val (.int j), .val (.int k), .val (.int m)]) (by decide +kernel) (fun m => by first | (simp [entryFrame, mkF, argsToLocals, Value.category]; done) | rfl) ?_
  intro _ _ _ _ _ _ _ X
  have K0 : Keep h h [a] := Keep.refl _ _
  refine X.aloadN (q := 1) own_d_prog_4_method_1_0 rfl rfl rfl ?_
  refine X.initO (q := 4) (W := 0) (hw _ (List.mem_of_getElem? (i := 60) rfl)) (hw _ (List.mem_of_getElem? (i := 11) rfl)) (hw _ (List.mem_of_getElem? (i := 12) rfl)) own_d_prog_4_method_1_1 rfl (by decide) (Nat.le_of_eq rfl) (by decide) rfl ?_
  refine X.aloadN (q := 5) own_d_prog_4_method_1_4 rfl rfl rfl ?_
  refine X.iloadN (q := 6) own_d_prog_4_method_1_5 rfl rfl ?_
  refine X.putF (q := 9) (host := "") (Or.inl (hw _ (List.mem_of_getElem? (i := 61) rfl))) Via.refl Ft B (Or.inr ⟨(hw _ (List.mem_of_getElem? (i := 62) rfl)), rfl, rfl⟩) (hw _ (List.mem_of_getElem? (i := 54) rfl)) (ty := .int) (by decide) rfl rfl gea own_d_prog_4_method_1_6 rfl (fun h1 Wh1 => ?_)
  have B'h1 : Exa Z h1 a "com/example/dircred/dircred/credential/DerReader$Value" := Exa.wr Wh1 B
  have Ft'h1 : Fld Z h1 a "com/example/dircred/dircred/credential/DerReader$Value" "tag" "I" (.int i) := Fld.same Wh1 Ft
  have Fs'h1 : Fld Z h1 a "com/example/dircred/dircred/credential/DerReader$Value" "contentStart" "I" (.int (0 : Int32)) := Fld.other Wh1 Fs (Or.inr (slot_ne (Or.inr (hw _ (List.mem_of_getElem? (i := 64) rfl))) (Or.inr (hw _ (List.mem_of_getElem? (i := 62) rfl))) (by decide) (ht := (by decide : _ = some .int)) (ht' := (by decide : _ = some .int))))
  have Fc'h1 : Fld Z h1 a "com/example/dircred/dircred/credential/DerReader$Value" "contentEnd" "I" (.int (0 : Int32)) := Fld.other Wh1 Fc (Or.inr (slot_ne (Or.inr (hw _ (List.mem_of_getElem? (i := 66) rfl))) (Or.inr (hw _ (List.mem_of_getElem? (i := 62) rfl))) (by decide) (ht := (by decide : _ = some .int)) (ht' := (by decide : _ = some .int))))
  have Fe'h1 : Fld Z h1 a "com/example/dircred/dircred/credential/DerReader$Value" "end" "I" (.int (0 : Int32)) := Fld.other Wh1 Fe (Or.inr (slot_ne (Or.inr (hw _ (List.mem_of_getElem? (i := 68) rfl))) (Or.inr (hw _ (List.mem_of_getElem? (i := 62) rfl))) (by decide) (ht := (by decide : _ = some .int)) (ht' := (by decide : _ = some .int))))
  have hsh1 : n0 ≤ h1.size := by rw [Wr.size Wh1]; exact hn0
  have Kh1 : Keep h h1 [a] := Keep.wr K0 Wh1 (Or.inl (List.mem_of_getElem? (i := 0) rfl))
  refine X.aloadN (q := 10) own_d_prog_4_method_1_9 rfl rfl rfl ?_
  refine X.iloadN (q := 11) own_d_prog_4_method_1_10 rfl rfl ?_
  refine X.putF (q := 14) (host := "") (Or.inl (hw _ (List.mem_of_getElem? (i := 63) rfl))) Via.refl Fs'h1 B'h1 (Or.inr ⟨(hw _ (List.mem_of_getElem? (i := 64) rfl)), rfl, rfl⟩) (hw _ (List.mem_of_getElem? (i := 54) rfl)) (ty := .int) (by decide) rfl rfl gea own_d_prog_4_method_1_11 rfl (fun h2 Wh2 => ?_)
  have B'h2 : Exa Z h2 a "com/example/dircred/dircred/credential/DerReader$Value" := Exa.wr Wh2 B'h1
  have Ft'h2 : Fld Z h2 a "com/example/dircred/dircred/credential/DerReader$Value" "tag" "I" (.int i) := Fld.other Wh2 Ft'h1 (Or.inr (slot_ne (Or.inr (hw _ (List.mem_of_getElem? (i := 62) rfl))) (Or.inr (hw _ (List.mem_of_getElem? (i := 64) rfl))) (by decide) (ht := (by decide : _ = some .int)) (ht' := (by decide : _ = some .int))))
  have Fs'h2 : Fld Z h2 a "com/example/dircred/dircred/credential/DerReader$Value" "contentStart" "I" (.int j) := Fld.same Wh2 Fs'h1
  have Fc'h2 : Fld Z h2 a "com/example/dircred/dircred/credential/DerReader$Value" "contentEnd" "I" (.int (0 : Int32)) := Fld.other Wh2 Fc'h1 (Or.inr (slot_ne (Or.inr (hw _ (List.mem_of_getElem? (i := 66) rfl))) (Or.inr (hw _ (List.mem_of_getElem? (i := 64) rfl))) (by decide) (ht := (by decide : _ = some .int)) (ht' := (by decide : _ = some .int))))
  have Fe'h2 : Fld Z h2 a "com/example/dircred/dircred/credential/DerReader$Value" "end" "I" (.int (0 : Int32)) := Fld.other Wh2 Fe'h1 (Or.inr (slot_ne (Or.inr (hw _ (List.mem_of_getElem? (i := 68) rfl))) (Or.inr (hw _ (List.mem_of_getElem? (i := 64) rfl))) (by decide) (ht := (by decide : _ = some .int)) (ht' := (by decide : _ = some .int))))
  have hsh2 : n0 ≤ h2.size := by rw [Wr.size Wh2]; exact hsh1
  have Kh2 : Keep h h2 [a] := Keep.wr Kh1 Wh2 (Or.inl (List.mem_of_getElem? (i := 0) rfl))
  refine X.aloadN (q := 15) own_d_prog_4_method_1_14 rfl rfl rfl ?_
  refine X.iloadN (q := 16) own_d_prog_4_method_1_15 rfl rfl ?_
  refine X.putF (q := 19) (host := "") (Or.inl (hw _ (List.mem_of_getElem? (i := 65) rfl))) Via.refl Fc'h2 B'h2 (Or.inr ⟨(hw _ (List.mem_of_getElem? (i := 66) rfl)), rfl, rfl⟩) (hw _ (List.mem_of_getElem? (i := 54) rfl)) (ty := .int) (by decide) rfl rfl gea own_d_prog_4_method_1_16 rfl (fun h3 Wh3 => ?_)
  have B'h3 : Exa Z h3 a "com/example/dircred/dircred/credential/DerReader$Value" := Exa.wr Wh3 B'h2
  have Ft'h3 : Fld Z h3 a "com/example/dircred/dircred/credential/DerReader$Value" "tag" "I" (.int i) := Fld.other Wh3 Ft'h2 (Or.inr (slot_ne (Or.inr (hw _ (List.mem_of_getElem? (i := 62) rfl))) (Or.inr (hw _ (List.mem_of_getElem? (i := 66) rfl))) (by decide) (ht := (by decide : _ = some .int)) (ht' := (by decide : _ = some .int))))
  have Fs'h3 : Fld Z h3 a "com/example/dircred/dircred/credential/DerReader$Value" "contentStart" "I" (.int j) := Fld.other Wh3 Fs'h2 (Or.inr (slot_ne (Or.inr (hw _ (List.mem_of_getElem? (i := 64) rfl))) (Or.inr (hw _ (List.mem_of_getElem? (i := 66) rfl))) (by decide) (ht := (by decide : _ = some .int)) (ht' := (by decide : _ = some .int))))
  have Fc'h3 : Fld Z h3 a "com/example/dircred/dircred/credential/DerReader$Value" "contentEnd" "I" (.int k) := Fld.same Wh3 Fc'h2
  have Fe'h3 : Fld Z h3 a "com/example/dircred/dircred/credential/DerReader$Value" "end" "I" (.int (0 : Int32)) := Fld.other Wh3 Fe'h2 (Or.inr (slot_ne (Or.inr (hw _ (List.mem_of_getElem? (i := 68) rfl))) (Or.inr (hw _ (List.mem_of_getElem? (i := 66) rfl))) (by decide) (ht := (by decide : _ = some .int)) (ht' := (by decide : _ = some .int))))
  have hsh3 : n0 ≤ h3.size := by rw [Wr.size Wh3]; exact hsh2
  have Kh3 : Keep h h3 [a] := Keep.wr Kh2 Wh3 (Or.inl (List.mem_of_getElem? (i := 0) rfl))
  refine X.aloadN (q := 20) own_d_prog_4_method_1_19 rfl rfl rfl ?_
  refine X.iload (q := 22) own_d_prog_4_method_1_20 rfl rfl ?_
  refine X.putF (q := 25) (host := "") (Or.inl (hw _ (List.mem_of_getElem? (i := 67) rfl))) Via.refl Fe'h3 B'h3 (Or.inr ⟨(hw _ (List.mem_of_getElem? (i := 68) rfl)), rfl, rfl⟩) (hw _ (List.mem_of_getElem? (i := 54) rfl)) (ty := .int) (by decide) rfl rfl gea own_d_prog_4_method_1_22 rfl (fun h4 Wh4 => ?_)
  have B'h4 : Exa Z h4 a "com/example/dircred/dircred/credential/DerReader$Value" := Exa.wr Wh4 B'h3
  have Ft'h4 : Fld Z h4 a "com/example/dircred/dircred/credential/DerReader$Value" "tag" "I" (.int i) := Fld.other Wh4 Ft'h3 (Or.inr (slot_ne (Or.inr (hw _ (List.mem_of_getElem? (i := 62) rfl))) (Or.inr (hw _ (List.mem_of_getElem? (i := 68) rfl))) (by decide) (ht := (by decide : _ = some .int)) (ht' := (by decide : _ = some .int))))
  have Fs'h4 : Fld Z h4 a "com/example/dircred/dircred/credential/DerReader$Value" "contentStart" "I" (.int j) := Fld.other Wh4 Fs'h3 (Or.inr (slot_ne (Or.inr (hw _ (List.mem_of_getElem? (i := 64) rfl))) (Or.inr (hw _ (List.mem_of_getElem? (i := 68) rfl))) (by decide) (ht := (by decide : _ = some .int)) (ht' := (by decide : _ = some .int))))
  have Fc'h4 : Fld Z h4 a "com/example/dircred/dircred/credential/DerReader$Value" "contentEnd" "I" (.int k) := Fld.other Wh4 Fc'h3 (Or.inr (slot_ne (Or.inr (hw _ (List.mem_of_getElem? (i := 66) rfl))) (Or.inr (hw _ (List.mem_of_getElem? (i := 68) rfl))) (by decide) (ht := (by decide : _ = some .int)) (ht' := (by decide : _ = some .int))))
  have Fe'h4 : Fld Z h4 a "com/example/dircred/dircred/credential/DerReader$Value" "end" "I" (.int m) := Fld.same Wh4 Fe'h3
  have hsh4 : n0 ≤ h4.size := by rw [Wr.size Wh4]; exact hsh3
  have Kh4 : Keep h h4 [a] := Keep.wr Kh3 Wh4 (Or.inl (List.mem_of_getElem? (i := 0) rfl))
  refine X.retV own_d_prog_4_method_1_25 rfl (by decide) (by decide) ?_
  exact ⟨rfl, Kh4, Ft'h4, Fs'h4, Fc'h4, Fe'h4⟩
theorem own_d_prog_2_method_1_0 : decode prog_2_method_1_code 0 = .ok (.aload_n 0, 1) := by decide +kernel
theorem own_d_prog_2_method_1_1 : decode prog_2_method_1_code 1 = .ok (.aload_n 1, 1) := by decide +kernel
theorem own_d_prog_2_method_1_2 : decode prog_2_method_1_code 2 = .ok (.iconst 0, 1) := by decide +kernel
theorem own_d_prog_2_method_1_3 : decode prog_2_method_1_code 3 = .ok (.aload_n 1, 1) := by decide +kernel
theorem own_d_prog_2_method_1_4 : decode prog_2_method_1_code 4 = .ok (.arraylength, 1) := by decide +kernel
theorem own_d_prog_2_method_1_5 : decode prog_2_method_1_code 5 = .ok (.invokespecial 1, 3) := by decide +kernel
theorem own_pd0 : parseMethodDescriptor "([BII)V" = some ⟨[(.array .byte), .int, .int], none⟩ := by decide +kernel
theorem own_d_prog_2_method_1_8 : decode prog_2_method_1_code 8 = .ok (.return_, 1) := by decide +kernel
def own_rm_own_i1 : Room := ({ frames := 2, cells := 0, slots := 0, locals := 27 } : Room)
set_option maxRecDepth 65536 in
set_option maxHeartbeats 1000000 in
theorem own_i1 (l : Launch) (Z : State) (a0 : Array Value) (hw : ∀ d ∈ tables_1, d.before a0 Z = true) (h : Heap) (n0 : Nat) (a b : Addr) (L : List Int32) (E : Int32) (hE : E.toInt = (L.length : Int))  (hn0 : n0 ≤ h.size) (B : Exa Z h a "com/example/dircred/dircred/credential/DerReader") (Fb : Fld Z h a "com/example/dircred/dircred/credential/DerReader" "bytes" "[B" .null) (Fp : Fld Z h a "com/example/dircred/dircred/credential/DerReader" "position" "I" (.int (0 : Int32))) (Fe : Fld Z h a "com/example/dircred/dircred/credential/DerReader" "end" "I" (.int (0 : Int32))) (A1 : OwA Z h b .byte (L.map Value.int)) (gea : n0 ≤ a) (neab : a ≠ b) :
    OwM l Z (⟨"com/example/dircred/dircred/credential/DerReader", "<init>", "([B)V"⟩ : MethodName) prog_2_method_1_code 2 none own_rm_own_i1 0 0 [] #[(.ref a), (.ref b)] h n0 (fun r h' => r = none ∧ Keep h h' [a] ∧ Fld Z h' a "com/example/dircred/dircred/credential/DerReader" "bytes" "[B" (.ref b) ∧ Fld Z h' a "com/example/dircred/dircred/credential/DerReader" "position" "I" (.int (0 : Int32)) ∧ Fld Z h' a "com/example/dircred/dircred/credential/DerReader" "end" "I" (.int E)) := by
  refine OwM.of (Ls := #[.val (.ref a), .val (.ref b)]) (by decide +kernel) (fun m => by first | (simp [entryFrame, mkF, argsToLocals, Value.category]; done) | rfl) ?_
  intro _ _ _ _ _ _ _ X
  have K0 : Keep h h [a] := Keep.refl _ _
  refine X.aloadN (q := 1) own_d_prog_2_method_1_0 rfl rfl rfl ?_
  refine X.aloadN (q := 2) own_d_prog_2_method_1_1 rfl rfl rfl ?_
  refine X.iconst (q := 3) (0 : Int32) own_d_prog_2_method_1_2 (by decide) rfl ?_
  refine X.aloadN (q := 4) own_d_prog_2_method_1_3 rfl rfl rfl ?_
  refine X.alen (q := 5) (z := E) A1 (by rw [hE]; simp) own_d_prog_2_method_1_4 rfl ?_
  refine X.special (a := a) (own_i2 l Z a0 hw h n0 a b 0 E hn0 B Fb Fp Fe gea) rfl (hw _ (List.mem_of_getElem? (i := 7) rfl)) (hw _ (List.mem_of_getElem? (i := 8) rfl)) (hw _ (List.mem_of_getElem? (i := 2) rfl)) (hw _ (List.mem_of_getElem? (i := 9) rfl)) (by decide) own_pd0 (argsL := [(.ref b), (.int (0 : Int32)), (.int E)]) (rest := []) rfl rfl rfl (W := 0) (Nat.le_of_eq rfl) rfl (by decide) (by decide) (k' := 0) (n' := 0) rfl rfl (by decide) (by decide) own_d_prog_2_method_1_5 (q := 8) rfl ?_
  rintro _ h1 ⟨rfl, Kh1c, Gb, Gp, Ge⟩
  have B'h1 : Exa Z h1 a "com/example/dircred/dircred/credential/DerReader" := Exa.keep B Kh1c
  have A1'h1 : OwA Z h1 b .byte (L.map Value.int) := OwA.keep A1 Kh1c (ninS (Ne.symm neab) nin0)
  have hsh1 : n0 ≤ h1.size := Nat.le_trans hn0 Kh1c.1
  have Kh1 : Keep h h1 [a] := Keep.trans K0 Kh1c (allS (Or.inl (List.mem_of_getElem? (i := 0) rfl)) all0)
  show X.G h1 0 0 8 #[.val (.ref a), .val (.ref b)] []
  refine X.retV own_d_prog_2_method_1_8 rfl (by decide) (by decide) ?_
  exact ⟨rfl, Kh1, Gb, Gp, Ge⟩
theorem own_d_prog_2_method_4_0 : decode prog_2_method_4_code 0 = .ok (.aload_n 0, 1) := by decide +kernel
theorem own_d_prog_2_method_4_1 : decode prog_2_method_4_code 1 = .ok (.getfield 16, 3) := by decide +kernel
theorem own_d_prog_2_method_4_4 : decode prog_2_method_4_code 4 = .ok (.aload_n 0, 1) := by decide +kernel
theorem own_d_prog_2_method_4_5 : decode prog_2_method_4_code 5 = .ok (.getfield 20, 3) := by decide +kernel
theorem own_d_prog_2_method_4_8 : decode prog_2_method_4_code 8 = .ok (.if_icmp .ge 7, 3) := by decide +kernel
theorem own_d_prog_2_method_4_15 : decode prog_2_method_4_code 15 = .ok (.iconst 0, 1) := by decide +kernel
theorem own_d_prog_2_method_4_16 : decode prog_2_method_4_code 16 = .ok (.ireturn, 1) := by decide +kernel
theorem own_d_prog_2_method_4_11 : decode prog_2_method_4_code 11 = .ok (.iconst 1, 1) := by decide +kernel
theorem own_d_prog_2_method_4_12 : decode prog_2_method_4_code 12 = .ok (.goto 4, 3) := by decide +kernel
def own_rm_own_hm : Room := ({ frames := 0, cells := 0, slots := 0, locals := 0 } : Room)
set_option maxRecDepth 65536 in
set_option maxHeartbeats 1000000 in
theorem own_hm (l : Launch) (Z : State) (a0 : Array Value) (hw : ∀ d ∈ tables_1, d.before a0 Z = true) (h : Heap) (n0 : Nat) (a : Addr) (P E : Int32)  (hn0 : n0 ≤ h.size) (Fp : Fld Z h a "com/example/dircred/dircred/credential/DerReader" "position" "I" (.int P)) (Fe : Fld Z h a "com/example/dircred/dircred/credential/DerReader" "end" "I" (.int E)) :
    OwM l Z (⟨"com/example/dircred/dircred/credential/DerReader", "hasMore", "()Z"⟩ : MethodName) prog_2_method_4_code 1 (some .boolean) own_rm_own_hm 0 0 [] #[(.ref a)] h n0 (fun r h' => ∃ z : Int32, r = some (.int z) ∧ ((z.toInt = 1 ∧ (P.toInt < E.toInt)) ∨ (z.toInt = 0 ∧ ¬ (P.toInt < E.toInt))) ∧ h = h') := by
  refine OwM.of (Ls := #[.val (.ref a)]) (by decide +kernel) (fun m => by first | (simp [entryFrame, mkF, argsToLocals, Value.category]; done) | rfl) ?_
  intro _ _ _ _ _ _ _ X
  have e0 : (0 : Int32).toInt = 0 := rfl
  have e1 : (1 : Int32).toInt = 1 := rfl
  refine X.aloadN (q := 1) own_d_prog_2_method_4_0 rfl rfl rfl ?_
  refine X.getF (q := 4) (host := "") (Or.inl (hw _ (List.mem_of_getElem? (i := 15) rfl))) Via.refl Fp own_d_prog_2_method_4_1 rfl ?_
  refine X.aloadN (q := 5) own_d_prog_2_method_4_4 rfl rfl rfl ?_
  refine X.getF (q := 8) (host := "") (Or.inl (hw _ (List.mem_of_getElem? (i := 17) rfl))) Via.refl Fe own_d_prog_2_method_4_5 rfl ?_
  refine X.icmp_ge (q' := 15) (q := 11) own_d_prog_2_method_4_8 rfl rfl (by decide) rfl (fun c8 => ?_) (fun c8 => ?_)
  · refine X.iconst (q := 16) (0 : Int32) own_d_prog_2_method_4_15 (by decide) rfl ?_
    refine X.retN (t := .boolean) (z' := (0 : Int32)) own_d_prog_2_method_4_16 rfl (by simp) (by decide) (by decide) (by decide) ?_
    exact ⟨_, rfl, by omega, rfl⟩
  · refine X.iconst (q := 12) (1 : Int32) own_d_prog_2_method_4_11 (by decide) rfl ?_
    refine X.goto (q' := 16) own_d_prog_2_method_4_12 (by decide) ?_
    refine X.retN (t := .boolean) (z' := (1 : Int32)) own_d_prog_2_method_4_16 rfl (by simp) (by decide) (by decide) (by decide) ?_
    exact ⟨_, rfl, by omega, rfl⟩
theorem own_d_prog_2_method_20_0 : decode prog_2_method_20_code 0 = .ok (.iload_n 1, 1) := by decide +kernel
theorem own_d_prog_2_method_20_1 : decode prog_2_method_20_code 1 = .ok (.istore_n 2, 1) := by decide +kernel
theorem own_d_prog_2_method_20_2 : decode prog_2_method_20_code 2 = .ok (.iload_n 2, 1) := by decide +kernel
theorem own_d_prog_2_method_20_3 : decode prog_2_method_20_code 3 = .ok (.aload_n 0, 1) := by decide +kernel
theorem own_d_prog_2_method_20_4 : decode prog_2_method_20_code 4 = .ok (.getfield 20, 3) := by decide +kernel
theorem own_d_prog_2_method_20_7 : decode prog_2_method_20_code 7 = .ok (.if_icmp .lt 13, 3) := by decide +kernel
theorem own_d_prog_2_method_20_20 : decode prog_2_method_20_code 20 = .ok (.aload_n 0, 1) := by decide +kernel
theorem own_d_prog_2_method_20_21 : decode prog_2_method_20_code 21 = .ok (.getfield 12, 3) := by decide +kernel
theorem own_d_prog_2_method_20_24 : decode prog_2_method_20_code 24 = .ok (.iload_n 2, 1) := by decide +kernel
theorem own_d_prog_2_method_20_25 : decode prog_2_method_20_code 25 = .ok (.iinc 2 1, 3) := by decide +kernel
theorem own_d_prog_2_method_20_28 : decode prog_2_method_20_code 28 = .ok (.baload, 1) := by decide +kernel
theorem own_d_prog_2_method_20_29 : decode prog_2_method_20_code 29 = .ok (.sipush 255, 3) := by decide +kernel
theorem own_d_prog_2_method_20_32 : decode prog_2_method_20_code 32 = .ok (.iand, 1) := by decide +kernel
theorem own_d_prog_2_method_20_33 : decode prog_2_method_20_code 33 = .ok (.istore_n 3, 1) := by decide +kernel
theorem own_d_prog_2_method_20_73 : decode prog_2_method_20_code 73 = .ok (.iload_n 2, 1) := by decide +kernel
theorem own_d_prog_2_method_20_74 : decode prog_2_method_20_code 74 = .ok (.aload_n 0, 1) := by decide +kernel
theorem own_d_prog_2_method_20_75 : decode prog_2_method_20_code 75 = .ok (.getfield 20, 3) := by decide +kernel
theorem own_d_prog_2_method_20_78 : decode prog_2_method_20_code 78 = .ok (.if_icmp .lt 13, 3) := by decide +kernel
theorem own_d_prog_2_method_20_91 : decode prog_2_method_20_code 91 = .ok (.aload_n 0, 1) := by decide +kernel
theorem own_d_prog_2_method_20_92 : decode prog_2_method_20_code 92 = .ok (.getfield 12, 3) := by decide +kernel
theorem own_d_prog_2_method_20_95 : decode prog_2_method_20_code 95 = .ok (.iload_n 2, 1) := by decide +kernel
theorem own_d_prog_2_method_20_96 : decode prog_2_method_20_code 96 = .ok (.iinc 2 1, 3) := by decide +kernel
theorem own_d_prog_2_method_20_99 : decode prog_2_method_20_code 99 = .ok (.baload, 1) := by decide +kernel
theorem own_d_prog_2_method_20_100 : decode prog_2_method_20_code 100 = .ok (.sipush 255, 3) := by decide +kernel
theorem own_d_prog_2_method_20_103 : decode prog_2_method_20_code 103 = .ok (.iand, 1) := by decide +kernel
theorem own_d_prog_2_method_20_104 : decode prog_2_method_20_code 104 = .ok (.istore 4, 2) := by decide +kernel
theorem own_d_prog_2_method_20_106 : decode prog_2_method_20_code 106 = .ok (.iload 4, 2) := by decide +kernel
theorem own_d_prog_2_method_20_108 : decode prog_2_method_20_code 108 = .ok (.sipush 128, 3) := by decide +kernel
theorem own_d_prog_2_method_20_111 : decode prog_2_method_20_code 111 = .ok (.if_icmp .ge 10, 3) := by decide +kernel
theorem own_d_prog_2_method_20_121 : decode prog_2_method_20_code 121 = .ok (.iload 4, 2) := by decide +kernel
theorem own_d_prog_2_method_20_123 : decode prog_2_method_20_code 123 = .ok (.sipush 128, 3) := by decide +kernel
theorem own_d_prog_2_method_20_126 : decode prog_2_method_20_code 126 = .ok (.if_icmp .ne 40, 3) := by decide +kernel
theorem own_d_prog_2_method_20_166 : decode prog_2_method_20_code 166 = .ok (.iload 4, 2) := by decide +kernel
theorem own_d_prog_2_method_20_168 : decode prog_2_method_20_code 168 = .ok (.bipush 127, 2) := by decide +kernel
theorem own_d_prog_2_method_20_170 : decode prog_2_method_20_code 170 = .ok (.iand, 1) := by decide +kernel
theorem own_d_prog_2_method_20_171 : decode prog_2_method_20_code 171 = .ok (.istore 6, 2) := by decide +kernel
theorem own_d_prog_2_method_20_173 : decode prog_2_method_20_code 173 = .ok (.iload 6, 2) := by decide +kernel
theorem own_d_prog_2_method_20_175 : decode prog_2_method_20_code 175 = .ok (.iconst 4, 1) := by decide +kernel
theorem own_d_prog_2_method_20_176 : decode prog_2_method_20_code 176 = .ok (.if_icmp .gt 14, 3) := by decide +kernel
theorem own_d_prog_2_method_20_179 : decode prog_2_method_20_code 179 = .ok (.iload 6, 2) := by decide +kernel
theorem own_d_prog_2_method_20_181 : decode prog_2_method_20_code 181 = .ok (.aload_n 0, 1) := by decide +kernel
theorem own_d_prog_2_method_20_182 : decode prog_2_method_20_code 182 = .ok (.getfield 20, 3) := by decide +kernel
theorem own_d_prog_2_method_20_185 : decode prog_2_method_20_code 185 = .ok (.iload_n 2, 1) := by decide +kernel
theorem own_d_prog_2_method_20_186 : decode prog_2_method_20_code 186 = .ok (.isub, 1) := by decide +kernel
theorem own_d_prog_2_method_20_187 : decode prog_2_method_20_code 187 = .ok (.if_icmp .le 13, 3) := by decide +kernel
theorem own_d_prog_2_method_20_200 : decode prog_2_method_20_code 200 = .ok (.lconst 0, 1) := by decide +kernel
theorem own_d_prog_2_method_20_201 : decode prog_2_method_20_code 201 = .ok (.lstore 7, 2) := by decide +kernel
theorem own_d_prog_2_method_20_203 : decode prog_2_method_20_code 203 = .ok (.iconst 0, 1) := by decide +kernel
theorem own_d_prog_2_method_20_204 : decode prog_2_method_20_code 204 = .ok (.istore 9, 2) := by decide +kernel
theorem own_d_prog_2_method_20_206 : decode prog_2_method_20_code 206 = .ok (.iload 9, 2) := by decide +kernel
theorem own_d_prog_2_method_20_208 : decode prog_2_method_20_code 208 = .ok (.iload 6, 2) := by decide +kernel
theorem own_d_prog_2_method_20_210 : decode prog_2_method_20_code 210 = .ok (.if_icmp .ge 31, 3) := by decide +kernel
theorem own_d_prog_2_method_20_213 : decode prog_2_method_20_code 213 = .ok (.lload 7, 2) := by decide +kernel
theorem own_d_prog_2_method_20_215 : decode prog_2_method_20_code 215 = .ok (.bipush 8, 2) := by decide +kernel
theorem own_d_prog_2_method_20_217 : decode prog_2_method_20_code 217 = .ok (.lshl, 1) := by decide +kernel
theorem own_d_prog_2_method_20_218 : decode prog_2_method_20_code 218 = .ok (.aload_n 0, 1) := by decide +kernel
theorem own_d_prog_2_method_20_219 : decode prog_2_method_20_code 219 = .ok (.getfield 12, 3) := by decide +kernel
theorem own_d_prog_2_method_20_222 : decode prog_2_method_20_code 222 = .ok (.iload_n 2, 1) := by decide +kernel
theorem own_d_prog_2_method_20_223 : decode prog_2_method_20_code 223 = .ok (.iinc 2 1, 3) := by decide +kernel
theorem own_d_prog_2_method_20_226 : decode prog_2_method_20_code 226 = .ok (.baload, 1) := by decide +kernel
theorem own_d_prog_2_method_20_227 : decode prog_2_method_20_code 227 = .ok (.sipush 255, 3) := by decide +kernel
theorem own_d_prog_2_method_20_230 : decode prog_2_method_20_code 230 = .ok (.iand, 1) := by decide +kernel
theorem own_d_prog_2_method_20_231 : decode prog_2_method_20_code 231 = .ok (.i2l, 1) := by decide +kernel
theorem own_d_prog_2_method_20_232 : decode prog_2_method_20_code 232 = .ok (.lor, 1) := by decide +kernel
theorem own_d_prog_2_method_20_233 : decode prog_2_method_20_code 233 = .ok (.lstore 7, 2) := by decide +kernel
theorem own_d_prog_2_method_20_235 : decode prog_2_method_20_code 235 = .ok (.iinc 9 1, 3) := by decide +kernel
theorem own_d_prog_2_method_20_238 : decode prog_2_method_20_code 238 = .ok (.goto (-32), 3) := by decide +kernel
theorem own_d_prog_2_method_20_241 : decode prog_2_method_20_code 241 = .ok (.lload 7, 2) := by decide +kernel
theorem own_d_prog_2_method_20_243 : decode prog_2_method_20_code 243 = .ok (.ldc2_w 170, 3) := by decide +kernel
theorem own_d_prog_2_method_20_246 : decode prog_2_method_20_code 246 = .ok (.lcmp, 1) := by decide +kernel
theorem own_d_prog_2_method_20_247 : decode prog_2_method_20_code 247 = .ok (.ifCond .le 13, 3) := by decide +kernel
theorem own_d_prog_2_method_20_260 : decode prog_2_method_20_code 260 = .ok (.lload 7, 2) := by decide +kernel
theorem own_d_prog_2_method_20_262 : decode prog_2_method_20_code 262 = .ok (.l2i, 1) := by decide +kernel
theorem own_d_prog_2_method_20_263 : decode prog_2_method_20_code 263 = .ok (.istore 5, 2) := by decide +kernel
theorem own_d_prog_2_method_20_265 : decode prog_2_method_20_code 265 = .ok (.iload 5, 2) := by decide +kernel
theorem own_d_prog_2_method_20_267 : decode prog_2_method_20_code 267 = .ok (.aload_n 0, 1) := by decide +kernel
theorem own_d_prog_2_method_20_268 : decode prog_2_method_20_code 268 = .ok (.getfield 20, 3) := by decide +kernel
theorem own_d_prog_2_method_20_271 : decode prog_2_method_20_code 271 = .ok (.iload_n 2, 1) := by decide +kernel
theorem own_d_prog_2_method_20_272 : decode prog_2_method_20_code 272 = .ok (.isub, 1) := by decide +kernel
theorem own_d_prog_2_method_20_273 : decode prog_2_method_20_code 273 = .ok (.if_icmp .le 24, 3) := by decide +kernel
theorem own_d_prog_2_method_20_297 : decode prog_2_method_20_code 297 = .ok (.iload_n 3, 1) := by decide +kernel
theorem own_d_prog_2_method_20_298 : decode prog_2_method_20_code 298 = .ok (.ifCond .ne 18, 3) := by decide +kernel
theorem own_d_prog_2_method_20_316 : decode prog_2_method_20_code 316 = .ok (.new 40, 3) := by decide +kernel
theorem own_d_prog_2_method_20_319 : decode prog_2_method_20_code 319 = .ok (.dup, 1) := by decide +kernel
theorem own_d_prog_2_method_20_320 : decode prog_2_method_20_code 320 = .ok (.iload_n 3, 1) := by decide +kernel
theorem own_d_prog_2_method_20_321 : decode prog_2_method_20_code 321 = .ok (.iload_n 2, 1) := by decide +kernel
theorem own_d_prog_2_method_20_322 : decode prog_2_method_20_code 322 = .ok (.iload 5, 2) := by decide +kernel
theorem own_d_prog_2_method_20_324 : decode prog_2_method_20_code 324 = .ok (.invokespecial 177, 3) := by decide +kernel
theorem own_pd1 : parseMethodDescriptor "(III)V" = some ⟨[.int, .int, .int], none⟩ := by decide +kernel
theorem own_d_prog_2_method_20_327 : decode prog_2_method_20_code 327 = .ok (.areturn, 1) := by decide +kernel
theorem own_d_prog_2_method_20_301 : decode prog_2_method_20_code 301 = .ok (.iload 5, 2) := by decide +kernel
theorem own_d_prog_2_method_20_303 : decode prog_2_method_20_code 303 = .ok (.ifCond .eq 13, 3) := by decide +kernel
theorem own_d_prog_2_method_20_129 : decode prog_2_method_20_code 129 = .ok (.iload_n 3, 1) := by decide +kernel
theorem own_d_prog_2_method_20_130 : decode prog_2_method_20_code 130 = .ok (.bipush 32, 2) := by decide +kernel
theorem own_d_prog_2_method_20_132 : decode prog_2_method_20_code 132 = .ok (.iand, 1) := by decide +kernel
theorem own_d_prog_2_method_20_133 : decode prog_2_method_20_code 133 = .ok (.ifCond .ne 27, 3) := by decide +kernel
theorem own_d_prog_2_method_20_160 : decode prog_2_method_20_code 160 = .ok (.iconst (-1), 1) := by decide +kernel
theorem own_d_prog_2_method_20_161 : decode prog_2_method_20_code 161 = .ok (.istore 5, 2) := by decide +kernel
theorem own_d_prog_2_method_20_163 : decode prog_2_method_20_code 163 = .ok (.goto 102, 3) := by decide +kernel
theorem own_d_prog_2_method_20_114 : decode prog_2_method_20_code 114 = .ok (.iload 4, 2) := by decide +kernel
theorem own_d_prog_2_method_20_116 : decode prog_2_method_20_code 116 = .ok (.istore 5, 2) := by decide +kernel
theorem own_d_prog_2_method_20_118 : decode prog_2_method_20_code 118 = .ok (.goto 147, 3) := by decide +kernel
theorem own_d_prog_2_method_20_34 : decode prog_2_method_20_code 34 = .ok (.iload_n 3, 1) := by decide +kernel
theorem own_d_prog_2_method_20_35 : decode prog_2_method_20_code 35 = .ok (.bipush 31, 2) := by decide +kernel
theorem own_d_prog_2_method_20_37 : decode prog_2_method_20_code 37 = .ok (.iand, 1) := by decide +kernel
theorem own_d_prog_2_method_20_38 : decode prog_2_method_20_code 38 = .ok (.bipush 31, 2) := by decide +kernel
theorem own_d_prog_2_method_20_40 : decode prog_2_method_20_code 40 = .ok (.if_icmp .ne 33, 3) := by decide +kernel
theorem own_d_prog_2_method_20_43 : decode prog_2_method_20_code 43 = .ok (.iload_n 2, 1) := by decide +kernel
theorem own_d_prog_2_method_20_44 : decode prog_2_method_20_code 44 = .ok (.aload_n 0, 1) := by decide +kernel
theorem own_d_prog_2_method_20_45 : decode prog_2_method_20_code 45 = .ok (.getfield 20, 3) := by decide +kernel
theorem own_d_prog_2_method_20_48 : decode prog_2_method_20_code 48 = .ok (.if_icmp .ge 22, 3) := by decide +kernel
theorem own_d_prog_2_method_20_51 : decode prog_2_method_20_code 51 = .ok (.aload_n 0, 1) := by decide +kernel
theorem own_d_prog_2_method_20_52 : decode prog_2_method_20_code 52 = .ok (.getfield 12, 3) := by decide +kernel
theorem own_d_prog_2_method_20_55 : decode prog_2_method_20_code 55 = .ok (.iload_n 2, 1) := by decide +kernel
theorem own_d_prog_2_method_20_56 : decode prog_2_method_20_code 56 = .ok (.baload, 1) := by decide +kernel
theorem own_d_prog_2_method_20_57 : decode prog_2_method_20_code 57 = .ok (.sipush 128, 3) := by decide +kernel
theorem own_d_prog_2_method_20_60 : decode prog_2_method_20_code 60 = .ok (.iand, 1) := by decide +kernel
theorem own_d_prog_2_method_20_61 : decode prog_2_method_20_code 61 = .ok (.ifCond .eq 9, 3) := by decide +kernel
theorem own_d_prog_2_method_20_70 : decode prog_2_method_20_code 70 = .ok (.iinc 2 1, 3) := by decide +kernel
theorem own_d_prog_2_method_20_64 : decode prog_2_method_20_code 64 = .ok (.iinc 2 1, 3) := by decide +kernel
theorem own_d_prog_2_method_20_67 : decode prog_2_method_20_code 67 = .ok (.goto (-24), 3) := by decide +kernel
def own_rm_own_header : Room := ({ frames := 2, cells := 1, slots := 3, locals := 28 } : Room)
set_option maxRecDepth 65536 in
set_option maxHeartbeats 1000000 in
theorem own_header (l : Launch) (Z : State) (a0 : Array Value) (hw : ∀ d ∈ tables_1, d.before a0 Z = true) (h : Heap) (n0 : Nat) (a b : Addr) (L : List Int32) (P E : Int32) (p : Nat) (T : Int32) (q s : Nat) (S Ln : Int32) (hr : ∀ x ∈ L, -128 ≤ x.toInt ∧ x.toInt ≤ 127) (hE : E.toInt = (L.length : Int)) (hN : L.length < 1000) (hP : P.toInt = (p : Int)) (H : own_hdr L p T q s S Ln)  (hn0 : n0 ≤ h.size) (Fb : Fld Z h a "com/example/dircred/dircred/credential/DerReader" "bytes" "[B" (.ref b)) (Fe : Fld Z h a "com/example/dircred/dircred/credential/DerReader" "end" "I" (.int E)) (A1 : OwA Z h b .byte (L.map Value.int)) :
    OwM l Z (⟨"com/example/dircred/dircred/credential/DerReader", "header", "(I)Lcom/example/dircred/dircred/credential/DerReader$Header;"⟩ : MethodName) prog_2_method_20_code 10 (some (.object "com/example/dircred/dircred/credential/DerReader$Header")) own_rm_own_header 1 3 [] #[(.ref a), (.int P)] h n0 (fun r h' => ∃ b', r = some (.ref b') ∧ Keep h h' [] ∧ h.size ≤ b' ∧ Fld Z h' b' "com/example/dircred/dircred/credential/DerReader$Header" "tag" "I" (.int T) ∧ Fld Z h' b' "com/example/dircred/dircred/credential/DerReader$Header" "contentStart" "I" (.int S) ∧ Fld Z h' b' "com/example/dircred/dircred/credential/DerReader$Header" "length" "I" (.int Ln)) := by
  refine OwM.of (Ls := #[.val (.ref a), .val (.int P), .unset, .unset, .unset, .unset, .unset, .unset, .unset, .unset]) (by decide +kernel) (fun m => by first | (simp [entryFrame, mkF, argsToLocals, Value.category]; done) | rfl) ?_
  intro _ _ _ _ _ _ _ X
  have K0 : Keep h h [] := Keep.refl _ _
  have e0 : (0 : Int32).toInt = 0 := rfl
  have e1 : (1 : Int32).toInt = 1 := rfl
  have em1 : (-1 : Int32).toInt = -1 := rfl
  have e31 : (31 : Int32).toInt = 31 := rfl
  have e32 : (32 : Int32).toInt = 32 := rfl
  have e127 : (127 : Int32).toInt = 127 := rfl
  have e128 : (128 : Int32).toInt = 128 := rfl
  have e129 : (129 : Int32).toInt = 129 := rfl
  have em127 : (-127 : Int32).toInt = -127 := rfl
  have em128 : (-128 : Int32).toInt = -128 := rfl
  obtain ⟨H1, H2, H3, H4, H5, H6, H7, H8⟩ := H
  have rp := own_rng hr p
  have rp1 := own_rng hr (p + 1)
  have rp2 := own_rng hr (p + 2)
  have rq := own_rng hr q
  have rq1 := own_rng hr (q + 1)
  refine X.iloadN (q := 1) own_d_prog_2_method_20_0 rfl rfl ?_
  refine X.istoreN (q := 2) (Ls' := #[.val (.ref a), .val (.int P), .val (.int P), .unset, .unset, .unset, .unset, .unset, .unset, .unset]) own_d_prog_2_method_20_1 rfl rfl ?_
  refine X.iloadN (q := 3) own_d_prog_2_method_20_2 rfl rfl ?_
  refine X.aloadN (q := 4) own_d_prog_2_method_20_3 rfl rfl rfl ?_
  refine X.getF (q := 7) (host := "") (Or.inl (hw _ (List.mem_of_getElem? (i := 17) rfl))) Via.refl Fe own_d_prog_2_method_20_4 rfl ?_
  refine X.icmp_lt (q' := 20) (q := 10) own_d_prog_2_method_20_7 rfl rfl (by decide) rfl (fun c7 => ?_) (fun c7 => ?_)
  · refine X.aloadN (q := 21) own_d_prog_2_method_20_20 rfl rfl rfl ?_
    refine X.getF (q := 24) (host := "") (Or.inl (hw _ (List.mem_of_getElem? (i := 13) rfl))) Via.refl Fb own_d_prog_2_method_20_21 rfl ?_
    refine X.iloadN (q := 25) own_d_prog_2_method_20_24 rfl rfl ?_
    refine X.iinc (q := 28) (Ls' := #[.val (.ref a), .val (.int P), .val (.int (P + (1 : Int32))), .unset, .unset, .unset, .unset, .unset, .unset, .unset]) (1 : Int32) own_d_prog_2_method_20_25 (by decide) rfl rfl rfl ?_
    have hP1_ : (P + (1 : Int32)).toInt = P.toInt + 1 := own_add (b := 1) rfl (by omega) (by omega)
    obtain ⟨P1, hdP1⟩ : ∃ v_ : Int32, v_ = (P + (1 : Int32)) := ⟨_, rfl⟩
    rw [← hdP1]
    rw [← hdP1] at hP1_
    clear hdP1
    have hP1_ : P1.toInt = ((p + 1 : Nat) : Int) := by omega
    refine X.baload (q := 29) (j := p) (v := (.int (L.getD (p) 0))) A1 hP (own_hB L _ (by omega)) own_d_prog_2_method_20_28 rfl ?_
    refine X.sipush (q := 32) (255 : Int32) own_d_prog_2_method_20_29 (by decide) rfl ?_
    refine X.iand (q := 33) own_d_prog_2_method_20_32 rfl ?_
    refine X.foldI (v := T) (Int32.toInt_inj.mp (by rw [Jvm.Kit.i32_mask (k := 8) _ _ (by decide) (by decide)]; omega)) ?_
    refine X.istoreN (q := 34) (Ls' := #[.val (.ref a), .val (.int P), .val (.int P1), .val (.int T), .unset, .unset, .unset, .unset, .unset, .unset]) own_d_prog_2_method_20_33 rfl rfl ?_
    have J73 : ∀ (Q : Int32), (Q.toInt = (q : Int)) →  X.G h 0 0 73 #[.val (.ref a), .val (.int P), .val (.int Q), .val (.int T), .unset, .unset, .unset, .unset, .unset, .unset] [] := by
      intro Q hQ
      refine X.iloadN (q := 74) own_d_prog_2_method_20_73 rfl rfl ?_
      refine X.aloadN (q := 75) own_d_prog_2_method_20_74 rfl rfl rfl ?_
      refine X.getF (q := 78) (host := "") (Or.inl (hw _ (List.mem_of_getElem? (i := 17) rfl))) Via.refl Fe own_d_prog_2_method_20_75 rfl ?_
      refine X.icmp_lt (q' := 91) (q := 81) own_d_prog_2_method_20_78 rfl rfl (by decide) rfl (fun c78 => ?_) (fun c78 => ?_)
      · refine X.aloadN (q := 92) own_d_prog_2_method_20_91 rfl rfl rfl ?_
        refine X.getF (q := 95) (host := "") (Or.inl (hw _ (List.mem_of_getElem? (i := 13) rfl))) Via.refl Fb own_d_prog_2_method_20_92 rfl ?_
        refine X.iloadN (q := 96) own_d_prog_2_method_20_95 rfl rfl ?_
        refine X.iinc (q := 99) (Ls' := #[.val (.ref a), .val (.int P), .val (.int (Q + (1 : Int32))), .val (.int T), .unset, .unset, .unset, .unset, .unset, .unset]) (1 : Int32) own_d_prog_2_method_20_96 (by decide) rfl rfl rfl ?_
        have hQ1_ : (Q + (1 : Int32)).toInt = Q.toInt + 1 := own_add (b := 1) rfl (by omega) (by omega)
        obtain ⟨Q1, hdQ1⟩ : ∃ v_ : Int32, v_ = (Q + (1 : Int32)) := ⟨_, rfl⟩
        rw [← hdQ1]
        rw [← hdQ1] at hQ1_
        clear hdQ1
        have hQ1_ : Q1.toInt = ((q + 1 : Nat) : Int) := by omega
        refine X.baload (q := 100) (j := q) (v := (.int (L.getD (q) 0))) A1 hQ (own_hB L _ (by omega)) own_d_prog_2_method_20_99 rfl ?_
        refine X.sipush (q := 103) (255 : Int32) own_d_prog_2_method_20_100 (by decide) rfl ?_
        refine X.iand (q := 104) own_d_prog_2_method_20_103 rfl ?_
        refine X.nmI (fun L0 hL0 => ?_)
        have hL0_ : L0.toInt = (L.getD q 0).toInt % 256 := by rw [hL0, Jvm.Kit.i32_mask (k := 8) _ _ (by decide) (by decide)]; rfl
        clear hL0
        refine X.istore (q := 106) (Ls' := #[.val (.ref a), .val (.int P), .val (.int Q1), .val (.int T), .val (.int L0), .unset, .unset, .unset, .unset, .unset]) own_d_prog_2_method_20_104 rfl rfl ?_
        refine X.iload (q := 108) own_d_prog_2_method_20_106 rfl rfl ?_
        refine X.sipush (q := 111) (128 : Int32) own_d_prog_2_method_20_108 (by decide) rfl ?_
        refine X.icmp_ge (b := 128) (q' := 121) (q := 114) own_d_prog_2_method_20_111 rfl rfl (by decide) rfl (fun c111 => ?_) (fun c111 => ?_)
        · refine X.iload (q := 123) own_d_prog_2_method_20_121 rfl rfl ?_
          refine X.sipush (q := 126) (128 : Int32) own_d_prog_2_method_20_123 (by decide) rfl ?_
          refine X.icmp_ne (b := 128) (q' := 166) (q := 129) own_d_prog_2_method_20_126 rfl rfl (by decide) rfl (fun c126 => ?_) (fun c126 => ?_)
          · refine X.iload (q := 168) own_d_prog_2_method_20_166 rfl rfl ?_
            refine X.bipush (q := 170) (127 : Int32) own_d_prog_2_method_20_168 (by decide) rfl ?_
            refine X.iand (q := 171) own_d_prog_2_method_20_170 rfl ?_
            refine X.foldI (v := (1 : Int32)) (Int32.toInt_inj.mp (by rw [Jvm.Kit.i32_mask (k := 7) _ _ (by decide) (by decide)]; omega)) ?_
            refine X.istore (q := 173) (Ls' := #[.val (.ref a), .val (.int P), .val (.int Q1), .val (.int T), .val (.int L0), .unset, .val (.int (1 : Int32)), .unset, .unset, .unset]) own_d_prog_2_method_20_171 rfl rfl ?_
            refine X.iload (q := 175) own_d_prog_2_method_20_173 rfl rfl ?_
            refine X.iconst (q := 176) (4 : Int32) own_d_prog_2_method_20_175 (by decide) rfl ?_
            refine X.icmp_gt (a := 1) (b := 4) (q' := 190) (q := 179) own_d_prog_2_method_20_176 rfl rfl (by decide) rfl (fun c176 => ?_) (fun c176 => ?_)
            · omega
            · refine X.iload (q := 181) own_d_prog_2_method_20_179 rfl rfl ?_
              refine X.aloadN (q := 182) own_d_prog_2_method_20_181 rfl rfl rfl ?_
              refine X.getF (q := 185) (host := "") (Or.inl (hw _ (List.mem_of_getElem? (i := 17) rfl))) Via.refl Fe own_d_prog_2_method_20_182 rfl ?_
              refine X.iloadN (q := 186) own_d_prog_2_method_20_185 rfl rfl ?_
              refine X.isub (q := 187) own_d_prog_2_method_20_186 rfl ?_
              refine X.nmI (fun av hav => ?_)
              have hav_ : av.toInt = E.toInt - Q1.toInt := by rw [hav, Int32.toInt_sub]; exact Int.bmod_eq_of_le (by omega) (by omega)
              clear hav
              refine X.icmp_le (a := 1) (q' := 200) (q := 190) own_d_prog_2_method_20_187 rfl rfl (by decide) rfl (fun c187 => ?_) (fun c187 => ?_)
              · refine X.lconst (q := 201) (0 : Int64) own_d_prog_2_method_20_200 (by decide) rfl ?_
                refine X.lstore (q := 203) (Ls' := #[.val (.ref a), .val (.int P), .val (.int Q1), .val (.int T), .val (.int L0), .unset, .val (.int (1 : Int32)), .val (.long (0 : Int64)), .second, .unset]) own_d_prog_2_method_20_201 rfl rfl ?_
                refine X.iconst (q := 204) (0 : Int32) own_d_prog_2_method_20_203 (by decide) rfl ?_
                refine X.istore (q := 206) (Ls' := #[.val (.ref a), .val (.int P), .val (.int Q1), .val (.int T), .val (.int L0), .unset, .val (.int (1 : Int32)), .val (.long (0 : Int64)), .second, .val (.int (0 : Int32))]) own_d_prog_2_method_20_204 rfl rfl ?_
                refine X.iload (q := 208) own_d_prog_2_method_20_206 rfl rfl ?_
                refine X.iload (q := 210) own_d_prog_2_method_20_208 rfl rfl ?_
                refine X.icmp_ge (a := 0) (b := 1) (q' := 241) (q := 213) own_d_prog_2_method_20_210 rfl rfl (by decide) rfl (fun c210 => ?_) (fun c210 => ?_)
                · omega
                · refine X.lload (q := 215) own_d_prog_2_method_20_213 rfl rfl ?_
                  refine X.bipush (q := 217) (8 : Int32) own_d_prog_2_method_20_215 (by decide) rfl ?_
                  refine X.lshl (q := 218) own_d_prog_2_method_20_217 rfl ?_
                  refine X.aloadN (q := 219) own_d_prog_2_method_20_218 rfl rfl rfl ?_
                  refine X.getF (q := 222) (host := "") (Or.inl (hw _ (List.mem_of_getElem? (i := 13) rfl))) Via.refl Fb own_d_prog_2_method_20_219 rfl ?_
                  refine X.iloadN (q := 223) own_d_prog_2_method_20_222 rfl rfl ?_
                  refine X.iinc (q := 226) (Ls' := #[.val (.ref a), .val (.int P), .val (.int (Q1 + (1 : Int32))), .val (.int T), .val (.int L0), .unset, .val (.int (1 : Int32)), .val (.long (0 : Int64)), .second, .val (.int (0 : Int32))]) (1 : Int32) own_d_prog_2_method_20_223 (by decide) rfl rfl rfl ?_
                  have hQ2_ : (Q1 + (1 : Int32)).toInt = Q1.toInt + 1 := own_add (b := 1) rfl (by omega) (by omega)
                  obtain ⟨Q2, hdQ2⟩ : ∃ v_ : Int32, v_ = (Q1 + (1 : Int32)) := ⟨_, rfl⟩
                  rw [← hdQ2]
                  rw [← hdQ2] at hQ2_
                  clear hdQ2
                  have hQ2_ : Q2.toInt = ((q + 2 : Nat) : Int) := by omega
                  refine X.baload (q := 227) (j := q + 1) (v := (.int (L.getD (q + 1) 0))) A1 hQ1_ (own_hB L _ (by omega)) own_d_prog_2_method_20_226 rfl ?_
                  refine X.sipush (q := 230) (255 : Int32) own_d_prog_2_method_20_227 (by decide) rfl ?_
                  refine X.iand (q := 231) own_d_prog_2_method_20_230 rfl ?_
                  refine X.i2l (q := 232) own_d_prog_2_method_20_231 rfl ?_
                  refine X.lor (q := 233) own_d_prog_2_method_20_232 rfl ?_
                  refine X.nmJ (fun acc hacc => ?_)
                  have hacc_ : acc.toInt = (L.getD (q + 1) 0).toInt % 256 := by rw [hacc]; exact own_acc _
                  clear hacc
                  refine X.lstore (q := 235) (Ls' := #[.val (.ref a), .val (.int P), .val (.int Q2), .val (.int T), .val (.int L0), .unset, .val (.int (1 : Int32)), .val (.long acc), .second, .val (.int (0 : Int32))]) own_d_prog_2_method_20_233 rfl rfl ?_
                  refine X.iinc (q := 238) (Ls' := #[.val (.ref a), .val (.int P), .val (.int Q2), .val (.int T), .val (.int L0), .unset, .val (.int (1 : Int32)), .val (.long acc), .second, .val (.int (1 : Int32))]) (1 : Int32) own_d_prog_2_method_20_235 (by decide) rfl rfl rfl ?_
                  refine X.goto (q' := 206) own_d_prog_2_method_20_238 (by decide) ?_
                  refine X.iload (q := 208) own_d_prog_2_method_20_206 rfl rfl ?_
                  refine X.iload (q := 210) own_d_prog_2_method_20_208 rfl rfl ?_
                  refine X.icmp_ge (a := 1) (b := 1) (q' := 241) (q := 213) own_d_prog_2_method_20_210 rfl rfl (by decide) rfl (fun c210 => ?_) (fun c210 => ?_)
                  · refine X.lload (q := 243) own_d_prog_2_method_20_241 rfl rfl ?_
                    refine X.ldc2_w (q := 246) (v := (2147483647 : Int64)) (hw _ (List.mem_of_getElem? (i := 87) rfl)) own_d_prog_2_method_20_243 rfl ?_
                    refine X.lcmp_le (b := 2147483647) (q1 := 247) (q' := 260) (q := 250) own_d_prog_2_method_20_246 rfl own_d_prog_2_method_20_247 rfl rfl (by decide) rfl (fun c246 => ?_) (fun c246 => ?_)
                    · refine X.lload (q := 262) own_d_prog_2_method_20_260 rfl rfl ?_
                      refine X.l2i (q := 263) own_d_prog_2_method_20_262 rfl ?_
                      refine X.foldI (v := Ln) (Int32.toInt_inj.mp (by rw [Int64.toInt_toInt32, Int.bmod_eq_of_le (by omega) (by omega)]; omega)) ?_
                      refine X.istore (q := 265) (Ls' := #[.val (.ref a), .val (.int P), .val (.int Q2), .val (.int T), .val (.int L0), .val (.int Ln), .val (.int (1 : Int32)), .val (.long acc), .second, .val (.int (1 : Int32))]) own_d_prog_2_method_20_263 rfl rfl ?_
                      refine X.iload (q := 267) own_d_prog_2_method_20_265 rfl rfl ?_
                      refine X.aloadN (q := 268) own_d_prog_2_method_20_267 rfl rfl rfl ?_
                      refine X.getF (q := 271) (host := "") (Or.inl (hw _ (List.mem_of_getElem? (i := 17) rfl))) Via.refl Fe own_d_prog_2_method_20_268 rfl ?_
                      refine X.iloadN (q := 272) own_d_prog_2_method_20_271 rfl rfl ?_
                      refine X.isub (q := 273) own_d_prog_2_method_20_272 rfl ?_
                      refine X.nmI (fun av2 hav2 => ?_)
                      have hav2_ : av2.toInt = E.toInt - Q2.toInt := by rw [hav2, Int32.toInt_sub]; exact Int.bmod_eq_of_le (by omega) (by omega)
                      clear hav2
                      refine X.icmp_le (q' := 297) (q := 276) own_d_prog_2_method_20_273 rfl rfl (by decide) rfl (fun c273 => ?_) (fun c273 => ?_)
                      · refine X.iloadN (q := 298) own_d_prog_2_method_20_297 rfl rfl ?_
                        refine X.if_ne (q' := 316) (q := 301) own_d_prog_2_method_20_298 rfl (by decide) rfl (fun c298 => ?_) (fun c298 => ?_)
                        · refine X.newO (q := 319) (k' := 1) (n' := 3) (hw _ (List.mem_of_getElem? (i := 38) rfl)) (hw _ (List.mem_of_getElem? (i := 39) rfl)) (hw _ (List.mem_of_getElem? (i := 40) rfl)) own_d_prog_2_method_20_316 rfl rfl (by decide) (by decide) rfl (fun h1 a2 ga2 Eh1 Ba2 Da2 => ?_)
                          have la_a2 : a < a2 := by have := Fb.lt; rw [← ga2] at this; exact this
                          have lb_a2 : b < a2 := by have := A1.lt; rw [← ga2] at this; exact this
                          have Fb'h1 : Fld Z h1 a "com/example/dircred/dircred/credential/DerReader" "bytes" "[B" (.ref b) := Fld.ext Eh1 Fb
                          have Fe'h1 : Fld Z h1 a "com/example/dircred/dircred/credential/DerReader" "end" "I" (.int E) := Fld.ext Eh1 Fe
                          have A1'h1 : OwA Z h1 b .byte (L.map Value.int) := OwA.ext (E := Eh1) A1
                          have gea2 : n0 ≤ a2 := by rw [ga2]; exact hn0
                          have hsh1 : n0 ≤ h1.size := Nat.le_trans hn0 Eh1.1
                          have fra2 : h.size ≤ a2 := by rw [ga2]; exact K0.1
                          have Kh1 : Keep h h1 [] := Keep.ext K0 Eh1
                          have Fa2_tag : Fld Z h1 a2 "com/example/dircred/dircred/credential/DerReader$Header" "tag" "I" (.int (0 : Int32)) := Da2 (Or.inr (hw _ (List.mem_of_getElem? (i := 46) rfl))) (ty := .int) (by decide)
                          have Fa2_contentStart : Fld Z h1 a2 "com/example/dircred/dircred/credential/DerReader$Header" "contentStart" "I" (.int (0 : Int32)) := Da2 (Or.inr (hw _ (List.mem_of_getElem? (i := 48) rfl))) (ty := .int) (by decide)
                          have Fa2_length : Fld Z h1 a2 "com/example/dircred/dircred/credential/DerReader$Header" "length" "I" (.int (0 : Int32)) := Da2 (Or.inr (hw _ (List.mem_of_getElem? (i := 50) rfl))) (ty := .int) (by decide)
                          refine X.dup (q := 320) own_d_prog_2_method_20_319 rfl rfl ?_
                          refine X.iloadN (q := 321) own_d_prog_2_method_20_320 rfl rfl ?_
                          refine X.iloadN (q := 322) own_d_prog_2_method_20_321 rfl rfl ?_
                          refine X.foldI (v := S) (Int32.toInt_inj.mp (by omega)) ?_
                          refine X.iload (q := 324) own_d_prog_2_method_20_322 rfl rfl ?_
                          refine X.special (a := a2) (own_hi l Z a0 hw h1 n0 a2 T S Ln hsh1 Ba2 Fa2_tag Fa2_contentStart Fa2_length gea2) rfl (hw _ (List.mem_of_getElem? (i := 41) rfl)) (hw _ (List.mem_of_getElem? (i := 42) rfl)) (hw _ (List.mem_of_getElem? (i := 40) rfl)) (hw _ (List.mem_of_getElem? (i := 43) rfl)) (by decide) own_pd1 (argsL := [(.int T), (.int S), (.int Ln)]) (rest := [(.ref a2)]) rfl rfl rfl (W := 1) (Nat.le_of_eq rfl) rfl (by decide) (by decide) (k' := 1) (n' := 3) rfl rfl (by decide) (by decide) own_d_prog_2_method_20_324 (q := 327) rfl ?_
                          rintro _ h3 ⟨rfl, Kh3c, Gt, Gs, Gl⟩
                          have Fb'h3 : Fld Z h3 a "com/example/dircred/dircred/credential/DerReader" "bytes" "[B" (.ref b) := Fld.keep Fb'h1 Kh3c (ninS (Nat.ne_of_lt la_a2) nin0)
                          have Fe'h3 : Fld Z h3 a "com/example/dircred/dircred/credential/DerReader" "end" "I" (.int E) := Fld.keep Fe'h1 Kh3c (ninS (Nat.ne_of_lt la_a2) nin0)
                          have A1'h3 : OwA Z h3 b .byte (L.map Value.int) := OwA.keep A1'h1 Kh3c (ninS (Nat.ne_of_lt lb_a2) nin0)
                          have Ba2'h3 : Exa Z h3 a2 "com/example/dircred/dircred/credential/DerReader$Header" := Exa.keep Ba2 Kh3c
                          have hsh3 : n0 ≤ h3.size := Nat.le_trans hsh1 Kh3c.1
                          have Kh3 : Keep h h3 [] := Keep.trans Kh1 Kh3c (allS (Or.inr fra2) all0)
                          show X.G h3 1 3 327 #[.val (.ref a), .val (.int P), .val (.int Q2), .val (.int T), .val (.int L0), .val (.int Ln), .val (.int (1 : Int32)), .val (.long acc), .second, .val (.int (1 : Int32))] [(.ref a2)]
                          refine X.retA (t := (.object "com/example/dircred/dircred/credential/DerReader$Header")) own_d_prog_2_method_20_327 rfl rfl rfl rfl (by decide) (by decide) ?_
                          exact ⟨a2, rfl, Kh3, fra2, Gt, Gs, Gl⟩
                        · refine X.iload (q := 303) own_d_prog_2_method_20_301 rfl rfl ?_
                          refine X.if_eq (q' := 316) (q := 306) own_d_prog_2_method_20_303 rfl (by decide) rfl (fun c303 => ?_) (fun c303 => ?_)
                          · refine X.newO (q := 319) (k' := 1) (n' := 3) (hw _ (List.mem_of_getElem? (i := 38) rfl)) (hw _ (List.mem_of_getElem? (i := 39) rfl)) (hw _ (List.mem_of_getElem? (i := 40) rfl)) own_d_prog_2_method_20_316 rfl rfl (by decide) (by decide) rfl (fun h4 a5 ga5 Eh4 Ba5 Da5 => ?_)
                            have la_a5 : a < a5 := by have := Fb.lt; rw [← ga5] at this; exact this
                            have lb_a5 : b < a5 := by have := A1.lt; rw [← ga5] at this; exact this
                            have Fb'h4 : Fld Z h4 a "com/example/dircred/dircred/credential/DerReader" "bytes" "[B" (.ref b) := Fld.ext Eh4 Fb
                            have Fe'h4 : Fld Z h4 a "com/example/dircred/dircred/credential/DerReader" "end" "I" (.int E) := Fld.ext Eh4 Fe
                            have A1'h4 : OwA Z h4 b .byte (L.map Value.int) := OwA.ext (E := Eh4) A1
                            have gea5 : n0 ≤ a5 := by rw [ga5]; exact hn0
                            have hsh4 : n0 ≤ h4.size := Nat.le_trans hn0 Eh4.1
                            have fra5 : h.size ≤ a5 := by rw [ga5]; exact K0.1
                            have Kh4 : Keep h h4 [] := Keep.ext K0 Eh4
                            have Fa5_tag : Fld Z h4 a5 "com/example/dircred/dircred/credential/DerReader$Header" "tag" "I" (.int (0 : Int32)) := Da5 (Or.inr (hw _ (List.mem_of_getElem? (i := 46) rfl))) (ty := .int) (by decide)
                            have Fa5_contentStart : Fld Z h4 a5 "com/example/dircred/dircred/credential/DerReader$Header" "contentStart" "I" (.int (0 : Int32)) := Da5 (Or.inr (hw _ (List.mem_of_getElem? (i := 48) rfl))) (ty := .int) (by decide)
                            have Fa5_length : Fld Z h4 a5 "com/example/dircred/dircred/credential/DerReader$Header" "length" "I" (.int (0 : Int32)) := Da5 (Or.inr (hw _ (List.mem_of_getElem? (i := 50) rfl))) (ty := .int) (by decide)
                            refine X.dup (q := 320) own_d_prog_2_method_20_319 rfl rfl ?_
                            refine X.iloadN (q := 321) own_d_prog_2_method_20_320 rfl rfl ?_
                            refine X.iloadN (q := 322) own_d_prog_2_method_20_321 rfl rfl ?_
                            refine X.foldI (v := S) (Int32.toInt_inj.mp (by omega)) ?_
                            refine X.iload (q := 324) own_d_prog_2_method_20_322 rfl rfl ?_
                            refine X.special (a := a5) (own_hi l Z a0 hw h4 n0 a5 T S Ln hsh4 Ba5 Fa5_tag Fa5_contentStart Fa5_length gea5) rfl (hw _ (List.mem_of_getElem? (i := 41) rfl)) (hw _ (List.mem_of_getElem? (i := 42) rfl)) (hw _ (List.mem_of_getElem? (i := 40) rfl)) (hw _ (List.mem_of_getElem? (i := 43) rfl)) (by decide) own_pd1 (argsL := [(.int T), (.int S), (.int Ln)]) (rest := [(.ref a5)]) rfl rfl rfl (W := 1) (Nat.le_of_eq rfl) rfl (by decide) (by decide) (k' := 1) (n' := 3) rfl rfl (by decide) (by decide) own_d_prog_2_method_20_324 (q := 327) rfl ?_
                            rintro _ h6 ⟨rfl, Kh6c, Gt, Gs, Gl⟩
                            have Fb'h6 : Fld Z h6 a "com/example/dircred/dircred/credential/DerReader" "bytes" "[B" (.ref b) := Fld.keep Fb'h4 Kh6c (ninS (Nat.ne_of_lt la_a5) nin0)
                            have Fe'h6 : Fld Z h6 a "com/example/dircred/dircred/credential/DerReader" "end" "I" (.int E) := Fld.keep Fe'h4 Kh6c (ninS (Nat.ne_of_lt la_a5) nin0)
                            have A1'h6 : OwA Z h6 b .byte (L.map Value.int) := OwA.keep A1'h4 Kh6c (ninS (Nat.ne_of_lt lb_a5) nin0)
                            have Ba5'h6 : Exa Z h6 a5 "com/example/dircred/dircred/credential/DerReader$Header" := Exa.keep Ba5 Kh6c
                            have hsh6 : n0 ≤ h6.size := Nat.le_trans hsh4 Kh6c.1
                            have Kh6 : Keep h h6 [] := Keep.trans Kh4 Kh6c (allS (Or.inr fra5) all0)
                            show X.G h6 1 3 327 #[.val (.ref a), .val (.int P), .val (.int Q2), .val (.int T), .val (.int L0), .val (.int Ln), .val (.int (1 : Int32)), .val (.long acc), .second, .val (.int (1 : Int32))] [(.ref a5)]
                            refine X.retA (t := (.object "com/example/dircred/dircred/credential/DerReader$Header")) own_d_prog_2_method_20_327 rfl rfl rfl rfl (by decide) (by decide) ?_
                            exact ⟨a5, rfl, Kh6, fra5, Gt, Gs, Gl⟩
                          · omega
                      · omega
                    · omega
                  · omega
              · omega
          · refine X.iloadN (q := 130) own_d_prog_2_method_20_129 rfl rfl ?_
            refine X.bipush (q := 132) (32 : Int32) own_d_prog_2_method_20_130 (by decide) rfl ?_
            refine X.iand (q := 133) own_d_prog_2_method_20_132 rfl ?_
            refine X.nmI (fun t32 ht32 => ?_)
            have ht32_ := own_b5 T (by omega) (by omega)
            rw [← ht32] at ht32_
            clear ht32
            refine X.if_ne (q' := 160) (q := 136) own_d_prog_2_method_20_133 rfl (by decide) rfl (fun c133 => ?_) (fun c133 => ?_)
            · refine X.iconst (q := 161) (-1 : Int32) own_d_prog_2_method_20_160 (by decide) rfl ?_
              refine X.foldI (v := Ln) (Int32.toInt_inj.mp (by omega)) ?_
              refine X.istore (q := 163) (Ls' := #[.val (.ref a), .val (.int P), .val (.int Q1), .val (.int T), .val (.int L0), .val (.int Ln), .unset, .unset, .unset, .unset]) own_d_prog_2_method_20_161 rfl rfl ?_
              refine X.goto (q' := 265) own_d_prog_2_method_20_163 (by decide) ?_
              refine X.iload (q := 267) own_d_prog_2_method_20_265 rfl rfl ?_
              refine X.aloadN (q := 268) own_d_prog_2_method_20_267 rfl rfl rfl ?_
              refine X.getF (q := 271) (host := "") (Or.inl (hw _ (List.mem_of_getElem? (i := 17) rfl))) Via.refl Fe own_d_prog_2_method_20_268 rfl ?_
              refine X.iloadN (q := 272) own_d_prog_2_method_20_271 rfl rfl ?_
              refine X.isub (q := 273) own_d_prog_2_method_20_272 rfl ?_
              refine X.nmI (fun av2 hav2 => ?_)
              have hav2_ : av2.toInt = E.toInt - Q1.toInt := by rw [hav2, Int32.toInt_sub]; exact Int.bmod_eq_of_le (by omega) (by omega)
              clear hav2
              refine X.icmp_le (q' := 297) (q := 276) own_d_prog_2_method_20_273 rfl rfl (by decide) rfl (fun c273 => ?_) (fun c273 => ?_)
              · refine X.iloadN (q := 298) own_d_prog_2_method_20_297 rfl rfl ?_
                refine X.if_ne (q' := 316) (q := 301) own_d_prog_2_method_20_298 rfl (by decide) rfl (fun c298 => ?_) (fun c298 => ?_)
                · refine X.newO (q := 319) (k' := 1) (n' := 3) (hw _ (List.mem_of_getElem? (i := 38) rfl)) (hw _ (List.mem_of_getElem? (i := 39) rfl)) (hw _ (List.mem_of_getElem? (i := 40) rfl)) own_d_prog_2_method_20_316 rfl rfl (by decide) (by decide) rfl (fun h7 a8 ga8 Eh7 Ba8 Da8 => ?_)
                  have la_a8 : a < a8 := by have := Fb.lt; rw [← ga8] at this; exact this
                  have lb_a8 : b < a8 := by have := A1.lt; rw [← ga8] at this; exact this
                  have Fb'h7 : Fld Z h7 a "com/example/dircred/dircred/credential/DerReader" "bytes" "[B" (.ref b) := Fld.ext Eh7 Fb
                  have Fe'h7 : Fld Z h7 a "com/example/dircred/dircred/credential/DerReader" "end" "I" (.int E) := Fld.ext Eh7 Fe
                  have A1'h7 : OwA Z h7 b .byte (L.map Value.int) := OwA.ext (E := Eh7) A1
                  have gea8 : n0 ≤ a8 := by rw [ga8]; exact hn0
                  have hsh7 : n0 ≤ h7.size := Nat.le_trans hn0 Eh7.1
                  have fra8 : h.size ≤ a8 := by rw [ga8]; exact K0.1
                  have Kh7 : Keep h h7 [] := Keep.ext K0 Eh7
                  have Fa8_tag : Fld Z h7 a8 "com/example/dircred/dircred/credential/DerReader$Header" "tag" "I" (.int (0 : Int32)) := Da8 (Or.inr (hw _ (List.mem_of_getElem? (i := 46) rfl))) (ty := .int) (by decide)
                  have Fa8_contentStart : Fld Z h7 a8 "com/example/dircred/dircred/credential/DerReader$Header" "contentStart" "I" (.int (0 : Int32)) := Da8 (Or.inr (hw _ (List.mem_of_getElem? (i := 48) rfl))) (ty := .int) (by decide)
                  have Fa8_length : Fld Z h7 a8 "com/example/dircred/dircred/credential/DerReader$Header" "length" "I" (.int (0 : Int32)) := Da8 (Or.inr (hw _ (List.mem_of_getElem? (i := 50) rfl))) (ty := .int) (by decide)
                  refine X.dup (q := 320) own_d_prog_2_method_20_319 rfl rfl ?_
                  refine X.iloadN (q := 321) own_d_prog_2_method_20_320 rfl rfl ?_
                  refine X.iloadN (q := 322) own_d_prog_2_method_20_321 rfl rfl ?_
                  refine X.foldI (v := S) (Int32.toInt_inj.mp (by omega)) ?_
                  refine X.iload (q := 324) own_d_prog_2_method_20_322 rfl rfl ?_
                  refine X.special (a := a8) (own_hi l Z a0 hw h7 n0 a8 T S Ln hsh7 Ba8 Fa8_tag Fa8_contentStart Fa8_length gea8) rfl (hw _ (List.mem_of_getElem? (i := 41) rfl)) (hw _ (List.mem_of_getElem? (i := 42) rfl)) (hw _ (List.mem_of_getElem? (i := 40) rfl)) (hw _ (List.mem_of_getElem? (i := 43) rfl)) (by decide) own_pd1 (argsL := [(.int T), (.int S), (.int Ln)]) (rest := [(.ref a8)]) rfl rfl rfl (W := 1) (Nat.le_of_eq rfl) rfl (by decide) (by decide) (k' := 1) (n' := 3) rfl rfl (by decide) (by decide) own_d_prog_2_method_20_324 (q := 327) rfl ?_
                  rintro _ h9 ⟨rfl, Kh9c, Gt, Gs, Gl⟩
                  have Fb'h9 : Fld Z h9 a "com/example/dircred/dircred/credential/DerReader" "bytes" "[B" (.ref b) := Fld.keep Fb'h7 Kh9c (ninS (Nat.ne_of_lt la_a8) nin0)
                  have Fe'h9 : Fld Z h9 a "com/example/dircred/dircred/credential/DerReader" "end" "I" (.int E) := Fld.keep Fe'h7 Kh9c (ninS (Nat.ne_of_lt la_a8) nin0)
                  have A1'h9 : OwA Z h9 b .byte (L.map Value.int) := OwA.keep A1'h7 Kh9c (ninS (Nat.ne_of_lt lb_a8) nin0)
                  have Ba8'h9 : Exa Z h9 a8 "com/example/dircred/dircred/credential/DerReader$Header" := Exa.keep Ba8 Kh9c
                  have hsh9 : n0 ≤ h9.size := Nat.le_trans hsh7 Kh9c.1
                  have Kh9 : Keep h h9 [] := Keep.trans Kh7 Kh9c (allS (Or.inr fra8) all0)
                  show X.G h9 1 3 327 #[.val (.ref a), .val (.int P), .val (.int Q1), .val (.int T), .val (.int L0), .val (.int Ln), .unset, .unset, .unset, .unset] [(.ref a8)]
                  refine X.retA (t := (.object "com/example/dircred/dircred/credential/DerReader$Header")) own_d_prog_2_method_20_327 rfl rfl rfl rfl (by decide) (by decide) ?_
                  exact ⟨a8, rfl, Kh9, fra8, Gt, Gs, Gl⟩
                · refine X.iload (q := 303) own_d_prog_2_method_20_301 rfl rfl ?_
                  refine X.if_eq (q' := 316) (q := 306) own_d_prog_2_method_20_303 rfl (by decide) rfl (fun c303 => ?_) (fun c303 => ?_)
                  · refine X.newO (q := 319) (k' := 1) (n' := 3) (hw _ (List.mem_of_getElem? (i := 38) rfl)) (hw _ (List.mem_of_getElem? (i := 39) rfl)) (hw _ (List.mem_of_getElem? (i := 40) rfl)) own_d_prog_2_method_20_316 rfl rfl (by decide) (by decide) rfl (fun h10 a11 ga11 Eh10 Ba11 Da11 => ?_)
                    have la_a11 : a < a11 := by have := Fb.lt; rw [← ga11] at this; exact this
                    have lb_a11 : b < a11 := by have := A1.lt; rw [← ga11] at this; exact this
                    have Fb'h10 : Fld Z h10 a "com/example/dircred/dircred/credential/DerReader" "bytes" "[B" (.ref b) := Fld.ext Eh10 Fb
                    have Fe'h10 : Fld Z h10 a "com/example/dircred/dircred/credential/DerReader" "end" "I" (.int E) := Fld.ext Eh10 Fe
                    have A1'h10 : OwA Z h10 b .byte (L.map Value.int) := OwA.ext (E := Eh10) A1
                    have gea11 : n0 ≤ a11 := by rw [ga11]; exact hn0
                    have hsh10 : n0 ≤ h10.size := Nat.le_trans hn0 Eh10.1
                    have fra11 : h.size ≤ a11 := by rw [ga11]; exact K0.1
                    have Kh10 : Keep h h10 [] := Keep.ext K0 Eh10
                    have Fa11_tag : Fld Z h10 a11 "com/example/dircred/dircred/credential/DerReader$Header" "tag" "I" (.int (0 : Int32)) := Da11 (Or.inr (hw _ (List.mem_of_getElem? (i := 46) rfl))) (ty := .int) (by decide)
                    have Fa11_contentStart : Fld Z h10 a11 "com/example/dircred/dircred/credential/DerReader$Header" "contentStart" "I" (.int (0 : Int32)) := Da11 (Or.inr (hw _ (List.mem_of_getElem? (i := 48) rfl))) (ty := .int) (by decide)
                    have Fa11_length : Fld Z h10 a11 "com/example/dircred/dircred/credential/DerReader$Header" "length" "I" (.int (0 : Int32)) := Da11 (Or.inr (hw _ (List.mem_of_getElem? (i := 50) rfl))) (ty := .int) (by decide)
                    refine X.dup (q := 320) own_d_prog_2_method_20_319 rfl rfl ?_
                    refine X.iloadN (q := 321) own_d_prog_2_method_20_320 rfl rfl ?_
                    refine X.iloadN (q := 322) own_d_prog_2_method_20_321 rfl rfl ?_
                    refine X.foldI (v := S) (Int32.toInt_inj.mp (by omega)) ?_
                    refine X.iload (q := 324) own_d_prog_2_method_20_322 rfl rfl ?_
                    refine X.special (a := a11) (own_hi l Z a0 hw h10 n0 a11 T S Ln hsh10 Ba11 Fa11_tag Fa11_contentStart Fa11_length gea11) rfl (hw _ (List.mem_of_getElem? (i := 41) rfl)) (hw _ (List.mem_of_getElem? (i := 42) rfl)) (hw _ (List.mem_of_getElem? (i := 40) rfl)) (hw _ (List.mem_of_getElem? (i := 43) rfl)) (by decide) own_pd1 (argsL := [(.int T), (.int S), (.int Ln)]) (rest := [(.ref a11)]) rfl rfl rfl (W := 1) (Nat.le_of_eq rfl) rfl (by decide) (by decide) (k' := 1) (n' := 3) rfl rfl (by decide) (by decide) own_d_prog_2_method_20_324 (q := 327) rfl ?_
                    rintro _ h12 ⟨rfl, Kh12c, Gt, Gs, Gl⟩
                    have Fb'h12 : Fld Z h12 a "com/example/dircred/dircred/credential/DerReader" "bytes" "[B" (.ref b) := Fld.keep Fb'h10 Kh12c (ninS (Nat.ne_of_lt la_a11) nin0)
                    have Fe'h12 : Fld Z h12 a "com/example/dircred/dircred/credential/DerReader" "end" "I" (.int E) := Fld.keep Fe'h10 Kh12c (ninS (Nat.ne_of_lt la_a11) nin0)
                    have A1'h12 : OwA Z h12 b .byte (L.map Value.int) := OwA.keep A1'h10 Kh12c (ninS (Nat.ne_of_lt lb_a11) nin0)
                    have Ba11'h12 : Exa Z h12 a11 "com/example/dircred/dircred/credential/DerReader$Header" := Exa.keep Ba11 Kh12c
                    have hsh12 : n0 ≤ h12.size := Nat.le_trans hsh10 Kh12c.1
                    have Kh12 : Keep h h12 [] := Keep.trans Kh10 Kh12c (allS (Or.inr fra11) all0)
                    show X.G h12 1 3 327 #[.val (.ref a), .val (.int P), .val (.int Q1), .val (.int T), .val (.int L0), .val (.int Ln), .unset, .unset, .unset, .unset] [(.ref a11)]
                    refine X.retA (t := (.object "com/example/dircred/dircred/credential/DerReader$Header")) own_d_prog_2_method_20_327 rfl rfl rfl rfl (by decide) (by decide) ?_
                    exact ⟨a11, rfl, Kh12, fra11, Gt, Gs, Gl⟩
                  · omega
              · omega
            · omega
        · refine X.iload (q := 116) own_d_prog_2_method_20_114 rfl rfl ?_
          refine X.foldI (v := Ln) (Int32.toInt_inj.mp (by omega)) ?_
          refine X.istore (q := 118) (Ls' := #[.val (.ref a), .val (.int P), .val (.int Q1), .val (.int T), .val (.int L0), .val (.int Ln), .unset, .unset, .unset, .unset]) own_d_prog_2_method_20_116 rfl rfl ?_
          refine X.goto (q' := 265) own_d_prog_2_method_20_118 (by decide) ?_
          refine X.iload (q := 267) own_d_prog_2_method_20_265 rfl rfl ?_
          refine X.aloadN (q := 268) own_d_prog_2_method_20_267 rfl rfl rfl ?_
          refine X.getF (q := 271) (host := "") (Or.inl (hw _ (List.mem_of_getElem? (i := 17) rfl))) Via.refl Fe own_d_prog_2_method_20_268 rfl ?_
          refine X.iloadN (q := 272) own_d_prog_2_method_20_271 rfl rfl ?_
          refine X.isub (q := 273) own_d_prog_2_method_20_272 rfl ?_
          refine X.nmI (fun av2 hav2 => ?_)
          have hav2_ : av2.toInt = E.toInt - Q1.toInt := by rw [hav2, Int32.toInt_sub]; exact Int.bmod_eq_of_le (by omega) (by omega)
          clear hav2
          refine X.icmp_le (q' := 297) (q := 276) own_d_prog_2_method_20_273 rfl rfl (by decide) rfl (fun c273 => ?_) (fun c273 => ?_)
          · refine X.iloadN (q := 298) own_d_prog_2_method_20_297 rfl rfl ?_
            refine X.if_ne (q' := 316) (q := 301) own_d_prog_2_method_20_298 rfl (by decide) rfl (fun c298 => ?_) (fun c298 => ?_)
            · refine X.newO (q := 319) (k' := 1) (n' := 3) (hw _ (List.mem_of_getElem? (i := 38) rfl)) (hw _ (List.mem_of_getElem? (i := 39) rfl)) (hw _ (List.mem_of_getElem? (i := 40) rfl)) own_d_prog_2_method_20_316 rfl rfl (by decide) (by decide) rfl (fun h13 a14 ga14 Eh13 Ba14 Da14 => ?_)
              have la_a14 : a < a14 := by have := Fb.lt; rw [← ga14] at this; exact this
              have lb_a14 : b < a14 := by have := A1.lt; rw [← ga14] at this; exact this
              have Fb'h13 : Fld Z h13 a "com/example/dircred/dircred/credential/DerReader" "bytes" "[B" (.ref b) := Fld.ext Eh13 Fb
              have Fe'h13 : Fld Z h13 a "com/example/dircred/dircred/credential/DerReader" "end" "I" (.int E) := Fld.ext Eh13 Fe
              have A1'h13 : OwA Z h13 b .byte (L.map Value.int) := OwA.ext (E := Eh13) A1
              have gea14 : n0 ≤ a14 := by rw [ga14]; exact hn0
              have hsh13 : n0 ≤ h13.size := Nat.le_trans hn0 Eh13.1
              have fra14 : h.size ≤ a14 := by rw [ga14]; exact K0.1
              have Kh13 : Keep h h13 [] := Keep.ext K0 Eh13
              have Fa14_tag : Fld Z h13 a14 "com/example/dircred/dircred/credential/DerReader$Header" "tag" "I" (.int (0 : Int32)) := Da14 (Or.inr (hw _ (List.mem_of_getElem? (i := 46) rfl))) (ty := .int) (by decide)
              have Fa14_contentStart : Fld Z h13 a14 "com/example/dircred/dircred/credential/DerReader$Header" "contentStart" "I" (.int (0 : Int32)) := Da14 (Or.inr (hw _ (List.mem_of_getElem? (i := 48) rfl))) (ty := .int) (by decide)
              have Fa14_length : Fld Z h13 a14 "com/example/dircred/dircred/credential/DerReader$Header" "length" "I" (.int (0 : Int32)) := Da14 (Or.inr (hw _ (List.mem_of_getElem? (i := 50) rfl))) (ty := .int) (by decide)
              refine X.dup (q := 320) own_d_prog_2_method_20_319 rfl rfl ?_
              refine X.iloadN (q := 321) own_d_prog_2_method_20_320 rfl rfl ?_
              refine X.iloadN (q := 322) own_d_prog_2_method_20_321 rfl rfl ?_
              refine X.foldI (v := S) (Int32.toInt_inj.mp (by omega)) ?_
              refine X.iload (q := 324) own_d_prog_2_method_20_322 rfl rfl ?_
              refine X.special (a := a14) (own_hi l Z a0 hw h13 n0 a14 T S Ln hsh13 Ba14 Fa14_tag Fa14_contentStart Fa14_length gea14) rfl (hw _ (List.mem_of_getElem? (i := 41) rfl)) (hw _ (List.mem_of_getElem? (i := 42) rfl)) (hw _ (List.mem_of_getElem? (i := 40) rfl)) (hw _ (List.mem_of_getElem? (i := 43) rfl)) (by decide) own_pd1 (argsL := [(.int T), (.int S), (.int Ln)]) (rest := [(.ref a14)]) rfl rfl rfl (W := 1) (Nat.le_of_eq rfl) rfl (by decide) (by decide) (k' := 1) (n' := 3) rfl rfl (by decide) (by decide) own_d_prog_2_method_20_324 (q := 327) rfl ?_
              rintro _ h15 ⟨rfl, Kh15c, Gt, Gs, Gl⟩
              have Fb'h15 : Fld Z h15 a "com/example/dircred/dircred/credential/DerReader" "bytes" "[B" (.ref b) := Fld.keep Fb'h13 Kh15c (ninS (Nat.ne_of_lt la_a14) nin0)
              have Fe'h15 : Fld Z h15 a "com/example/dircred/dircred/credential/DerReader" "end" "I" (.int E) := Fld.keep Fe'h13 Kh15c (ninS (Nat.ne_of_lt la_a14) nin0)
              have A1'h15 : OwA Z h15 b .byte (L.map Value.int) := OwA.keep A1'h13 Kh15c (ninS (Nat.ne_of_lt lb_a14) nin0)
              have Ba14'h15 : Exa Z h15 a14 "com/example/dircred/dircred/credential/DerReader$Header" := Exa.keep Ba14 Kh15c
              have hsh15 : n0 ≤ h15.size := Nat.le_trans hsh13 Kh15c.1
              have Kh15 : Keep h h15 [] := Keep.trans Kh13 Kh15c (allS (Or.inr fra14) all0)
              show X.G h15 1 3 327 #[.val (.ref a), .val (.int P), .val (.int Q1), .val (.int T), .val (.int L0), .val (.int Ln), .unset, .unset, .unset, .unset] [(.ref a14)]
              refine X.retA (t := (.object "com/example/dircred/dircred/credential/DerReader$Header")) own_d_prog_2_method_20_327 rfl rfl rfl rfl (by decide) (by decide) ?_
              exact ⟨a14, rfl, Kh15, fra14, Gt, Gs, Gl⟩
            · refine X.iload (q := 303) own_d_prog_2_method_20_301 rfl rfl ?_
              refine X.if_eq (q' := 316) (q := 306) own_d_prog_2_method_20_303 rfl (by decide) rfl (fun c303 => ?_) (fun c303 => ?_)
              · refine X.newO (q := 319) (k' := 1) (n' := 3) (hw _ (List.mem_of_getElem? (i := 38) rfl)) (hw _ (List.mem_of_getElem? (i := 39) rfl)) (hw _ (List.mem_of_getElem? (i := 40) rfl)) own_d_prog_2_method_20_316 rfl rfl (by decide) (by decide) rfl (fun h16 a17 ga17 Eh16 Ba17 Da17 => ?_)
                have la_a17 : a < a17 := by have := Fb.lt; rw [← ga17] at this; exact this
                have lb_a17 : b < a17 := by have := A1.lt; rw [← ga17] at this; exact this
                have Fb'h16 : Fld Z h16 a "com/example/dircred/dircred/credential/DerReader" "bytes" "[B" (.ref b) := Fld.ext Eh16 Fb
                have Fe'h16 : Fld Z h16 a "com/example/dircred/dircred/credential/DerReader" "end" "I" (.int E) := Fld.ext Eh16 Fe
                have A1'h16 : OwA Z h16 b .byte (L.map Value.int) := OwA.ext (E := Eh16) A1
                have gea17 : n0 ≤ a17 := by rw [ga17]; exact hn0
                have hsh16 : n0 ≤ h16.size := Nat.le_trans hn0 Eh16.1
                have fra17 : h.size ≤ a17 := by rw [ga17]; exact K0.1
                have Kh16 : Keep h h16 [] := Keep.ext K0 Eh16
                have Fa17_tag : Fld Z h16 a17 "com/example/dircred/dircred/credential/DerReader$Header" "tag" "I" (.int (0 : Int32)) := Da17 (Or.inr (hw _ (List.mem_of_getElem? (i := 46) rfl))) (ty := .int) (by decide)
                have Fa17_contentStart : Fld Z h16 a17 "com/example/dircred/dircred/credential/DerReader$Header" "contentStart" "I" (.int (0 : Int32)) := Da17 (Or.inr (hw _ (List.mem_of_getElem? (i := 48) rfl))) (ty := .int) (by decide)
                have Fa17_length : Fld Z h16 a17 "com/example/dircred/dircred/credential/DerReader$Header" "length" "I" (.int (0 : Int32)) := Da17 (Or.inr (hw _ (List.mem_of_getElem? (i := 50) rfl))) (ty := .int) (by decide)
                refine X.dup (q := 320) own_d_prog_2_method_20_319 rfl rfl ?_
                refine X.iloadN (q := 321) own_d_prog_2_method_20_320 rfl rfl ?_
                refine X.iloadN (q := 322) own_d_prog_2_method_20_321 rfl rfl ?_
                refine X.foldI (v := S) (Int32.toInt_inj.mp (by omega)) ?_
                refine X.iload (q := 324) own_d_prog_2_method_20_322 rfl rfl ?_
                refine X.special (a := a17) (own_hi l Z a0 hw h16 n0 a17 T S Ln hsh16 Ba17 Fa17_tag Fa17_contentStart Fa17_length gea17) rfl (hw _ (List.mem_of_getElem? (i := 41) rfl)) (hw _ (List.mem_of_getElem? (i := 42) rfl)) (hw _ (List.mem_of_getElem? (i := 40) rfl)) (hw _ (List.mem_of_getElem? (i := 43) rfl)) (by decide) own_pd1 (argsL := [(.int T), (.int S), (.int Ln)]) (rest := [(.ref a17)]) rfl rfl rfl (W := 1) (Nat.le_of_eq rfl) rfl (by decide) (by decide) (k' := 1) (n' := 3) rfl rfl (by decide) (by decide) own_d_prog_2_method_20_324 (q := 327) rfl ?_
                rintro _ h18 ⟨rfl, Kh18c, Gt, Gs, Gl⟩
                have Fb'h18 : Fld Z h18 a "com/example/dircred/dircred/credential/DerReader" "bytes" "[B" (.ref b) := Fld.keep Fb'h16 Kh18c (ninS (Nat.ne_of_lt la_a17) nin0)
                have Fe'h18 : Fld Z h18 a "com/example/dircred/dircred/credential/DerReader" "end" "I" (.int E) := Fld.keep Fe'h16 Kh18c (ninS (Nat.ne_of_lt la_a17) nin0)
                have A1'h18 : OwA Z h18 b .byte (L.map Value.int) := OwA.keep A1'h16 Kh18c (ninS (Nat.ne_of_lt lb_a17) nin0)
                have Ba17'h18 : Exa Z h18 a17 "com/example/dircred/dircred/credential/DerReader$Header" := Exa.keep Ba17 Kh18c
                have hsh18 : n0 ≤ h18.size := Nat.le_trans hsh16 Kh18c.1
                have Kh18 : Keep h h18 [] := Keep.trans Kh16 Kh18c (allS (Or.inr fra17) all0)
                show X.G h18 1 3 327 #[.val (.ref a), .val (.int P), .val (.int Q1), .val (.int T), .val (.int L0), .val (.int Ln), .unset, .unset, .unset, .unset] [(.ref a17)]
                refine X.retA (t := (.object "com/example/dircred/dircred/credential/DerReader$Header")) own_d_prog_2_method_20_327 rfl rfl rfl rfl (by decide) (by decide) ?_
                exact ⟨a17, rfl, Kh18, fra17, Gt, Gs, Gl⟩
              · omega
          · omega
      · omega
    refine X.iloadN (q := 35) own_d_prog_2_method_20_34 rfl rfl ?_
    refine X.bipush (q := 37) (31 : Int32) own_d_prog_2_method_20_35 (by decide) rfl ?_
    refine X.iand (q := 38) own_d_prog_2_method_20_37 rfl ?_
    refine X.nmI (fun t31 ht31 => ?_)
    have ht31_ : t31.toInt = T.toInt % 32 := by rw [ht31, Jvm.Kit.i32_mask (k := 5) _ _ (by decide) (by decide)]; rfl
    clear ht31
    refine X.bipush (q := 40) (31 : Int32) own_d_prog_2_method_20_38 (by decide) rfl ?_
    refine X.icmp_ne (b := 31) (q' := 73) (q := 43) own_d_prog_2_method_20_40 rfl rfl (by decide) rfl (fun c40 => ?_) (fun c40 => ?_)
    · exact J73 _ (by first | omega | (rw [own_add (b := 1) rfl (by omega) (by omega)]; omega))
    · refine X.iloadN (q := 44) own_d_prog_2_method_20_43 rfl rfl ?_
      refine X.aloadN (q := 45) own_d_prog_2_method_20_44 rfl rfl rfl ?_
      refine X.getF (q := 48) (host := "") (Or.inl (hw _ (List.mem_of_getElem? (i := 17) rfl))) Via.refl Fe own_d_prog_2_method_20_45 rfl ?_
      refine X.icmp_ge (q' := 70) (q := 51) own_d_prog_2_method_20_48 rfl rfl (by decide) rfl (fun c48 => ?_) (fun c48 => ?_)
      · omega
      · refine X.aloadN (q := 52) own_d_prog_2_method_20_51 rfl rfl rfl ?_
        refine X.getF (q := 55) (host := "") (Or.inl (hw _ (List.mem_of_getElem? (i := 13) rfl))) Via.refl Fb own_d_prog_2_method_20_52 rfl ?_
        refine X.iloadN (q := 56) own_d_prog_2_method_20_55 rfl rfl ?_
        refine X.baload (q := 57) (j := p + 1) (v := (.int (L.getD (p + 1) 0))) A1 hP1_ (own_hB L _ (by omega)) own_d_prog_2_method_20_56 rfl ?_
        refine X.sipush (q := 60) (128 : Int32) own_d_prog_2_method_20_57 (by decide) rfl ?_
        refine X.iand (q := 61) own_d_prog_2_method_20_60 rfl ?_
        refine X.nmI (fun b7P1 hb7P1 => ?_)
        have hb7P1_ := own_b7 (L.getD (p + 1) 0) (own_rng hr _).1 (own_rng hr _).2
        rw [← hb7P1] at hb7P1_
        clear hb7P1
        refine X.if_eq (q' := 70) (q := 64) own_d_prog_2_method_20_61 rfl (by decide) rfl (fun c61 => ?_) (fun c61 => ?_)
        · refine X.iinc (q := 73) (Ls' := #[.val (.ref a), .val (.int P), .val (.int (P1 + (1 : Int32))), .val (.int T), .unset, .unset, .unset, .unset, .unset, .unset]) (1 : Int32) own_d_prog_2_method_20_70 (by decide) rfl rfl rfl ?_
          exact J73 _ (by first | omega | (rw [own_add (b := 1) rfl (by omega) (by omega)]; omega))
        · refine X.iinc (q := 67) (Ls' := #[.val (.ref a), .val (.int P), .val (.int (P1 + (1 : Int32))), .val (.int T), .unset, .unset, .unset, .unset, .unset, .unset]) (1 : Int32) own_d_prog_2_method_20_64 (by decide) rfl rfl rfl ?_
          have hP2_ : (P1 + (1 : Int32)).toInt = P1.toInt + 1 := own_add (b := 1) rfl (by omega) (by omega)
          obtain ⟨P2, hdP2⟩ : ∃ v_ : Int32, v_ = (P1 + (1 : Int32)) := ⟨_, rfl⟩
          rw [← hdP2]
          rw [← hdP2] at hP2_
          clear hdP2
          have hP2_ : P2.toInt = ((p + 2 : Nat) : Int) := by omega
          refine X.goto (q' := 43) own_d_prog_2_method_20_67 (by decide) ?_
          refine X.iloadN (q := 44) own_d_prog_2_method_20_43 rfl rfl ?_
          refine X.aloadN (q := 45) own_d_prog_2_method_20_44 rfl rfl rfl ?_
          refine X.getF (q := 48) (host := "") (Or.inl (hw _ (List.mem_of_getElem? (i := 17) rfl))) Via.refl Fe own_d_prog_2_method_20_45 rfl ?_
          refine X.icmp_ge (q' := 70) (q := 51) own_d_prog_2_method_20_48 rfl rfl (by decide) rfl (fun c48 => ?_) (fun c48 => ?_)
          · omega
          · refine X.aloadN (q := 52) own_d_prog_2_method_20_51 rfl rfl rfl ?_
            refine X.getF (q := 55) (host := "") (Or.inl (hw _ (List.mem_of_getElem? (i := 13) rfl))) Via.refl Fb own_d_prog_2_method_20_52 rfl ?_
            refine X.iloadN (q := 56) own_d_prog_2_method_20_55 rfl rfl ?_
            refine X.baload (q := 57) (j := p + 2) (v := (.int (L.getD (p + 2) 0))) A1 hP2_ (own_hB L _ (by omega)) own_d_prog_2_method_20_56 rfl ?_
            refine X.sipush (q := 60) (128 : Int32) own_d_prog_2_method_20_57 (by decide) rfl ?_
            refine X.iand (q := 61) own_d_prog_2_method_20_60 rfl ?_
            refine X.nmI (fun b7P2 hb7P2 => ?_)
            have hb7P2_ := own_b7 (L.getD (p + 2) 0) (own_rng hr _).1 (own_rng hr _).2
            rw [← hb7P2] at hb7P2_
            clear hb7P2
            refine X.if_eq (q' := 70) (q := 64) own_d_prog_2_method_20_61 rfl (by decide) rfl (fun c61 => ?_) (fun c61 => ?_)
            · refine X.iinc (q := 73) (Ls' := #[.val (.ref a), .val (.int P), .val (.int (P2 + (1 : Int32))), .val (.int T), .unset, .unset, .unset, .unset, .unset, .unset]) (1 : Int32) own_d_prog_2_method_20_70 (by decide) rfl rfl rfl ?_
              exact J73 _ (by first | omega | (rw [own_add (b := 1) rfl (by omega) (by omega)]; omega))
            · omega
  · omega
theorem own_d_prog_2_method_18_0 : decode prog_2_method_18_code 0 = .ok (.aload_n 0, 1) := by decide +kernel
theorem own_d_prog_2_method_18_1 : decode prog_2_method_18_code 1 = .ok (.aload_n 0, 1) := by decide +kernel
theorem own_d_prog_2_method_18_2 : decode prog_2_method_18_code 2 = .ok (.getfield 16, 3) := by decide +kernel
theorem own_d_prog_2_method_18_5 : decode prog_2_method_18_code 5 = .ok (.invokevirtual 35, 3) := by decide +kernel
theorem own_pd2 : parseMethodDescriptor "(I)Lcom/example/dircred/dircred/credential/DerReader$Header;" = some ⟨[.int], some (.object "com/example/dircred/dircred/credential/DerReader$Header")⟩ := by decide +kernel
theorem own_d_prog_2_method_18_8 : decode prog_2_method_18_code 8 = .ok (.astore_n 1, 1) := by decide +kernel
theorem own_d_prog_2_method_18_9 : decode prog_2_method_18_code 9 = .ok (.aload_n 1, 1) := by decide +kernel
theorem own_d_prog_2_method_18_10 : decode prog_2_method_18_code 10 = .ok (.getfield 140, 3) := by decide +kernel
theorem own_d_prog_2_method_18_13 : decode prog_2_method_18_code 13 = .ok (.ifCond .lt 36, 3) := by decide +kernel
theorem own_d_prog_2_method_18_16 : decode prog_2_method_18_code 16 = .ok (.aload_n 1, 1) := by decide +kernel
theorem own_d_prog_2_method_18_17 : decode prog_2_method_18_code 17 = .ok (.getfield 142, 3) := by decide +kernel
theorem own_d_prog_2_method_18_20 : decode prog_2_method_18_code 20 = .ok (.aload_n 1, 1) := by decide +kernel
theorem own_d_prog_2_method_18_21 : decode prog_2_method_18_code 21 = .ok (.getfield 140, 3) := by decide +kernel
theorem own_d_prog_2_method_18_24 : decode prog_2_method_18_code 24 = .ok (.iadd, 1) := by decide +kernel
theorem own_d_prog_2_method_18_25 : decode prog_2_method_18_code 25 = .ok (.istore_n 2, 1) := by decide +kernel
theorem own_d_prog_2_method_18_26 : decode prog_2_method_18_code 26 = .ok (.aload_n 0, 1) := by decide +kernel
theorem own_d_prog_2_method_18_27 : decode prog_2_method_18_code 27 = .ok (.iload_n 2, 1) := by decide +kernel
theorem own_d_prog_2_method_18_28 : decode prog_2_method_18_code 28 = .ok (.putfield 16, 3) := by decide +kernel
theorem own_d_prog_2_method_18_31 : decode prog_2_method_18_code 31 = .ok (.new 57, 3) := by decide +kernel
theorem own_d_prog_2_method_18_34 : decode prog_2_method_18_code 34 = .ok (.dup, 1) := by decide +kernel
theorem own_d_prog_2_method_18_35 : decode prog_2_method_18_code 35 = .ok (.aload_n 1, 1) := by decide +kernel
theorem own_d_prog_2_method_18_36 : decode prog_2_method_18_code 36 = .ok (.getfield 39, 3) := by decide +kernel
theorem own_d_prog_2_method_18_39 : decode prog_2_method_18_code 39 = .ok (.aload_n 1, 1) := by decide +kernel
theorem own_d_prog_2_method_18_40 : decode prog_2_method_18_code 40 = .ok (.getfield 142, 3) := by decide +kernel
theorem own_d_prog_2_method_18_43 : decode prog_2_method_18_code 43 = .ok (.iload_n 2, 1) := by decide +kernel
theorem own_d_prog_2_method_18_44 : decode prog_2_method_18_code 44 = .ok (.iload_n 2, 1) := by decide +kernel
theorem own_d_prog_2_method_18_45 : decode prog_2_method_18_code 45 = .ok (.invokespecial 143, 3) := by decide +kernel
theorem own_pd3 : parseMethodDescriptor "(IIII)V" = some ⟨[.int, .int, .int, .int], none⟩ := by decide +kernel
theorem own_d_prog_2_method_18_48 : decode prog_2_method_18_code 48 = .ok (.areturn, 1) := by decide +kernel
def own_rm_own_next : Room := ({ frames := 3, cells := 2, slots := 7, locals := 49 } : Room)
set_option maxRecDepth 65536 in
set_option maxHeartbeats 1000000 in
theorem own_next (l : Launch) (Z : State) (a0 : Array Value) (hw : ∀ d ∈ tables_1, d.before a0 Z = true) (h : Heap) (n0 : Nat) (a b : Addr) (L : List Int32) (P E : Int32) (p : Nat) (T : Int32) (q s : Nat) (S Ln : Int32) (hr : ∀ x ∈ L, -128 ≤ x.toInt ∧ x.toInt ≤ 127) (hE : E.toInt = (L.length : Int)) (hN : L.length < 1000) (hP : P.toInt = (p : Int)) (H : own_hdr L p T q s S Ln) (E2 : Int32) (hE2 : E2.toInt = (s : Int) + Ln.toInt) (hLn : 0 ≤ Ln.toInt)  (hn0 : n0 ≤ h.size) (B : Exa Z h a "com/example/dircred/dircred/credential/DerReader") (Fb : Fld Z h a "com/example/dircred/dircred/credential/DerReader" "bytes" "[B" (.ref b)) (Fp : Fld Z h a "com/example/dircred/dircred/credential/DerReader" "position" "I" (.int P)) (Fe : Fld Z h a "com/example/dircred/dircred/credential/DerReader" "end" "I" (.int E)) (A1 : OwA Z h b .byte (L.map Value.int)) (gea : n0 ≤ a) (neab : a ≠ b) :
    OwM l Z (⟨"com/example/dircred/dircred/credential/DerReader", "next", "()Lcom/example/dircred/dircred/credential/DerReader$Value;"⟩ : MethodName) prog_2_method_18_code 5 (some (.object "com/example/dircred/dircred/credential/DerReader$Value")) own_rm_own_next 2 7 [] #[(.ref a)] h n0 (fun r h' => ∃ b', r = some (.ref b') ∧ Keep h h' [a] ∧ h.size ≤ b' ∧ Fld Z h' b' "com/example/dircred/dircred/credential/DerReader$Value" "tag" "I" (.int T) ∧ Fld Z h' b' "com/example/dircred/dircred/credential/DerReader$Value" "contentStart" "I" (.int S) ∧ Fld Z h' b' "com/example/dircred/dircred/credential/DerReader$Value" "contentEnd" "I" (.int E2) ∧ Fld Z h' b' "com/example/dircred/dircred/credential/DerReader$Value" "end" "I" (.int E2) ∧ Fld Z h' a "com/example/dircred/dircred/credential/DerReader" "bytes" "[B" (.ref b) ∧ Fld Z h' a "com/example/dircred/dircred/credential/DerReader" "position" "I" (.int E2) ∧ Fld Z h' a "com/example/dircred/dircred/credential/DerReader" "end" "I" (.int E)) := by
  refine OwM.of (Ls := #[.val (.ref a), .unset, .unset, .unset, .unset]) (by decide +kernel) (fun m => by first | (simp [entryFrame, mkF, argsToLocals, Value.category]; done) | rfl) ?_
  intro _ _ _ _ _ _ _ X
  have K0 : Keep h h [a] := Keep.refl _ _
  have H5 : S.toInt = (s : Int) := H.2.2.2.2.1
  have H7 : Ln.toInt ≤ (L.length : Int) - s := H.2.2.2.2.2.2.1
  refine X.aloadN (q := 1) own_d_prog_2_method_18_0 rfl rfl rfl ?_
  refine X.aloadN (q := 2) own_d_prog_2_method_18_1 rfl rfl rfl ?_
  refine X.getF (q := 5) (host := "") (Or.inl (hw _ (List.mem_of_getElem? (i := 15) rfl))) Via.refl Fp own_d_prog_2_method_18_2 rfl ?_
  refine X.private (a := a) (own_header l Z a0 hw h n0 a b L P E p T q s S Ln hr hE hN hP H hn0 Fb Fe A1) (hw _ (List.mem_of_getElem? (i := 34) rfl)) (hw _ (List.mem_of_getElem? (i := 35) rfl)) (hw _ (List.mem_of_getElem? (i := 36) rfl)) (hw _ (List.mem_of_getElem? (i := 1) rfl)) (hw _ (List.mem_of_getElem? (i := 2) rfl)) (hw _ (List.mem_of_getElem? (i := 37) rfl)) (by decide) B own_pd2 (argsL := [(.int P)]) (rest := []) rfl rfl rfl (W := 0) (Nat.le_of_eq rfl) rfl (by decide) (by decide) (k' := 1) (n' := 3) rfl rfl (by decide) (by decide) own_d_prog_2_method_18_5 (q := 8) rfl ?_
  rintro _ h1 ⟨hb, rfl, Kh1c, frhb, Ghbt, Ghbs, Ghbl⟩
  have B'h1 : Exa Z h1 a "com/example/dircred/dircred/credential/DerReader" := Exa.keep B Kh1c
  have Fb'h1 : Fld Z h1 a "com/example/dircred/dircred/credential/DerReader" "bytes" "[B" (.ref b) := Fld.keep Fb Kh1c nin0
  have Fp'h1 : Fld Z h1 a "com/example/dircred/dircred/credential/DerReader" "position" "I" (.int P) := Fld.keep Fp Kh1c nin0
  have Fe'h1 : Fld Z h1 a "com/example/dircred/dircred/credential/DerReader" "end" "I" (.int E) := Fld.keep Fe Kh1c nin0
  have A1'h1 : OwA Z h1 b .byte (L.map Value.int) := OwA.keep A1 Kh1c nin0
  have hsh1 : n0 ≤ h1.size := Nat.le_trans hn0 Kh1c.1
  have Kh1 : Keep h h1 [a] := Keep.trans K0 Kh1c all0
  show X.G h1 1 3 8 #[.val (.ref a), .unset, .unset, .unset, .unset] [(.ref hb)]
  have lahb : a < hb := Nat.lt_of_lt_of_le B.lt frhb
  have lbhb : b < hb := Nat.lt_of_lt_of_le A1.lt frhb
  have fr0hb : h.size ≤ hb := Nat.le_trans K0.1 frhb
  have gehb : n0 ≤ hb := Nat.le_trans hn0 frhb
  refine X.astoreN (q := 9) (Ls' := #[.val (.ref a), .val (.ref hb), .unset, .unset, .unset]) own_d_prog_2_method_18_8 rfl rfl rfl ?_
  refine X.aloadN (q := 10) own_d_prog_2_method_18_9 rfl rfl rfl ?_
  refine X.getR (q := 13) (hw _ (List.mem_of_getElem? (i := 51) rfl)) Ghbl own_d_prog_2_method_18_10 rfl ?_
  refine X.if_lt (q' := 49) (q := 16) own_d_prog_2_method_18_13 rfl (by decide) rfl (fun c13 => ?_) (fun c13 => ?_)
  · omega
  · refine X.aloadN (q := 17) own_d_prog_2_method_18_16 rfl rfl rfl ?_
    refine X.getR (q := 20) (hw _ (List.mem_of_getElem? (i := 52) rfl)) Ghbs own_d_prog_2_method_18_17 rfl ?_
    refine X.aloadN (q := 21) own_d_prog_2_method_18_20 rfl rfl rfl ?_
    refine X.getR (q := 24) (hw _ (List.mem_of_getElem? (i := 51) rfl)) Ghbl own_d_prog_2_method_18_21 rfl ?_
    refine X.iadd (q := 25) own_d_prog_2_method_18_24 rfl ?_
    refine X.foldI (v := E2) (Int32.toInt_inj.mp (by rw [own_add rfl (by omega) (by omega)]; omega)) ?_
    refine X.istoreN (q := 26) (Ls' := #[.val (.ref a), .val (.ref hb), .val (.int E2), .unset, .unset]) own_d_prog_2_method_18_25 rfl rfl ?_
    refine X.aloadN (q := 27) own_d_prog_2_method_18_26 rfl rfl rfl ?_
    refine X.iloadN (q := 28) own_d_prog_2_method_18_27 rfl rfl ?_
    refine X.putF (q := 31) (host := "") (Or.inl (hw _ (List.mem_of_getElem? (i := 15) rfl))) Via.refl Fp'h1 B'h1 (Or.inl (hw _ (List.mem_of_getElem? (i := 16) rfl))) (hw _ (List.mem_of_getElem? (i := 1) rfl)) (ty := .int) (by decide) rfl rfl gea own_d_prog_2_method_18_28 rfl (fun h2 Wh2 => ?_)
    have B'h2 : Exa Z h2 a "com/example/dircred/dircred/credential/DerReader" := Exa.wr Wh2 B'h1
    have Fb'h2 : Fld Z h2 a "com/example/dircred/dircred/credential/DerReader" "bytes" "[B" (.ref b) := Fld.other Wh2 Fb'h1 (Or.inr (slot_ne (Or.inr (hw _ (List.mem_of_getElem? (i := 14) rfl))) (Or.inl (hw _ (List.mem_of_getElem? (i := 16) rfl))) (by decide) (ht := (by decide : _ = some (.array .byte))) (ht' := (by decide : _ = some .int))))
    have Fp'h2 : Fld Z h2 a "com/example/dircred/dircred/credential/DerReader" "position" "I" (.int E2) := Fld.same Wh2 Fp'h1
    have Fe'h2 : Fld Z h2 a "com/example/dircred/dircred/credential/DerReader" "end" "I" (.int E) := Fld.other Wh2 Fe'h1 (Or.inr (slot_ne (Or.inr (hw _ (List.mem_of_getElem? (i := 18) rfl))) (Or.inl (hw _ (List.mem_of_getElem? (i := 16) rfl))) (by decide) (ht := (by decide : _ = some .int)) (ht' := (by decide : _ = some .int))))
    have A1'h2 : OwA Z h2 b .byte (L.map Value.int) := OwA.other A1'h1 Wh2 (Ne.symm neab)
    have Ghbt'h2 : Fld Z h2 hb "com/example/dircred/dircred/credential/DerReader$Header" "tag" "I" (.int T) := Fld.other Wh2 Ghbt (Or.inl (Nat.ne_of_gt lahb))
    have Ghbs'h2 : Fld Z h2 hb "com/example/dircred/dircred/credential/DerReader$Header" "contentStart" "I" (.int S) := Fld.other Wh2 Ghbs (Or.inl (Nat.ne_of_gt lahb))
    have Ghbl'h2 : Fld Z h2 hb "com/example/dircred/dircred/credential/DerReader$Header" "length" "I" (.int Ln) := Fld.other Wh2 Ghbl (Or.inl (Nat.ne_of_gt lahb))
    have hsh2 : n0 ≤ h2.size := by rw [Wr.size Wh2]; exact hsh1
    have Kh2 : Keep h h2 [a] := Keep.wr Kh1 Wh2 (Or.inl (List.mem_of_getElem? (i := 0) rfl))
    refine X.newO (q := 34) (k' := 2) (n' := 7) (hw _ (List.mem_of_getElem? (i := 53) rfl)) (hw _ (List.mem_of_getElem? (i := 54) rfl)) (hw _ (List.mem_of_getElem? (i := 55) rfl)) own_d_prog_2_method_18_31 rfl rfl (by decide) (by decide) rfl (fun h3 a4 ga4 Eh3 Ba4 Da4 => ?_)
    have la_a4 : a < a4 := by have := B'h2.lt; rw [← ga4] at this; exact this
    have lb_a4 : b < a4 := by have := A1'h2.lt; rw [← ga4] at this; exact this
    have lhb_a4 : hb < a4 := by have := Ghbt'h2.lt; rw [← ga4] at this; exact this
    have B'h3 : Exa Z h3 a "com/example/dircred/dircred/credential/DerReader" := Exa.ext Eh3 B'h2
    have Fb'h3 : Fld Z h3 a "com/example/dircred/dircred/credential/DerReader" "bytes" "[B" (.ref b) := Fld.ext Eh3 Fb'h2
    have Fp'h3 : Fld Z h3 a "com/example/dircred/dircred/credential/DerReader" "position" "I" (.int E2) := Fld.ext Eh3 Fp'h2
    have Fe'h3 : Fld Z h3 a "com/example/dircred/dircred/credential/DerReader" "end" "I" (.int E) := Fld.ext Eh3 Fe'h2
    have A1'h3 : OwA Z h3 b .byte (L.map Value.int) := OwA.ext (E := Eh3) A1'h2
    have Ghbt'h3 : Fld Z h3 hb "com/example/dircred/dircred/credential/DerReader$Header" "tag" "I" (.int T) := Fld.ext Eh3 Ghbt'h2
    have Ghbs'h3 : Fld Z h3 hb "com/example/dircred/dircred/credential/DerReader$Header" "contentStart" "I" (.int S) := Fld.ext Eh3 Ghbs'h2
    have Ghbl'h3 : Fld Z h3 hb "com/example/dircred/dircred/credential/DerReader$Header" "length" "I" (.int Ln) := Fld.ext Eh3 Ghbl'h2
    have gea4 : n0 ≤ a4 := by rw [ga4]; exact hsh2
    have hsh3 : n0 ≤ h3.size := Nat.le_trans hsh2 Eh3.1
    have fra4 : h.size ≤ a4 := by rw [ga4]; exact Kh2.1
    have Kh3 : Keep h h3 [a] := Keep.ext Kh2 Eh3
    have Fa4_tag : Fld Z h3 a4 "com/example/dircred/dircred/credential/DerReader$Value" "tag" "I" (.int (0 : Int32)) := Da4 (Or.inr (hw _ (List.mem_of_getElem? (i := 62) rfl))) (ty := .int) (by decide)
    have Fa4_contentStart : Fld Z h3 a4 "com/example/dircred/dircred/credential/DerReader$Value" "contentStart" "I" (.int (0 : Int32)) := Da4 (Or.inr (hw _ (List.mem_of_getElem? (i := 64) rfl))) (ty := .int) (by decide)
    have Fa4_contentEnd : Fld Z h3 a4 "com/example/dircred/dircred/credential/DerReader$Value" "contentEnd" "I" (.int (0 : Int32)) := Da4 (Or.inr (hw _ (List.mem_of_getElem? (i := 66) rfl))) (ty := .int) (by decide)
    have Fa4_end : Fld Z h3 a4 "com/example/dircred/dircred/credential/DerReader$Value" "end" "I" (.int (0 : Int32)) := Da4 (Or.inr (hw _ (List.mem_of_getElem? (i := 68) rfl))) (ty := .int) (by decide)
    refine X.dup (q := 35) own_d_prog_2_method_18_34 rfl rfl ?_
    refine X.aloadN (q := 36) own_d_prog_2_method_18_35 rfl rfl rfl ?_
    refine X.getR (q := 39) (hw _ (List.mem_of_getElem? (i := 56) rfl)) Ghbt'h3 own_d_prog_2_method_18_36 rfl ?_
    refine X.aloadN (q := 40) own_d_prog_2_method_18_39 rfl rfl rfl ?_
    refine X.getR (q := 43) (hw _ (List.mem_of_getElem? (i := 52) rfl)) Ghbs'h3 own_d_prog_2_method_18_40 rfl ?_
    refine X.iloadN (q := 44) own_d_prog_2_method_18_43 rfl rfl ?_
    refine X.iloadN (q := 45) own_d_prog_2_method_18_44 rfl rfl ?_
    refine X.special (a := a4) (own_vi l Z a0 hw h3 n0 a4 T S E2 E2 hsh3 Ba4 Fa4_tag Fa4_contentStart Fa4_contentEnd Fa4_end gea4) rfl (hw _ (List.mem_of_getElem? (i := 57) rfl)) (hw _ (List.mem_of_getElem? (i := 58) rfl)) (hw _ (List.mem_of_getElem? (i := 55) rfl)) (hw _ (List.mem_of_getElem? (i := 59) rfl)) (by decide) own_pd3 (argsL := [(.int T), (.int S), (.int E2), (.int E2)]) (rest := [(.ref a4)]) rfl rfl rfl (W := 1) (Nat.le_of_eq rfl) rfl (by decide) (by decide) (k' := 2) (n' := 7) rfl rfl (by decide) (by decide) own_d_prog_2_method_18_45 (q := 48) rfl ?_
    rintro _ h5 ⟨rfl, Kh5c, Vt, Vs, Vc, Ve⟩
    have B'h5 : Exa Z h5 a "com/example/dircred/dircred/credential/DerReader" := Exa.keep B'h3 Kh5c
    have Fb'h5 : Fld Z h5 a "com/example/dircred/dircred/credential/DerReader" "bytes" "[B" (.ref b) := Fld.keep Fb'h3 Kh5c (ninS (Nat.ne_of_lt la_a4) nin0)
    have Fp'h5 : Fld Z h5 a "com/example/dircred/dircred/credential/DerReader" "position" "I" (.int E2) := Fld.keep Fp'h3 Kh5c (ninS (Nat.ne_of_lt la_a4) nin0)
    have Fe'h5 : Fld Z h5 a "com/example/dircred/dircred/credential/DerReader" "end" "I" (.int E) := Fld.keep Fe'h3 Kh5c (ninS (Nat.ne_of_lt la_a4) nin0)
    have A1'h5 : OwA Z h5 b .byte (L.map Value.int) := OwA.keep A1'h3 Kh5c (ninS (Nat.ne_of_lt lb_a4) nin0)
    have Ghbt'h5 : Fld Z h5 hb "com/example/dircred/dircred/credential/DerReader$Header" "tag" "I" (.int T) := Fld.keep Ghbt'h3 Kh5c (ninS (Nat.ne_of_lt lhb_a4) nin0)
    have Ghbs'h5 : Fld Z h5 hb "com/example/dircred/dircred/credential/DerReader$Header" "contentStart" "I" (.int S) := Fld.keep Ghbs'h3 Kh5c (ninS (Nat.ne_of_lt lhb_a4) nin0)
    have Ghbl'h5 : Fld Z h5 hb "com/example/dircred/dircred/credential/DerReader$Header" "length" "I" (.int Ln) := Fld.keep Ghbl'h3 Kh5c (ninS (Nat.ne_of_lt lhb_a4) nin0)
    have Ba4'h5 : Exa Z h5 a4 "com/example/dircred/dircred/credential/DerReader$Value" := Exa.keep Ba4 Kh5c
    have hsh5 : n0 ≤ h5.size := Nat.le_trans hsh3 Kh5c.1
    have Kh5 : Keep h h5 [a] := Keep.trans Kh3 Kh5c (allS (Or.inr fra4) all0)
    show X.G h5 2 7 48 #[.val (.ref a), .val (.ref hb), .val (.int E2), .unset, .unset] [(.ref a4)]
    refine X.retA (t := (.object "com/example/dircred/dircred/credential/DerReader$Value")) own_d_prog_2_method_18_48 rfl rfl rfl rfl (by decide) (by decide) ?_
    exact ⟨a4, rfl, Kh5, fra4, Vt, Vs, Vc, Ve, Fb'h5, Fp'h5, Fe'h5⟩
theorem own_d_prog_2_method_14_0 : decode prog_2_method_14_code 0 = .ok (.aload_n 0, 1) := by decide +kernel
theorem own_d_prog_2_method_14_1 : decode prog_2_method_14_code 1 = .ok (.invokevirtual 110, 3) := by decide +kernel
theorem own_pd4 : parseMethodDescriptor "()Lcom/example/dircred/dircred/credential/DerReader$Value;" = some ⟨[], some (.object "com/example/dircred/dircred/credential/DerReader$Value")⟩ := by decide +kernel
theorem own_d_prog_2_method_14_4 : decode prog_2_method_14_code 4 = .ok (.pop, 1) := by decide +kernel
theorem own_d_prog_2_method_14_5 : decode prog_2_method_14_code 5 = .ok (.return_, 1) := by decide +kernel
def own_rm_own_skip : Room := ({ frames := 4, cells := 2, slots := 7, locals := 65 } : Room)
set_option maxRecDepth 65536 in
set_option maxHeartbeats 1000000 in
theorem own_skip (l : Launch) (Z : State) (a0 : Array Value) (hw : ∀ d ∈ tables_1, d.before a0 Z = true) (h : Heap) (n0 : Nat) (a b : Addr) (L : List Int32) (P E : Int32) (p : Nat) (T : Int32) (q s : Nat) (S Ln : Int32) (hr : ∀ x ∈ L, -128 ≤ x.toInt ∧ x.toInt ≤ 127) (hE : E.toInt = (L.length : Int)) (hN : L.length < 1000) (hP : P.toInt = (p : Int)) (H : own_hdr L p T q s S Ln) (E2 : Int32) (hE2 : E2.toInt = (s : Int) + Ln.toInt) (hLn : 0 ≤ Ln.toInt)  (hn0 : n0 ≤ h.size) (B : Exa Z h a "com/example/dircred/dircred/credential/DerReader") (Fb : Fld Z h a "com/example/dircred/dircred/credential/DerReader" "bytes" "[B" (.ref b)) (Fp : Fld Z h a "com/example/dircred/dircred/credential/DerReader" "position" "I" (.int P)) (Fe : Fld Z h a "com/example/dircred/dircred/credential/DerReader" "end" "I" (.int E)) (A1 : OwA Z h b .byte (L.map Value.int)) (gea : n0 ≤ a) (neab : a ≠ b) :
    OwM l Z (⟨"com/example/dircred/dircred/credential/DerReader", "skip", "()V"⟩ : MethodName) prog_2_method_14_code 1 none own_rm_own_skip 2 7 [] #[(.ref a)] h n0 (fun r h' => r = none ∧ Keep h h' [a] ∧ Fld Z h' a "com/example/dircred/dircred/credential/DerReader" "bytes" "[B" (.ref b) ∧ Fld Z h' a "com/example/dircred/dircred/credential/DerReader" "position" "I" (.int E2) ∧ Fld Z h' a "com/example/dircred/dircred/credential/DerReader" "end" "I" (.int E)) := by
  refine OwM.of (Ls := #[.val (.ref a)]) (by decide +kernel) (fun m => by first | (simp [entryFrame, mkF, argsToLocals, Value.category]; done) | rfl) ?_
  intro _ _ _ _ _ _ _ X
  have K0 : Keep h h [a] := Keep.refl _ _
  refine X.aloadN (q := 1) own_d_prog_2_method_14_0 rfl rfl rfl ?_
  refine X.private (a := a) (own_next l Z a0 hw h n0 a b L P E p T q s S Ln hr hE hN hP H E2 hE2 hLn hn0 B Fb Fp Fe A1 gea neab) (hw _ (List.mem_of_getElem? (i := 30) rfl)) (hw _ (List.mem_of_getElem? (i := 31) rfl)) (hw _ (List.mem_of_getElem? (i := 32) rfl)) (hw _ (List.mem_of_getElem? (i := 1) rfl)) (hw _ (List.mem_of_getElem? (i := 2) rfl)) (hw _ (List.mem_of_getElem? (i := 33) rfl)) (by decide) B own_pd4 (argsL := []) (rest := []) rfl rfl rfl (W := 0) (Nat.le_of_eq rfl) rfl (by decide) (by decide) (k' := 2) (n' := 7) rfl rfl (by decide) (by decide) own_d_prog_2_method_14_1 (q := 4) rfl ?_
  rintro _ h1 ⟨vb, rfl, Kh1c, frvb, _, _, _, _, Gb, Gp, Ge⟩
  have B'h1 : Exa Z h1 a "com/example/dircred/dircred/credential/DerReader" := Exa.keep B Kh1c
  have A1'h1 : OwA Z h1 b .byte (L.map Value.int) := OwA.keep A1 Kh1c (ninS (Ne.symm neab) nin0)
  have hsh1 : n0 ≤ h1.size := Nat.le_trans hn0 Kh1c.1
  have Kh1 : Keep h h1 [a] := Keep.trans K0 Kh1c (allS (Or.inl (List.mem_of_getElem? (i := 0) rfl)) all0)
  show X.G h1 2 7 4 #[.val (.ref a)] [(.ref vb)]
  refine X.pop (q := 5) own_d_prog_2_method_14_4 rfl rfl ?_
  refine X.retV own_d_prog_2_method_14_5 rfl (by decide) (by decide) ?_
  exact ⟨rfl, Kh1, Gb, Gp, Ge⟩
theorem own_xor1 (t : Int32) (h1 : 0 ≤ t.toInt) (h2 : t.toInt ≤ 255) (h3 : t.toInt % 32 = 31) : (t ^^^ 1).toInt = t.toInt - 1 := by
  have key : ∀ k : Fin 256, (k.val : Int) % 32 = 31 → (Int32.ofNat k.val ^^^ 1).toInt = (k.val : Int) - 1 := by decide +kernel
  have e := own_ofNat h1 (by omega)
  have e2 : ((t.toInt.toNat : Nat) : Int) = t.toInt := by omega
  have := key ⟨t.toInt.toNat, by omega⟩ (by simp only; omega)
  simp only at this
  rw [← e, e2] at this; exact this
theorem own_d_prog_2_method_17_0 : decode prog_2_method_17_code 0 = .ok (.new 2, 3) := by decide +kernel
theorem own_d_prog_2_method_17_3 : decode prog_2_method_17_code 3 = .ok (.dup, 1) := by decide +kernel
theorem own_d_prog_2_method_17_4 : decode prog_2_method_17_code 4 = .ok (.aload_n 0, 1) := by decide +kernel
theorem own_d_prog_2_method_17_5 : decode prog_2_method_17_code 5 = .ok (.getfield 12, 3) := by decide +kernel
theorem own_d_prog_2_method_17_8 : decode prog_2_method_17_code 8 = .ok (.aload_n 1, 1) := by decide +kernel
theorem own_d_prog_2_method_17_9 : decode prog_2_method_17_code 9 = .ok (.getfield 56, 3) := by decide +kernel
theorem own_d_prog_2_method_17_12 : decode prog_2_method_17_code 12 = .ok (.aload_n 1, 1) := by decide +kernel
theorem own_d_prog_2_method_17_13 : decode prog_2_method_17_code 13 = .ok (.getfield 61, 3) := by decide +kernel
theorem own_d_prog_2_method_17_16 : decode prog_2_method_17_code 16 = .ok (.invokespecial 1, 3) := by decide +kernel
theorem own_d_prog_2_method_17_19 : decode prog_2_method_17_code 19 = .ok (.areturn, 1) := by decide +kernel
def own_rm_own_co : Room := ({ frames := 2, cells := 1, slots := 3, locals := 29 } : Room)
set_option maxRecDepth 65536 in
set_option maxHeartbeats 1000000 in
theorem own_co (l : Launch) (Z : State) (a0 : Array Value) (hw : ∀ d ∈ tables_1, d.before a0 Z = true) (h : Heap) (n0 : Nat) (a b vb : Addr) (S E2 : Int32)  (hn0 : n0 ≤ h.size) (Fb : Fld Z h a "com/example/dircred/dircred/credential/DerReader" "bytes" "[B" (.ref b)) (Vs : Fld Z h vb "com/example/dircred/dircred/credential/DerReader$Value" "contentStart" "I" (.int S)) (Vc : Fld Z h vb "com/example/dircred/dircred/credential/DerReader$Value" "contentEnd" "I" (.int E2)) :
    OwM l Z (⟨"com/example/dircred/dircred/credential/DerReader", "contents", "(Lcom/example/dircred/dircred/credential/DerReader$Value;)Lcom/example/dircred/dircred/credential/DerReader;"⟩ : MethodName) prog_2_method_17_code 2 (some (.object "com/example/dircred/dircred/credential/DerReader")) own_rm_own_co 1 3 [] #[(.ref a), (.ref vb)] h n0 (fun r h' => ∃ b', r = some (.ref b') ∧ Keep h h' [] ∧ h.size ≤ b' ∧ Exa Z h' b' "com/example/dircred/dircred/credential/DerReader" ∧ Fld Z h' b' "com/example/dircred/dircred/credential/DerReader" "bytes" "[B" (.ref b) ∧ Fld Z h' b' "com/example/dircred/dircred/credential/DerReader" "position" "I" (.int S) ∧ Fld Z h' b' "com/example/dircred/dircred/credential/DerReader" "end" "I" (.int E2)) := by
  refine OwM.of (Ls := #[.val (.ref a), .val (.ref vb)]) (by decide +kernel) (fun m => by first | (simp [entryFrame, mkF, argsToLocals, Value.category]; done) | rfl) ?_
  intro _ _ _ _ _ _ _ X
  have K0 : Keep h h [] := Keep.refl _ _
  refine X.newO (q := 3) (k' := 1) (n' := 3) (hw _ (List.mem_of_getElem? (i := 84) rfl)) (hw _ (List.mem_of_getElem? (i := 1) rfl)) (hw _ (List.mem_of_getElem? (i := 2) rfl)) own_d_prog_2_method_17_0 rfl rfl (by decide) (by decide) rfl (fun h1 a2 ga2 Eh1 Ba2 Da2 => ?_)
  have la_a2 : a < a2 := by have := Fb.lt; rw [← ga2] at this; exact this
  have lvb_a2 : vb < a2 := by have := Vs.lt; rw [← ga2] at this; exact this
  have Fb'h1 : Fld Z h1 a "com/example/dircred/dircred/credential/DerReader" "bytes" "[B" (.ref b) := Fld.ext Eh1 Fb
  have Vs'h1 : Fld Z h1 vb "com/example/dircred/dircred/credential/DerReader$Value" "contentStart" "I" (.int S) := Fld.ext Eh1 Vs
  have Vc'h1 : Fld Z h1 vb "com/example/dircred/dircred/credential/DerReader$Value" "contentEnd" "I" (.int E2) := Fld.ext Eh1 Vc
  have gea2 : n0 ≤ a2 := by rw [ga2]; exact hn0
  have hsh1 : n0 ≤ h1.size := Nat.le_trans hn0 Eh1.1
  have fra2 : h.size ≤ a2 := by rw [ga2]; exact K0.1
  have Kh1 : Keep h h1 [] := Keep.ext K0 Eh1
  have Fa2_bytes : Fld Z h1 a2 "com/example/dircred/dircred/credential/DerReader" "bytes" "[B" .null := Da2 (Or.inr (hw _ (List.mem_of_getElem? (i := 14) rfl))) (ty := (.array .byte)) (by decide)
  have Fa2_position : Fld Z h1 a2 "com/example/dircred/dircred/credential/DerReader" "position" "I" (.int (0 : Int32)) := Da2 (Or.inl (hw _ (List.mem_of_getElem? (i := 16) rfl))) (ty := .int) (by decide)
  have Fa2_end : Fld Z h1 a2 "com/example/dircred/dircred/credential/DerReader" "end" "I" (.int (0 : Int32)) := Da2 (Or.inr (hw _ (List.mem_of_getElem? (i := 18) rfl))) (ty := .int) (by decide)
  refine X.dup (q := 4) own_d_prog_2_method_17_3 rfl rfl ?_
  refine X.aloadN (q := 5) own_d_prog_2_method_17_4 rfl rfl rfl ?_
  refine X.getF (q := 8) (host := "") (Or.inl (hw _ (List.mem_of_getElem? (i := 13) rfl))) Via.refl Fb'h1 own_d_prog_2_method_17_5 rfl ?_
  refine X.aloadN (q := 9) own_d_prog_2_method_17_8 rfl rfl rfl ?_
  refine X.getR (q := 12) (hw _ (List.mem_of_getElem? (i := 85) rfl)) Vs'h1 own_d_prog_2_method_17_9 rfl ?_
  refine X.aloadN (q := 13) own_d_prog_2_method_17_12 rfl rfl rfl ?_
  refine X.getR (q := 16) (hw _ (List.mem_of_getElem? (i := 86) rfl)) Vc'h1 own_d_prog_2_method_17_13 rfl ?_
  refine X.special (a := a2) (own_i2 l Z a0 hw h1 n0 a2 b S E2 hsh1 Ba2 Fa2_bytes Fa2_position Fa2_end gea2) rfl (hw _ (List.mem_of_getElem? (i := 7) rfl)) (hw _ (List.mem_of_getElem? (i := 8) rfl)) (hw _ (List.mem_of_getElem? (i := 2) rfl)) (hw _ (List.mem_of_getElem? (i := 9) rfl)) (by decide) own_pd0 (argsL := [(.ref b), (.int S), (.int E2)]) (rest := [(.ref a2)]) rfl rfl rfl (W := 1) (Nat.le_of_eq rfl) rfl (by decide) (by decide) (k' := 1) (n' := 3) rfl rfl (by decide) (by decide) own_d_prog_2_method_17_16 (q := 19) rfl ?_
  rintro _ h3 ⟨rfl, Kh3c, Gb, Gp, Ge⟩
  have Fb'h3 : Fld Z h3 a "com/example/dircred/dircred/credential/DerReader" "bytes" "[B" (.ref b) := Fld.keep Fb'h1 Kh3c (ninS (Nat.ne_of_lt la_a2) nin0)
  have Vs'h3 : Fld Z h3 vb "com/example/dircred/dircred/credential/DerReader$Value" "contentStart" "I" (.int S) := Fld.keep Vs'h1 Kh3c (ninS (Nat.ne_of_lt lvb_a2) nin0)
  have Vc'h3 : Fld Z h3 vb "com/example/dircred/dircred/credential/DerReader$Value" "contentEnd" "I" (.int E2) := Fld.keep Vc'h1 Kh3c (ninS (Nat.ne_of_lt lvb_a2) nin0)
  have Ba2'h3 : Exa Z h3 a2 "com/example/dircred/dircred/credential/DerReader" := Exa.keep Ba2 Kh3c
  have hsh3 : n0 ≤ h3.size := Nat.le_trans hsh1 Kh3c.1
  have Kh3 : Keep h h3 [] := Keep.trans Kh1 Kh3c (allS (Or.inr fra2) all0)
  show X.G h3 1 3 19 #[.val (.ref a), .val (.ref vb)] [(.ref a2)]
  refine X.retA (t := (.object "com/example/dircred/dircred/credential/DerReader")) own_d_prog_2_method_17_19 rfl rfl rfl rfl (by decide) (by decide) ?_
  exact ⟨a2, rfl, Kh3, fra2, Ba2'h3, Gb, Gp, Ge⟩
theorem own_d_prog_2_method_16_0 : decode prog_2_method_16_code 0 = .ok (.aload_n 0, 1) := by decide +kernel
theorem own_d_prog_2_method_16_1 : decode prog_2_method_16_code 1 = .ok (.invokevirtual 110, 3) := by decide +kernel
theorem own_d_prog_2_method_16_4 : decode prog_2_method_16_code 4 = .ok (.astore_n 2, 1) := by decide +kernel
theorem own_d_prog_2_method_16_5 : decode prog_2_method_16_code 5 = .ok (.aload_n 1, 1) := by decide +kernel
theorem own_d_prog_2_method_16_6 : decode prog_2_method_16_code 6 = .ok (.astore_n 3, 1) := by decide +kernel
theorem own_d_prog_2_method_16_7 : decode prog_2_method_16_code 7 = .ok (.aload_n 3, 1) := by decide +kernel
theorem own_d_prog_2_method_16_8 : decode prog_2_method_16_code 8 = .ok (.arraylength, 1) := by decide +kernel
theorem own_d_prog_2_method_16_9 : decode prog_2_method_16_code 9 = .ok (.istore 4, 2) := by decide +kernel
theorem own_d_prog_2_method_16_11 : decode prog_2_method_16_code 11 = .ok (.iconst 0, 1) := by decide +kernel
theorem own_d_prog_2_method_16_12 : decode prog_2_method_16_code 12 = .ok (.istore 5, 2) := by decide +kernel
theorem own_d_prog_2_method_16_14 : decode prog_2_method_16_code 14 = .ok (.iload 5, 2) := by decide +kernel
theorem own_d_prog_2_method_16_16 : decode prog_2_method_16_code 16 = .ok (.iload 4, 2) := by decide +kernel
theorem own_d_prog_2_method_16_18 : decode prog_2_method_16_code 18 = .ok (.if_icmp .ge 26, 3) := by decide +kernel
theorem own_d_prog_2_method_16_21 : decode prog_2_method_16_code 21 = .ok (.aload_n 3, 1) := by decide +kernel
theorem own_d_prog_2_method_16_22 : decode prog_2_method_16_code 22 = .ok (.iload 5, 2) := by decide +kernel
theorem own_d_prog_2_method_16_24 : decode prog_2_method_16_code 24 = .ok (.iaload, 1) := by decide +kernel
theorem own_d_prog_2_method_16_25 : decode prog_2_method_16_code 25 = .ok (.istore 6, 2) := by decide +kernel
theorem own_d_prog_2_method_16_27 : decode prog_2_method_16_code 27 = .ok (.aload_n 2, 1) := by decide +kernel
theorem own_d_prog_2_method_16_28 : decode prog_2_method_16_code 28 = .ok (.getfield 125, 3) := by decide +kernel
theorem own_d_prog_2_method_16_31 : decode prog_2_method_16_code 31 = .ok (.iload 6, 2) := by decide +kernel
theorem own_d_prog_2_method_16_33 : decode prog_2_method_16_code 33 = .ok (.if_icmp .ne 5, 3) := by decide +kernel
theorem own_d_prog_2_method_16_36 : decode prog_2_method_16_code 36 = .ok (.aload_n 2, 1) := by decide +kernel
theorem own_d_prog_2_method_16_37 : decode prog_2_method_16_code 37 = .ok (.areturn, 1) := by decide +kernel
def own_rm_own_rd : Room := ({ frames := 4, cells := 2, slots := 7, locals := 65 } : Room)
set_option maxRecDepth 65536 in
set_option maxHeartbeats 1000000 in
theorem own_rd (l : Launch) (Z : State) (a0 : Array Value) (hw : ∀ d ∈ tables_1, d.before a0 Z = true) (h : Heap) (n0 : Nat) (a b : Addr) (L : List Int32) (P E : Int32) (p : Nat) (T : Int32) (q s : Nat) (S Ln : Int32) (hr : ∀ x ∈ L, -128 ≤ x.toInt ∧ x.toInt ≤ 127) (hE : E.toInt = (L.length : Int)) (hN : L.length < 1000) (hP : P.toInt = (p : Int)) (H : own_hdr L p T q s S Ln) (E2 : Int32) (hE2 : E2.toInt = (s : Int) + Ln.toInt) (hLn : 0 ≤ Ln.toInt) (c : Addr) (hT48 : T.toInt = 48)  (hn0 : n0 ≤ h.size) (B : Exa Z h a "com/example/dircred/dircred/credential/DerReader") (Fb : Fld Z h a "com/example/dircred/dircred/credential/DerReader" "bytes" "[B" (.ref b)) (Fp : Fld Z h a "com/example/dircred/dircred/credential/DerReader" "position" "I" (.int P)) (Fe : Fld Z h a "com/example/dircred/dircred/credential/DerReader" "end" "I" (.int E)) (A1 : OwA Z h b .byte (L.map Value.int)) (A2 : OwA Z h c .int [(.int (48 : Int32))]) (gea : n0 ≤ a) (neab : a ≠ b) (neac : a ≠ c) :
    OwM l Z (⟨"com/example/dircred/dircred/credential/DerReader", "read", "([I)Lcom/example/dircred/dircred/credential/DerReader$Value;"⟩ : MethodName) prog_2_method_16_code 7 (some (.object "com/example/dircred/dircred/credential/DerReader$Value")) own_rm_own_rd 2 7 [] #[(.ref a), (.ref c)] h n0 (fun r h' => ∃ b', r = some (.ref b') ∧ Keep h h' [a] ∧ h.size ≤ b' ∧ Fld Z h' b' "com/example/dircred/dircred/credential/DerReader$Value" "tag" "I" (.int T) ∧ Fld Z h' b' "com/example/dircred/dircred/credential/DerReader$Value" "contentStart" "I" (.int S) ∧ Fld Z h' b' "com/example/dircred/dircred/credential/DerReader$Value" "contentEnd" "I" (.int E2) ∧ Fld Z h' b' "com/example/dircred/dircred/credential/DerReader$Value" "end" "I" (.int E2) ∧ Fld Z h' a "com/example/dircred/dircred/credential/DerReader" "bytes" "[B" (.ref b) ∧ Fld Z h' a "com/example/dircred/dircred/credential/DerReader" "position" "I" (.int E2) ∧ Fld Z h' a "com/example/dircred/dircred/credential/DerReader" "end" "I" (.int E)) := by
  refine OwM.of (Ls := #[.val (.ref a), .val (.ref c), .unset, .unset, .unset, .unset, .unset]) (by decide +kernel) (fun m => by first | (simp [entryFrame, mkF, argsToLocals, Value.category]; done) | rfl) ?_
  intro _ _ _ _ _ _ _ X
  have K0 : Keep h h [a] := Keep.refl _ _
  refine X.aloadN (q := 1) own_d_prog_2_method_16_0 rfl rfl rfl ?_
  refine X.private (a := a) (own_next l Z a0 hw h n0 a b L P E p T q s S Ln hr hE hN hP H E2 hE2 hLn hn0 B Fb Fp Fe A1 gea neab) (hw _ (List.mem_of_getElem? (i := 30) rfl)) (hw _ (List.mem_of_getElem? (i := 31) rfl)) (hw _ (List.mem_of_getElem? (i := 32) rfl)) (hw _ (List.mem_of_getElem? (i := 1) rfl)) (hw _ (List.mem_of_getElem? (i := 2) rfl)) (hw _ (List.mem_of_getElem? (i := 33) rfl)) (by decide) B own_pd4 (argsL := []) (rest := []) rfl rfl rfl (W := 0) (Nat.le_of_eq rfl) rfl (by decide) (by decide) (k' := 2) (n' := 7) rfl rfl (by decide) (by decide) own_d_prog_2_method_16_1 (q := 4) rfl ?_
  rintro _ h1 ⟨vb, rfl, Kh1c, frvb, Vt, Vs, Vc, Ve, Gb, Gp, Ge⟩
  have B'h1 : Exa Z h1 a "com/example/dircred/dircred/credential/DerReader" := Exa.keep B Kh1c
  have A1'h1 : OwA Z h1 b .byte (L.map Value.int) := OwA.keep A1 Kh1c (ninS (Ne.symm neab) nin0)
  have A2'h1 : OwA Z h1 c .int [(.int (48 : Int32))] := OwA.keep A2 Kh1c (ninS (Ne.symm neac) nin0)
  have hsh1 : n0 ≤ h1.size := Nat.le_trans hn0 Kh1c.1
  have Kh1 : Keep h h1 [a] := Keep.trans K0 Kh1c (allS (Or.inl (List.mem_of_getElem? (i := 0) rfl)) all0)
  show X.G h1 2 7 4 #[.val (.ref a), .val (.ref c), .unset, .unset, .unset, .unset, .unset] [(.ref vb)]
  have lavb : a < vb := Nat.lt_of_lt_of_le B.lt frvb
  have lbvb : b < vb := Nat.lt_of_lt_of_le A1.lt frvb
  have lcvb : c < vb := Nat.lt_of_lt_of_le A2.lt frvb
  have fr0vb : h.size ≤ vb := Nat.le_trans K0.1 frvb
  have gevb : n0 ≤ vb := Nat.le_trans hn0 frvb
  refine X.astoreN (q := 5) (Ls' := #[.val (.ref a), .val (.ref c), .val (.ref vb), .unset, .unset, .unset, .unset]) own_d_prog_2_method_16_4 rfl rfl rfl ?_
  refine X.aloadN (q := 6) own_d_prog_2_method_16_5 rfl rfl rfl ?_
  refine X.astoreN (q := 7) (Ls' := #[.val (.ref a), .val (.ref c), .val (.ref vb), .val (.ref c), .unset, .unset, .unset]) own_d_prog_2_method_16_6 rfl rfl rfl ?_
  refine X.aloadN (q := 8) own_d_prog_2_method_16_7 rfl rfl rfl ?_
  refine X.alen (q := 9) (z := (1 : Int32)) A2'h1 rfl own_d_prog_2_method_16_8 rfl ?_
  refine X.istore (q := 11) (Ls' := #[.val (.ref a), .val (.ref c), .val (.ref vb), .val (.ref c), .val (.int (1 : Int32)), .unset, .unset]) own_d_prog_2_method_16_9 rfl rfl ?_
  refine X.iconst (q := 12) (0 : Int32) own_d_prog_2_method_16_11 (by decide) rfl ?_
  refine X.istore (q := 14) (Ls' := #[.val (.ref a), .val (.ref c), .val (.ref vb), .val (.ref c), .val (.int (1 : Int32)), .val (.int (0 : Int32)), .unset]) own_d_prog_2_method_16_12 rfl rfl ?_
  refine X.iload (q := 16) own_d_prog_2_method_16_14 rfl rfl ?_
  refine X.iload (q := 18) own_d_prog_2_method_16_16 rfl rfl ?_
  refine X.icmp_ge (a := 0) (b := 1) (q' := 44) (q := 21) own_d_prog_2_method_16_18 rfl rfl (by decide) rfl (fun c18 => ?_) (fun c18 => ?_)
  · omega
  · refine X.aloadN (q := 22) own_d_prog_2_method_16_21 rfl rfl rfl ?_
    refine X.iload (q := 24) own_d_prog_2_method_16_22 rfl rfl ?_
    refine X.iaload (q := 25) (j := 0) (v := (.int (48 : Int32))) A2'h1 rfl rfl own_d_prog_2_method_16_24 rfl ?_
    refine X.istore (q := 27) (Ls' := #[.val (.ref a), .val (.ref c), .val (.ref vb), .val (.ref c), .val (.int (1 : Int32)), .val (.int (0 : Int32)), .val (.int (48 : Int32))]) own_d_prog_2_method_16_25 rfl rfl ?_
    refine X.aloadN (q := 28) own_d_prog_2_method_16_27 rfl rfl rfl ?_
    refine X.getR (q := 31) (hw _ (List.mem_of_getElem? (i := 79) rfl)) Vt own_d_prog_2_method_16_28 rfl ?_
    refine X.iload (q := 33) own_d_prog_2_method_16_31 rfl rfl ?_
    refine X.icmp_ne (b := 48) (q' := 38) (q := 36) own_d_prog_2_method_16_33 rfl rfl (by decide) rfl (fun c33 => ?_) (fun c33 => ?_)
    · omega
    · refine X.aloadN (q := 37) own_d_prog_2_method_16_36 rfl rfl rfl ?_
      refine X.retA (t := (.object "com/example/dircred/dircred/credential/DerReader$Value")) own_d_prog_2_method_16_37 rfl rfl rfl rfl (by decide) (by decide) ?_
      exact ⟨vb, rfl, Kh1, frvb, Vt, Vs, Vc, Ve, Gb, Gp, Ge⟩
theorem own_d_prog_2_method_7_0 : decode prog_2_method_7_code 0 = .ok (.aload_n 0, 1) := by decide +kernel
theorem own_d_prog_2_method_7_1 : decode prog_2_method_7_code 1 = .ok (.aload_n 0, 1) := by decide +kernel
theorem own_d_prog_2_method_7_2 : decode prog_2_method_7_code 2 = .ok (.iconst 1, 1) := by decide +kernel
theorem own_d_prog_2_method_7_3 : decode prog_2_method_7_code 3 = .ok (.newarray .int, 2) := by decide +kernel
theorem own_d_prog_2_method_7_5 : decode prog_2_method_7_code 5 = .ok (.dup, 1) := by decide +kernel
theorem own_d_prog_2_method_7_6 : decode prog_2_method_7_code 6 = .ok (.iconst 0, 1) := by decide +kernel
theorem own_d_prog_2_method_7_7 : decode prog_2_method_7_code 7 = .ok (.bipush 48, 2) := by decide +kernel
theorem own_d_prog_2_method_7_9 : decode prog_2_method_7_code 9 = .ok (.iastore, 1) := by decide +kernel
theorem own_d_prog_2_method_7_10 : decode prog_2_method_7_code 10 = .ok (.invokevirtual 48, 3) := by decide +kernel
theorem own_pd5 : parseMethodDescriptor "([I)Lcom/example/dircred/dircred/credential/DerReader$Value;" = some ⟨[(.array .int)], some (.object "com/example/dircred/dircred/credential/DerReader$Value")⟩ := by decide +kernel
theorem own_d_prog_2_method_7_13 : decode prog_2_method_7_code 13 = .ok (.invokevirtual 52, 3) := by decide +kernel
theorem own_pd6 : parseMethodDescriptor "(Lcom/example/dircred/dircred/credential/DerReader$Value;)Lcom/example/dircred/dircred/credential/DerReader;" = some ⟨[(.object "com/example/dircred/dircred/credential/DerReader$Value")], some (.object "com/example/dircred/dircred/credential/DerReader")⟩ := by decide +kernel
theorem own_d_prog_2_method_7_16 : decode prog_2_method_7_code 16 = .ok (.areturn, 1) := by decide +kernel
def own_rm_own_sq : Room := ({ frames := 5, cells := 4, slots := 11, locals := 84 } : Room)
set_option maxRecDepth 65536 in
set_option maxHeartbeats 1000000 in
theorem own_sq (l : Launch) (Z : State) (a0 : Array Value) (hw : ∀ d ∈ tables_1, d.before a0 Z = true) (h : Heap) (n0 : Nat) (a b : Addr) (L : List Int32) (P E : Int32) (p : Nat) (T : Int32) (q s : Nat) (S Ln : Int32) (hr : ∀ x ∈ L, -128 ≤ x.toInt ∧ x.toInt ≤ 127) (hE : E.toInt = (L.length : Int)) (hN : L.length < 1000) (hP : P.toInt = (p : Int)) (H : own_hdr L p T q s S Ln) (E2 : Int32) (hE2 : E2.toInt = (s : Int) + Ln.toInt) (hLn : 0 ≤ Ln.toInt) (hT48 : T.toInt = 48)  (hn0 : n0 ≤ h.size) (B : Exa Z h a "com/example/dircred/dircred/credential/DerReader") (Fb : Fld Z h a "com/example/dircred/dircred/credential/DerReader" "bytes" "[B" (.ref b)) (Fp : Fld Z h a "com/example/dircred/dircred/credential/DerReader" "position" "I" (.int P)) (Fe : Fld Z h a "com/example/dircred/dircred/credential/DerReader" "end" "I" (.int E)) (A1 : OwA Z h b .byte (L.map Value.int)) (gea : n0 ≤ a) (neab : a ≠ b) :
    OwM l Z (⟨"com/example/dircred/dircred/credential/DerReader", "sequence", "()Lcom/example/dircred/dircred/credential/DerReader;"⟩ : MethodName) prog_2_method_7_code 1 (some (.object "com/example/dircred/dircred/credential/DerReader")) own_rm_own_sq 4 11 [] #[(.ref a)] h n0 (fun r h' => ∃ b', r = some (.ref b') ∧ Keep h h' [a] ∧ h.size ≤ b' ∧ Exa Z h' b' "com/example/dircred/dircred/credential/DerReader" ∧ Fld Z h' b' "com/example/dircred/dircred/credential/DerReader" "bytes" "[B" (.ref b) ∧ Fld Z h' b' "com/example/dircred/dircred/credential/DerReader" "position" "I" (.int S) ∧ Fld Z h' b' "com/example/dircred/dircred/credential/DerReader" "end" "I" (.int E2) ∧ Fld Z h' a "com/example/dircred/dircred/credential/DerReader" "bytes" "[B" (.ref b) ∧ Fld Z h' a "com/example/dircred/dircred/credential/DerReader" "position" "I" (.int E2) ∧ Fld Z h' a "com/example/dircred/dircred/credential/DerReader" "end" "I" (.int E)) := by
  refine OwM.of (Ls := #[.val (.ref a)]) (by decide +kernel) (fun m => by first | (simp [entryFrame, mkF, argsToLocals, Value.category]; done) | rfl) ?_
  intro _ _ _ _ _ _ _ X
  have K0 : Keep h h [a] := Keep.refl _ _
  refine X.aloadN (q := 1) own_d_prog_2_method_7_0 rfl rfl rfl ?_
  refine X.aloadN (q := 2) own_d_prog_2_method_7_1 rfl rfl rfl ?_
  refine X.iconst (q := 3) (1 : Int32) own_d_prog_2_method_7_2 (by decide) rfl ?_
  refine X.newP (q := 5) (ty := .int) (N := 1) (cap := 1) (k' := 1) (n' := 1) (hw _ (List.mem_of_getElem? (i := 74) rfl)) own_d_prog_2_method_7_3 rfl rfl (Nat.le_refl _) (by decide) rfl rfl (by decide) (by decide) rfl (fun h1 a2 ga2 Eh1 Aa2 => ?_)
  have la_a2 : a < a2 := by have := B.lt; rw [← ga2] at this; exact this
  have lb_a2 : b < a2 := by have := A1.lt; rw [← ga2] at this; exact this
  have B'h1 : Exa Z h1 a "com/example/dircred/dircred/credential/DerReader" := Exa.ext Eh1 B
  have Fb'h1 : Fld Z h1 a "com/example/dircred/dircred/credential/DerReader" "bytes" "[B" (.ref b) := Fld.ext Eh1 Fb
  have Fp'h1 : Fld Z h1 a "com/example/dircred/dircred/credential/DerReader" "position" "I" (.int P) := Fld.ext Eh1 Fp
  have Fe'h1 : Fld Z h1 a "com/example/dircred/dircred/credential/DerReader" "end" "I" (.int E) := Fld.ext Eh1 Fe
  have A1'h1 : OwA Z h1 b .byte (L.map Value.int) := OwA.ext (E := Eh1) A1
  have gea2 : n0 ≤ a2 := by rw [ga2]; exact hn0
  have hsh1 : n0 ≤ h1.size := Nat.le_trans hn0 Eh1.1
  have fra2 : h.size ≤ a2 := by rw [ga2]; exact K0.1
  have Kh1 : Keep h h1 [a] := Keep.ext K0 Eh1
  have Aa2 : OwA Z h1 a2 .int [(.int (0 : Int32))] := Aa2
  refine X.dup (q := 6) own_d_prog_2_method_7_5 rfl rfl ?_
  refine X.iconst (q := 7) (0 : Int32) own_d_prog_2_method_7_6 (by decide) rfl ?_
  refine X.bipush (q := 9) (48 : Int32) own_d_prog_2_method_7_7 (by decide) rfl ?_
  refine X.iastore (q := 10) (j := 0) Aa2 rfl (by simp) gea2 own_d_prog_2_method_7_9 rfl (fun h3 Wh3 Ah3 => ?_)
  have B'h3 : Exa Z h3 a "com/example/dircred/dircred/credential/DerReader" := Exa.wr Wh3 B'h1
  have Fb'h3 : Fld Z h3 a "com/example/dircred/dircred/credential/DerReader" "bytes" "[B" (.ref b) := Fld.other Wh3 Fb'h1 (Or.inl (Nat.ne_of_lt la_a2))
  have Fp'h3 : Fld Z h3 a "com/example/dircred/dircred/credential/DerReader" "position" "I" (.int P) := Fld.other Wh3 Fp'h1 (Or.inl (Nat.ne_of_lt la_a2))
  have Fe'h3 : Fld Z h3 a "com/example/dircred/dircred/credential/DerReader" "end" "I" (.int E) := Fld.other Wh3 Fe'h1 (Or.inl (Nat.ne_of_lt la_a2))
  have A1'h3 : OwA Z h3 b .byte (L.map Value.int) := OwA.other A1'h1 Wh3 (Nat.ne_of_lt lb_a2)
  have hsh3 : n0 ≤ h3.size := by rw [Wr.size Wh3]; exact hsh1
  have Kh3 : Keep h h3 [a] := Keep.wr Kh1 Wh3 (Or.inr fra2)
  have Ah3_ : OwA Z h3 a2 .int [(.int (48 : Int32))] := Ah3
  refine X.private (a := a) (own_rd l Z a0 hw h3 n0 a b L P E p T q s S Ln hr hE hN hP H E2 hE2 hLn a2 hT48 hsh3 B'h3 Fb'h3 Fp'h3 Fe'h3 A1'h3 Ah3_ gea neab (Nat.ne_of_lt la_a2)) (hw _ (List.mem_of_getElem? (i := 75) rfl)) (hw _ (List.mem_of_getElem? (i := 76) rfl)) (hw _ (List.mem_of_getElem? (i := 77) rfl)) (hw _ (List.mem_of_getElem? (i := 1) rfl)) (hw _ (List.mem_of_getElem? (i := 2) rfl)) (hw _ (List.mem_of_getElem? (i := 78) rfl)) (by decide) B'h3 own_pd5 (argsL := [(.ref a2)]) (rest := [(.ref a)]) rfl rfl rfl (W := 1) (Nat.le_of_eq rfl) rfl (by decide) (by decide) (k' := 3) (n' := 8) rfl rfl (by decide) (by decide) own_d_prog_2_method_7_10 (q := 13) rfl ?_
  rintro _ h4 ⟨vb, rfl, Kh4c, frvb, Vt, Vs, Vc, Ve, Gb, Gp, Ge⟩
  have B'h4 : Exa Z h4 a "com/example/dircred/dircred/credential/DerReader" := Exa.keep B'h3 Kh4c
  have A1'h4 : OwA Z h4 b .byte (L.map Value.int) := OwA.keep A1'h3 Kh4c (ninS (Ne.symm neab) nin0)
  have Ah3_'h4 : OwA Z h4 a2 .int [(.int (48 : Int32))] := OwA.keep Ah3_ Kh4c (ninS (Nat.ne_of_gt la_a2) nin0)
  have hsh4 : n0 ≤ h4.size := Nat.le_trans hsh3 Kh4c.1
  have Kh4 : Keep h h4 [a] := Keep.trans Kh3 Kh4c (allS (Or.inl (List.mem_of_getElem? (i := 0) rfl)) all0)
  show X.G h4 3 8 13 #[.val (.ref a)] [(.ref vb), (.ref a)]
  have lavb : a < vb := Nat.lt_of_lt_of_le B'h3.lt frvb
  have lbvb : b < vb := Nat.lt_of_lt_of_le A1'h3.lt frvb
  have la2vb : a2 < vb := Nat.lt_of_lt_of_le Ah3_.lt frvb
  have fr0vb : h.size ≤ vb := Nat.le_trans Kh3.1 frvb
  have gevb : n0 ≤ vb := Nat.le_trans hsh3 frvb
  refine X.private (a := a) (own_co l Z a0 hw h4 n0 a b vb S E2 hsh4 Gb Vs Vc) (hw _ (List.mem_of_getElem? (i := 80) rfl)) (hw _ (List.mem_of_getElem? (i := 81) rfl)) (hw _ (List.mem_of_getElem? (i := 82) rfl)) (hw _ (List.mem_of_getElem? (i := 1) rfl)) (hw _ (List.mem_of_getElem? (i := 2) rfl)) (hw _ (List.mem_of_getElem? (i := 83) rfl)) (by decide) B'h4 own_pd6 (argsL := [(.ref vb)]) (rest := []) rfl rfl rfl (W := 0) (Nat.le_of_eq rfl) rfl (by decide) (by decide) (k' := 4) (n' := 11) rfl rfl (by decide) (by decide) own_d_prog_2_method_7_13 (q := 16) rfl ?_
  rintro _ h5 ⟨nb, rfl, Kh5c, frnb, Nx, Nb, Np, Ne⟩
  have B'h5 : Exa Z h5 a "com/example/dircred/dircred/credential/DerReader" := Exa.keep B'h4 Kh5c
  have A1'h5 : OwA Z h5 b .byte (L.map Value.int) := OwA.keep A1'h4 Kh5c nin0
  have Ah3_'h5 : OwA Z h5 a2 .int [(.int (48 : Int32))] := OwA.keep Ah3_'h4 Kh5c nin0
  have Gb'h5 : Fld Z h5 a "com/example/dircred/dircred/credential/DerReader" "bytes" "[B" (.ref b) := Fld.keep Gb Kh5c nin0
  have Gp'h5 : Fld Z h5 a "com/example/dircred/dircred/credential/DerReader" "position" "I" (.int E2) := Fld.keep Gp Kh5c nin0
  have Ge'h5 : Fld Z h5 a "com/example/dircred/dircred/credential/DerReader" "end" "I" (.int E) := Fld.keep Ge Kh5c nin0
  have Vt'h5 : Fld Z h5 vb "com/example/dircred/dircred/credential/DerReader$Value" "tag" "I" (.int T) := Fld.keep Vt Kh5c nin0
  have Vs'h5 : Fld Z h5 vb "com/example/dircred/dircred/credential/DerReader$Value" "contentStart" "I" (.int S) := Fld.keep Vs Kh5c nin0
  have Vc'h5 : Fld Z h5 vb "com/example/dircred/dircred/credential/DerReader$Value" "contentEnd" "I" (.int E2) := Fld.keep Vc Kh5c nin0
  have Ve'h5 : Fld Z h5 vb "com/example/dircred/dircred/credential/DerReader$Value" "end" "I" (.int E2) := Fld.keep Ve Kh5c nin0
  have hsh5 : n0 ≤ h5.size := Nat.le_trans hsh4 Kh5c.1
  have Kh5 : Keep h h5 [a] := Keep.trans Kh4 Kh5c all0
  show X.G h5 4 11 16 #[.val (.ref a)] [(.ref nb)]
  have lanb : a < nb := Nat.lt_of_lt_of_le B'h4.lt frnb
  have lbnb : b < nb := Nat.lt_of_lt_of_le A1'h4.lt frnb
  have la2nb : a2 < nb := Nat.lt_of_lt_of_le Ah3_'h4.lt frnb
  have lvbnb : vb < nb := Nat.lt_of_lt_of_le Vt.lt frnb
  have fr0nb : h.size ≤ nb := Nat.le_trans Kh4.1 frnb
  have genb : n0 ≤ nb := Nat.le_trans hsh4 frnb
  refine X.retA (t := (.object "com/example/dircred/dircred/credential/DerReader")) own_d_prog_2_method_7_16 rfl rfl rfl rfl (by decide) (by decide) ?_
  exact ⟨nb, rfl, Kh5, fr0nb, Nx, Nb, Np, Ne, Gb'h5, Gp'h5, Ge'h5⟩
theorem own_pd7 : parseMethodDescriptor "([B)V" = some ⟨[(.array .byte)], none⟩ := by decide +kernel
theorem own_pd8 : parseMethodDescriptor "()Z" = some ⟨[], some .boolean⟩ := by decide +kernel
theorem own_pd9 : parseMethodDescriptor "()V" = some ⟨[], none⟩ := by decide +kernel
theorem own_pd10 : parseMethodDescriptor "()Lcom/example/dircred/dircred/credential/DerReader;" = some ⟨[], some (.object "com/example/dircred/dircred/credential/DerReader")⟩ := by decide +kernel
set_option maxRecDepth 65536 in
set_option maxHeartbeats 1000000 in
theorem own_law (l : Launch) (Z : State) (a0 : Array Value) (hw : ∀ d ∈ tables_1, d.before a0 Z = true) (h : Heap) (n0 : Nat) (hn0 : n0 ≤ h.size) (x0 x1 x2 x3 : Int32)  :
    OwM l Z (⟨"com/example/dircred/dircred/credential/DerReaderHasMorePinLaw", "law", "(IIII)Z"⟩ : MethodName) code 17 (some .boolean) room_1 32 192 tables_1 #[(.int x0), (.int x1), (.int x2), (.int x3)] h n0 (fun r h' => r = some (.int 1)) := by
  refine OwM.of (Ls := #[.val (.int x0), .val (.int x1), .val (.int x2), .val (.int x3), .unset, .unset, .unset, .unset, .unset, .unset, .unset, .unset, .unset, .unset, .unset, .unset, .unset]) (by decide +kernel) (fun m => by first | (simp [entryFrame, mkF, argsToLocals, Value.category]; done) | rfl) ?_
  intro _ _ _ _ _ _ _ X
  have e0 : (0 : Int32).toInt = 0 := rfl
  have e1 : (1 : Int32).toInt = 1 := rfl
  have e2 : (2 : Int32).toInt = 2 := rfl
  have e4 : (4 : Int32).toInt = 4 := rfl
  have e48 : (48 : Int32).toInt = 48 := rfl
  refine X.newO (q := 3) (k' := 1) (n' := 3) (hw _ (List.mem_of_getElem? (i := 0) rfl)) (hw _ (List.mem_of_getElem? (i := 1) rfl)) (hw _ (List.mem_of_getElem? (i := 2) rfl)) at_0 rfl rfl (by decide) (by decide) rfl (fun h1 a2 ga2 Eh1 Ba2 Da2 => ?_)
  have gea2 : n0 ≤ a2 := by rw [ga2]; exact hn0
  have hsh1 : n0 ≤ h1.size := Nat.le_trans hn0 Eh1.1
  have Fa2_bytes : Fld Z h1 a2 "com/example/dircred/dircred/credential/DerReader" "bytes" "[B" .null := Da2 (Or.inr (hw _ (List.mem_of_getElem? (i := 14) rfl))) (ty := (.array .byte)) (by decide)
  have Fa2_position : Fld Z h1 a2 "com/example/dircred/dircred/credential/DerReader" "position" "I" (.int (0 : Int32)) := Da2 (Or.inl (hw _ (List.mem_of_getElem? (i := 16) rfl))) (ty := .int) (by decide)
  have Fa2_end : Fld Z h1 a2 "com/example/dircred/dircred/credential/DerReader" "end" "I" (.int (0 : Int32)) := Da2 (Or.inr (hw _ (List.mem_of_getElem? (i := 18) rfl))) (ty := .int) (by decide)
  refine X.dup (q := 4) at_3 rfl rfl ?_
  refine X.iconst (q := 5) (0 : Int32) at_4 (by decide) rfl ?_
  refine X.newP (q := 7) (ty := .byte) (N := 0) (cap := 0) (k' := 2) (n' := 3) (hw _ (List.mem_of_getElem? (i := 3) rfl)) at_5 rfl rfl (Nat.le_refl _) (by decide) rfl rfl (by decide) (by decide) rfl (fun h3 a4 ga4 Eh3 Aa4 => ?_)
  have la2_a4 : a2 < a4 := by have := Ba2.lt; rw [← ga4] at this; exact this
  have Ba2'h3 : Exa Z h3 a2 "com/example/dircred/dircred/credential/DerReader" := Exa.ext Eh3 Ba2
  have Fa2_bytes'h3 : Fld Z h3 a2 "com/example/dircred/dircred/credential/DerReader" "bytes" "[B" .null := Fld.ext Eh3 Fa2_bytes
  have Fa2_position'h3 : Fld Z h3 a2 "com/example/dircred/dircred/credential/DerReader" "position" "I" (.int (0 : Int32)) := Fld.ext Eh3 Fa2_position
  have Fa2_end'h3 : Fld Z h3 a2 "com/example/dircred/dircred/credential/DerReader" "end" "I" (.int (0 : Int32)) := Fld.ext Eh3 Fa2_end
  have gea4 : n0 ≤ a4 := by rw [ga4]; exact hsh1
  have hsh3 : n0 ≤ h3.size := Nat.le_trans hsh1 Eh3.1
  have Aa4 : OwA Z h3 a4 .byte [] := Aa4
  obtain ⟨L0, hL0⟩ : ∃ L_ : List Int32, L_ = [] := ⟨_, rfl⟩
  have AL0 : OwA Z h3 a4 .byte (L0.map Value.int) := by rw [hL0]; exact Aa4
  have nL0 : L0.length = 0 := by rw [hL0]; rfl
  have rL0 : ∀ x ∈ L0, -128 ≤ x.toInt ∧ x.toInt ≤ 127 := by
    intro x hx; rw [hL0] at hx
    simp at hx
  clear hL0
  refine X.special (a := a2) (own_i1 l Z a0 hw h3 n0 a2 a4 L0 (0 : Int32) (by rw [nL0]; rfl) hsh3 Ba2'h3 Fa2_bytes'h3 Fa2_position'h3 Fa2_end'h3 AL0 gea2 (Nat.ne_of_lt la2_a4)) rfl (hw _ (List.mem_of_getElem? (i := 4) rfl)) (hw _ (List.mem_of_getElem? (i := 5) rfl)) (hw _ (List.mem_of_getElem? (i := 2) rfl)) (hw _ (List.mem_of_getElem? (i := 6) rfl)) (by decide) own_pd7 (argsL := [(.ref a4)]) (rest := [(.ref a2)]) rfl rfl rfl (W := 1) (Nat.le_of_eq rfl) rfl (by decide) (by decide) (k' := 2) (n' := 3) rfl rfl (by decide) (by decide) at_7 (q := 10) rfl ?_
  rintro _ h5 ⟨rfl, Kh5c, Zb, Zp, Ze⟩
  have Ba2'h5 : Exa Z h5 a2 "com/example/dircred/dircred/credential/DerReader" := Exa.keep Ba2'h3 Kh5c
  have AL0'h5 : OwA Z h5 a4 .byte (L0.map Value.int) := OwA.keep AL0 Kh5c (ninS (Nat.ne_of_gt la2_a4) nin0)
  have hsh5 : n0 ≤ h5.size := Nat.le_trans hsh3 Kh5c.1
  show X.G h5 2 3 10 #[.val (.int x0), .val (.int x1), .val (.int x2), .val (.int x3), .unset, .unset, .unset, .unset, .unset, .unset, .unset, .unset, .unset, .unset, .unset, .unset, .unset] [(.ref a2)]
  refine X.astore (q := 12) (Ls' := #[.val (.int x0), .val (.int x1), .val (.int x2), .val (.int x3), .val (.ref a2), .unset, .unset, .unset, .unset, .unset, .unset, .unset, .unset, .unset, .unset, .unset, .unset]) at_10 rfl rfl rfl ?_
  refine X.aload (q := 14) at_12 rfl rfl rfl ?_
  refine X.virtual (a := a2) (own_hm l Z a0 hw h5 n0 a2 (0 : Int32) (0 : Int32) hsh5 Zp Ze) (hw _ (List.mem_of_getElem? (i := 19) rfl)) (hw _ (List.mem_of_getElem? (i := 20) rfl)) (hw _ (List.mem_of_getElem? (i := 22) rfl)) (hw _ (List.mem_of_getElem? (i := 21) rfl)) (hw _ (List.mem_of_getElem? (i := 2) rfl)) (hw _ (List.mem_of_getElem? (i := 23) rfl)) (by decide) Ba2'h5 own_pd8 (argsL := []) (rest := []) rfl rfl rfl (W := 0) (Nat.le_of_eq rfl) rfl (by decide) (by decide) (k' := 2) (n' := 3) rfl rfl (by decide) (by decide) at_14 (q := 17) rfl ?_
  rintro _ _ ⟨z0, rfl, hz0, rfl⟩
  show X.G h5 2 3 17 #[.val (.int x0), .val (.int x1), .val (.int x2), .val (.int x3), .val (.ref a2), .unset, .unset, .unset, .unset, .unset, .unset, .unset, .unset, .unset, .unset, .unset, .unset] [(.int z0)]
  refine X.if_eq (q' := 22) (q := 20) at_17 rfl (by decide) rfl (fun c17 => ?_) (fun c17 => ?_)
  · refine X.iloadN (q := 23) at_22 rfl rfl ?_
    refine X.sipush (q := 26) (255 : Int32) at_23 (by decide) rfl ?_
    refine X.iand (q := 27) at_26 rfl ?_
    refine X.nmI (fun t0 ht0 => ?_)
    have ht0r : 0 ≤ t0.toInt ∧ t0.toInt ≤ 255 := by rw [ht0, Jvm.Kit.i32_mask (k := 8) _ _ (by decide) (by decide)]; omega
    clear ht0
    refine X.istore (q := 29) (Ls' := #[.val (.int x0), .val (.int x1), .val (.int x2), .val (.int x3), .val (.ref a2), .val (.int t0), .unset, .unset, .unset, .unset, .unset, .unset, .unset, .unset, .unset, .unset, .unset]) at_27 rfl rfl ?_
    have J45 : ∀ (tg : Int32), (0 ≤ tg.toInt ∧ tg.toInt ≤ 255 ∧ ¬ tg.toInt % 32 = 31) →  X.G h5 2 3 45 #[.val (.int x0), .val (.int x1), .val (.int x2), .val (.int x3), .val (.ref a2), .val (.int tg), .unset, .unset, .unset, .unset, .unset, .unset, .unset, .unset, .unset, .unset, .unset] [] := by
      intro tg htg
      refine X.iloadN (q := 46) at_45 rfl rfl ?_
      refine X.ldc (q := 48) (v := (2147483647 : Int32)) (hw _ (List.mem_of_getElem? (i := 24) rfl)) at_46 rfl ?_
      refine X.iand (q := 49) at_48 rfl ?_
      refine X.iconst (q := 50) (3 : Int32) at_49 (by decide) rfl ?_
      refine X.irem (q := 51) at_50 (by decide) rfl ?_
      refine X.nmI (fun l0 hl0 => ?_)
      have hl0r : 0 ≤ l0.toInt ∧ l0.toInt ≤ 2 := by
        have e3_ : (3 : Int32).toInt = 3 := rfl
        rw [hl0, Jvm.Kit.i32_rem_nonneg (by rw [Jvm.Kit.i32_mask (k := 31) _ _ (by decide) (by decide)]; omega), e3_]; omega
      clear hl0
      refine X.istore (q := 53) (Ls' := #[.val (.int x0), .val (.int x1), .val (.int x2), .val (.int x3), .val (.ref a2), .val (.int tg), .val (.int l0), .unset, .unset, .unset, .unset, .unset, .unset, .unset, .unset, .unset, .unset]) at_51 rfl rfl ?_
      have J61 : ∀ (ln : Int32), (0 ≤ ln.toInt ∧ ln.toInt ≤ 2 ∧ (¬ tg.toInt = 0 ∨ ln.toInt = 0)) →  X.G h5 2 3 61 #[.val (.int x0), .val (.int x1), .val (.int x2), .val (.int x3), .val (.ref a2), .val (.int tg), .val (.int ln), .unset, .unset, .unset, .unset, .unset, .unset, .unset, .unset, .unset, .unset] [] := by
        intro ln hln
        refine X.iconst (q := 62) (4 : Int32) at_61 (by decide) rfl ?_
        refine X.newP (q := 64) (ty := .byte) (N := 4) (cap := 4) (k' := 3) (n' := 7) (hw _ (List.mem_of_getElem? (i := 3) rfl)) at_62 rfl rfl (Nat.le_refl _) (by decide) rfl rfl (by decide) (by decide) rfl (fun h6 a7 ga7 Eh6 Aa7 => ?_)
        have la2_a7 : a2 < a7 := by have := Ba2'h5.lt; rw [← ga7] at this; exact this
        have la4_a7 : a4 < a7 := by have := AL0'h5.lt; rw [← ga7] at this; exact this
        have Ba2'h6 : Exa Z h6 a2 "com/example/dircred/dircred/credential/DerReader" := Exa.ext Eh6 Ba2'h5
        have AL0'h6 : OwA Z h6 a4 .byte (L0.map Value.int) := OwA.ext (E := Eh6) AL0'h5
        have Zb'h6 : Fld Z h6 a2 "com/example/dircred/dircred/credential/DerReader" "bytes" "[B" (.ref a4) := Fld.ext Eh6 Zb
        have Zp'h6 : Fld Z h6 a2 "com/example/dircred/dircred/credential/DerReader" "position" "I" (.int (0 : Int32)) := Fld.ext Eh6 Zp
        have Ze'h6 : Fld Z h6 a2 "com/example/dircred/dircred/credential/DerReader" "end" "I" (.int (0 : Int32)) := Fld.ext Eh6 Ze
        have gea7 : n0 ≤ a7 := by rw [ga7]; exact hsh5
        have hsh6 : n0 ≤ h6.size := Nat.le_trans hsh5 Eh6.1
        have Aa7 : OwA Z h6 a7 .byte [(.int (0 : Int32)), (.int (0 : Int32)), (.int (0 : Int32)), (.int (0 : Int32))] := Aa7
        refine X.astore (q := 66) (Ls' := #[.val (.int x0), .val (.int x1), .val (.int x2), .val (.int x3), .val (.ref a2), .val (.int tg), .val (.int ln), .val (.ref a7), .unset, .unset, .unset, .unset, .unset, .unset, .unset, .unset, .unset]) at_64 rfl rfl rfl ?_
        refine X.aload (q := 68) at_66 rfl rfl rfl ?_
        refine X.iconst (q := 69) (0 : Int32) at_68 (by decide) rfl ?_
        refine X.iload (q := 71) at_69 rfl rfl ?_
        refine X.i2b (q := 72) at_71 rfl ?_
        refine X.bastore (q := 73) (j := 0) Aa7 rfl (by simp) gea7 at_72 rfl (fun h8 Wh8 Ah8 => ?_)
        have Ba2'h8 : Exa Z h8 a2 "com/example/dircred/dircred/credential/DerReader" := Exa.wr Wh8 Ba2'h6
        have AL0'h8 : OwA Z h8 a4 .byte (L0.map Value.int) := OwA.other AL0'h6 Wh8 (Nat.ne_of_lt la4_a7)
        have Zb'h8 : Fld Z h8 a2 "com/example/dircred/dircred/credential/DerReader" "bytes" "[B" (.ref a4) := Fld.other Wh8 Zb'h6 (Or.inl (Nat.ne_of_lt la2_a7))
        have Zp'h8 : Fld Z h8 a2 "com/example/dircred/dircred/credential/DerReader" "position" "I" (.int (0 : Int32)) := Fld.other Wh8 Zp'h6 (Or.inl (Nat.ne_of_lt la2_a7))
        have Ze'h8 : Fld Z h8 a2 "com/example/dircred/dircred/credential/DerReader" "end" "I" (.int (0 : Int32)) := Fld.other Wh8 Ze'h6 (Or.inl (Nat.ne_of_lt la2_a7))
        have hsh8 : n0 ≤ h8.size := by rw [Wr.size Wh8]; exact hsh6
        have Ah8_ : OwA Z h8 a7 .byte [(.int (nar .byte tg.toInt8.toInt32)), (.int (0 : Int32)), (.int (0 : Int32)), (.int (0 : Int32))] := Ah8
        refine X.aload (q := 75) at_73 rfl rfl rfl ?_
        refine X.iconst (q := 76) (1 : Int32) at_75 (by decide) rfl ?_
        refine X.iload (q := 78) at_76 rfl rfl ?_
        refine X.i2b (q := 79) at_78 rfl ?_
        refine X.bastore (q := 80) (j := 1) Ah8_ rfl (by simp) gea7 at_79 rfl (fun h9 Wh9 Ah9 => ?_)
        have Ba2'h9 : Exa Z h9 a2 "com/example/dircred/dircred/credential/DerReader" := Exa.wr Wh9 Ba2'h8
        have AL0'h9 : OwA Z h9 a4 .byte (L0.map Value.int) := OwA.other AL0'h8 Wh9 (Nat.ne_of_lt la4_a7)
        have Zb'h9 : Fld Z h9 a2 "com/example/dircred/dircred/credential/DerReader" "bytes" "[B" (.ref a4) := Fld.other Wh9 Zb'h8 (Or.inl (Nat.ne_of_lt la2_a7))
        have Zp'h9 : Fld Z h9 a2 "com/example/dircred/dircred/credential/DerReader" "position" "I" (.int (0 : Int32)) := Fld.other Wh9 Zp'h8 (Or.inl (Nat.ne_of_lt la2_a7))
        have Ze'h9 : Fld Z h9 a2 "com/example/dircred/dircred/credential/DerReader" "end" "I" (.int (0 : Int32)) := Fld.other Wh9 Ze'h8 (Or.inl (Nat.ne_of_lt la2_a7))
        have hsh9 : n0 ≤ h9.size := by rw [Wr.size Wh9]; exact hsh8
        have Ah9_ : OwA Z h9 a7 .byte [(.int (nar .byte tg.toInt8.toInt32)), (.int (nar .byte ln.toInt8.toInt32)), (.int (0 : Int32)), (.int (0 : Int32))] := Ah9
        refine X.aload (q := 82) at_80 rfl rfl rfl ?_
        refine X.iconst (q := 83) (2 : Int32) at_82 (by decide) rfl ?_
        refine X.iloadN (q := 84) at_83 rfl rfl ?_
        refine X.i2b (q := 85) at_84 rfl ?_
        refine X.bastore (q := 86) (j := 2) Ah9_ rfl (by simp) gea7 at_85 rfl (fun h10 Wh10 Ah10 => ?_)
        have Ba2'h10 : Exa Z h10 a2 "com/example/dircred/dircred/credential/DerReader" := Exa.wr Wh10 Ba2'h9
        have AL0'h10 : OwA Z h10 a4 .byte (L0.map Value.int) := OwA.other AL0'h9 Wh10 (Nat.ne_of_lt la4_a7)
        have Zb'h10 : Fld Z h10 a2 "com/example/dircred/dircred/credential/DerReader" "bytes" "[B" (.ref a4) := Fld.other Wh10 Zb'h9 (Or.inl (Nat.ne_of_lt la2_a7))
        have Zp'h10 : Fld Z h10 a2 "com/example/dircred/dircred/credential/DerReader" "position" "I" (.int (0 : Int32)) := Fld.other Wh10 Zp'h9 (Or.inl (Nat.ne_of_lt la2_a7))
        have Ze'h10 : Fld Z h10 a2 "com/example/dircred/dircred/credential/DerReader" "end" "I" (.int (0 : Int32)) := Fld.other Wh10 Ze'h9 (Or.inl (Nat.ne_of_lt la2_a7))
        have hsh10 : n0 ≤ h10.size := by rw [Wr.size Wh10]; exact hsh9
        have Ah10_ : OwA Z h10 a7 .byte [(.int (nar .byte tg.toInt8.toInt32)), (.int (nar .byte ln.toInt8.toInt32)), (.int (nar .byte x1.toInt8.toInt32)), (.int (0 : Int32))] := Ah10
        refine X.aload (q := 88) at_86 rfl rfl rfl ?_
        refine X.iconst (q := 89) (3 : Int32) at_88 (by decide) rfl ?_
        refine X.iloadN (q := 90) at_89 rfl rfl ?_
        refine X.bipush (q := 92) (8 : Int32) at_90 (by decide) rfl ?_
        refine X.ishr (q := 93) at_92 rfl ?_
        refine X.i2b (q := 94) at_93 rfl ?_
        refine X.bastore (q := 95) (j := 3) Ah10_ rfl (by simp) gea7 at_94 rfl (fun h11 Wh11 Ah11 => ?_)
        have Ba2'h11 : Exa Z h11 a2 "com/example/dircred/dircred/credential/DerReader" := Exa.wr Wh11 Ba2'h10
        have AL0'h11 : OwA Z h11 a4 .byte (L0.map Value.int) := OwA.other AL0'h10 Wh11 (Nat.ne_of_lt la4_a7)
        have Zb'h11 : Fld Z h11 a2 "com/example/dircred/dircred/credential/DerReader" "bytes" "[B" (.ref a4) := Fld.other Wh11 Zb'h10 (Or.inl (Nat.ne_of_lt la2_a7))
        have Zp'h11 : Fld Z h11 a2 "com/example/dircred/dircred/credential/DerReader" "position" "I" (.int (0 : Int32)) := Fld.other Wh11 Zp'h10 (Or.inl (Nat.ne_of_lt la2_a7))
        have Ze'h11 : Fld Z h11 a2 "com/example/dircred/dircred/credential/DerReader" "end" "I" (.int (0 : Int32)) := Fld.other Wh11 Ze'h10 (Or.inl (Nat.ne_of_lt la2_a7))
        have hsh11 : n0 ≤ h11.size := by rw [Wr.size Wh11]; exact hsh10
        have Ah11_ : OwA Z h11 a7 .byte [(.int (nar .byte tg.toInt8.toInt32)), (.int (nar .byte ln.toInt8.toInt32)), (.int (nar .byte x1.toInt8.toInt32)), (.int (nar .byte (x1 >>> ((8 : Int32) &&& 31)).toInt8.toInt32))] := Ah11
        refine X.iloadN (q := 96) at_95 rfl rfl ?_
        refine X.ldc (q := 98) (v := (2147483647 : Int32)) (hw _ (List.mem_of_getElem? (i := 24) rfl)) at_96 rfl ?_
        refine X.iand (q := 99) at_98 rfl ?_
        refine X.iconst (q := 100) (3 : Int32) at_99 (by decide) rfl ?_
        refine X.irem (q := 101) at_100 (by decide) rfl ?_
        refine X.nmI (fun m hm => ?_)
        have hmr : 0 ≤ m.toInt ∧ m.toInt ≤ 2 := by
          have e3_ : (3 : Int32).toInt = 3 := rfl
          rw [hm, Jvm.Kit.i32_rem_nonneg (by rw [Jvm.Kit.i32_mask (k := 31) _ _ (by decide) (by decide)]; omega), e3_]; omega
        clear hm
        refine X.istore (q := 103) (Ls' := #[.val (.int x0), .val (.int x1), .val (.int x2), .val (.int x3), .val (.ref a2), .val (.int tg), .val (.int ln), .val (.ref a7), .val (.int m), .unset, .unset, .unset, .unset, .unset, .unset, .unset, .unset]) at_101 rfl rfl ?_
        refine X.iconst (q := 104) (4 : Int32) at_103 (by decide) rfl ?_
        refine X.newP (q := 106) (ty := .byte) (N := 4) (cap := 4) (k' := 4) (n' := 11) (hw _ (List.mem_of_getElem? (i := 3) rfl)) at_104 rfl rfl (Nat.le_refl _) (by decide) rfl rfl (by decide) (by decide) rfl (fun h12 a13 ga13 Eh12 Aa13 => ?_)
        have la2_a13 : a2 < a13 := by have := Ba2'h11.lt; rw [← ga13] at this; exact this
        have la4_a13 : a4 < a13 := by have := AL0'h11.lt; rw [← ga13] at this; exact this
        have la7_a13 : a7 < a13 := by have := Ah11_.lt; rw [← ga13] at this; exact this
        have Ba2'h12 : Exa Z h12 a2 "com/example/dircred/dircred/credential/DerReader" := Exa.ext Eh12 Ba2'h11
        have AL0'h12 : OwA Z h12 a4 .byte (L0.map Value.int) := OwA.ext (E := Eh12) AL0'h11
        have Zb'h12 : Fld Z h12 a2 "com/example/dircred/dircred/credential/DerReader" "bytes" "[B" (.ref a4) := Fld.ext Eh12 Zb'h11
        have Zp'h12 : Fld Z h12 a2 "com/example/dircred/dircred/credential/DerReader" "position" "I" (.int (0 : Int32)) := Fld.ext Eh12 Zp'h11
        have Ze'h12 : Fld Z h12 a2 "com/example/dircred/dircred/credential/DerReader" "end" "I" (.int (0 : Int32)) := Fld.ext Eh12 Ze'h11
        have Ah11_'h12 : OwA Z h12 a7 .byte [(.int (nar .byte tg.toInt8.toInt32)), (.int (nar .byte ln.toInt8.toInt32)), (.int (nar .byte x1.toInt8.toInt32)), (.int (nar .byte (x1 >>> ((8 : Int32) &&& 31)).toInt8.toInt32))] := OwA.ext (E := Eh12) Ah11_
        have gea13 : n0 ≤ a13 := by rw [ga13]; exact hsh11
        have hsh12 : n0 ≤ h12.size := Nat.le_trans hsh11 Eh12.1
        have Aa13 : OwA Z h12 a13 .byte [(.int (0 : Int32)), (.int (0 : Int32)), (.int (0 : Int32)), (.int (0 : Int32))] := Aa13
        refine X.astore (q := 108) (Ls' := #[.val (.int x0), .val (.int x1), .val (.int x2), .val (.int x3), .val (.ref a2), .val (.int tg), .val (.int ln), .val (.ref a7), .val (.int m), .val (.ref a13), .unset, .unset, .unset, .unset, .unset, .unset, .unset]) at_106 rfl rfl rfl ?_
        refine X.aload (q := 110) at_108 rfl rfl rfl ?_
        refine X.iconst (q := 111) (0 : Int32) at_110 (by decide) rfl ?_
        refine X.bipush (q := 113) (48 : Int32) at_111 (by decide) rfl ?_
        refine X.bastore (q := 114) (j := 0) Aa13 rfl (by simp) gea13 at_113 rfl (fun h14 Wh14 Ah14 => ?_)
        have Ba2'h14 : Exa Z h14 a2 "com/example/dircred/dircred/credential/DerReader" := Exa.wr Wh14 Ba2'h12
        have AL0'h14 : OwA Z h14 a4 .byte (L0.map Value.int) := OwA.other AL0'h12 Wh14 (Nat.ne_of_lt la4_a13)
        have Zb'h14 : Fld Z h14 a2 "com/example/dircred/dircred/credential/DerReader" "bytes" "[B" (.ref a4) := Fld.other Wh14 Zb'h12 (Or.inl (Nat.ne_of_lt la2_a13))
        have Zp'h14 : Fld Z h14 a2 "com/example/dircred/dircred/credential/DerReader" "position" "I" (.int (0 : Int32)) := Fld.other Wh14 Zp'h12 (Or.inl (Nat.ne_of_lt la2_a13))
        have Ze'h14 : Fld Z h14 a2 "com/example/dircred/dircred/credential/DerReader" "end" "I" (.int (0 : Int32)) := Fld.other Wh14 Ze'h12 (Or.inl (Nat.ne_of_lt la2_a13))
        have Ah11_'h14 : OwA Z h14 a7 .byte [(.int (nar .byte tg.toInt8.toInt32)), (.int (nar .byte ln.toInt8.toInt32)), (.int (nar .byte x1.toInt8.toInt32)), (.int (nar .byte (x1 >>> ((8 : Int32) &&& 31)).toInt8.toInt32))] := OwA.other Ah11_'h12 Wh14 (Nat.ne_of_lt la7_a13)
        have hsh14 : n0 ≤ h14.size := by rw [Wr.size Wh14]; exact hsh12
        have Ah14_ : OwA Z h14 a13 .byte [(.int (nar .byte (48 : Int32))), (.int (0 : Int32)), (.int (0 : Int32)), (.int (0 : Int32))] := Ah14
        refine X.aload (q := 116) at_114 rfl rfl rfl ?_
        refine X.iconst (q := 117) (1 : Int32) at_116 (by decide) rfl ?_
        refine X.iload (q := 119) at_117 rfl rfl ?_
        refine X.i2b (q := 120) at_119 rfl ?_
        refine X.bastore (q := 121) (j := 1) Ah14_ rfl (by simp) gea13 at_120 rfl (fun h15 Wh15 Ah15 => ?_)
        have Ba2'h15 : Exa Z h15 a2 "com/example/dircred/dircred/credential/DerReader" := Exa.wr Wh15 Ba2'h14
        have AL0'h15 : OwA Z h15 a4 .byte (L0.map Value.int) := OwA.other AL0'h14 Wh15 (Nat.ne_of_lt la4_a13)
        have Zb'h15 : Fld Z h15 a2 "com/example/dircred/dircred/credential/DerReader" "bytes" "[B" (.ref a4) := Fld.other Wh15 Zb'h14 (Or.inl (Nat.ne_of_lt la2_a13))
        have Zp'h15 : Fld Z h15 a2 "com/example/dircred/dircred/credential/DerReader" "position" "I" (.int (0 : Int32)) := Fld.other Wh15 Zp'h14 (Or.inl (Nat.ne_of_lt la2_a13))
        have Ze'h15 : Fld Z h15 a2 "com/example/dircred/dircred/credential/DerReader" "end" "I" (.int (0 : Int32)) := Fld.other Wh15 Ze'h14 (Or.inl (Nat.ne_of_lt la2_a13))
        have Ah11_'h15 : OwA Z h15 a7 .byte [(.int (nar .byte tg.toInt8.toInt32)), (.int (nar .byte ln.toInt8.toInt32)), (.int (nar .byte x1.toInt8.toInt32)), (.int (nar .byte (x1 >>> ((8 : Int32) &&& 31)).toInt8.toInt32))] := OwA.other Ah11_'h14 Wh15 (Nat.ne_of_lt la7_a13)
        have hsh15 : n0 ≤ h15.size := by rw [Wr.size Wh15]; exact hsh14
        have Ah15_ : OwA Z h15 a13 .byte [(.int (nar .byte (48 : Int32))), (.int (nar .byte m.toInt8.toInt32)), (.int (0 : Int32)), (.int (0 : Int32))] := Ah15
        refine X.aload (q := 123) at_121 rfl rfl rfl ?_
        refine X.iconst (q := 124) (2 : Int32) at_123 (by decide) rfl ?_
        refine X.iloadN (q := 125) at_124 rfl rfl ?_
        refine X.bipush (q := 127) (16 : Int32) at_125 (by decide) rfl ?_
        refine X.ishr (q := 128) at_127 rfl ?_
        refine X.i2b (q := 129) at_128 rfl ?_
        refine X.bastore (q := 130) (j := 2) Ah15_ rfl (by simp) gea13 at_129 rfl (fun h16 Wh16 Ah16 => ?_)
        have Ba2'h16 : Exa Z h16 a2 "com/example/dircred/dircred/credential/DerReader" := Exa.wr Wh16 Ba2'h15
        have AL0'h16 : OwA Z h16 a4 .byte (L0.map Value.int) := OwA.other AL0'h15 Wh16 (Nat.ne_of_lt la4_a13)
        have Zb'h16 : Fld Z h16 a2 "com/example/dircred/dircred/credential/DerReader" "bytes" "[B" (.ref a4) := Fld.other Wh16 Zb'h15 (Or.inl (Nat.ne_of_lt la2_a13))
        have Zp'h16 : Fld Z h16 a2 "com/example/dircred/dircred/credential/DerReader" "position" "I" (.int (0 : Int32)) := Fld.other Wh16 Zp'h15 (Or.inl (Nat.ne_of_lt la2_a13))
        have Ze'h16 : Fld Z h16 a2 "com/example/dircred/dircred/credential/DerReader" "end" "I" (.int (0 : Int32)) := Fld.other Wh16 Ze'h15 (Or.inl (Nat.ne_of_lt la2_a13))
        have Ah11_'h16 : OwA Z h16 a7 .byte [(.int (nar .byte tg.toInt8.toInt32)), (.int (nar .byte ln.toInt8.toInt32)), (.int (nar .byte x1.toInt8.toInt32)), (.int (nar .byte (x1 >>> ((8 : Int32) &&& 31)).toInt8.toInt32))] := OwA.other Ah11_'h15 Wh16 (Nat.ne_of_lt la7_a13)
        have hsh16 : n0 ≤ h16.size := by rw [Wr.size Wh16]; exact hsh15
        have Ah16_ : OwA Z h16 a13 .byte [(.int (nar .byte (48 : Int32))), (.int (nar .byte m.toInt8.toInt32)), (.int (nar .byte (x1 >>> ((16 : Int32) &&& 31)).toInt8.toInt32)), (.int (0 : Int32))] := Ah16
        refine X.aload (q := 132) at_130 rfl rfl rfl ?_
        refine X.iconst (q := 133) (3 : Int32) at_132 (by decide) rfl ?_
        refine X.iloadN (q := 134) at_133 rfl rfl ?_
        refine X.bipush (q := 136) (24 : Int32) at_134 (by decide) rfl ?_
        refine X.ishr (q := 137) at_136 rfl ?_
        refine X.i2b (q := 138) at_137 rfl ?_
        refine X.bastore (q := 139) (j := 3) Ah16_ rfl (by simp) gea13 at_138 rfl (fun h17 Wh17 Ah17 => ?_)
        have Ba2'h17 : Exa Z h17 a2 "com/example/dircred/dircred/credential/DerReader" := Exa.wr Wh17 Ba2'h16
        have AL0'h17 : OwA Z h17 a4 .byte (L0.map Value.int) := OwA.other AL0'h16 Wh17 (Nat.ne_of_lt la4_a13)
        have Zb'h17 : Fld Z h17 a2 "com/example/dircred/dircred/credential/DerReader" "bytes" "[B" (.ref a4) := Fld.other Wh17 Zb'h16 (Or.inl (Nat.ne_of_lt la2_a13))
        have Zp'h17 : Fld Z h17 a2 "com/example/dircred/dircred/credential/DerReader" "position" "I" (.int (0 : Int32)) := Fld.other Wh17 Zp'h16 (Or.inl (Nat.ne_of_lt la2_a13))
        have Ze'h17 : Fld Z h17 a2 "com/example/dircred/dircred/credential/DerReader" "end" "I" (.int (0 : Int32)) := Fld.other Wh17 Ze'h16 (Or.inl (Nat.ne_of_lt la2_a13))
        have Ah11_'h17 : OwA Z h17 a7 .byte [(.int (nar .byte tg.toInt8.toInt32)), (.int (nar .byte ln.toInt8.toInt32)), (.int (nar .byte x1.toInt8.toInt32)), (.int (nar .byte (x1 >>> ((8 : Int32) &&& 31)).toInt8.toInt32))] := OwA.other Ah11_'h16 Wh17 (Nat.ne_of_lt la7_a13)
        have hsh17 : n0 ≤ h17.size := by rw [Wr.size Wh17]; exact hsh16
        have Ah17_ : OwA Z h17 a13 .byte [(.int (nar .byte (48 : Int32))), (.int (nar .byte m.toInt8.toInt32)), (.int (nar .byte (x1 >>> ((16 : Int32) &&& 31)).toInt8.toInt32)), (.int (nar .byte (x1 >>> ((24 : Int32) &&& 31)).toInt8.toInt32))] := Ah17
        refine X.newO (q := 142) (k' := 5) (n' := 14) (hw _ (List.mem_of_getElem? (i := 0) rfl)) (hw _ (List.mem_of_getElem? (i := 1) rfl)) (hw _ (List.mem_of_getElem? (i := 2) rfl)) at_139 rfl rfl (by decide) (by decide) rfl (fun h18 a19 ga19 Eh18 Ba19 Da19 => ?_)
        have la2_a19 : a2 < a19 := by have := Ba2'h17.lt; rw [← ga19] at this; exact this
        have la4_a19 : a4 < a19 := by have := AL0'h17.lt; rw [← ga19] at this; exact this
        have la7_a19 : a7 < a19 := by have := Ah11_'h17.lt; rw [← ga19] at this; exact this
        have la13_a19 : a13 < a19 := by have := Ah17_.lt; rw [← ga19] at this; exact this
        have Ba2'h18 : Exa Z h18 a2 "com/example/dircred/dircred/credential/DerReader" := Exa.ext Eh18 Ba2'h17
        have AL0'h18 : OwA Z h18 a4 .byte (L0.map Value.int) := OwA.ext (E := Eh18) AL0'h17
        have Zb'h18 : Fld Z h18 a2 "com/example/dircred/dircred/credential/DerReader" "bytes" "[B" (.ref a4) := Fld.ext Eh18 Zb'h17
        have Zp'h18 : Fld Z h18 a2 "com/example/dircred/dircred/credential/DerReader" "position" "I" (.int (0 : Int32)) := Fld.ext Eh18 Zp'h17
        have Ze'h18 : Fld Z h18 a2 "com/example/dircred/dircred/credential/DerReader" "end" "I" (.int (0 : Int32)) := Fld.ext Eh18 Ze'h17
        have Ah11_'h18 : OwA Z h18 a7 .byte [(.int (nar .byte tg.toInt8.toInt32)), (.int (nar .byte ln.toInt8.toInt32)), (.int (nar .byte x1.toInt8.toInt32)), (.int (nar .byte (x1 >>> ((8 : Int32) &&& 31)).toInt8.toInt32))] := OwA.ext (E := Eh18) Ah11_'h17
        have Ah17_'h18 : OwA Z h18 a13 .byte [(.int (nar .byte (48 : Int32))), (.int (nar .byte m.toInt8.toInt32)), (.int (nar .byte (x1 >>> ((16 : Int32) &&& 31)).toInt8.toInt32)), (.int (nar .byte (x1 >>> ((24 : Int32) &&& 31)).toInt8.toInt32))] := OwA.ext (E := Eh18) Ah17_
        have gea19 : n0 ≤ a19 := by rw [ga19]; exact hsh17
        have hsh18 : n0 ≤ h18.size := Nat.le_trans hsh17 Eh18.1
        have Fa19_bytes : Fld Z h18 a19 "com/example/dircred/dircred/credential/DerReader" "bytes" "[B" .null := Da19 (Or.inr (hw _ (List.mem_of_getElem? (i := 14) rfl))) (ty := (.array .byte)) (by decide)
        have Fa19_position : Fld Z h18 a19 "com/example/dircred/dircred/credential/DerReader" "position" "I" (.int (0 : Int32)) := Da19 (Or.inl (hw _ (List.mem_of_getElem? (i := 16) rfl))) (ty := .int) (by decide)
        have Fa19_end : Fld Z h18 a19 "com/example/dircred/dircred/credential/DerReader" "end" "I" (.int (0 : Int32)) := Da19 (Or.inr (hw _ (List.mem_of_getElem? (i := 18) rfl))) (ty := .int) (by decide)
        refine X.dup (q := 143) at_142 rfl rfl ?_
        refine X.aload (q := 145) at_143 rfl rfl rfl ?_
        obtain ⟨L1, hL1⟩ : ∃ L_ : List Int32, L_ = [(nar .byte tg.toInt8.toInt32), (nar .byte ln.toInt8.toInt32), (nar .byte x1.toInt8.toInt32), (nar .byte (x1 >>> ((8 : Int32) &&& 31)).toInt8.toInt32)] := ⟨_, rfl⟩
        have AL1 : OwA Z h18 a7 .byte (L1.map Value.int) := by rw [hL1]; exact Ah11_'h18
        have nL1 : L1.length = 4 := by rw [hL1]; rfl
        have gL10 : (L1.getD 0 0).toInt = (tg.toInt + 128) % 256 - 128 := by rw [hL1]; exact own_nbt _
        have gL11 : (L1.getD 1 0).toInt = (ln.toInt + 128) % 256 - 128 := by rw [hL1]; exact own_nbt _
        have gL12 : (L1.getD 2 0).toInt = (x1.toInt + 128) % 256 - 128 := by rw [hL1]; exact own_nbt _
        have gL13 : (L1.getD 3 0).toInt = ((x1 >>> ((8 : Int32) &&& 31)).toInt + 128) % 256 - 128 := by rw [hL1]; exact own_nbt _
        have rL1 : ∀ x ∈ L1, -128 ≤ x.toInt ∧ x.toInt ≤ 127 := by
          intro x hx; rw [hL1] at hx
          simp only [List.mem_cons, List.not_mem_nil, or_false] at hx
          rcases hx with rfl | rfl | rfl | rfl
          · rw [own_nbt]; omega
          · rw [own_nbt]; omega
          · rw [own_nbt]; omega
          · rw [own_nbt]; omega
        clear hL1
        refine X.special (a := a19) (own_i1 l Z a0 hw h18 n0 a19 a7 L1 (4 : Int32) (by rw [nL1]; rfl) hsh18 Ba19 Fa19_bytes Fa19_position Fa19_end AL1 gea19 (Nat.ne_of_gt la7_a19)) rfl (hw _ (List.mem_of_getElem? (i := 4) rfl)) (hw _ (List.mem_of_getElem? (i := 5) rfl)) (hw _ (List.mem_of_getElem? (i := 2) rfl)) (hw _ (List.mem_of_getElem? (i := 6) rfl)) (by decide) own_pd7 (argsL := [(.ref a7)]) (rest := [(.ref a19)]) rfl rfl rfl (W := 1) (Nat.le_of_eq rfl) rfl (by decide) (by decide) (k' := 5) (n' := 14) rfl rfl (by decide) (by decide) at_145 (q := 148) rfl ?_
        rintro _ h20 ⟨rfl, Kh20c, Ab, Ap, Ae⟩
        have Ba2'h20 : Exa Z h20 a2 "com/example/dircred/dircred/credential/DerReader" := Exa.keep Ba2'h18 Kh20c
        have AL0'h20 : OwA Z h20 a4 .byte (L0.map Value.int) := OwA.keep AL0'h18 Kh20c (ninS (Nat.ne_of_lt la4_a19) nin0)
        have Zb'h20 : Fld Z h20 a2 "com/example/dircred/dircred/credential/DerReader" "bytes" "[B" (.ref a4) := Fld.keep Zb'h18 Kh20c (ninS (Nat.ne_of_lt la2_a19) nin0)
        have Zp'h20 : Fld Z h20 a2 "com/example/dircred/dircred/credential/DerReader" "position" "I" (.int (0 : Int32)) := Fld.keep Zp'h18 Kh20c (ninS (Nat.ne_of_lt la2_a19) nin0)
        have Ze'h20 : Fld Z h20 a2 "com/example/dircred/dircred/credential/DerReader" "end" "I" (.int (0 : Int32)) := Fld.keep Ze'h18 Kh20c (ninS (Nat.ne_of_lt la2_a19) nin0)
        have AL1'h20 : OwA Z h20 a7 .byte (L1.map Value.int) := OwA.keep AL1 Kh20c (ninS (Nat.ne_of_lt la7_a19) nin0)
        have Ah17_'h20 : OwA Z h20 a13 .byte [(.int (nar .byte (48 : Int32))), (.int (nar .byte m.toInt8.toInt32)), (.int (nar .byte (x1 >>> ((16 : Int32) &&& 31)).toInt8.toInt32)), (.int (nar .byte (x1 >>> ((24 : Int32) &&& 31)).toInt8.toInt32))] := OwA.keep Ah17_'h18 Kh20c (ninS (Nat.ne_of_lt la13_a19) nin0)
        have Ba19'h20 : Exa Z h20 a19 "com/example/dircred/dircred/credential/DerReader" := Exa.keep Ba19 Kh20c
        have hsh20 : n0 ≤ h20.size := Nat.le_trans hsh18 Kh20c.1
        show X.G h20 5 14 148 #[.val (.int x0), .val (.int x1), .val (.int x2), .val (.int x3), .val (.ref a2), .val (.int tg), .val (.int ln), .val (.ref a7), .val (.int m), .val (.ref a13), .unset, .unset, .unset, .unset, .unset, .unset, .unset] [(.ref a19)]
        refine X.astore (q := 150) (Ls' := #[.val (.int x0), .val (.int x1), .val (.int x2), .val (.int x3), .val (.ref a2), .val (.int tg), .val (.int ln), .val (.ref a7), .val (.int m), .val (.ref a13), .val (.ref a19), .unset, .unset, .unset, .unset, .unset, .unset]) at_148 rfl rfl rfl ?_
        refine X.aload (q := 152) at_150 rfl rfl rfl ?_
        refine X.virtual (a := a19) (own_hm l Z a0 hw h20 n0 a19 (0 : Int32) (4 : Int32) hsh20 Ap Ae) (hw _ (List.mem_of_getElem? (i := 19) rfl)) (hw _ (List.mem_of_getElem? (i := 20) rfl)) (hw _ (List.mem_of_getElem? (i := 22) rfl)) (hw _ (List.mem_of_getElem? (i := 21) rfl)) (hw _ (List.mem_of_getElem? (i := 2) rfl)) (hw _ (List.mem_of_getElem? (i := 23) rfl)) (by decide) Ba19'h20 own_pd8 (argsL := []) (rest := []) rfl rfl rfl (W := 0) (Nat.le_of_eq rfl) rfl (by decide) (by decide) (k' := 5) (n' := 14) rfl rfl (by decide) (by decide) at_152 (q := 155) rfl ?_
        rintro _ _ ⟨z1, rfl, hz1, rfl⟩
        show X.G h20 5 14 155 #[.val (.int x0), .val (.int x1), .val (.int x2), .val (.int x3), .val (.ref a2), .val (.int tg), .val (.int ln), .val (.ref a7), .val (.int m), .val (.ref a13), .val (.ref a19), .unset, .unset, .unset, .unset, .unset, .unset] [(.int z1)]
        refine X.istore (q := 157) (Ls' := #[.val (.int x0), .val (.int x1), .val (.int x2), .val (.int x3), .val (.ref a2), .val (.int tg), .val (.int ln), .val (.ref a7), .val (.int m), .val (.ref a13), .val (.ref a19), .val (.int z1), .unset, .unset, .unset, .unset, .unset]) at_155 rfl rfl ?_
        refine X.aload (q := 159) at_157 rfl rfl rfl ?_
        have HS : own_hdr L1 0 tg 1 2 (2 : Int32) ln := by unfold own_hdr; simp only [nL1, Nat.reduceAdd, and_true]; refine ⟨?_, ?_, ?_, ?_, ?_, ?_, ?_, ?_⟩ <;> first | omega | rfl
        obtain ⟨E2, hE2⟩ : ∃ E2 : Int32, E2.toInt = ((2 : Nat) : Int) + ln.toInt := ⟨2 + ln, by rw [own_add rfl (by omega) (by omega)]; omega⟩
        refine X.virtual (a := a19) (own_skip l Z a0 hw h20 n0 a19 a7 L1 0 (4 : Int32) 0 tg 1 2 2 ln rL1 (by rw [nL1]; rfl) (by rw [nL1]; decide) rfl HS E2 hE2 (by omega) hsh20 Ba19'h20 Ab Ap Ae AL1'h20 gea19 (Nat.ne_of_gt la7_a19)) (hw _ (List.mem_of_getElem? (i := 25) rfl)) (hw _ (List.mem_of_getElem? (i := 26) rfl)) (hw _ (List.mem_of_getElem? (i := 28) rfl)) (hw _ (List.mem_of_getElem? (i := 27) rfl)) (hw _ (List.mem_of_getElem? (i := 2) rfl)) (hw _ (List.mem_of_getElem? (i := 29) rfl)) (by decide) Ba19'h20 own_pd9 (argsL := []) (rest := []) rfl rfl rfl (W := 0) (Nat.le_of_eq rfl) rfl (by decide) (by decide) (k' := 7) (n' := 21) rfl rfl (by decide) (by decide) at_159 (q := 162) rfl ?_
        rintro _ h21 ⟨rfl, Kh21c, Sb, Sp, Se⟩
        have Ba2'h21 : Exa Z h21 a2 "com/example/dircred/dircred/credential/DerReader" := Exa.keep Ba2'h20 Kh21c
        have AL0'h21 : OwA Z h21 a4 .byte (L0.map Value.int) := OwA.keep AL0'h20 Kh21c (ninS (Nat.ne_of_lt la4_a19) nin0)
        have Zb'h21 : Fld Z h21 a2 "com/example/dircred/dircred/credential/DerReader" "bytes" "[B" (.ref a4) := Fld.keep Zb'h20 Kh21c (ninS (Nat.ne_of_lt la2_a19) nin0)
        have Zp'h21 : Fld Z h21 a2 "com/example/dircred/dircred/credential/DerReader" "position" "I" (.int (0 : Int32)) := Fld.keep Zp'h20 Kh21c (ninS (Nat.ne_of_lt la2_a19) nin0)
        have Ze'h21 : Fld Z h21 a2 "com/example/dircred/dircred/credential/DerReader" "end" "I" (.int (0 : Int32)) := Fld.keep Ze'h20 Kh21c (ninS (Nat.ne_of_lt la2_a19) nin0)
        have AL1'h21 : OwA Z h21 a7 .byte (L1.map Value.int) := OwA.keep AL1'h20 Kh21c (ninS (Nat.ne_of_lt la7_a19) nin0)
        have Ah17_'h21 : OwA Z h21 a13 .byte [(.int (nar .byte (48 : Int32))), (.int (nar .byte m.toInt8.toInt32)), (.int (nar .byte (x1 >>> ((16 : Int32) &&& 31)).toInt8.toInt32)), (.int (nar .byte (x1 >>> ((24 : Int32) &&& 31)).toInt8.toInt32))] := OwA.keep Ah17_'h20 Kh21c (ninS (Nat.ne_of_lt la13_a19) nin0)
        have Ba19'h21 : Exa Z h21 a19 "com/example/dircred/dircred/credential/DerReader" := Exa.keep Ba19'h20 Kh21c
        have hsh21 : n0 ≤ h21.size := Nat.le_trans hsh20 Kh21c.1
        show X.G h21 7 21 162 #[.val (.int x0), .val (.int x1), .val (.int x2), .val (.int x3), .val (.ref a2), .val (.int tg), .val (.int ln), .val (.ref a7), .val (.int m), .val (.ref a13), .val (.ref a19), .val (.int z1), .unset, .unset, .unset, .unset, .unset] []
        refine X.aload (q := 164) at_162 rfl rfl rfl ?_
        refine X.virtual (a := a19) (own_hm l Z a0 hw h21 n0 a19 E2 (4 : Int32) hsh21 Sp Se) (hw _ (List.mem_of_getElem? (i := 19) rfl)) (hw _ (List.mem_of_getElem? (i := 20) rfl)) (hw _ (List.mem_of_getElem? (i := 22) rfl)) (hw _ (List.mem_of_getElem? (i := 21) rfl)) (hw _ (List.mem_of_getElem? (i := 2) rfl)) (hw _ (List.mem_of_getElem? (i := 23) rfl)) (by decide) Ba19'h21 own_pd8 (argsL := []) (rest := []) rfl rfl rfl (W := 0) (Nat.le_of_eq rfl) rfl (by decide) (by decide) (k' := 7) (n' := 21) rfl rfl (by decide) (by decide) at_164 (q := 167) rfl ?_
        rintro _ _ ⟨z2, rfl, hz2, rfl⟩
        show X.G h21 7 21 167 #[.val (.int x0), .val (.int x1), .val (.int x2), .val (.int x3), .val (.ref a2), .val (.int tg), .val (.int ln), .val (.ref a7), .val (.int m), .val (.ref a13), .val (.ref a19), .val (.int z1), .unset, .unset, .unset, .unset, .unset] [(.int z2)]
        refine X.istore (q := 169) (Ls' := #[.val (.int x0), .val (.int x1), .val (.int x2), .val (.int x3), .val (.ref a2), .val (.int tg), .val (.int ln), .val (.ref a7), .val (.int m), .val (.ref a13), .val (.ref a19), .val (.int z1), .val (.int z2), .unset, .unset, .unset, .unset]) at_167 rfl rfl ?_
        refine X.newO (q := 172) (k' := 8) (n' := 24) (hw _ (List.mem_of_getElem? (i := 0) rfl)) (hw _ (List.mem_of_getElem? (i := 1) rfl)) (hw _ (List.mem_of_getElem? (i := 2) rfl)) at_169 rfl rfl (by decide) (by decide) rfl (fun h22 a23 ga23 Eh22 Ba23 Da23 => ?_)
        have la2_a23 : a2 < a23 := by have := Ba2'h21.lt; rw [← ga23] at this; exact this
        have la4_a23 : a4 < a23 := by have := AL0'h21.lt; rw [← ga23] at this; exact this
        have la7_a23 : a7 < a23 := by have := AL1'h21.lt; rw [← ga23] at this; exact this
        have la13_a23 : a13 < a23 := by have := Ah17_'h21.lt; rw [← ga23] at this; exact this
        have la19_a23 : a19 < a23 := by have := Ba19'h21.lt; rw [← ga23] at this; exact this
        have Ba2'h22 : Exa Z h22 a2 "com/example/dircred/dircred/credential/DerReader" := Exa.ext Eh22 Ba2'h21
        have AL0'h22 : OwA Z h22 a4 .byte (L0.map Value.int) := OwA.ext (E := Eh22) AL0'h21
        have Zb'h22 : Fld Z h22 a2 "com/example/dircred/dircred/credential/DerReader" "bytes" "[B" (.ref a4) := Fld.ext Eh22 Zb'h21
        have Zp'h22 : Fld Z h22 a2 "com/example/dircred/dircred/credential/DerReader" "position" "I" (.int (0 : Int32)) := Fld.ext Eh22 Zp'h21
        have Ze'h22 : Fld Z h22 a2 "com/example/dircred/dircred/credential/DerReader" "end" "I" (.int (0 : Int32)) := Fld.ext Eh22 Ze'h21
        have AL1'h22 : OwA Z h22 a7 .byte (L1.map Value.int) := OwA.ext (E := Eh22) AL1'h21
        have Ah17_'h22 : OwA Z h22 a13 .byte [(.int (nar .byte (48 : Int32))), (.int (nar .byte m.toInt8.toInt32)), (.int (nar .byte (x1 >>> ((16 : Int32) &&& 31)).toInt8.toInt32)), (.int (nar .byte (x1 >>> ((24 : Int32) &&& 31)).toInt8.toInt32))] := OwA.ext (E := Eh22) Ah17_'h21
        have Ba19'h22 : Exa Z h22 a19 "com/example/dircred/dircred/credential/DerReader" := Exa.ext Eh22 Ba19'h21
        have Sb'h22 : Fld Z h22 a19 "com/example/dircred/dircred/credential/DerReader" "bytes" "[B" (.ref a7) := Fld.ext Eh22 Sb
        have Sp'h22 : Fld Z h22 a19 "com/example/dircred/dircred/credential/DerReader" "position" "I" (.int E2) := Fld.ext Eh22 Sp
        have Se'h22 : Fld Z h22 a19 "com/example/dircred/dircred/credential/DerReader" "end" "I" (.int (4 : Int32)) := Fld.ext Eh22 Se
        have gea23 : n0 ≤ a23 := by rw [ga23]; exact hsh21
        have hsh22 : n0 ≤ h22.size := Nat.le_trans hsh21 Eh22.1
        have Fa23_bytes : Fld Z h22 a23 "com/example/dircred/dircred/credential/DerReader" "bytes" "[B" .null := Da23 (Or.inr (hw _ (List.mem_of_getElem? (i := 14) rfl))) (ty := (.array .byte)) (by decide)
        have Fa23_position : Fld Z h22 a23 "com/example/dircred/dircred/credential/DerReader" "position" "I" (.int (0 : Int32)) := Da23 (Or.inl (hw _ (List.mem_of_getElem? (i := 16) rfl))) (ty := .int) (by decide)
        have Fa23_end : Fld Z h22 a23 "com/example/dircred/dircred/credential/DerReader" "end" "I" (.int (0 : Int32)) := Da23 (Or.inr (hw _ (List.mem_of_getElem? (i := 18) rfl))) (ty := .int) (by decide)
        refine X.dup (q := 173) at_172 rfl rfl ?_
        refine X.aload (q := 175) at_173 rfl rfl rfl ?_
        obtain ⟨L2, hL2⟩ : ∃ L_ : List Int32, L_ = [(nar .byte (48 : Int32)), (nar .byte m.toInt8.toInt32), (nar .byte (x1 >>> ((16 : Int32) &&& 31)).toInt8.toInt32), (nar .byte (x1 >>> ((24 : Int32) &&& 31)).toInt8.toInt32)] := ⟨_, rfl⟩
        have AL2 : OwA Z h22 a13 .byte (L2.map Value.int) := by rw [hL2]; exact Ah17_'h22
        have nL2 : L2.length = 4 := by rw [hL2]; rfl
        have gL20 : (L2.getD 0 0).toInt = 48 := by rw [hL2]; rfl
        have gL21 : (L2.getD 1 0).toInt = (m.toInt + 128) % 256 - 128 := by rw [hL2]; exact own_nbt _
        have gL22 : (L2.getD 2 0).toInt = ((x1 >>> ((16 : Int32) &&& 31)).toInt + 128) % 256 - 128 := by rw [hL2]; exact own_nbt _
        have gL23 : (L2.getD 3 0).toInt = ((x1 >>> ((24 : Int32) &&& 31)).toInt + 128) % 256 - 128 := by rw [hL2]; exact own_nbt _
        have rL2 : ∀ x ∈ L2, -128 ≤ x.toInt ∧ x.toInt ≤ 127 := by
          intro x hx; rw [hL2] at hx
          simp only [List.mem_cons, List.not_mem_nil, or_false] at hx
          rcases hx with rfl | rfl | rfl | rfl
          · exact ⟨by decide, by decide⟩
          · rw [own_nbt]; omega
          · rw [own_nbt]; omega
          · rw [own_nbt]; omega
        clear hL2
        refine X.special (a := a23) (own_i1 l Z a0 hw h22 n0 a23 a13 L2 (4 : Int32) (by rw [nL2]; rfl) hsh22 Ba23 Fa23_bytes Fa23_position Fa23_end AL2 gea23 (Nat.ne_of_gt la13_a23)) rfl (hw _ (List.mem_of_getElem? (i := 4) rfl)) (hw _ (List.mem_of_getElem? (i := 5) rfl)) (hw _ (List.mem_of_getElem? (i := 2) rfl)) (hw _ (List.mem_of_getElem? (i := 6) rfl)) (by decide) own_pd7 (argsL := [(.ref a13)]) (rest := [(.ref a23)]) rfl rfl rfl (W := 1) (Nat.le_of_eq rfl) rfl (by decide) (by decide) (k' := 8) (n' := 24) rfl rfl (by decide) (by decide) at_175 (q := 178) rfl ?_
        rintro _ h24 ⟨rfl, Kh24c, Cb, Cp, Ce⟩
        have Ba2'h24 : Exa Z h24 a2 "com/example/dircred/dircred/credential/DerReader" := Exa.keep Ba2'h22 Kh24c
        have AL0'h24 : OwA Z h24 a4 .byte (L0.map Value.int) := OwA.keep AL0'h22 Kh24c (ninS (Nat.ne_of_lt la4_a23) nin0)
        have Zb'h24 : Fld Z h24 a2 "com/example/dircred/dircred/credential/DerReader" "bytes" "[B" (.ref a4) := Fld.keep Zb'h22 Kh24c (ninS (Nat.ne_of_lt la2_a23) nin0)
        have Zp'h24 : Fld Z h24 a2 "com/example/dircred/dircred/credential/DerReader" "position" "I" (.int (0 : Int32)) := Fld.keep Zp'h22 Kh24c (ninS (Nat.ne_of_lt la2_a23) nin0)
        have Ze'h24 : Fld Z h24 a2 "com/example/dircred/dircred/credential/DerReader" "end" "I" (.int (0 : Int32)) := Fld.keep Ze'h22 Kh24c (ninS (Nat.ne_of_lt la2_a23) nin0)
        have AL1'h24 : OwA Z h24 a7 .byte (L1.map Value.int) := OwA.keep AL1'h22 Kh24c (ninS (Nat.ne_of_lt la7_a23) nin0)
        have AL2'h24 : OwA Z h24 a13 .byte (L2.map Value.int) := OwA.keep AL2 Kh24c (ninS (Nat.ne_of_lt la13_a23) nin0)
        have Ba19'h24 : Exa Z h24 a19 "com/example/dircred/dircred/credential/DerReader" := Exa.keep Ba19'h22 Kh24c
        have Sb'h24 : Fld Z h24 a19 "com/example/dircred/dircred/credential/DerReader" "bytes" "[B" (.ref a7) := Fld.keep Sb'h22 Kh24c (ninS (Nat.ne_of_lt la19_a23) nin0)
        have Sp'h24 : Fld Z h24 a19 "com/example/dircred/dircred/credential/DerReader" "position" "I" (.int E2) := Fld.keep Sp'h22 Kh24c (ninS (Nat.ne_of_lt la19_a23) nin0)
        have Se'h24 : Fld Z h24 a19 "com/example/dircred/dircred/credential/DerReader" "end" "I" (.int (4 : Int32)) := Fld.keep Se'h22 Kh24c (ninS (Nat.ne_of_lt la19_a23) nin0)
        have Ba23'h24 : Exa Z h24 a23 "com/example/dircred/dircred/credential/DerReader" := Exa.keep Ba23 Kh24c
        have hsh24 : n0 ≤ h24.size := Nat.le_trans hsh22 Kh24c.1
        show X.G h24 8 24 178 #[.val (.int x0), .val (.int x1), .val (.int x2), .val (.int x3), .val (.ref a2), .val (.int tg), .val (.int ln), .val (.ref a7), .val (.int m), .val (.ref a13), .val (.ref a19), .val (.int z1), .val (.int z2), .unset, .unset, .unset, .unset] [(.ref a23)]
        refine X.astore (q := 180) (Ls' := #[.val (.int x0), .val (.int x1), .val (.int x2), .val (.int x3), .val (.ref a2), .val (.int tg), .val (.int ln), .val (.ref a7), .val (.int m), .val (.ref a13), .val (.ref a19), .val (.int z1), .val (.int z2), .val (.ref a23), .unset, .unset, .unset]) at_178 rfl rfl rfl ?_
        refine X.aload (q := 182) at_180 rfl rfl rfl ?_
        have HS2 : own_hdr L2 0 (48 : Int32) 1 2 (2 : Int32) m := by unfold own_hdr; simp only [nL2, Nat.reduceAdd, and_true]; refine ⟨?_, ?_, ?_, ?_, ?_, ?_, ?_, ?_⟩ <;> first | omega | rfl
        obtain ⟨E3, hE3⟩ : ∃ E2 : Int32, E2.toInt = ((2 : Nat) : Int) + m.toInt := ⟨2 + m, by rw [own_add rfl (by omega) (by omega)]; omega⟩
        refine X.virtual (a := a23) (own_sq l Z a0 hw h24 n0 a23 a13 L2 0 (4 : Int32) 0 48 1 2 2 m rL2 (by rw [nL2]; rfl) (by rw [nL2]; decide) rfl HS2 E3 hE3 (by omega) rfl hsh24 Ba23'h24 Cb Cp Ce AL2'h24 gea23 (Nat.ne_of_gt la13_a23)) (hw _ (List.mem_of_getElem? (i := 69) rfl)) (hw _ (List.mem_of_getElem? (i := 70) rfl)) (hw _ (List.mem_of_getElem? (i := 72) rfl)) (hw _ (List.mem_of_getElem? (i := 71) rfl)) (hw _ (List.mem_of_getElem? (i := 2) rfl)) (hw _ (List.mem_of_getElem? (i := 73) rfl)) (by decide) Ba23'h24 own_pd10 (argsL := []) (rest := []) rfl rfl rfl (W := 0) (Nat.le_of_eq rfl) rfl (by decide) (by decide) (k' := 12) (n' := 35) rfl rfl (by decide) (by decide) at_182 (q := 185) rfl ?_
        rintro _ h25 ⟨nb, rfl, Kh25c, frnb, Nx, Nb, Np, Ne, Qb, Qp, Qe⟩
        have Ba2'h25 : Exa Z h25 a2 "com/example/dircred/dircred/credential/DerReader" := Exa.keep Ba2'h24 Kh25c
        have AL0'h25 : OwA Z h25 a4 .byte (L0.map Value.int) := OwA.keep AL0'h24 Kh25c (ninS (Nat.ne_of_lt la4_a23) nin0)
        have Zb'h25 : Fld Z h25 a2 "com/example/dircred/dircred/credential/DerReader" "bytes" "[B" (.ref a4) := Fld.keep Zb'h24 Kh25c (ninS (Nat.ne_of_lt la2_a23) nin0)
        have Zp'h25 : Fld Z h25 a2 "com/example/dircred/dircred/credential/DerReader" "position" "I" (.int (0 : Int32)) := Fld.keep Zp'h24 Kh25c (ninS (Nat.ne_of_lt la2_a23) nin0)
        have Ze'h25 : Fld Z h25 a2 "com/example/dircred/dircred/credential/DerReader" "end" "I" (.int (0 : Int32)) := Fld.keep Ze'h24 Kh25c (ninS (Nat.ne_of_lt la2_a23) nin0)
        have AL1'h25 : OwA Z h25 a7 .byte (L1.map Value.int) := OwA.keep AL1'h24 Kh25c (ninS (Nat.ne_of_lt la7_a23) nin0)
        have AL2'h25 : OwA Z h25 a13 .byte (L2.map Value.int) := OwA.keep AL2'h24 Kh25c (ninS (Nat.ne_of_lt la13_a23) nin0)
        have Ba19'h25 : Exa Z h25 a19 "com/example/dircred/dircred/credential/DerReader" := Exa.keep Ba19'h24 Kh25c
        have Sb'h25 : Fld Z h25 a19 "com/example/dircred/dircred/credential/DerReader" "bytes" "[B" (.ref a7) := Fld.keep Sb'h24 Kh25c (ninS (Nat.ne_of_lt la19_a23) nin0)
        have Sp'h25 : Fld Z h25 a19 "com/example/dircred/dircred/credential/DerReader" "position" "I" (.int E2) := Fld.keep Sp'h24 Kh25c (ninS (Nat.ne_of_lt la19_a23) nin0)
        have Se'h25 : Fld Z h25 a19 "com/example/dircred/dircred/credential/DerReader" "end" "I" (.int (4 : Int32)) := Fld.keep Se'h24 Kh25c (ninS (Nat.ne_of_lt la19_a23) nin0)
        have Ba23'h25 : Exa Z h25 a23 "com/example/dircred/dircred/credential/DerReader" := Exa.keep Ba23'h24 Kh25c
        have hsh25 : n0 ≤ h25.size := Nat.le_trans hsh24 Kh25c.1
        show X.G h25 12 35 185 #[.val (.int x0), .val (.int x1), .val (.int x2), .val (.int x3), .val (.ref a2), .val (.int tg), .val (.int ln), .val (.ref a7), .val (.int m), .val (.ref a13), .val (.ref a19), .val (.int z1), .val (.int z2), .val (.ref a23), .unset, .unset, .unset] [(.ref nb)]
        have la2nb : a2 < nb := Nat.lt_of_lt_of_le Ba2'h24.lt frnb
        have la4nb : a4 < nb := Nat.lt_of_lt_of_le AL0'h24.lt frnb
        have la7nb : a7 < nb := Nat.lt_of_lt_of_le AL1'h24.lt frnb
        have la13nb : a13 < nb := Nat.lt_of_lt_of_le AL2'h24.lt frnb
        have la19nb : a19 < nb := Nat.lt_of_lt_of_le Ba19'h24.lt frnb
        have la23nb : a23 < nb := Nat.lt_of_lt_of_le Ba23'h24.lt frnb
        have genb : n0 ≤ nb := Nat.le_trans hsh24 frnb
        refine X.astore (q := 187) (Ls' := #[.val (.int x0), .val (.int x1), .val (.int x2), .val (.int x3), .val (.ref a2), .val (.int tg), .val (.int ln), .val (.ref a7), .val (.int m), .val (.ref a13), .val (.ref a19), .val (.int z1), .val (.int z2), .val (.ref a23), .val (.ref nb), .unset, .unset]) at_185 rfl rfl rfl ?_
        refine X.aload (q := 189) at_187 rfl rfl rfl ?_
        refine X.virtual (a := nb) (own_hm l Z a0 hw h25 n0 nb (2 : Int32) E3 hsh25 Np Ne) (hw _ (List.mem_of_getElem? (i := 19) rfl)) (hw _ (List.mem_of_getElem? (i := 20) rfl)) (hw _ (List.mem_of_getElem? (i := 22) rfl)) (hw _ (List.mem_of_getElem? (i := 21) rfl)) (hw _ (List.mem_of_getElem? (i := 2) rfl)) (hw _ (List.mem_of_getElem? (i := 23) rfl)) (by decide) Nx own_pd8 (argsL := []) (rest := []) rfl rfl rfl (W := 0) (Nat.le_of_eq rfl) rfl (by decide) (by decide) (k' := 12) (n' := 35) rfl rfl (by decide) (by decide) at_189 (q := 192) rfl ?_
        rintro _ _ ⟨z3, rfl, hz3, rfl⟩
        show X.G h25 12 35 192 #[.val (.int x0), .val (.int x1), .val (.int x2), .val (.int x3), .val (.ref a2), .val (.int tg), .val (.int ln), .val (.ref a7), .val (.int m), .val (.ref a13), .val (.ref a19), .val (.int z1), .val (.int z2), .val (.ref a23), .val (.ref nb), .unset, .unset] [(.int z3)]
        refine X.istore (q := 194) (Ls' := #[.val (.int x0), .val (.int x1), .val (.int x2), .val (.int x3), .val (.ref a2), .val (.int tg), .val (.int ln), .val (.ref a7), .val (.int m), .val (.ref a13), .val (.ref a19), .val (.int z1), .val (.int z2), .val (.ref a23), .val (.ref nb), .val (.int z3), .unset]) at_192 rfl rfl ?_
        refine X.aload (q := 196) at_194 rfl rfl rfl ?_
        refine X.virtual (a := a23) (own_hm l Z a0 hw h25 n0 a23 E3 (4 : Int32) hsh25 Qp Qe) (hw _ (List.mem_of_getElem? (i := 19) rfl)) (hw _ (List.mem_of_getElem? (i := 20) rfl)) (hw _ (List.mem_of_getElem? (i := 22) rfl)) (hw _ (List.mem_of_getElem? (i := 21) rfl)) (hw _ (List.mem_of_getElem? (i := 2) rfl)) (hw _ (List.mem_of_getElem? (i := 23) rfl)) (by decide) Ba23'h25 own_pd8 (argsL := []) (rest := []) rfl rfl rfl (W := 0) (Nat.le_of_eq rfl) rfl (by decide) (by decide) (k' := 12) (n' := 35) rfl rfl (by decide) (by decide) at_196 (q := 199) rfl ?_
        rintro _ _ ⟨z4, rfl, hz4, rfl⟩
        show X.G h25 12 35 199 #[.val (.int x0), .val (.int x1), .val (.int x2), .val (.int x3), .val (.ref a2), .val (.int tg), .val (.int ln), .val (.ref a7), .val (.int m), .val (.ref a13), .val (.ref a19), .val (.int z1), .val (.int z2), .val (.ref a23), .val (.ref nb), .val (.int z3), .unset] [(.int z4)]
        refine X.istore (q := 201) (Ls' := #[.val (.int x0), .val (.int x1), .val (.int x2), .val (.int x3), .val (.ref a2), .val (.int tg), .val (.int ln), .val (.ref a7), .val (.int m), .val (.ref a13), .val (.ref a19), .val (.int z1), .val (.int z2), .val (.ref a23), .val (.ref nb), .val (.int z3), .val (.int z4)]) at_199 rfl rfl ?_
        refine X.iload (q := 203) at_201 rfl rfl ?_
        refine X.if_eq (q' := 257) (q := 206) at_203 rfl (by decide) rfl (fun c203 => ?_) (fun c203 => ?_)
        · omega
        · refine X.iload (q := 208) at_206 rfl rfl ?_
          refine X.iload (q := 210) at_208 rfl rfl ?_
          refine X.iconst (q := 211) (2 : Int32) at_210 (by decide) rfl ?_
          refine X.icmp_ge (b := 2) (q' := 218) (q := 214) at_211 rfl rfl (by decide) rfl (fun c211 => ?_) (fun c211 => ?_)
          · refine X.iconst (q := 219) (0 : Int32) at_218 (by decide) rfl ?_
            refine X.icmp_ne (b := 0) (q' := 257) (q := 222) at_219 rfl rfl (by decide) rfl (fun c219 => ?_) (fun c219 => ?_)
            · omega
            · refine X.iload (q := 224) at_222 rfl rfl ?_
              refine X.iload (q := 226) at_224 rfl rfl ?_
              refine X.if_le (q' := 233) (q := 229) at_226 rfl (by decide) rfl (fun c226 => ?_) (fun c226 => ?_)
              · refine X.iconst (q := 234) (0 : Int32) at_233 (by decide) rfl ?_
                refine X.icmp_ne (b := 0) (q' := 257) (q := 237) at_234 rfl rfl (by decide) rfl (fun c234 => ?_) (fun c234 => ?_)
                · omega
                · refine X.iload (q := 239) at_237 rfl rfl ?_
                  refine X.iload (q := 241) at_239 rfl rfl ?_
                  refine X.iconst (q := 242) (2 : Int32) at_241 (by decide) rfl ?_
                  refine X.icmp_ge (b := 2) (q' := 249) (q := 245) at_242 rfl rfl (by decide) rfl (fun c242 => ?_) (fun c242 => ?_)
                  · refine X.iconst (q := 250) (0 : Int32) at_249 (by decide) rfl ?_
                    refine X.icmp_ne (b := 0) (q' := 257) (q := 253) at_250 rfl rfl (by decide) rfl (fun c250 => ?_) (fun c250 => ?_)
                    · omega
                    · refine X.iconst (q := 254) (1 : Int32) at_253 (by decide) rfl ?_
                      refine X.goto (q' := 258) at_254 (by decide) ?_
                      refine X.retN (t := .boolean) (z' := (1 : Int32)) at_258 rfl (by simp) (by decide) (by decide) (by decide) ?_
                      rfl
                  · refine X.iconst (q := 246) (1 : Int32) at_245 (by decide) rfl ?_
                    refine X.goto (q' := 250) at_246 (by decide) ?_
                    refine X.icmp_ne (b := 1) (q' := 257) (q := 253) at_250 rfl rfl (by decide) rfl (fun c250 => ?_) (fun c250 => ?_)
                    · omega
                    · refine X.iconst (q := 254) (1 : Int32) at_253 (by decide) rfl ?_
                      refine X.goto (q' := 258) at_254 (by decide) ?_
                      refine X.retN (t := .boolean) (z' := (1 : Int32)) at_258 rfl (by simp) (by decide) (by decide) (by decide) ?_
                      rfl
              · refine X.iconst (q := 230) (1 : Int32) at_229 (by decide) rfl ?_
                refine X.goto (q' := 234) at_230 (by decide) ?_
                refine X.icmp_ne (b := 1) (q' := 257) (q := 237) at_234 rfl rfl (by decide) rfl (fun c234 => ?_) (fun c234 => ?_)
                · omega
                · refine X.iload (q := 239) at_237 rfl rfl ?_
                  refine X.iload (q := 241) at_239 rfl rfl ?_
                  refine X.iconst (q := 242) (2 : Int32) at_241 (by decide) rfl ?_
                  refine X.icmp_ge (b := 2) (q' := 249) (q := 245) at_242 rfl rfl (by decide) rfl (fun c242 => ?_) (fun c242 => ?_)
                  · refine X.iconst (q := 250) (0 : Int32) at_249 (by decide) rfl ?_
                    refine X.icmp_ne (b := 0) (q' := 257) (q := 253) at_250 rfl rfl (by decide) rfl (fun c250 => ?_) (fun c250 => ?_)
                    · omega
                    · refine X.iconst (q := 254) (1 : Int32) at_253 (by decide) rfl ?_
                      refine X.goto (q' := 258) at_254 (by decide) ?_
                      refine X.retN (t := .boolean) (z' := (1 : Int32)) at_258 rfl (by simp) (by decide) (by decide) (by decide) ?_
                      rfl
                  · refine X.iconst (q := 246) (1 : Int32) at_245 (by decide) rfl ?_
                    refine X.goto (q' := 250) at_246 (by decide) ?_
                    refine X.icmp_ne (b := 1) (q' := 257) (q := 253) at_250 rfl rfl (by decide) rfl (fun c250 => ?_) (fun c250 => ?_)
                    · omega
                    · refine X.iconst (q := 254) (1 : Int32) at_253 (by decide) rfl ?_
                      refine X.goto (q' := 258) at_254 (by decide) ?_
                      refine X.retN (t := .boolean) (z' := (1 : Int32)) at_258 rfl (by simp) (by decide) (by decide) (by decide) ?_
                      rfl
          · refine X.iconst (q := 215) (1 : Int32) at_214 (by decide) rfl ?_
            refine X.goto (q' := 219) at_215 (by decide) ?_
            refine X.icmp_ne (b := 1) (q' := 257) (q := 222) at_219 rfl rfl (by decide) rfl (fun c219 => ?_) (fun c219 => ?_)
            · omega
            · refine X.iload (q := 224) at_222 rfl rfl ?_
              refine X.iload (q := 226) at_224 rfl rfl ?_
              refine X.if_le (q' := 233) (q := 229) at_226 rfl (by decide) rfl (fun c226 => ?_) (fun c226 => ?_)
              · refine X.iconst (q := 234) (0 : Int32) at_233 (by decide) rfl ?_
                refine X.icmp_ne (b := 0) (q' := 257) (q := 237) at_234 rfl rfl (by decide) rfl (fun c234 => ?_) (fun c234 => ?_)
                · omega
                · refine X.iload (q := 239) at_237 rfl rfl ?_
                  refine X.iload (q := 241) at_239 rfl rfl ?_
                  refine X.iconst (q := 242) (2 : Int32) at_241 (by decide) rfl ?_
                  refine X.icmp_ge (b := 2) (q' := 249) (q := 245) at_242 rfl rfl (by decide) rfl (fun c242 => ?_) (fun c242 => ?_)
                  · refine X.iconst (q := 250) (0 : Int32) at_249 (by decide) rfl ?_
                    refine X.icmp_ne (b := 0) (q' := 257) (q := 253) at_250 rfl rfl (by decide) rfl (fun c250 => ?_) (fun c250 => ?_)
                    · omega
                    · refine X.iconst (q := 254) (1 : Int32) at_253 (by decide) rfl ?_
                      refine X.goto (q' := 258) at_254 (by decide) ?_
                      refine X.retN (t := .boolean) (z' := (1 : Int32)) at_258 rfl (by simp) (by decide) (by decide) (by decide) ?_
                      rfl
                  · refine X.iconst (q := 246) (1 : Int32) at_245 (by decide) rfl ?_
                    refine X.goto (q' := 250) at_246 (by decide) ?_
                    refine X.icmp_ne (b := 1) (q' := 257) (q := 253) at_250 rfl rfl (by decide) rfl (fun c250 => ?_) (fun c250 => ?_)
                    · omega
                    · refine X.iconst (q := 254) (1 : Int32) at_253 (by decide) rfl ?_
                      refine X.goto (q' := 258) at_254 (by decide) ?_
                      refine X.retN (t := .boolean) (z' := (1 : Int32)) at_258 rfl (by simp) (by decide) (by decide) (by decide) ?_
                      rfl
              · refine X.iconst (q := 230) (1 : Int32) at_229 (by decide) rfl ?_
                refine X.goto (q' := 234) at_230 (by decide) ?_
                refine X.icmp_ne (b := 1) (q' := 257) (q := 237) at_234 rfl rfl (by decide) rfl (fun c234 => ?_) (fun c234 => ?_)
                · omega
                · refine X.iload (q := 239) at_237 rfl rfl ?_
                  refine X.iload (q := 241) at_239 rfl rfl ?_
                  refine X.iconst (q := 242) (2 : Int32) at_241 (by decide) rfl ?_
                  refine X.icmp_ge (b := 2) (q' := 249) (q := 245) at_242 rfl rfl (by decide) rfl (fun c242 => ?_) (fun c242 => ?_)
                  · refine X.iconst (q := 250) (0 : Int32) at_249 (by decide) rfl ?_
                    refine X.icmp_ne (b := 0) (q' := 257) (q := 253) at_250 rfl rfl (by decide) rfl (fun c250 => ?_) (fun c250 => ?_)
                    · omega
                    · refine X.iconst (q := 254) (1 : Int32) at_253 (by decide) rfl ?_
                      refine X.goto (q' := 258) at_254 (by decide) ?_
                      refine X.retN (t := .boolean) (z' := (1 : Int32)) at_258 rfl (by simp) (by decide) (by decide) (by decide) ?_
                      rfl
                  · refine X.iconst (q := 246) (1 : Int32) at_245 (by decide) rfl ?_
                    refine X.goto (q' := 250) at_246 (by decide) ?_
                    refine X.icmp_ne (b := 1) (q' := 257) (q := 253) at_250 rfl rfl (by decide) rfl (fun c250 => ?_) (fun c250 => ?_)
                    · omega
                    · refine X.iconst (q := 254) (1 : Int32) at_253 (by decide) rfl ?_
                      refine X.goto (q' := 258) at_254 (by decide) ?_
                      refine X.retN (t := .boolean) (z' := (1 : Int32)) at_258 rfl (by simp) (by decide) (by decide) (by decide) ?_
                      rfl
      refine X.iload (q := 55) at_53 rfl rfl ?_
      refine X.if_ne (q' := 61) (q := 58) at_55 rfl (by decide) rfl (fun c55 => ?_) (fun c55 => ?_)
      · exact J61 _ (by omega)
      · refine X.iconst (q := 59) (0 : Int32) at_58 (by decide) rfl ?_
        refine X.istore (q := 61) (Ls' := #[.val (.int x0), .val (.int x1), .val (.int x2), .val (.int x3), .val (.ref a2), .val (.int tg), .val (.int (0 : Int32)), .unset, .unset, .unset, .unset, .unset, .unset, .unset, .unset, .unset, .unset]) at_59 rfl rfl ?_
        exact J61 _ (by omega)
    refine X.iload (q := 31) at_29 rfl rfl ?_
    refine X.bipush (q := 33) (31 : Int32) at_31 (by decide) rfl ?_
    refine X.iand (q := 34) at_33 rfl ?_
    refine X.nmI (fun t31 ht31 => ?_)
    have ht31_ : t31.toInt = t0.toInt % 32 := by rw [ht31, Jvm.Kit.i32_mask (k := 5) _ _ (by decide) (by decide)]; rfl
    clear ht31
    refine X.bipush (q := 36) (31 : Int32) at_34 (by decide) rfl ?_
    refine X.icmp_ne (b := 31) (q' := 45) (q := 39) at_36 rfl rfl (by decide) rfl (fun c36 => ?_) (fun c36 => ?_)
    · exact J45 _ (by first | omega | (have q_ := own_xor1 t0 (by omega) (by omega) (by omega); omega))
    · refine X.iload (q := 41) at_39 rfl rfl ?_
      refine X.iconst (q := 42) (1 : Int32) at_41 (by decide) rfl ?_
      refine X.ixor (q := 43) at_42 rfl ?_
      refine X.istore (q := 45) (Ls' := #[.val (.int x0), .val (.int x1), .val (.int x2), .val (.int x3), .val (.ref a2), .val (.int (t0 ^^^ (1 : Int32))), .unset, .unset, .unset, .unset, .unset, .unset, .unset, .unset, .unset, .unset, .unset]) at_43 rfl rfl ?_
      exact J45 _ (by first | omega | (have q_ := own_xor1 t0 (by omega) (by omega) (by omega); omega))
  · omega
set_option maxRecDepth 65536 in
set_option maxHeartbeats 1000000 in
theorem comes_1 {Post : Tables → Env → Array Value → State → Outcome → State → Prop} (hpost : ∀ tb e args s v u, (limb_1_1.after args s (.returned v) u = true ∧ limb_1_2.after args s (.returned v) u = true ∧ True) → FrameEnd s (.returned v) u (Jvm.fieldLocs frame_1_writes args s ++ Jvm.arrayLocs frame_1_arrays args s ++ Jvm.staticLocs frame_1_statics s) 32 192 → Post tb e args s (.returned v) u) :
    ArmFor flags0 classFile x code maxLocals ret World_1 tables_1 room_1 Calls_1 rest_1 Pre_1 Post := by
  intro l hfl _ _ p e ha hc hk s m args below hf hA hF happ hP
  obtain ⟨hcalls, hrest, hpre⟩ := hP
  obtain ⟨-, -, -, hnamed, -, -, -, hat⟩ := (Spec.applies_iff hf).mp happ
  obtain ⟨hg, hn⟩ := and_e (Cond.before_iff.mp (show (Jvm.Cond.and given_1 narrow_1).before args s = true from hpre))
  obtain ⟨hg0, hg⟩ := and_e hg
  obtain ⟨w0, w1, w2, w3, rfl⟩ : ∃ w0 w1 w2 w3 : Value, args = #[w0, w1, w2, w3] := by
    have hs : args.size = 4 := by simpa [Cond.value, given_1] using hg0
    obtain ⟨L⟩ := args
    match L, hs with
    | [w0, w1, w2, w3], _ => exact ⟨w0, w1, w2, w3, rfl⟩
  have hw := fun d (hd : d ∈ tables_1) => atoms_spec (ws := Jvm.Cond.code x code maxLocals ret :: tables_1) hat d (List.mem_cons_of_mem _ hd)
  obtain ⟨ha0, hg⟩ := and_e hg
  obtain ⟨i0, e0⟩ := is_v ha0
  obtain rfl : w0 = (.int i0) := Option.some.inj e0
  obtain ⟨ha1, hg⟩ := and_e hg
  obtain ⟨i1, e1⟩ := is_v ha1
  obtain rfl : w1 = (.int i1) := Option.some.inj e1
  obtain ⟨ha2, hg⟩ := and_e hg
  obtain ⟨i2, e2⟩ := is_v ha2
  obtain rfl : w2 = (.int i2) := Option.some.inj e2
  have ha3 := hg
  obtain ⟨i3, e3⟩ := is_v ha3
  obtain rfl : w3 = (.int i3) := Option.some.inj e3
  obtain ⟨n, o, h1, h2, h3, _, L, rfl, ⟨rfl, N⟩, hq⟩ := own_law l s _ hw s.heap s.heap.size (Nat.le_refl _) i0 i1 i2 i3 p e ha hc hk s m _ below hf ((Spec.applies_iff_loose hf).mp happ).1 ⟨rfl, State.Warmed39.refl s, rfl⟩ trivial
  refine ⟨n, _, h1, h2, h3, hpost _ _ _ _ _ _ ⟨Cond.after_iff.mpr rfl, Cond.after_iff.mpr (eq_i res_at (Term.int_eval (1)) rfl), trivial⟩ ⟨hq.1, hq.2.1, (hq.2.2.sift fun y hy => Or.inr (N y hy)).mono (by decide) (by decide)⟩⟩
theorem main_1_1 : Claimed_1_1 := comes_1 fun _ _ _ _ _ _ h hF => ⟨h.1, hF⟩
theorem main_1_2 : Claimed_1_2 := comes_1 fun _ _ _ _ _ _ h hF => ⟨h.2.1, hF⟩
end Jvm.Pilot.@@N@@
namespace Jvm.Pilot.@@N@@
open Jvm Jvm.ClassFile Sem Op Lib Jvm.Free Jvm.Stand Jvm.Pilot.@@N@@.Jvm.D
/-! MADE BY PROGRAM (witnessworld.py) out of the Statement's table words and the real class files: 11 classes; the members and pool entries that the words name. The judged class is class 1, her method 1. -/
namespace start1
open Jvm.ClassFile
def u (s : String) : CpInfo := .utf8 (stringToUtf16 s)
/-- a pool by its gaps: so many unusable entries, then the entry; so many at the end -/
def gap : Nat → List CpInfo → List CpInfo
  | 0, r => r
  | n + 1, r => .unusable :: gap n r
def poolList (es : List (Nat × CpInfo)) (last : Nat) : List CpInfo := es.foldr (fun e r => gap e.1 (e.2 :: r)) (gap last [])
def pool (es : List (Nat × CpInfo)) (last : Nat) : Array CpInfo := ⟨poolList es last⟩
def fileOf (pool : Array CpInfo) (this : Nat) (attrs : Array Attribute := #[]) (ms : Array MethodInfo := #[]) (fl : Nat := 33) (sup : Nat := 0) (ifs : Array Nat := #[]) (fds : Array FieldInfo := #[]) : ClassFile where
  minorVersion := 0
  majorVersion := 65
  constantPool := pool
  accessFlags := fl
  thisClass := this
  superClass := sup
  interfaces := ifs
  fields := fds
  methods := ms
  attributes := attrs
def plain (name : String) (sup : Option ClassId) : Class where
  name := name
  kind := .ordinary
  loader := none
  accessFlags := 33
  super := sup
  interfaces := #[]
  cf := none
  fields := #[]
  methods := #[]
  instanceTypes := #[]
  staticTypes := #[]
  resolved := #[]
  callSites := []
  init := .initialized
  statics := none
  mirror := none

def pool0 : Array CpInfo := pool [(5, u "<init>"), (0, u "()V"), (1, .class_ 10), (1, u "java/lang/Object")] 113

def k0c0 : Code := { maxStack := 0, maxLocals := 1, code := object_method_1_code, exceptionTable := #[], attributes := #[] }
def k0m0 : Method := { name := "<init>", desc := "()V", sig := { parameters := [], returnType := none }, accessFlags := 1, code := some k0c0 }
/-- java/lang/Object -/
def k0 : Class := { plain "java/lang/Object" none with
  accessFlags := 33
  interfaces := #[]
  cf := some (fileOf pool0 8 #[] #[{ accessFlags := 1, nameIndex := 5, descriptorIndex := 6, attributes := #[] }] 33 0 #[] #[])
  fields := #[]
  methods := #[k0m0]
  instanceTypes := #[]
  staticTypes := #[]
  resolved := Array.replicate 124 none
  statics := none }

def pool1 : Array CpInfo := pool [(2, .class_ 4), (1, u "java/lang/Object"), (0, u "<init>"), (0, u "()V"), (0, .class_ 8), (0, u "com/example/dircred/dircred/credential/DerReader"), (0, .methodref 7 10), (0, .nameAndType 5 11), (0, u "([B)V"), (0, .methodref 7 13), (0, .nameAndType 14 15), (0, u "hasMore"), (0, u "()Z"), (0, .integer 2147483647), (0, .methodref 7 18), (0, .nameAndType 19 6), (0, u "skip"), (0, .methodref 7 21), (0, .nameAndType 22 23), (0, u "sequence"), (0, u "()Lcom/example/dircred/dircred/credential/DerReader;"), (0, .class_ 25), (0, u "com/example/dircred/dircred/credential/DerReaderHasMorePinLaw"), (2, u "law"), (0, u "(IIII)Z")] 8

def k1m0 : Method := { name := "<init>", desc := "()V", sig := { parameters := [], returnType := none }, accessFlags := 1, code := none }
def k1c1 : Code := { maxStack := 4, maxLocals := 17, code := code, exceptionTable := #[], attributes := #[] }
def k1m1 : Method := { name := "law", desc := "(IIII)Z", sig := { parameters := [.int, .int, .int, .int], returnType := some .boolean }, accessFlags := 9, code := some k1c1 }
/-- com/example/dircred/dircred/credential/DerReaderHasMorePinLaw -/
def k1 : Class := { plain "com/example/dircred/dircred/credential/DerReaderHasMorePinLaw" (some 0) with
  accessFlags := 49
  interfaces := #[]
  cf := some (fileOf pool1 24 #[] #[{ accessFlags := 1, nameIndex := 5, descriptorIndex := 6, attributes := #[] }, { accessFlags := 9, nameIndex := 28, descriptorIndex := 29, attributes := #[] }] 49 2 #[] #[])
  fields := #[]
  methods := #[k1m0, k1m1]
  instanceTypes := #[]
  staticTypes := #[]
  resolved := Array.replicate 38 none
  statics := none }

def pool2 : Array CpInfo := pool [(1, .methodref 2 3), (0, .class_ 4), (0, .nameAndType 5 6), (0, u "com/example/dircred/dircred/credential/DerReader"), (0, u "<init>"), (0, u "([BII)V"), (0, .methodref 8 9), (0, .class_ 10), (0, .nameAndType 5 11), (0, u "java/lang/Object"), (0, u "()V"), (0, .fieldref 2 13), (0, .nameAndType 14 15), (0, u "bytes"), (0, u "[B"), (0, .fieldref 2 17), (0, .nameAndType 18 19), (0, u "position"), (0, u "I"), (0, .fieldref 2 21), (0, .nameAndType 22 19), (0, u "end"), (2, u "([B)V"), (2, u "skip"), (4, u "hasMore"), (0, u "()Z"), (0, .methodref 2 36), (0, .nameAndType 37 38), (0, u "header"), (0, u "(I)Lcom/example/dircred/dircred/credential/DerReader$Header;"), (0, .fieldref 40 41), (0, .class_ 42), (0, .nameAndType 43 19), (0, u "com/example/dircred/dircred/credential/DerReader$Header"), (0, u "tag"), (4, .methodref 2 49), (0, .nameAndType 50 51), (0, u "read"), (0, u "([I)Lcom/example/dircred/dircred/credential/DerReader$Value;"), (0, .methodref 2 53), (0, .nameAndType 54 55), (0, u "contents"), (0, u "(Lcom/example/dircred/dircred/credential/DerReader$Value;)Lcom/example/dircred/dircred/credential/DerReader;"), (0, .fieldref 57 58), (0, .class_ 59), (0, .nameAndType 60 19), (0, u "com/example/dircred/dircred/credential/DerReader$Value"), (0, u "contentStart"), (0, .fieldref 57 62), (0, .nameAndType 63 19), (0, u "contentEnd"), (17, u "length"), (28, .methodref 2 111), (0, .nameAndType 112 113), (0, u "next"), (0, u "()Lcom/example/dircred/dircred/credential/DerReader$Value;"), (11, .fieldref 57 41), (14, .fieldref 40 141), (0, .nameAndType 81 19), (0, .fieldref 40 58), (0, .methodref 57 144), (0, .nameAndType 5 145), (0, u "(IIII)V"), (24, .long 2147483647), (6, .methodref 40 178), (0, .nameAndType 5 179), (0, u "(III)V"), (0, u "INTEGER"), (2, u "OCTET_STRING"), (1, u "OBJECT_IDENTIFIER"), (1, u "SEQUENCE"), (1, u "CONSTRUCTED"), (1, u "CONTEXT_SPECIFIC"), (1, u "HIGH_TAG_NUMBER"), (1, u "MAX_LENGTH_OCTETS"), (0, u "CUT_SHORT"), (0, u "Ljava/lang/String;"), (0, u "LONGER_THAN_THE_FILE"), (0, u "MAX_SUBIDENTIFIER_OCTETS"), (7, u "sequence"), (0, u "()Lcom/example/dircred/dircred/credential/DerReader;")] 33

def k2c0 : Code := { maxStack := 4, maxLocals := 2, code := prog_2_method_1_code, exceptionTable := #[], attributes := #[] }
def k2m0 : Method := { name := "<init>", desc := "([B)V", sig := { parameters := [(.array .byte)], returnType := none }, accessFlags := 0, code := some k2c0 }
def k2c1 : Code := { maxStack := 2, maxLocals := 4, code := prog_2_method_2_code, exceptionTable := #[], attributes := #[] }
def k2m1 : Method := { name := "<init>", desc := "([BII)V", sig := { parameters := [(.array .byte), .int, .int], returnType := none }, accessFlags := 2, code := some k2c1 }
def k2c2 : Code := { maxStack := 2, maxLocals := 1, code := prog_2_method_4_code, exceptionTable := #[], attributes := #[] }
def k2m2 : Method := { name := "hasMore", desc := "()Z", sig := { parameters := [], returnType := some .boolean }, accessFlags := 0, code := some k2c2 }
def k2c3 : Code := { maxStack := 6, maxLocals := 1, code := prog_2_method_7_code, exceptionTable := #[], attributes := #[] }
def k2m3 : Method := { name := "sequence", desc := "()Lcom/example/dircred/dircred/credential/DerReader;", sig := { parameters := [], returnType := some (.object "com/example/dircred/dircred/credential/DerReader") }, accessFlags := 0, code := some k2c3 }
def k2c4 : Code := { maxStack := 1, maxLocals := 1, code := prog_2_method_14_code, exceptionTable := #[], attributes := #[] }
def k2m4 : Method := { name := "skip", desc := "()V", sig := { parameters := [], returnType := none }, accessFlags := 0, code := some k2c4 }
def k2c5 : Code := { maxStack := 8, maxLocals := 7, code := prog_2_method_16_code, exceptionTable := #[], attributes := #[] }
def k2m5 : Method := { name := "read", desc := "([I)Lcom/example/dircred/dircred/credential/DerReader$Value;", sig := { parameters := [(.array .int)], returnType := some (.object "com/example/dircred/dircred/credential/DerReader$Value") }, accessFlags := 130, code := some k2c5 }
def k2c6 : Code := { maxStack := 5, maxLocals := 2, code := prog_2_method_17_code, exceptionTable := #[], attributes := #[] }
def k2m6 : Method := { name := "contents", desc := "(Lcom/example/dircred/dircred/credential/DerReader$Value;)Lcom/example/dircred/dircred/credential/DerReader;", sig := { parameters := [(.object "com/example/dircred/dircred/credential/DerReader$Value")], returnType := some (.object "com/example/dircred/dircred/credential/DerReader") }, accessFlags := 2, code := some k2c6 }
def k2c7 : Code := { maxStack := 6, maxLocals := 5, code := prog_2_method_18_code, exceptionTable := #[], attributes := #[] }
def k2m7 : Method := { name := "next", desc := "()Lcom/example/dircred/dircred/credential/DerReader$Value;", sig := { parameters := [], returnType := some (.object "com/example/dircred/dircred/credential/DerReader$Value") }, accessFlags := 2, code := some k2c7 }
def k2c8 : Code := { maxStack := 7, maxLocals := 10, code := prog_2_method_20_code, exceptionTable := #[], attributes := #[] }
def k2m8 : Method := { name := "header", desc := "(I)Lcom/example/dircred/dircred/credential/DerReader$Header;", sig := { parameters := [.int], returnType := some (.object "com/example/dircred/dircred/credential/DerReader$Header") }, accessFlags := 2, code := some k2c8 }
/-- com/example/dircred/dircred/credential/DerReader -/
def k2 : Class := { plain "com/example/dircred/dircred/credential/DerReader" (some 0) with
  accessFlags := 48
  interfaces := #[]
  cf := some (fileOf pool2 2 #[.nestMembers #[57, 40]] #[{ accessFlags := 0, nameIndex := 5, descriptorIndex := 25, attributes := #[] }, { accessFlags := 2, nameIndex := 5, descriptorIndex := 6, attributes := #[] }, { accessFlags := 0, nameIndex := 33, descriptorIndex := 34, attributes := #[] }, { accessFlags := 0, nameIndex := 207, descriptorIndex := 208, attributes := #[] }, { accessFlags := 0, nameIndex := 28, descriptorIndex := 11, attributes := #[] }, { accessFlags := 130, nameIndex := 50, descriptorIndex := 51, attributes := #[] }, { accessFlags := 2, nameIndex := 54, descriptorIndex := 55, attributes := #[] }, { accessFlags := 2, nameIndex := 112, descriptorIndex := 113, attributes := #[] }, { accessFlags := 2, nameIndex := 37, descriptorIndex := 38, attributes := #[] }] 48 8 #[] #[{ accessFlags := 24, nameIndex := 180, descriptorIndex := 19, attributes := #[] }, { accessFlags := 24, nameIndex := 183, descriptorIndex := 19, attributes := #[] }, { accessFlags := 24, nameIndex := 185, descriptorIndex := 19, attributes := #[] }, { accessFlags := 24, nameIndex := 187, descriptorIndex := 19, attributes := #[] }, { accessFlags := 26, nameIndex := 189, descriptorIndex := 19, attributes := #[] }, { accessFlags := 26, nameIndex := 191, descriptorIndex := 19, attributes := #[] }, { accessFlags := 26, nameIndex := 193, descriptorIndex := 19, attributes := #[] }, { accessFlags := 26, nameIndex := 195, descriptorIndex := 19, attributes := #[] }, { accessFlags := 26, nameIndex := 196, descriptorIndex := 197, attributes := #[] }, { accessFlags := 26, nameIndex := 198, descriptorIndex := 197, attributes := #[] }, { accessFlags := 26, nameIndex := 199, descriptorIndex := 19, attributes := #[] }, { accessFlags := 18, nameIndex := 14, descriptorIndex := 15, attributes := #[] }, { accessFlags := 18, nameIndex := 22, descriptorIndex := 19, attributes := #[] }, { accessFlags := 2, nameIndex := 18, descriptorIndex := 19, attributes := #[] }])
  fields := #[{ name := "INTEGER", type := .int, accessFlags := 24, slot := 0, constantValue := 0 }, { name := "OCTET_STRING", type := .int, accessFlags := 24, slot := 1, constantValue := 0 }, { name := "OBJECT_IDENTIFIER", type := .int, accessFlags := 24, slot := 2, constantValue := 0 }, { name := "SEQUENCE", type := .int, accessFlags := 24, slot := 3, constantValue := 0 }, { name := "CONSTRUCTED", type := .int, accessFlags := 26, slot := 4, constantValue := 0 }, { name := "CONTEXT_SPECIFIC", type := .int, accessFlags := 26, slot := 5, constantValue := 0 }, { name := "HIGH_TAG_NUMBER", type := .int, accessFlags := 26, slot := 6, constantValue := 0 }, { name := "MAX_LENGTH_OCTETS", type := .int, accessFlags := 26, slot := 7, constantValue := 0 }, { name := "CUT_SHORT", type := (.object "java/lang/String"), accessFlags := 26, slot := 8, constantValue := 0 }, { name := "LONGER_THAN_THE_FILE", type := (.object "java/lang/String"), accessFlags := 26, slot := 9, constantValue := 0 }, { name := "MAX_SUBIDENTIFIER_OCTETS", type := .int, accessFlags := 26, slot := 10, constantValue := 0 }, { name := "bytes", type := (.array .byte), accessFlags := 18, slot := 0, constantValue := 0 }, { name := "end", type := .int, accessFlags := 18, slot := 1, constantValue := 0 }, { name := "position", type := .int, accessFlags := 2, slot := 2, constantValue := 0 }]
  methods := #[k2m0, k2m1, k2m2, k2m3, k2m4, k2m5, k2m6, k2m7, k2m8]
  instanceTypes := #[(.array .byte), .int, .int]
  staticTypes := #[.int, .int, .int, .int, .int, .int, .int, .int, (.object "java/lang/String"), (.object "java/lang/String"), .int]
  resolved := #[none, none, none, none, none, none, none, none, none, none, none, none, none, none, none, none, none, none, none, none, none, none, none, none, none, none, none, none, none, none, none, none, none, none, none, none, none, none, none, some (.field 3 0), none, none, none, none, none, none, none, none, none, none, none, none, none, none, none, none, some (.field 4 1), none, none, none, none, some (.field 4 2), none, none, none, none, none, none, none, none, none, none, none, none, none, none, none, none, none, none, none, none, none, none, none, none, none, none, none, none, none, none, none, none, none, none, none, none, none, none, none, none, none, none, none, none, none, none, none, none, none, none, none, none, none, none, none, none, none, none, none, none, none, none, none, some (.field 4 0), none, none, none, none, none, none, none, none, none, none, none, none, none, none, some (.field 3 2), none, some (.field 3 1), none, none, none, none, none, none, none, none, none, none, none, none, none, none, none, none, none, none, none, none, none, none, none, none, none, none, none, none, none, none, none, none, none, none, none, none, none, none, none, none, none, none, none, none, none, none, none, none, none, none, none, none, none, none, none, none, none, none, none, none, none, none, none, none, none, none, none, none, none, none, none, none, none, none, none, none, none, none, none, none, none, none, none, none, none, none, none, none, none, none, none, none, none, none, none, none, none, none, none]
  statics := none }

def pool3 : Array CpInfo := pool [(1, .methodref 2 3), (0, .class_ 4), (0, .nameAndType 5 6), (0, u "java/lang/Object"), (0, u "<init>"), (0, u "()V"), (0, .fieldref 8 9), (0, .class_ 10), (0, .nameAndType 11 12), (0, u "com/example/dircred/dircred/credential/DerReader$Header"), (0, u "tag"), (0, u "I"), (0, .fieldref 8 14), (0, .nameAndType 15 12), (0, u "contentStart"), (0, .fieldref 8 17), (0, .nameAndType 18 12), (0, u "length"), (0, u "(III)V"), (5, .class_ 26), (0, u "com/example/dircred/dircred/credential/DerReader")] 2

def k3c0 : Code := { maxStack := 2, maxLocals := 4, code := prog_3_method_1_code, exceptionTable := #[], attributes := #[] }
def k3m0 : Method := { name := "<init>", desc := "(III)V", sig := { parameters := [.int, .int, .int], returnType := none }, accessFlags := 0, code := some k3c0 }
/-- com/example/dircred/dircred/credential/DerReader$Header -/
def k3 : Class := { plain "com/example/dircred/dircred/credential/DerReader$Header" (some 0) with
  accessFlags := 48
  interfaces := #[]
  cf := some (fileOf pool3 8 #[.nestHost 25] #[{ accessFlags := 0, nameIndex := 5, descriptorIndex := 19, attributes := #[] }] 48 2 #[] #[{ accessFlags := 18, nameIndex := 11, descriptorIndex := 12, attributes := #[] }, { accessFlags := 18, nameIndex := 15, descriptorIndex := 12, attributes := #[] }, { accessFlags := 18, nameIndex := 18, descriptorIndex := 12, attributes := #[] }])
  fields := #[{ name := "tag", type := .int, accessFlags := 18, slot := 0, constantValue := 0 }, { name := "contentStart", type := .int, accessFlags := 18, slot := 1, constantValue := 0 }, { name := "length", type := .int, accessFlags := 18, slot := 2, constantValue := 0 }]
  methods := #[k3m0]
  instanceTypes := #[.int, .int, .int]
  staticTypes := #[]
  resolved := Array.replicate 29 none
  statics := none }

def pool4 : Array CpInfo := pool [(1, .methodref 2 3), (0, .class_ 4), (0, .nameAndType 5 6), (0, u "java/lang/Object"), (0, u "<init>"), (0, u "()V"), (0, .fieldref 8 9), (0, .class_ 10), (0, .nameAndType 11 12), (0, u "com/example/dircred/dircred/credential/DerReader$Value"), (0, u "tag"), (0, u "I"), (0, .fieldref 8 14), (0, .nameAndType 15 12), (0, u "contentStart"), (0, .fieldref 8 17), (0, .nameAndType 18 12), (0, u "contentEnd"), (0, .fieldref 8 20), (0, .nameAndType 21 12), (0, u "end"), (0, u "(IIII)V"), (5, .class_ 29), (0, u "com/example/dircred/dircred/credential/DerReader")] 2

def k4c0 : Code := { maxStack := 2, maxLocals := 5, code := prog_4_method_1_code, exceptionTable := #[], attributes := #[] }
def k4m0 : Method := { name := "<init>", desc := "(IIII)V", sig := { parameters := [.int, .int, .int, .int], returnType := none }, accessFlags := 0, code := some k4c0 }
/-- com/example/dircred/dircred/credential/DerReader$Value -/
def k4 : Class := { plain "com/example/dircred/dircred/credential/DerReader$Value" (some 0) with
  accessFlags := 48
  interfaces := #[]
  cf := some (fileOf pool4 8 #[.nestHost 28] #[{ accessFlags := 0, nameIndex := 5, descriptorIndex := 22, attributes := #[] }] 48 2 #[] #[{ accessFlags := 18, nameIndex := 11, descriptorIndex := 12, attributes := #[] }, { accessFlags := 18, nameIndex := 15, descriptorIndex := 12, attributes := #[] }, { accessFlags := 18, nameIndex := 18, descriptorIndex := 12, attributes := #[] }, { accessFlags := 18, nameIndex := 21, descriptorIndex := 12, attributes := #[] }])
  fields := #[{ name := "tag", type := .int, accessFlags := 18, slot := 0, constantValue := 0 }, { name := "contentStart", type := .int, accessFlags := 18, slot := 1, constantValue := 0 }, { name := "contentEnd", type := .int, accessFlags := 18, slot := 2, constantValue := 0 }, { name := "end", type := .int, accessFlags := 18, slot := 3, constantValue := 0 }]
  methods := #[k4m0]
  instanceTypes := #[.int, .int, .int, .int]
  staticTypes := #[]
  resolved := Array.replicate 32 none
  statics := none }

def pool5 : Array CpInfo := pool [(1, u "java/lang/Cloneable"), (0, .class_ 1), (0, u "java/lang/Object"), (0, .class_ 3)] 3

/-- java/lang/Cloneable -/
def k5 : Class := { plain "java/lang/Cloneable" (some 0) with
  accessFlags := 1537
  interfaces := #[]
  cf := some (fileOf pool5 2 #[] #[] 1537 4 #[] #[])
  fields := #[]
  methods := #[]
  instanceTypes := #[]
  staticTypes := #[]
  resolved := Array.replicate 8 none
  statics := none }

def pool6 : Array CpInfo := pool [(1, u "java/io/Serializable"), (0, .class_ 1), (0, u "java/lang/Object"), (0, .class_ 3)] 3

/-- java/io/Serializable -/
def k6 : Class := { plain "java/io/Serializable" (some 0) with
  accessFlags := 1537
  interfaces := #[]
  cf := some (fileOf pool6 2 #[] #[] 1537 4 #[] #[])
  fields := #[]
  methods := #[]
  instanceTypes := #[]
  staticTypes := #[]
  resolved := Array.replicate 8 none
  statics := none }

/-- the primitive byte -/
def k7 : Class := { plain "byte" none with kind := .primitive 'B', accessFlags := 0x411 }
/-- [B -/
def k8 : Class := { plain "[B" (some 0) with kind := .array 7 .byte, interfaces := #[5, 6], accessFlags := 1041 }

/-- the primitive int -/
def k9 : Class := { plain "int" none with kind := .primitive 'I', accessFlags := 0x411 }
/-- [I -/
def k10 : Class := { plain "[I" (some 0) with kind := .array 9 .int, interfaces := #[5, 6], accessFlags := 1041 }

def heap : Heap := #[]
def classes : Array Class := #[k0, k1, k2, k3, k4, k5, k6, k7, k8, k9, k10]
def interned : List (Array UInt16 × Addr) := []
def slotsUsed : Nat := 0
def theMethod : MethodId := ⟨1, 1⟩
def args0 : Array Value := #[.int 5, .int 1, .int 2, .int 3]
def aboutOver (below : List Frame) : State where
  vm := { classes := classes, interned := interned.toArray }
  heap := heap
  slotsUsed := slotsUsed
  threads := #[{ frames := .invoking theMethod args0 :: below }]
def below0 : List Frame := [.native { method := ⟨0, 0⟩, args := #[] }]
def about1 : State := aboutOver below0
def p0 : Program := .bare "" "" ""
def e0 : Env := launch0.env 0 0 0
theorem w_frames : about1.frames = Frame.invoking theMethod args0 :: below0 := rfl
set_option maxRecDepth 65536 in
theorem w_args : argsFit about1.vm theMethod args0 = true := by decide +kernel
set_option maxRecDepth 65536 in
theorem w_heap : heapFits about1 = true := by decide +kernel
set_option maxRecDepth 65536 in
theorem w_runnable : about1.curStatus? = some .runnable := by decide +kernel
set_option maxRecDepth 65536 in
theorem w_alone : about1.alone = true := by decide +kernel
set_option maxRecDepth 65536 in
theorem w_named : about1.methodNamed? x = some theMethod := by decide +kernel
set_option maxRecDepth 65536 in
theorem w_hears : about1.hears theMethod below0 = true := by decide +kernel
set_option maxRecDepth 65536 in
theorem w_ripe : about1.ripe theMethod args0 below0 = true := by decide +kernel
theorem w_running : about1.status = .running := rfl
set_option maxRecDepth 65536 in
theorem w_room : about1.hasRoom e0.platform room_1 = true :=
  launch0.hasRoom_least _ room_1 (by decide +kernel) (by decide +kernel) (by decide +kernel) (by decide +kernel) (by decide +kernel) (by decide +kernel)
theorem allAtoms_all (ts : List Jvm.Cond) (a : Array Jvm.Value) (st : Jvm.State) : (allAtoms ts).before a st = ts.all (fun c => c.before a st) := by
  induction ts with
  | nil => rfl
  | cons c t ih =>
    show (Jvm.Cond.and c (allAtoms t)).before a st = _
    rw [Jvm.Cond.before_and, ih, List.all_cons]
def words1 : List Jvm.Cond := Jvm.Cond.code x code maxLocals ret :: tables_1
/-- a 'code' word, met by the world's own term for the bytes: nothing is compared byte by byte -/
theorem code_word {y : MethodName} {bytes : ByteArray} {mx : Nat} {rt : Option FieldType} {a : Array Value} {s : State} {m : MethodId} {meth : Method} {c : Code} (h1 : s.methodNamed? y = some m) (h2 : s.vm.method? m = some meth) (h3 : meth.code = some c) (h4 : c.code = bytes)
    (h5 : (c.maxLocals == mx && c.exceptionTable.isEmpty && decide (c.maxStack ≤ mostOperands) && decide (meth.sig.returnType = rt) && !meth.locks && decide (parseMethodDescriptor y.desc = some meth.sig)) = true) : (Jvm.Cond.code y bytes mx rt).before a s = true := by
  simp only [Bool.and_eq_true, beq_iff_eq, Bool.not_eq_true', decide_eq_true_eq] at h5
  obtain ⟨⟨⟨⟨⟨g1, g2⟩, g3⟩, g4⟩, g5⟩, g6⟩ := h5
  simp [Cond.before, Cond.holds, Cond.value, h1, h2, h3, h4, g1, g2, g3, g4, g5, g6]
def isCode : Jvm.Cond → Bool
  | .code _ _ _ _ => true
  | _ => false
theorem all_split {L : List Jvm.Cond} {P : Jvm.Cond → Bool} (h1 : L.all (fun c => isCode c || P c) = true) (h2 : ∀ c ∈ L.filter isCode, P c = true) : L.all P = true := by
  refine List.all_eq_true.mpr fun c hc => ?_
  have h := List.all_eq_true.mp h1 c hc
  rcases Bool.eq_false_or_eq_true (isCode c) with hi | hi
  · exact h2 c (List.mem_filter.mpr ⟨hc, hi⟩)
  · simpa [hi] using h
set_option maxRecDepth 65536 in
theorem w_c0 : (Jvm.Cond.code x code maxLocals ret).before args0 about1 = true := code_word (m := ⟨1, 1⟩) (meth := k1m1) (c := k1c1) (by decide +kernel) rfl rfl rfl (by decide +kernel)
set_option maxRecDepth 65536 in
theorem w_c1 : (Jvm.Cond.code ({ cls := "com/example/dircred/dircred/credential/DerReader", name := "<init>", desc := "([B)V" } : Jvm.MethodName) prog_2_method_1_code (2 : Nat) (Option.none : Option Jvm.ClassFile.FieldType)).before args0 about1 = true := code_word (m := ⟨2, 0⟩) (meth := k2m0) (c := k2c0) (by decide +kernel) rfl rfl rfl (by decide +kernel)
set_option maxRecDepth 65536 in
theorem w_c2 : (Jvm.Cond.code ({ cls := "com/example/dircred/dircred/credential/DerReader", name := "<init>", desc := "([BII)V" } : Jvm.MethodName) prog_2_method_2_code (4 : Nat) (Option.none : Option Jvm.ClassFile.FieldType)).before args0 about1 = true := code_word (m := ⟨2, 1⟩) (meth := k2m1) (c := k2c1) (by decide +kernel) rfl rfl rfl (by decide +kernel)
set_option maxRecDepth 65536 in
theorem w_c3 : (Jvm.Cond.code ({ cls := "java/lang/Object", name := "<init>", desc := "()V" } : Jvm.MethodName) object_method_1_code (1 : Nat) (Option.none : Option Jvm.ClassFile.FieldType)).before args0 about1 = true := code_word (m := ⟨0, 0⟩) (meth := k0m0) (c := k0c0) (by decide +kernel) rfl rfl rfl (by decide +kernel)
set_option maxRecDepth 65536 in
theorem w_c4 : (Jvm.Cond.code ({ cls := "com/example/dircred/dircred/credential/DerReader", name := "hasMore", desc := "()Z" } : Jvm.MethodName) prog_2_method_4_code (1 : Nat) (Option.some Jvm.ClassFile.FieldType.boolean)).before args0 about1 = true := code_word (m := ⟨2, 2⟩) (meth := k2m2) (c := k2c2) (by decide +kernel) rfl rfl rfl (by decide +kernel)
set_option maxRecDepth 65536 in
theorem w_c5 : (Jvm.Cond.code ({ cls := "com/example/dircred/dircred/credential/DerReader", name := "skip", desc := "()V" } : Jvm.MethodName) prog_2_method_14_code (1 : Nat) (Option.none : Option Jvm.ClassFile.FieldType)).before args0 about1 = true := code_word (m := ⟨2, 4⟩) (meth := k2m4) (c := k2c4) (by decide +kernel) rfl rfl rfl (by decide +kernel)
set_option maxRecDepth 65536 in
theorem w_c6 : (Jvm.Cond.code ({ cls := "com/example/dircred/dircred/credential/DerReader", name := "next", desc := "()Lcom/example/dircred/dircred/credential/DerReader$Value;" } : Jvm.MethodName) prog_2_method_18_code (5 : Nat) (Option.some (Jvm.ClassFile.FieldType.object "com/example/dircred/dircred/credential/DerReader$Value"))).before args0 about1 = true := code_word (m := ⟨2, 7⟩) (meth := k2m7) (c := k2c7) (by decide +kernel) rfl rfl rfl (by decide +kernel)
set_option maxRecDepth 65536 in
theorem w_c7 : (Jvm.Cond.code ({ cls := "com/example/dircred/dircred/credential/DerReader", name := "header", desc := "(I)Lcom/example/dircred/dircred/credential/DerReader$Header;" } : Jvm.MethodName) prog_2_method_20_code (10 : Nat) (Option.some (Jvm.ClassFile.FieldType.object "com/example/dircred/dircred/credential/DerReader$Header"))).before args0 about1 = true := code_word (m := ⟨2, 8⟩) (meth := k2m8) (c := k2c8) (by decide +kernel) rfl rfl rfl (by decide +kernel)
set_option maxRecDepth 65536 in
theorem w_c8 : (Jvm.Cond.code ({ cls := "com/example/dircred/dircred/credential/DerReader$Header", name := "<init>", desc := "(III)V" } : Jvm.MethodName) prog_3_method_1_code (4 : Nat) (Option.none : Option Jvm.ClassFile.FieldType)).before args0 about1 = true := code_word (m := ⟨3, 0⟩) (meth := k3m0) (c := k3c0) (by decide +kernel) rfl rfl rfl (by decide +kernel)
set_option maxRecDepth 65536 in
theorem w_c9 : (Jvm.Cond.code ({ cls := "com/example/dircred/dircred/credential/DerReader$Value", name := "<init>", desc := "(IIII)V" } : Jvm.MethodName) prog_4_method_1_code (5 : Nat) (Option.none : Option Jvm.ClassFile.FieldType)).before args0 about1 = true := code_word (m := ⟨4, 0⟩) (meth := k4m0) (c := k4c0) (by decide +kernel) rfl rfl rfl (by decide +kernel)
set_option maxRecDepth 65536 in
theorem w_c10 : (Jvm.Cond.code ({ cls := "com/example/dircred/dircred/credential/DerReader", name := "sequence", desc := "()Lcom/example/dircred/dircred/credential/DerReader;" } : Jvm.MethodName) prog_2_method_7_code (1 : Nat) (Option.some (Jvm.ClassFile.FieldType.object "com/example/dircred/dircred/credential/DerReader"))).before args0 about1 = true := code_word (m := ⟨2, 3⟩) (meth := k2m3) (c := k2c3) (by decide +kernel) rfl rfl rfl (by decide +kernel)
set_option maxRecDepth 65536 in
theorem w_c11 : (Jvm.Cond.code ({ cls := "com/example/dircred/dircred/credential/DerReader", name := "read", desc := "([I)Lcom/example/dircred/dircred/credential/DerReader$Value;" } : Jvm.MethodName) prog_2_method_16_code (7 : Nat) (Option.some (Jvm.ClassFile.FieldType.object "com/example/dircred/dircred/credential/DerReader$Value"))).before args0 about1 = true := code_word (m := ⟨2, 5⟩) (meth := k2m5) (c := k2c5) (by decide +kernel) rfl rfl rfl (by decide +kernel)
set_option maxRecDepth 65536 in
theorem w_c12 : (Jvm.Cond.code ({ cls := "com/example/dircred/dircred/credential/DerReader", name := "contents", desc := "(Lcom/example/dircred/dircred/credential/DerReader$Value;)Lcom/example/dircred/dircred/credential/DerReader;" } : Jvm.MethodName) prog_2_method_17_code (2 : Nat) (Option.some (Jvm.ClassFile.FieldType.object "com/example/dircred/dircred/credential/DerReader"))).before args0 about1 = true := code_word (m := ⟨2, 6⟩) (meth := k2m6) (c := k2c6) (by decide +kernel) rfl rfl rfl (by decide +kernel)
def codes1 : List Jvm.Cond := [Jvm.Cond.code x code maxLocals ret, Jvm.Cond.code ({ cls := "com/example/dircred/dircred/credential/DerReader", name := "<init>", desc := "([B)V" } : Jvm.MethodName) prog_2_method_1_code (2 : Nat) (Option.none : Option Jvm.ClassFile.FieldType), Jvm.Cond.code ({ cls := "com/example/dircred/dircred/credential/DerReader", name := "<init>", desc := "([BII)V" } : Jvm.MethodName) prog_2_method_2_code (4 : Nat) (Option.none : Option Jvm.ClassFile.FieldType), Jvm.Cond.code ({ cls := "java/lang/Object", name := "<init>", desc := "()V" } : Jvm.MethodName) object_method_1_code (1 : Nat) (Option.none : Option Jvm.ClassFile.FieldType), Jvm.Cond.code ({ cls := "com/example/dircred/dircred/credential/DerReader", name := "hasMore", desc := "()Z" } : Jvm.MethodName) prog_2_method_4_code (1 : Nat) (Option.some Jvm.ClassFile.FieldType.boolean), Jvm.Cond.code ({ cls := "com/example/dircred/dircred/credential/DerReader", name := "skip", desc := "()V" } : Jvm.MethodName) prog_2_method_14_code (1 : Nat) (Option.none : Option Jvm.ClassFile.FieldType), Jvm.Cond.code ({ cls := "com/example/dircred/dircred/credential/DerReader", name := "next", desc := "()Lcom/example/dircred/dircred/credential/DerReader$Value;" } : Jvm.MethodName) prog_2_method_18_code (5 : Nat) (Option.some (Jvm.ClassFile.FieldType.object "com/example/dircred/dircred/credential/DerReader$Value")), Jvm.Cond.code ({ cls := "com/example/dircred/dircred/credential/DerReader", name := "header", desc := "(I)Lcom/example/dircred/dircred/credential/DerReader$Header;" } : Jvm.MethodName) prog_2_method_20_code (10 : Nat) (Option.some (Jvm.ClassFile.FieldType.object "com/example/dircred/dircred/credential/DerReader$Header")), Jvm.Cond.code ({ cls := "com/example/dircred/dircred/credential/DerReader$Header", name := "<init>", desc := "(III)V" } : Jvm.MethodName) prog_3_method_1_code (4 : Nat) (Option.none : Option Jvm.ClassFile.FieldType), Jvm.Cond.code ({ cls := "com/example/dircred/dircred/credential/DerReader$Value", name := "<init>", desc := "(IIII)V" } : Jvm.MethodName) prog_4_method_1_code (5 : Nat) (Option.none : Option Jvm.ClassFile.FieldType), Jvm.Cond.code ({ cls := "com/example/dircred/dircred/credential/DerReader", name := "sequence", desc := "()Lcom/example/dircred/dircred/credential/DerReader;" } : Jvm.MethodName) prog_2_method_7_code (1 : Nat) (Option.some (Jvm.ClassFile.FieldType.object "com/example/dircred/dircred/credential/DerReader")), Jvm.Cond.code ({ cls := "com/example/dircred/dircred/credential/DerReader", name := "read", desc := "([I)Lcom/example/dircred/dircred/credential/DerReader$Value;" } : Jvm.MethodName) prog_2_method_16_code (7 : Nat) (Option.some (Jvm.ClassFile.FieldType.object "com/example/dircred/dircred/credential/DerReader$Value")), Jvm.Cond.code ({ cls := "com/example/dircred/dircred/credential/DerReader", name := "contents", desc := "(Lcom/example/dircred/dircred/credential/DerReader$Value;)Lcom/example/dircred/dircred/credential/DerReader;" } : Jvm.MethodName) prog_2_method_17_code (2 : Nat) (Option.some (Jvm.ClassFile.FieldType.object "com/example/dircred/dircred/credential/DerReader"))]
set_option maxRecDepth 65536 in
theorem codes_eq : words1.filter isCode = codes1 := rfl
theorem w_codes : ∀ c ∈ words1.filter isCode, c.before args0 about1 = true := by
  rw [codes_eq]
  intro c hc
  simp only [codes1, List.mem_cons, List.not_mem_nil, or_false] at hc
  rcases hc with rfl | rfl | rfl | rfl | rfl | rfl | rfl | rfl | rfl | rfl | rfl | rfl | rfl
  · exact w_c0
  · exact w_c1
  · exact w_c2
  · exact w_c3
  · exact w_c4
  · exact w_c5
  · exact w_c6
  · exact w_c7
  · exact w_c8
  · exact w_c9
  · exact w_c10
  · exact w_c11
  · exact w_c12
set_option maxRecDepth 65536 in
theorem w_t1 : (words1.take 24).all (fun c => isCode c || c.before args0 about1) = true := by decide +kernel
set_option maxRecDepth 65536 in
theorem w_t2 : ((words1.drop 24).take 24).all (fun c => isCode c || c.before args0 about1) = true := by decide +kernel
set_option maxRecDepth 65536 in
theorem w_t3 : (((words1.drop 24).drop 24).take 24).all (fun c => isCode c || c.before args0 about1) = true := by decide +kernel
set_option maxRecDepth 65536 in
theorem w_t4 : (((words1.drop 24).drop 24).drop 24).all (fun c => isCode c || c.before args0 about1) = true := by decide +kernel
theorem w_tables : (allAtoms (Jvm.Cond.code x code maxLocals ret :: tables_1)).before args0 about1 = true := by
  rw [allAtoms_all]
  show words1.all (fun c => c.before args0 about1) = true
  refine all_split ?_ w_codes
  rw [← List.take_append_drop 24 words1, List.all_append, w_t1, ← List.take_append_drop 24 (words1.drop 24), List.all_append, w_t2, ← List.take_append_drop 24 ((words1.drop 24).drop 24), List.all_append, w_t3, w_t4]
  rfl
set_option maxRecDepth 65536 in
theorem w_case : (Jvm.Cond.and given_1 narrow_1).before args0 about1 = true := by decide +kernel
theorem w_applies : (headSpec (Jvm.Cond.code x code maxLocals ret :: tables_1) room_1).applies x e0.platform about1 = true :=
  (Spec.applies_iff w_frames).mpr ⟨w_running, w_runnable, w_alone, w_named, w_hears, w_ripe, w_room, w_tables⟩
theorem atStart : AtStart classFile x code maxLocals ret World_1 tables_1 room_1 Calls_1 rest_1 Pre_1 launch0 p0 e0 about1 theMethod args0 below0 :=
  ⟨lists_1, trivial, launch0.admits_env _ _ _, launch0.least_env, fairChoices_fair.cas, fairChoices_fair.clock, w_frames, w_args, w_heap, w_applies, trivial, trivial, w_case⟩
end start1
theorem witness_1 : WitnessClaimed_1 := ⟨start1.p0, start1.e0, start1.about1, start1.theMethod, start1.args0, start1.below0, start1.atStart⟩
end Jvm.Pilot.@@N@@
