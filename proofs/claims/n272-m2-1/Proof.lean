import JvmDerived
import JvmDerived.Pilot.@@N@@Statement
import JvmDerived.Pilot.@@N@@Code
set_option linter.unusedVariables false
set_option linter.unusedSimpArgs false
@@BLOCK:NumsL.lean.txt@@
namespace Jvm.Pilot.@@N@@
open Jvm Jvm.ClassFile Sem Op Lib Jvm.Free Jvm.Stand Jvm.LawKit Jvm.RoadKit Bundle Jvm.Pilot.@@N@@.Jvm.D
/-! ## the walk's own kit: 'from this pc on the body comes to its end, in Φ' (X.G), and one rule a step -/
def OwC (p : Program) (l : Launch) (e : Env) (R : Room) (s : State) (m : MethodId) (args : Array Value) (below : List Frame) (meth : Method) (c : Code) (Z : State) (own nm : String) (bytes : ByteArray) (mL : Nat) (ret : Option FieldType) (n0 kM nM : Nat) (Φ : Option Value → Heap → Prop) : Prop :=
  p.tables.exec = Jvm.exec ∧ c.code = bytes ∧ c.maxLocals = mL ∧ s.vm.findClass own = some m.cls ∧ Z.Warmed39 s.vm ∧ meth.sig.returnType = ret ∧ meth.locks = false ∧ meth.name = nm
section OwKit
variable {p : Program} {l : Launch} {e : Env} {R : Room} {s : State} {m : MethodId} {args : Array Value} {below : List Frame} {meth : Method} {c : Code} {Z : State} {own nm : String} {bytes : ByteArray} {mL : Nat} {ret : Option FieldType} {n0 kM nM : Nat} {Φ : Option Value → Heap → Prop}
variable {a0 : Array Value} {h : Heap} {k n pc q : Nat} {Ls Ls' : Array Slot} {st rest : List Value}
def OwC.G (_X : OwC p l e R s m args below meth c Z own nm bytes mL ret n0 kM nM Φ) (h : Heap) (k n pc : Nat) (Ls : Array Slot) (st : List Value) : Prop :=
  ∀ T locs, Stand p l e R s m args below meth c T locs k n → T.heap = h → Fr n0 locs →
    ∃ v s₂ L, Steps p.tables e below (T.setTop (mkF m pc Ls st)) s₂ ∧ s₂.status = .running ∧ Ended s₂ below (.returned v) ∧ (Φ v s₂.heap ∧ Fr n0 L) ∧ FrameEnd s (.returned v) s₂ L kM nM
variable (X : OwC p l e R s m args below meth c Z own nm bytes mL ret n0 kM nM Φ)
theorem OwC.step {pc' : Nat} {st' : List Value} (g : X.G h k n pc' Ls' st') (w : ∀ T locs, Stand p l e R s m args below meth c T locs k n → ∀ t, Steps p.tables e below (T.setTop (mkF m pc' Ls' st')) t → Steps p.tables e below (T.setTop (mkF m pc Ls st)) t) : X.G h k n pc Ls st := fun T locs Y eT N => by
  obtain ⟨v, s₂, L, r1, r⟩ := g T locs Y eT N
  exact ⟨v, s₂, L, w T locs Y _ r1, r⟩
theorem OwC.hd (X : OwC p l e R s m args below meth c Z own nm bytes mL ret n0 kM nM Φ) {i : Instr} {len : Nat} (d : decode bytes pc = .ok (i, len)) : decode c.code pc = .ok (i, len) := hb X.2.1 d
/-! a name for the top of the stack -/
theorem OwC.nmI {x : Int32} (g : ∀ v : Int32, v = x → X.G h k n pc Ls (.int v :: st)) : X.G h k n pc Ls (.int x :: st) := g x rfl
theorem OwC.nmJ {x : Int64} (g : ∀ v : Int64, v = x → X.G h k n pc Ls (.long v :: st)) : X.G h k n pc Ls (.long x :: st) := g x rfl
theorem OwC.foldI {x v : Int32} (e : x = v) (g : X.G h k n pc Ls (.int v :: st)) : X.G h k n pc Ls (.int x :: st) := by subst e; exact g
theorem OwC.foldJ {x v : Int64} (e : x = v) (g : X.G h k n pc Ls (.long v :: st)) : X.G h k n pc Ls (.long x :: st) := by subst e; exact g
/-! loads and stores -/
theorem OwC.iloadN {j : Fin 4} {v : Int32} (d : decode bytes pc = .ok (.iload_n j, 1)) (hl : Ls[j.val]? = some (.val (.int v))) (hq : pc + 1 = q) (g : X.G h k n q Ls (.int v :: st)) : X.G h k n pc Ls st := by
  subst hq; exact X.step g fun T _ Y t r => XS.iloadN Y.here X.1 rfl (X.hd d) hl r
theorem OwC.iload {j : Nat} {v : Int32} (d : decode bytes pc = .ok (.iload j, 2)) (hl : Ls[j]? = some (.val (.int v))) (hq : pc + 2 = q) (g : X.G h k n q Ls (.int v :: st)) : X.G h k n pc Ls st := by
  subst hq; exact X.step g fun T _ Y t r => XS.iload Y.here X.1 rfl (X.hd d) hl r
theorem OwC.lloadN {j : Fin 4} {v : Int64} (d : decode bytes pc = .ok (.lload_n j, 1)) (hl : Ls[j.val]? = some (.val (.long v))) (hq : pc + 1 = q) (g : X.G h k n q Ls (.long v :: st)) : X.G h k n pc Ls st := by
  subst hq; exact X.step g fun T _ Y t r => XT.lloadN Y.here X.1 rfl (X.hd d) hl r
theorem OwC.lload {j : Nat} {v : Int64} (d : decode bytes pc = .ok (.lload j, 2)) (hl : Ls[j]? = some (.val (.long v))) (hq : pc + 2 = q) (g : X.G h k n q Ls (.long v :: st)) : X.G h k n pc Ls st := by
  subst hq; exact X.step g fun T _ Y t r => XT.lload Y.here X.1 rfl (X.hd d) hl r
theorem OwC.aloadN {j : Fin 4} {v : Value} (d : decode bytes pc = .ok (.aload_n j, 1)) (hl : Ls[j.val]? = some (.val v)) (hv : v.isRef = true) (hq : pc + 1 = q) (g : X.G h k n q Ls (v :: st)) : X.G h k n pc Ls st := by
  subst hq; exact X.step g fun T _ Y t r => XS.aloadN Y.here X.1 rfl (X.hd d) hl hv r
theorem OwC.aload {j : Nat} {v : Value} (d : decode bytes pc = .ok (.aload j, 2)) (hl : Ls[j]? = some (.val v)) (hv : v.isRef = true) (hq : pc + 2 = q) (g : X.G h k n q Ls (v :: st)) : X.G h k n pc Ls st := by
  subst hq; exact X.step g fun T _ Y t r => XS.aload Y.here X.1 rfl (X.hd d) hl hv r
theorem OwC.istoreN {j : Fin 4} {x : Int32} (d : decode bytes pc = .ok (.istore_n j, 1)) (hl : storeLocals Ls j.val (.int x) = some Ls') (hq : pc + 1 = q) (g : X.G h k n q Ls' st) : X.G h k n pc Ls (.int x :: st) := by
  subst hq; exact X.step g fun T _ Y t r => XS.istoreN Y.here X.1 rfl (X.hd d) rfl hl r
theorem OwC.istore {j : Nat} {x : Int32} (d : decode bytes pc = .ok (.istore j, 2)) (hl : storeLocals Ls j (.int x) = some Ls') (hq : pc + 2 = q) (g : X.G h k n q Ls' st) : X.G h k n pc Ls (.int x :: st) := by
  subst hq; exact X.step g fun T _ Y t r => XS.istore Y.here X.1 rfl (X.hd d) rfl hl r
theorem OwC.lstoreN {j : Fin 4} {x : Int64} (d : decode bytes pc = .ok (.lstore_n j, 1)) (hl : storeLocals Ls j.val (.long x) = some Ls') (hq : pc + 1 = q) (g : X.G h k n q Ls' st) : X.G h k n pc Ls (.long x :: st) := by
  subst hq; exact X.step g fun T _ Y t r => XT.lstoreN Y.here X.1 rfl (X.hd d) rfl hl r
theorem OwC.lstore {j : Nat} {x : Int64} (d : decode bytes pc = .ok (.lstore j, 2)) (hl : storeLocals Ls j (.long x) = some Ls') (hq : pc + 2 = q) (g : X.G h k n q Ls' st) : X.G h k n pc Ls (.long x :: st) := by
  subst hq; exact X.step g fun T _ Y t r => XT.lstore Y.here X.1 rfl (X.hd d) rfl hl r
theorem OwC.astoreN {j : Fin 4} {x : Value} (d : decode bytes pc = .ok (.astore_n j, 1)) (hv : x.isRef = true) (hl : storeLocals Ls j.val x = some Ls') (hq : pc + 1 = q) (g : X.G h k n q Ls' st) : X.G h k n pc Ls (x :: st) := by
  subst hq; exact X.step g fun T _ Y t r => XS.astoreN Y.here X.1 rfl (X.hd d) rfl hv hl r
theorem OwC.astore {j : Nat} {x : Value} (d : decode bytes pc = .ok (.astore j, 2)) (hv : x.isRef = true) (hl : storeLocals Ls j x = some Ls') (hq : pc + 2 = q) (g : X.G h k n q Ls' st) : X.G h k n pc Ls (x :: st) := by
  subst hq; exact X.step g fun T _ Y t r => XS.astore Y.here X.1 rfl (X.hd d) rfl hv hl r
/-! constants -/
theorem OwC.iconst {i : Int} (v : Int32) (d : decode bytes pc = .ok (.iconst i, 1)) (hv : Int32.ofInt i = v) (hq : pc + 1 = q) (g : X.G h k n q Ls (.int v :: st)) : X.G h k n pc Ls st := by
  subst hq hv; exact X.step g fun T _ Y t r => XS.iconst Y.here X.1 rfl (X.hd d) r
theorem OwC.bipush {i : Int} (v : Int32) (d : decode bytes pc = .ok (.bipush i, 2)) (hv : (Int8.ofInt i).toInt32 = v) (hq : pc + 2 = q) (g : X.G h k n q Ls (.int v :: st)) : X.G h k n pc Ls st := by
  subst hq hv; exact X.step g fun T _ Y t r => XS.bipush Y.here X.1 rfl (X.hd d) r
theorem OwC.sipush {i : Int} (v : Int32) (d : decode bytes pc = .ok (.sipush i, 3)) (hv : (Int16.ofInt i).toInt32 = v) (hq : pc + 3 = q) (g : X.G h k n q Ls (.int v :: st)) : X.G h k n pc Ls st := by
  subst hq hv; exact X.step g fun T _ Y t r => XS.sipush Y.here X.1 rfl (X.hd d) r
theorem OwC.lconst {j : Fin 2} (v : Int64) (d : decode bytes pc = .ok (.lconst j, 1)) (hv : Int64.ofNat j = v) (hq : pc + 1 = q) (g : X.G h k n q Ls (.long v :: st)) : X.G h k n pc Ls st := by
  subst hq hv; exact X.step g fun T _ Y t r => XT.lconst Y.here X.1 rfl (X.hd d) r
theorem OwC.aconstNull (d : decode bytes pc = .ok (.aconst_null, 1)) (hq : pc + 1 = q) (g : X.G h k n q Ls (.null :: st)) : X.G h k n pc Ls st := by
  subst hq; exact X.step g fun T _ Y t r => XS.aconstNull Y.here X.1 rfl (X.hd d) r
theorem OwC.ldc {i : Nat} {v : Int32} (w : (Cond.constant own i v).before a0 Z = true) (d : decode bytes pc = .ok (.ldc i, 2)) (hq : pc + 2 = q) (g : X.G h k n q Ls (.int v :: st)) : X.G h k n pc Ls st := by
  subst hq; exact X.step g fun T _ Y t r => Y.ldcI X.1 X.2.2.2.1 (mvT X.2.2.2.2.1 w) rfl (X.hd d) r
theorem OwC.ldc_w {i : Nat} {v : Int32} (w : (Cond.constant own i v).before a0 Z = true) (d : decode bytes pc = .ok (.ldc_w i, 3)) (hq : pc + 3 = q) (g : X.G h k n q Ls (.int v :: st)) : X.G h k n pc Ls st := by
  subst hq; exact X.step g fun T _ Y t r => Y.ldcWI X.1 X.2.2.2.1 (mvT X.2.2.2.2.1 w) rfl (X.hd d) r
theorem OwC.ldc2_w {i : Nat} {v : Int64} (w : (Cond.constantLong own i v).before a0 Z = true) (d : decode bytes pc = .ok (.ldc2_w i, 3)) (hq : pc + 3 = q) (g : X.G h k n q Ls (.long v :: st)) : X.G h k n pc Ls st := by
  subst hq; exact X.step g fun T _ Y t r => Y.ldc2J X.1 X.2.2.2.1 (mvT X.2.2.2.2.1 w) rfl (X.hd d) r
/-! arithmetic -/
theorem OwC.iadd {x y : Int32} (d : decode bytes pc = .ok (.iadd, 1)) (hq : pc + 1 = q) (g : X.G h k n q Ls (.int (x + y) :: st)) : X.G h k n pc Ls (.int y :: .int x :: st) := by
  subst hq; exact X.step g fun T _ Y t r => XS.iadd Y.here X.1 rfl (X.hd d) rfl r
theorem OwC.isub {x y : Int32} (d : decode bytes pc = .ok (.isub, 1)) (hq : pc + 1 = q) (g : X.G h k n q Ls (.int (x - y) :: st)) : X.G h k n pc Ls (.int y :: .int x :: st) := by
  subst hq; exact X.step g fun T _ Y t r => XS.isub Y.here X.1 rfl (X.hd d) rfl r
theorem OwC.imul {x y : Int32} (d : decode bytes pc = .ok (.imul, 1)) (hq : pc + 1 = q) (g : X.G h k n q Ls (.int (x * y) :: st)) : X.G h k n pc Ls (.int y :: .int x :: st) := by
  subst hq; exact X.step g fun T _ Y t r => XS.imul Y.here X.1 rfl (X.hd d) rfl r
theorem OwC.iand {x y : Int32} (d : decode bytes pc = .ok (.iand, 1)) (hq : pc + 1 = q) (g : X.G h k n q Ls (.int (x &&& y) :: st)) : X.G h k n pc Ls (.int y :: .int x :: st) := by
  subst hq; exact X.step g fun T _ Y t r => XS.iand Y.here X.1 rfl (X.hd d) rfl r
theorem OwC.ixor {x y : Int32} (d : decode bytes pc = .ok (.ixor, 1)) (hq : pc + 1 = q) (g : X.G h k n q Ls (.int (x ^^^ y) :: st)) : X.G h k n pc Ls (.int y :: .int x :: st) := by
  subst hq; exact X.step g fun T _ Y t r => XT.ixor Y.here X.1 rfl (X.hd d) rfl r
theorem OwC.ior {x y : Int32} (d : decode bytes pc = .ok (.ior, 1)) (hq : pc + 1 = q) (g : X.G h k n q Ls (.int (x ||| y) :: st)) : X.G h k n pc Ls (.int y :: .int x :: st) := by
  subst hq; exact X.step g fun T _ Y t r => XT.ior Y.here X.1 rfl (X.hd d) rfl r
theorem OwC.ishl {x y : Int32} (d : decode bytes pc = .ok (.ishl, 1)) (hq : pc + 1 = q) (g : X.G h k n q Ls (.int (x <<< (y &&& 31)) :: st)) : X.G h k n pc Ls (.int y :: .int x :: st) := by
  subst hq; exact X.step g fun T _ Y t r => XT.ishl Y.here X.1 rfl (X.hd d) rfl r
theorem OwC.ishr {x y : Int32} (d : decode bytes pc = .ok (.ishr, 1)) (hq : pc + 1 = q) (g : X.G h k n q Ls (.int (x >>> (y &&& 31)) :: st)) : X.G h k n pc Ls (.int y :: .int x :: st) := by
  subst hq; exact X.step g fun T _ Y t r => XT.ishr Y.here X.1 rfl (X.hd d) rfl r
theorem OwC.iushr {x y : Int32} (d : decode bytes pc = .ok (.iushr, 1)) (hq : pc + 1 = q) (g : X.G h k n q Ls (.int (XT.ushr x y) :: st)) : X.G h k n pc Ls (.int y :: .int x :: st) := by
  subst hq; exact X.step g fun T _ Y t r => XT.iushr Y.here X.1 rfl (X.hd d) rfl r
theorem OwC.ladd {x y : Int64} (d : decode bytes pc = .ok (.ladd, 1)) (hq : pc + 1 = q) (g : X.G h k n q Ls (.long (x + y) :: st)) : X.G h k n pc Ls (.long y :: .long x :: st) := by
  subst hq; exact X.step g fun T _ Y t r => XT.ladd Y.here X.1 rfl (X.hd d) rfl r
theorem OwC.lsub {x y : Int64} (d : decode bytes pc = .ok (.lsub, 1)) (hq : pc + 1 = q) (g : X.G h k n q Ls (.long (x - y) :: st)) : X.G h k n pc Ls (.long y :: .long x :: st) := by
  subst hq; exact X.step g fun T _ Y t r => XT.lsub Y.here X.1 rfl (X.hd d) rfl r
theorem OwC.lmul {x y : Int64} (d : decode bytes pc = .ok (.lmul, 1)) (hq : pc + 1 = q) (g : X.G h k n q Ls (.long (x * y) :: st)) : X.G h k n pc Ls (.long y :: .long x :: st) := by
  subst hq; exact X.step g fun T _ Y t r => XT.lmul Y.here X.1 rfl (X.hd d) rfl r
theorem OwC.land {x y : Int64} (d : decode bytes pc = .ok (.land, 1)) (hq : pc + 1 = q) (g : X.G h k n q Ls (.long (x &&& y) :: st)) : X.G h k n pc Ls (.long y :: .long x :: st) := by
  subst hq; exact X.step g fun T _ Y t r => XT.land Y.here X.1 rfl (X.hd d) rfl r
theorem OwC.lxor {x y : Int64} (d : decode bytes pc = .ok (.lxor, 1)) (hq : pc + 1 = q) (g : X.G h k n q Ls (.long (x ^^^ y) :: st)) : X.G h k n pc Ls (.long y :: .long x :: st) := by
  subst hq; exact X.step g fun T _ Y t r => XT.lxor Y.here X.1 rfl (X.hd d) rfl r
theorem OwC.lor {x y : Int64} (d : decode bytes pc = .ok (.lor, 1)) (hq : pc + 1 = q) (g : X.G h k n q Ls (.long (x ||| y) :: st)) : X.G h k n pc Ls (.long y :: .long x :: st) := by
  subst hq; exact X.step g fun T _ Y t r => XT.lor Y.here X.1 rfl (X.hd d) rfl r
theorem OwC.lshl {x : Int64} {y : Int32} (d : decode bytes pc = .ok (.lshl, 1)) (hq : pc + 1 = q) (g : X.G h k n q Ls (.long (x <<< (y.toInt64 &&& 63)) :: st)) : X.G h k n pc Ls (.int y :: .long x :: st) := by
  subst hq; exact X.step g fun T _ Y t r => XT.lshl Y.here X.1 rfl (X.hd d) rfl r
theorem OwC.lshr {x : Int64} {y : Int32} (d : decode bytes pc = .ok (.lshr, 1)) (hq : pc + 1 = q) (g : X.G h k n q Ls (.long (x >>> (y.toInt64 &&& 63)) :: st)) : X.G h k n pc Ls (.int y :: .long x :: st) := by
  subst hq; exact X.step g fun T _ Y t r => XT.lshr Y.here X.1 rfl (X.hd d) rfl r
theorem OwC.lushr {x : Int64} {y : Int32} (d : decode bytes pc = .ok (.lushr, 1)) (hq : pc + 1 = q) (g : X.G h k n q Ls (.long (XT.ushrL x y) :: st)) : X.G h k n pc Ls (.int y :: .long x :: st) := by
  subst hq; exact X.step g fun T _ Y t r => XT.lushr Y.here X.1 rfl (X.hd d) rfl r
theorem OwC.idiv {x y : Int32} (d : decode bytes pc = .ok (.idiv, 1)) (hy : y ≠ 0) (hq : pc + 1 = q) (g : X.G h k n q Ls (.int (x / y) :: st)) : X.G h k n pc Ls (.int y :: .int x :: st) := by
  subst hq; exact X.step g fun T _ Y t r => XS.idiv Y.here X.1 rfl (X.hd d) rfl hy r
theorem OwC.ldiv {x y : Int64} (d : decode bytes pc = .ok (.ldiv, 1)) (hy : y ≠ 0) (hq : pc + 1 = q) (g : X.G h k n q Ls (.long (x / y) :: st)) : X.G h k n pc Ls (.long y :: .long x :: st) := by
  subst hq; exact X.step g fun T _ Y t r => XT.ldiv Y.here X.1 rfl (X.hd d) rfl hy r
theorem OwC.irem {x y : Int32} (d : decode bytes pc = .ok (.irem, 1)) (hy : y ≠ 0) (hq : pc + 1 = q) (g : X.G h k n q Ls (.int (x % y) :: st)) : X.G h k n pc Ls (.int y :: .int x :: st) := by
  subst hq; exact X.step g fun T _ Y t r => iremM Y X.1 rfl (X.hd d) rfl hy r
theorem ow_lrem (x y : Int64) : x - (x / y) * y = x % y := by
  rw [← Int64.toInt_inj, Int64.toInt_sub, Int64.toInt_mul, Int64.toInt_mod, Int64.toInt_div]
  have h1 : (((x.toInt.tdiv y.toInt).bmod (2 ^ 64) * y.toInt).bmod (2 ^ 64)) = (x.toInt.tdiv y.toInt * y.toInt).bmod (2 ^ 64) := by simp [Int.bmod_mul_bmod]
  rw [h1, Int.sub_bmod_bmod]
  have h2 : x.toInt - x.toInt.tdiv y.toInt * y.toInt = x.toInt.tmod y.toInt := by
    have := Int.mul_tdiv_add_tmod x.toInt y.toInt
    rw [Int.mul_comm] at this; omega
  rw [h2, ← Int64.toInt_mod, Int64.toInt_bmod]
theorem OwC.lrem {x y : Int64} (d : decode bytes pc = .ok (.lrem, 1)) (hy : y ≠ 0) (hq : pc + 1 = q) (g : X.G h k n q Ls (.long (x % y) :: st)) : X.G h k n pc Ls (.long y :: .long x :: st) := by
  subst hq; exact X.step g fun T _ Y t r => XT.lrem Y.here X.1 rfl (X.hd d) rfl hy (by rw [ow_lrem]; exact r)
theorem OwC.ineg {x : Int32} (d : decode bytes pc = .ok (.ineg, 1)) (hq : pc + 1 = q) (g : X.G h k n q Ls (.int (-x) :: st)) : X.G h k n pc Ls (.int x :: st) := by
  subst hq; exact X.step g fun T _ Y t r => XS.ineg Y.here X.1 rfl (X.hd d) rfl r
theorem OwC.lneg {x : Int64} (d : decode bytes pc = .ok (.lneg, 1)) (hq : pc + 1 = q) (g : X.G h k n q Ls (.long (-x) :: st)) : X.G h k n pc Ls (.long x :: st) := by
  subst hq; exact X.step g fun T _ Y t r => XT.lneg Y.here X.1 rfl (X.hd d) rfl r
theorem OwC.i2l {x : Int32} (d : decode bytes pc = .ok (.i2l, 1)) (hq : pc + 1 = q) (g : X.G h k n q Ls (.long (x.toInt64) :: st)) : X.G h k n pc Ls (.int x :: st) := by
  subst hq; exact X.step g fun T _ Y t r => XT.i2l Y.here X.1 rfl (X.hd d) rfl r
theorem OwC.l2i {x : Int64} (d : decode bytes pc = .ok (.l2i, 1)) (hq : pc + 1 = q) (g : X.G h k n q Ls (.int (x.toInt32) :: st)) : X.G h k n pc Ls (.long x :: st) := by
  subst hq; exact X.step g fun T _ Y t r => XT.l2i Y.here X.1 rfl (X.hd d) rfl r
theorem OwC.i2b {x : Int32} (d : decode bytes pc = .ok (.i2b, 1)) (hq : pc + 1 = q) (g : X.G h k n q Ls (.int (x.toInt8.toInt32) :: st)) : X.G h k n pc Ls (.int x :: st) := by
  subst hq; exact X.step g fun T _ Y t r => XT.i2b Y.here X.1 rfl (X.hd d) rfl r
theorem OwC.i2c {x : Int32} (d : decode bytes pc = .ok (.i2c, 1)) (hq : pc + 1 = q) (g : X.G h k n q Ls (.int (x.toUInt32.toUInt16.toUInt32.toInt32) :: st)) : X.G h k n pc Ls (.int x :: st) := by
  subst hq; exact X.step g fun T _ Y t r => XT.i2c Y.here X.1 rfl (X.hd d) rfl r
theorem OwC.iinc {j : Nat} {cst : Int} {x : Int32} (v : Int32) (d : decode bytes pc = .ok (.iinc j cst, 3)) (hv : Int32.ofInt cst = v) (hl : Ls[j]? = some (.val (.int x))) (hl' : storeLocals Ls j (.int (x + v)) = some Ls') (hq : pc + 3 = q) (g : X.G h k n q Ls' st) : X.G h k n pc Ls st := by
  subst hq hv; exact X.step g fun T _ Y t r => XS.iinc Y.here X.1 rfl (X.hd d) hl hl' r
/-! the stack -/
theorem OwC.dup {x : Value} (d : decode bytes pc = .ok (.dup, 1)) (hc : x.category = 1) (hq : pc + 1 = q) (g : X.G h k n q Ls (x :: x :: st)) : X.G h k n pc Ls (x :: st) := by
  subst hq; exact X.step g fun T _ Y t r => XS.dup Y.here X.1 rfl (X.hd d) rfl hc r
theorem OwC.pop {x : Value} (d : decode bytes pc = .ok (.pop, 1)) (hc : x.category = 1) (hq : pc + 1 = q) (g : X.G h k n q Ls st) : X.G h k n pc Ls (x :: st) := by
  subst hq; exact X.step g fun T _ Y t r => XT.pop Y.here X.1 rfl (X.hd d) rfl hc r
theorem OwC.dup_x1 {x y : Value} (d : decode bytes pc = .ok (.dup_x1, 1)) (hc : x.category = 1) (hc' : y.category = 1) (hq : pc + 1 = q) (g : X.G h k n q Ls (x :: y :: x :: st)) : X.G h k n pc Ls (x :: y :: st) := by
  subst hq; exact X.step g fun T _ Y t r => XT.dupX1 Y.here X.1 rfl (X.hd d) rfl hc hc' r
theorem OwC.dup2 {x y : Value} (d : decode bytes pc = .ok (.dup2, 1)) (hc : x.category = 1) (hc' : y.category = 1) (hq : pc + 1 = q) (g : X.G h k n q Ls (x :: y :: x :: y :: st)) : X.G h k n pc Ls (x :: y :: st) := by
  subst hq; exact X.step g fun T _ Y t r => XT.dup2 Y.here X.1 rfl (X.hd d) rfl hc hc' r
theorem OwC.dup2L {x : Int64} (d : decode bytes pc = .ok (.dup2, 1)) (hq : pc + 1 = q) (g : X.G h k n q Ls (.long x :: .long x :: st)) : X.G h k n pc Ls (.long x :: st) := by
  subst hq; exact X.step g fun T _ Y t r => XT.dup2L Y.here X.1 rfl (X.hd d) rfl r
/-! branches -/
theorem OwC.goto {o : Int} {q' : Nat} (d : decode bytes pc = .ok (.goto o, 3)) (hp : 0 ≤ (pc : Int) + o ∧ ((pc : Int) + o).toNat = q') (g : X.G h k n q' Ls st) : X.G h k n pc Ls st :=
  X.step g fun T _ Y t r => XS.goto Y.here X.1 rfl rfl (X.hd d) hp.1 hp.2 r
theorem OwC.icmpB {cd : ClassFile.Cond} {o : Int} {q' : Nat} {x y : Int32} (d : decode bytes pc = .ok (.if_icmp cd o, 3)) (hp : 0 ≤ (pc : Int) + o ∧ ((pc : Int) + o).toNat = q') (hq : pc + 3 = q) (g1 : if_icmp.holds cd x y = true → X.G h k n q' Ls st) (g0 : if_icmp.holds cd x y = false → X.G h k n q Ls st) : X.G h k n pc Ls (.int y :: .int x :: st) := by
  subst hq
  cases hc : if_icmp.holds cd x y with
  | true => exact X.step (g1 hc) fun T _ Y t r => XS.icmpYes Y.here X.1 rfl rfl (X.hd d) rfl hc hp.1 hp.2 r
  | false => exact X.step (g0 hc) fun T _ Y t r => XS.icmpNo Y.here X.1 rfl (X.hd d) rfl hc r
theorem OwC.ifB {cd : ClassFile.Cond} {o : Int} {q' : Nat} {x : Int32} (d : decode bytes pc = .ok (.ifCond cd o, 3)) (hp : 0 ≤ (pc : Int) + o ∧ ((pc : Int) + o).toNat = q') (hq : pc + 3 = q) (g1 : ifCond.holds cd x = true → X.G h k n q' Ls st) (g0 : ifCond.holds cd x = false → X.G h k n q Ls st) : X.G h k n pc Ls (.int x :: st) := by
  subst hq
  cases hc : ifCond.holds cd x with
  | true => exact X.step (g1 hc) fun T _ Y t r => XS.ifYes Y.here X.1 rfl rfl (X.hd d) rfl hc hp.1 hp.2 r
  | false => exact X.step (g0 hc) fun T _ Y t r => XS.ifNo Y.here X.1 rfl (X.hd d) rfl hc r
def owCd : ClassFile.Cond → Int → Int → Prop
  | .eq, a, b => a = b | .ne, a, b => ¬ a = b | .lt, a, b => a < b | .ge, a, b => b ≤ a | .gt, a, b => b < a | .le, a, b => a ≤ b
theorem ow_icmp (cd : ClassFile.Cond) (x y : Int32) : if_icmp.holds cd x y = true ↔ owCd cd x.toInt y.toInt := by
  cases cd <;> simp [if_icmp.holds, owCd, ← Int32.toInt_inj, Int32.lt_iff_toInt_lt, Int32.le_iff_toInt_le]
theorem ow_if (cd : ClassFile.Cond) (x : Int32) : ifCond.holds cd x = true ↔ owCd cd x.toInt 0 := by rw [if0, ow_icmp]; rfl
theorem ow_icmpF {cd : ClassFile.Cond} {x y : Int32} (hc : if_icmp.holds cd x y = false) : ¬ owCd cd x.toInt y.toInt := fun q => by rw [(ow_icmp cd x y).mpr q] at hc; cases hc
theorem ow_ifF {cd : ClassFile.Cond} {x : Int32} (hc : ifCond.holds cd x = false) : ¬ owCd cd x.toInt 0 := fun q => by rw [(ow_if cd x).mpr q] at hc; cases hc
theorem ow_lc (cd : ClassFile.Cond) (x y : Int64) : owCd cd (XT.cmpL x y).toInt 0 ↔ owCd cd x.toInt y.toInt := by
  have e1 : (1 : Int32).toInt = 1 := rfl
  have e0 : (0 : Int32).toInt = 0 := rfl
  have em : (-1 : Int32).toInt = -1 := rfl
  unfold XT.cmpL
  split
  · rename_i h1; rw [Int64.lt_iff_toInt_lt] at h1; cases cd <;> simp only [owCd, e1] <;> omega
  · rename_i h1; rw [Int64.lt_iff_toInt_lt] at h1
    split
    · rename_i h2; subst h2; cases cd <;> simp only [owCd, e0] <;> omega
    · rename_i h2; rw [← Int64.toInt_inj] at h2; cases cd <;> simp only [owCd, em] <;> omega
theorem OwC.icmp_eq {o : Int} {q' : Nat} {x y : Int32} {a b : Int} (d : decode bytes pc = .ok (.if_icmp .eq o, 3)) (hx : x.toInt = a) (hy : y.toInt = b) (hp : 0 ≤ (pc : Int) + o ∧ ((pc : Int) + o).toNat = q') (hq : pc + 3 = q) (g1 : a = b → X.G h k n q' Ls st) (g0 : ¬ a = b → X.G h k n q Ls st) : X.G h k n pc Ls (.int y :: .int x :: st) := by
  subst hx hy; exact X.icmpB d hp hq (fun hc => g1 ((ow_icmp _ _ _).mp hc)) (fun hc => g0 (by have := ow_icmpF hc; simp only [owCd] at this; omega))
theorem OwC.if_eq {o : Int} {q' : Nat} {x : Int32} {a : Int} (d : decode bytes pc = .ok (.ifCond .eq o, 3)) (hx : x.toInt = a) (hp : 0 ≤ (pc : Int) + o ∧ ((pc : Int) + o).toNat = q') (hq : pc + 3 = q) (g1 : a = 0 → X.G h k n q' Ls st) (g0 : ¬ a = 0 → X.G h k n q Ls st) : X.G h k n pc Ls (.int x :: st) := by
  subst hx; exact X.ifB d hp hq (fun hc => g1 ((ow_if _ _).mp hc)) (fun hc => g0 (by have := ow_ifF hc; simp only [owCd] at this; omega))
theorem OwC.lcmp_eq {o : Int} {q1 q' : Nat} {x y : Int64} {a b : Int} (d1 : decode bytes pc = .ok (.lcmp, 1)) (hq1 : pc + 1 = q1) (d : decode bytes q1 = .ok (.ifCond .eq o, 3)) (hx : x.toInt = a) (hy : y.toInt = b) (hp : 0 ≤ (q1 : Int) + o ∧ ((q1 : Int) + o).toNat = q') (hq : q1 + 3 = q) (g1 : a = b → X.G h k n q' Ls st) (g0 : ¬ a = b → X.G h k n q Ls st) : X.G h k n pc Ls (.long y :: .long x :: st) := by
  subst hx hy hq1; refine X.step (X.ifB d hp hq (fun hc => g1 ((ow_lc _ _ _).mp ((ow_if _ _).mp hc))) (fun hc => g0 (by have := mt (ow_lc _ _ _).mpr (ow_ifF hc); simp only [owCd] at this; omega))) fun T _ Y t r => XT.lcmp Y.here X.1 rfl (X.hd d1) rfl r
theorem OwC.icmp_ne {o : Int} {q' : Nat} {x y : Int32} {a b : Int} (d : decode bytes pc = .ok (.if_icmp .ne o, 3)) (hx : x.toInt = a) (hy : y.toInt = b) (hp : 0 ≤ (pc : Int) + o ∧ ((pc : Int) + o).toNat = q') (hq : pc + 3 = q) (g1 : ¬ a = b → X.G h k n q' Ls st) (g0 : a = b → X.G h k n q Ls st) : X.G h k n pc Ls (.int y :: .int x :: st) := by
  subst hx hy; exact X.icmpB d hp hq (fun hc => g1 ((ow_icmp _ _ _).mp hc)) (fun hc => g0 (by have := ow_icmpF hc; simp only [owCd] at this; omega))
theorem OwC.if_ne {o : Int} {q' : Nat} {x : Int32} {a : Int} (d : decode bytes pc = .ok (.ifCond .ne o, 3)) (hx : x.toInt = a) (hp : 0 ≤ (pc : Int) + o ∧ ((pc : Int) + o).toNat = q') (hq : pc + 3 = q) (g1 : ¬ a = 0 → X.G h k n q' Ls st) (g0 : a = 0 → X.G h k n q Ls st) : X.G h k n pc Ls (.int x :: st) := by
  subst hx; exact X.ifB d hp hq (fun hc => g1 ((ow_if _ _).mp hc)) (fun hc => g0 (by have := ow_ifF hc; simp only [owCd] at this; omega))
theorem OwC.lcmp_ne {o : Int} {q1 q' : Nat} {x y : Int64} {a b : Int} (d1 : decode bytes pc = .ok (.lcmp, 1)) (hq1 : pc + 1 = q1) (d : decode bytes q1 = .ok (.ifCond .ne o, 3)) (hx : x.toInt = a) (hy : y.toInt = b) (hp : 0 ≤ (q1 : Int) + o ∧ ((q1 : Int) + o).toNat = q') (hq : q1 + 3 = q) (g1 : ¬ a = b → X.G h k n q' Ls st) (g0 : a = b → X.G h k n q Ls st) : X.G h k n pc Ls (.long y :: .long x :: st) := by
  subst hx hy hq1; refine X.step (X.ifB d hp hq (fun hc => g1 ((ow_lc _ _ _).mp ((ow_if _ _).mp hc))) (fun hc => g0 (by have := mt (ow_lc _ _ _).mpr (ow_ifF hc); simp only [owCd] at this; omega))) fun T _ Y t r => XT.lcmp Y.here X.1 rfl (X.hd d1) rfl r
theorem OwC.icmp_lt {o : Int} {q' : Nat} {x y : Int32} {a b : Int} (d : decode bytes pc = .ok (.if_icmp .lt o, 3)) (hx : x.toInt = a) (hy : y.toInt = b) (hp : 0 ≤ (pc : Int) + o ∧ ((pc : Int) + o).toNat = q') (hq : pc + 3 = q) (g1 : a < b → X.G h k n q' Ls st) (g0 : b ≤ a → X.G h k n q Ls st) : X.G h k n pc Ls (.int y :: .int x :: st) := by
  subst hx hy; exact X.icmpB d hp hq (fun hc => g1 ((ow_icmp _ _ _).mp hc)) (fun hc => g0 (by have := ow_icmpF hc; simp only [owCd] at this; omega))
theorem OwC.if_lt {o : Int} {q' : Nat} {x : Int32} {a : Int} (d : decode bytes pc = .ok (.ifCond .lt o, 3)) (hx : x.toInt = a) (hp : 0 ≤ (pc : Int) + o ∧ ((pc : Int) + o).toNat = q') (hq : pc + 3 = q) (g1 : a < 0 → X.G h k n q' Ls st) (g0 : 0 ≤ a → X.G h k n q Ls st) : X.G h k n pc Ls (.int x :: st) := by
  subst hx; exact X.ifB d hp hq (fun hc => g1 ((ow_if _ _).mp hc)) (fun hc => g0 (by have := ow_ifF hc; simp only [owCd] at this; omega))
theorem OwC.lcmp_lt {o : Int} {q1 q' : Nat} {x y : Int64} {a b : Int} (d1 : decode bytes pc = .ok (.lcmp, 1)) (hq1 : pc + 1 = q1) (d : decode bytes q1 = .ok (.ifCond .lt o, 3)) (hx : x.toInt = a) (hy : y.toInt = b) (hp : 0 ≤ (q1 : Int) + o ∧ ((q1 : Int) + o).toNat = q') (hq : q1 + 3 = q) (g1 : a < b → X.G h k n q' Ls st) (g0 : b ≤ a → X.G h k n q Ls st) : X.G h k n pc Ls (.long y :: .long x :: st) := by
  subst hx hy hq1; refine X.step (X.ifB d hp hq (fun hc => g1 ((ow_lc _ _ _).mp ((ow_if _ _).mp hc))) (fun hc => g0 (by have := mt (ow_lc _ _ _).mpr (ow_ifF hc); simp only [owCd] at this; omega))) fun T _ Y t r => XT.lcmp Y.here X.1 rfl (X.hd d1) rfl r
theorem OwC.icmp_ge {o : Int} {q' : Nat} {x y : Int32} {a b : Int} (d : decode bytes pc = .ok (.if_icmp .ge o, 3)) (hx : x.toInt = a) (hy : y.toInt = b) (hp : 0 ≤ (pc : Int) + o ∧ ((pc : Int) + o).toNat = q') (hq : pc + 3 = q) (g1 : b ≤ a → X.G h k n q' Ls st) (g0 : a < b → X.G h k n q Ls st) : X.G h k n pc Ls (.int y :: .int x :: st) := by
  subst hx hy; exact X.icmpB d hp hq (fun hc => g1 ((ow_icmp _ _ _).mp hc)) (fun hc => g0 (by have := ow_icmpF hc; simp only [owCd] at this; omega))
theorem OwC.if_ge {o : Int} {q' : Nat} {x : Int32} {a : Int} (d : decode bytes pc = .ok (.ifCond .ge o, 3)) (hx : x.toInt = a) (hp : 0 ≤ (pc : Int) + o ∧ ((pc : Int) + o).toNat = q') (hq : pc + 3 = q) (g1 : 0 ≤ a → X.G h k n q' Ls st) (g0 : a < 0 → X.G h k n q Ls st) : X.G h k n pc Ls (.int x :: st) := by
  subst hx; exact X.ifB d hp hq (fun hc => g1 ((ow_if _ _).mp hc)) (fun hc => g0 (by have := ow_ifF hc; simp only [owCd] at this; omega))
theorem OwC.lcmp_ge {o : Int} {q1 q' : Nat} {x y : Int64} {a b : Int} (d1 : decode bytes pc = .ok (.lcmp, 1)) (hq1 : pc + 1 = q1) (d : decode bytes q1 = .ok (.ifCond .ge o, 3)) (hx : x.toInt = a) (hy : y.toInt = b) (hp : 0 ≤ (q1 : Int) + o ∧ ((q1 : Int) + o).toNat = q') (hq : q1 + 3 = q) (g1 : b ≤ a → X.G h k n q' Ls st) (g0 : a < b → X.G h k n q Ls st) : X.G h k n pc Ls (.long y :: .long x :: st) := by
  subst hx hy hq1; refine X.step (X.ifB d hp hq (fun hc => g1 ((ow_lc _ _ _).mp ((ow_if _ _).mp hc))) (fun hc => g0 (by have := mt (ow_lc _ _ _).mpr (ow_ifF hc); simp only [owCd] at this; omega))) fun T _ Y t r => XT.lcmp Y.here X.1 rfl (X.hd d1) rfl r
theorem OwC.icmp_gt {o : Int} {q' : Nat} {x y : Int32} {a b : Int} (d : decode bytes pc = .ok (.if_icmp .gt o, 3)) (hx : x.toInt = a) (hy : y.toInt = b) (hp : 0 ≤ (pc : Int) + o ∧ ((pc : Int) + o).toNat = q') (hq : pc + 3 = q) (g1 : b < a → X.G h k n q' Ls st) (g0 : a ≤ b → X.G h k n q Ls st) : X.G h k n pc Ls (.int y :: .int x :: st) := by
  subst hx hy; exact X.icmpB d hp hq (fun hc => g1 ((ow_icmp _ _ _).mp hc)) (fun hc => g0 (by have := ow_icmpF hc; simp only [owCd] at this; omega))
theorem OwC.if_gt {o : Int} {q' : Nat} {x : Int32} {a : Int} (d : decode bytes pc = .ok (.ifCond .gt o, 3)) (hx : x.toInt = a) (hp : 0 ≤ (pc : Int) + o ∧ ((pc : Int) + o).toNat = q') (hq : pc + 3 = q) (g1 : 0 < a → X.G h k n q' Ls st) (g0 : a ≤ 0 → X.G h k n q Ls st) : X.G h k n pc Ls (.int x :: st) := by
  subst hx; exact X.ifB d hp hq (fun hc => g1 ((ow_if _ _).mp hc)) (fun hc => g0 (by have := ow_ifF hc; simp only [owCd] at this; omega))
theorem OwC.lcmp_gt {o : Int} {q1 q' : Nat} {x y : Int64} {a b : Int} (d1 : decode bytes pc = .ok (.lcmp, 1)) (hq1 : pc + 1 = q1) (d : decode bytes q1 = .ok (.ifCond .gt o, 3)) (hx : x.toInt = a) (hy : y.toInt = b) (hp : 0 ≤ (q1 : Int) + o ∧ ((q1 : Int) + o).toNat = q') (hq : q1 + 3 = q) (g1 : b < a → X.G h k n q' Ls st) (g0 : a ≤ b → X.G h k n q Ls st) : X.G h k n pc Ls (.long y :: .long x :: st) := by
  subst hx hy hq1; refine X.step (X.ifB d hp hq (fun hc => g1 ((ow_lc _ _ _).mp ((ow_if _ _).mp hc))) (fun hc => g0 (by have := mt (ow_lc _ _ _).mpr (ow_ifF hc); simp only [owCd] at this; omega))) fun T _ Y t r => XT.lcmp Y.here X.1 rfl (X.hd d1) rfl r
theorem OwC.icmp_le {o : Int} {q' : Nat} {x y : Int32} {a b : Int} (d : decode bytes pc = .ok (.if_icmp .le o, 3)) (hx : x.toInt = a) (hy : y.toInt = b) (hp : 0 ≤ (pc : Int) + o ∧ ((pc : Int) + o).toNat = q') (hq : pc + 3 = q) (g1 : a ≤ b → X.G h k n q' Ls st) (g0 : b < a → X.G h k n q Ls st) : X.G h k n pc Ls (.int y :: .int x :: st) := by
  subst hx hy; exact X.icmpB d hp hq (fun hc => g1 ((ow_icmp _ _ _).mp hc)) (fun hc => g0 (by have := ow_icmpF hc; simp only [owCd] at this; omega))
theorem OwC.if_le {o : Int} {q' : Nat} {x : Int32} {a : Int} (d : decode bytes pc = .ok (.ifCond .le o, 3)) (hx : x.toInt = a) (hp : 0 ≤ (pc : Int) + o ∧ ((pc : Int) + o).toNat = q') (hq : pc + 3 = q) (g1 : a ≤ 0 → X.G h k n q' Ls st) (g0 : 0 < a → X.G h k n q Ls st) : X.G h k n pc Ls (.int x :: st) := by
  subst hx; exact X.ifB d hp hq (fun hc => g1 ((ow_if _ _).mp hc)) (fun hc => g0 (by have := ow_ifF hc; simp only [owCd] at this; omega))
theorem OwC.lcmp_le {o : Int} {q1 q' : Nat} {x y : Int64} {a b : Int} (d1 : decode bytes pc = .ok (.lcmp, 1)) (hq1 : pc + 1 = q1) (d : decode bytes q1 = .ok (.ifCond .le o, 3)) (hx : x.toInt = a) (hy : y.toInt = b) (hp : 0 ≤ (q1 : Int) + o ∧ ((q1 : Int) + o).toNat = q') (hq : q1 + 3 = q) (g1 : a ≤ b → X.G h k n q' Ls st) (g0 : b < a → X.G h k n q Ls st) : X.G h k n pc Ls (.long y :: .long x :: st) := by
  subst hx hy hq1; refine X.step (X.ifB d hp hq (fun hc => g1 ((ow_lc _ _ _).mp ((ow_if _ _).mp hc))) (fun hc => g0 (by have := mt (ow_lc _ _ _).mpr (ow_ifF hc); simp only [owCd] at this; omega))) fun T _ Y t r => XT.lcmp Y.here X.1 rfl (X.hd d1) rfl r
theorem OwC.ifnullT {o : Int} {q' : Nat} (d : decode bytes pc = .ok (.ifnull o, 3)) (hp : 0 ≤ (pc : Int) + o ∧ ((pc : Int) + o).toNat = q') (g : X.G h k n q' Ls st) : X.G h k n pc Ls (.null :: st) :=
  X.step g fun T _ Y t r => XS.ifnullYes Y.here X.1 rfl rfl (X.hd d) rfl hp.1 hp.2 r
theorem OwC.ifnullF {o : Int} {b : Addr} (d : decode bytes pc = .ok (.ifnull o, 3)) (hq : pc + 3 = q) (g : X.G h k n q Ls st) : X.G h k n pc Ls (.ref b :: st) := by
  subst hq; exact X.step g fun T _ Y t r => XS.ifnullNo Y.here X.1 rfl (X.hd d) rfl r
theorem OwC.ifnonnullT {o : Int} {q' : Nat} {b : Addr} (d : decode bytes pc = .ok (.ifnonnull o, 3)) (hp : 0 ≤ (pc : Int) + o ∧ ((pc : Int) + o).toNat = q') (g : X.G h k n q' Ls st) : X.G h k n pc Ls (.ref b :: st) :=
  X.step g fun T _ Y t r => XT.ifnonnullYes Y.here X.1 rfl rfl (X.hd d) rfl hp.1 hp.2 r
theorem OwC.ifnonnullF {o : Int} (d : decode bytes pc = .ok (.ifnonnull o, 3)) (hq : pc + 3 = q) (g : X.G h k n q Ls st) : X.G h k n pc Ls (.null :: st) := by
  subst hq; exact X.step g fun T _ Y t r => XT.ifnonnullNo Y.here X.1 rfl (X.hd d) rfl r
theorem OwC.acmp_ne {o : Int} {q' : Nat} {x y : Addr} (d : decode bytes pc = .ok (.if_acmp .ne o, 3)) (hp : 0 ≤ (pc : Int) + o ∧ ((pc : Int) + o).toNat = q') (hq : pc + 3 = q) (g1 : ¬ x = y → X.G h k n q' Ls st) (g0 : x = y → X.G h k n q Ls st) : X.G h k n pc Ls (.ref y :: .ref x :: st) := by
  subst hq
  by_cases hc : x = y
  · exact X.step (g0 hc) fun T _ Y t r => XT.acmpNo Y.here X.1 rfl (X.hd d) rfl rfl rfl (by simp [XT.acmp, hc]) r
  · exact X.step (g1 hc) fun T _ Y t r => XT.acmpYes Y.here X.1 rfl rfl (X.hd d) rfl rfl rfl (by simp [XT.acmp, hc]) hp.1 hp.2 r
theorem OwC.acmp_eq {o : Int} {q' : Nat} {x y : Addr} (d : decode bytes pc = .ok (.if_acmp .eq o, 3)) (hp : 0 ≤ (pc : Int) + o ∧ ((pc : Int) + o).toNat = q') (hq : pc + 3 = q) (g1 : x = y → X.G h k n q' Ls st) (g0 : ¬ x = y → X.G h k n q Ls st) : X.G h k n pc Ls (.ref y :: .ref x :: st) := by
  subst hq
  by_cases hc : x = y
  · exact X.step (g1 hc) fun T _ Y t r => XT.acmpYes Y.here X.1 rfl rfl (X.hd d) rfl rfl rfl (by simp [XT.acmp, hc]) hp.1 hp.2 r
  · exact X.step (g0 hc) fun T _ Y t r => XT.acmpNo Y.here X.1 rfl (X.hd d) rfl rfl rfl (by simp [XT.acmp, hc]) r
/-! returns -/
theorem OwC.fin {v : Option Value} (hv : meth.sig.returnType = none → v = none) (w : ∀ T locs, Stand p l e R s m args below meth c T locs k n → ∀ fs, (∀ (f : JFrame) (acts : List Action), f.method = m → f.locked = none → f.entered = [] → (doReturn e (T.setTop f) acts v).1 = T.setFrames fs) → Steps p.tables e below (T.setTop (mkF m pc Ls st)) (T.setFrames fs)) (hk : k ≤ kM) (hn : n ≤ nM) (hΦ : Φ v h) : X.G h k n pc Ls st := fun T locs Y eT N => by
  obtain ⟨fs, hr, hrun, hended, hW, hsame⟩ := Y.leave (v := v) hv X.2.2.2.2.2.2.1
  exact ⟨v, _, locs, w T locs Y fs hr, hrun, hended, ⟨by show Φ v T.heap; rw [eT]; exact hΦ, N⟩, ⟨_, rfl⟩, hW, hsame.mono hk hn⟩
theorem OwC.retV (d : decode bytes pc = .ok (.return_, 1)) (hret : ret = none) (hk : k ≤ kM) (hn : n ≤ nM) (hΦ : Φ none h) : X.G h k n pc Ls [] :=
  X.fin (fun _ => rfl) (fun T _ Y fs hr => Y.returnOut X.1 (X.2.2.2.2.2.1.trans hret) (X.hd d) hr) hk hn hΦ
theorem OwC.retI {z : Int32} (d : decode bytes pc = .ok (.ireturn, 1)) (hret : ret = some .int) (hk : k ≤ kM) (hn : n ≤ nM) (hΦ : Φ (some (.int z)) h) : X.G h k n pc Ls (.int z :: st) :=
  X.fin (fun q => by rw [X.2.2.2.2.2.1, hret] at q; cases q) (fun T _ Y fs hr => retOut Y X.1 (X.2.2.2.2.2.1.trans hret) rfl (Or.inl ⟨rfl, Or.inl rfl, z, rfl⟩) (X.hd d) hr) hk hn hΦ
theorem OwC.retN {z z' : Int32} {t : FieldType} (d : decode bytes pc = .ok (.ireturn, 1)) (hret : ret = some t) (ht : t = .boolean ∨ t = .byte ∨ t = .char ∨ t = .short) (hz : nar t z = z') (hk : k ≤ kM) (hn : n ≤ nM) (hΦ : Φ (some (.int z')) h) : X.G h k n pc Ls (.int z :: st) := by
  subst hz
  exact X.fin (fun q => by rw [X.2.2.2.2.2.1, hret] at q; cases q) (fun T _ Y fs hr => RoadKit.retN Y X.1 (X.2.2.2.2.2.1.trans hret) ht (X.hd d) hr) hk hn hΦ
theorem OwC.retJ {z : Int64} (d : decode bytes pc = .ok (.lreturn, 1)) (hret : ret = some .long) (hk : k ≤ kM) (hn : n ≤ nM) (hΦ : Φ (some (.long z)) h) : X.G h k n pc Ls (.long z :: st) :=
  X.fin (fun q => by rw [X.2.2.2.2.2.1, hret] at q; cases q) (fun T _ Y fs hr => retOut Y X.1 (X.2.2.2.2.2.1.trans hret) rfl (Or.inr (Or.inl ⟨rfl, rfl, z, rfl⟩)) (X.hd d) hr) hk hn hΦ
theorem OwC.retA {v : Value} {t : FieldType} (d : decode bytes pc = .ok (.areturn, 1)) (hret : ret = some t) (ht : t.isReference = true) (hv : v.isRef = true) (hnv : narrow t v = v) (hk : k ≤ kM) (hn : n ≤ nM) (hΦ : Φ (some v) h) : X.G h k n pc Ls (v :: st) :=
  X.fin (fun q => by rw [X.2.2.2.2.2.1, hret] at q; cases q) (fun T _ Y fs hr => retOut Y X.1 (X.2.2.2.2.2.1.trans hret) hnv (Or.inr (Or.inr (Or.inr (Or.inr ⟨rfl, ht, hv⟩)))) (X.hd d) hr) hk hn hΦ
/-! the heap -/
theorem OwC.getF {R0 O fn d0 host : String} {i : Nat} {a : Addr} {v : Value} (w : (Cond.fieldLink own i R0 fn d0).before a0 Z = true ∨ (Cond.fieldLinkNest own i R0 fn d0 host).before a0 Z = true) (via : Via Z R0 O fn d0) (F : Fld Z h a O fn d0 v) (d : decode bytes pc = .ok (.getfield i, 3)) (hq : pc + 3 = q) (g : X.G h k n q Ls (v :: st)) : X.G h k n pc Ls (.ref a :: st) := fun T locs Y eT N => by
  subst hq
  obtain ⟨T', Y', eT', w'⟩ := RoadKit.getF Y X.1 X.2.2.2.2.1 X.2.2.2.1 w via eT F (g := mkF m pc Ls (.ref a :: st)) rfl rfl (X.hd d)
  obtain ⟨v, s₂, L, r1, r⟩ := g T' locs Y' eT' N
  exact ⟨v, s₂, L, w' _ r1, r⟩
theorem OwC.getR {R0 fn d0 : String} {i : Nat} {a : Addr} {v : Value} (w : (Cond.fieldRef own i R0 fn d0).before a0 Z = true) (F : Fld Z h a R0 fn d0 v) (d : decode bytes pc = .ok (.getfield i, 3)) (hq : pc + 3 = q) (g : X.G h k n q Ls (v :: st)) : X.G h k n pc Ls (.ref a :: st) := fun T locs Y eT N => by
  subst hq
  have hT : Z.Warmed39 T.vm := wtrans X.2.2.2.2.1 Y.warmed
  have w' := Cond.fieldRef_warmed39 hT w
  have hcur : (Z.setVm T.vm).vm.findClass own = some m.cls := by rw [State.vm_setVm, Y.warmed.alike.findClass]; exact X.2.2.2.1
  obtain ⟨c1, k1, i1, f1, e1, e2⟩ := Cond.fieldRef_spec hcur w'
  obtain ⟨cell, cf, k, j, f, h1, h2, h3, h4, h5, h6, h7⟩ := F
  obtain ⟨k', q1, -⟩ := State.fieldFound?_setVm (s := Z) hT.alike h2
  cases q1.symm.trans e1
  obtain ⟨v', s₂, L, r1, r⟩ := g T locs Y eT N
  exact ⟨v', s₂, L, (Y.getfieldR X.1 (g := mkF m pc Ls (.ref a :: st)) rfl e2 h3 rfl (by rw [eT]; exact h1) h4 h7 (X.hd d) (Steps.refl _)).trans r1, r⟩
theorem OwC.getS {R0 O fn d0 : String} {i : Nat} {v : Value} (w : (Cond.fieldLink own i R0 fn d0).before a0 Z = true) (via : Via Z R0 O fn d0) (F : Sta Z h O fn d0 v) (d : decode bytes pc = .ok (.getstatic i, 3)) (hq : pc + 3 = q) (g : X.G h k n q Ls (v :: st)) : X.G h k n pc Ls st := fun T locs Y eT N => by
  subst hq
  obtain ⟨T', Y', eT', w'⟩ := RoadKit.getS (host := "") Y X.1 X.2.2.2.2.1 X.2.2.2.1 w via eT F (g := mkF m pc Ls st) rfl (X.hd d)
  obtain ⟨v, s₂, L, r1, r⟩ := g T' locs Y' eT' N
  exact ⟨v, s₂, L, w' _ r1, r⟩
theorem OwC.putF {R0 O fn d0 host C : String} {i kk : Nat} {a : Addr} {v old : Value} {ty : FieldType} (w : (Cond.fieldLink own i R0 fn d0).before a0 Z = true ∨ (Cond.fieldLinkNest own i R0 fn d0 host).before a0 Z = true) (via : Via Z R0 O fn d0) (F : Fld Z h a O fn d0 old) (E : Exa Z h a C)
    (L : (Cond.lays C O fn d0).before a0 Z = true ∨ ((Cond.laysFinal C O fn d0).before a0 Z = true ∧ own = O ∧ nm = "<init>")) (wi : (Cond.instantiable C kk).before a0 Z = true) (hty : parseFieldDescriptor d0 = some ty) (hnv : narrow ty v = v) (hf : fits ty v = true) (ge : n0 ≤ a)
    (d : decode bytes pc = .ok (.putfield i, 3)) (hq : pc + 3 = q) (g : ∀ h', Wr h h' a (RoadKit.slotOf Z O fn d0) v → X.G h' k n q Ls st) : X.G h k n pc Ls (v :: .ref a :: st) := fun T locs Y eT N => by
  subst hq
  obtain ⟨T', h', Y', eT', W, w'⟩ := RoadKit.putF Y X.1 X.2.2.2.2.1 X.2.2.2.1 w via eT F E (L.imp_right fun z => ⟨z.1, z.2.1, X.2.2.2.2.2.2.2.trans z.2.2⟩) wi hty hnv hf (g := mkF m pc Ls (v :: .ref a :: st)) rfl rfl (X.hd d)
  obtain ⟨v, s₂, L, r1, r⟩ := g h' W T' _ Y' eT' (Fr.snoc Y' N ge)
  exact ⟨v, s₂, L, w' _ r1, r⟩
theorem OwC.newO {C : String} {i N k' n' : Nat} (w : (Cond.classLink own i C).before a0 Z = true) (wi : (Cond.instantiable C N).before a0 Z = true) (wz : (Cond.initialized C).before a0 Z = true) (d : decode bytes pc = .ok (.new i, 3)) (hk : k + 1 = k') (hn : n + N = n') (hc : k' ≤ R.cells) (hs : n' ≤ R.slots) (hq : pc + 3 = q)
    (g : ∀ h' a, a = h.size → Ext h h' → Exa Z h' a C → (∀ {O fn d0 : String} {ty : FieldType}, Laid Z a0 C O fn d0 → parseFieldDescriptor d0 = some ty → Fld Z h' a O fn d0 (defaultValue ty)) → X.G h' k' n' q Ls (.ref a :: st)) : X.G h k n pc Ls st := fun T locs Y eT Nf => by
  subst hq hk hn
  obtain ⟨T', h', Y', eT', E, A, D, -, w'⟩ := RoadKit.newO Y X.1 X.2.2.2.2.1 X.2.2.2.1 w wi wz eT (g := mkF m pc Ls st) rfl (X.hd d) hc hs
  obtain ⟨v, s₂, L, r1, r⟩ := g h' h.size rfl E A D T' _ Y' eT' Nf
  exact ⟨v, s₂, L, w' _ r1, r⟩
theorem OwC.initO {i W : Nat} {a : Addr} (w1 : (Cond.methodLink own i Lib.objectInit).before a0 Z = true) (w2 : (Cond.instanceMethod Lib.objectInit).before a0 Z = true) (w3 : (Cond.code Lib.objectInit ⟨#[0xb1]⟩ 1 none).before a0 Z = true) (d : decode bytes pc = .ok (.invokespecial i, 3)) (hsz : Ls.size = mL) (hf : 1 ≤ R.frames) (hW : (st.map fun v => v.category).sum ≤ W) (hl : W + 12 ≤ R.locals) (hq : pc + 3 = q)
    (g : X.G h k n q Ls st) : X.G h k n pc Ls (.ref a :: st) := fun T locs Y eT N => by
  subst hq
  obtain ⟨T', Y', eT', w'⟩ := RoadKit.initO Y X.1 X.2.2.2.2.1 X.2.2.2.1 w1 w2 w3 eT (g := mkF m pc Ls (.ref a :: st)) rfl (hsz.trans X.2.2.1.symm) rfl (X.hd d) hf (W := W) (by show 2 * 0 + _ ≤ _; omega) hl
  obtain ⟨v, s₂, L, r1, r⟩ := g T' locs Y' eT' N
  exact ⟨v, s₂, L, w' _ r1, r⟩
/-! arrays: what stands in one, as a list -/
def OwA (Z : State) (h : Heap) (a : Addr) (ty : FieldType) (vs : List Value) : Prop := ∃ cl : Cell, Arr Z h a cl ty ∧ cl.slots.toList = vs ∧ vs.length < 2 ^ 31
variable {a : Addr} {ty : FieldType} {vs : List Value}
theorem OwA.lt (A : OwA Z h a ty vs) : a < h.size := by obtain ⟨cl, A, -⟩ := A; exact A.lt
theorem OwA.len (A : OwA Z h a ty vs) : vs.length < 2 ^ 31 := by obtain ⟨cl, A, -, r⟩ := A; exact r
theorem OwA.ext {h' : Heap} (A : OwA Z h a ty vs) (E : Ext h h') : OwA Z h' a ty vs := by obtain ⟨cl, A, r⟩ := A; exact ⟨cl, A.ext E, r⟩
theorem OwA.other {h' : Heap} {b : Addr} {sl : Nat} {v : Value} (A : OwA Z h a ty vs) (W : Wr h h' b sl v) (ne : a ≠ b) : OwA Z h' a ty vs := by obtain ⟨cl, A, r⟩ := A; exact ⟨cl, A.other W ne, r⟩
theorem OwA.keep {h' : Heap} {ws : List Addr} (A : OwA Z h a ty vs) (K : Keep h h' ws) (ni : a ∉ ws) : OwA Z h' a ty vs := by obtain ⟨cl, A, r⟩ := A; exact ⟨cl, ⟨K.2.1 a cl A.1 ni, A.2⟩, r⟩
theorem OwA.set {h' : Heap} {j : Nat} {v : Value} (A : OwA Z h a ty vs) (W : Wr h h' a j v) : OwA Z h' a ty (vs.set j v) := by
  obtain ⟨cl, A, r1, r2⟩ := A
  exact ⟨cl.setSlot j v, A.same W, by simp [Cell.setSlot, r1], by simpa using r2⟩
theorem ow_idx {i : Int32} {j : Nat} (hi : i.toInt = (j : Int)) : ¬ i < 0 ∧ i.toNatClampNeg = j := by
  refine ⟨?_, ?_⟩
  · rw [Int32.lt_iff_toInt_lt]; have : (0 : Int32).toInt = 0 := rfl; omega
  · have : i.toNatClampNeg = i.toInt.toNat := rfl
    omega
theorem OwA.inb {cl : Cell} {i : Int32} {j : Nat} (e : cl.slots.toList = vs) (hi : i.toInt = (j : Int)) (hj : j < vs.length) : ¬ (i < 0 ∨ cl.slots.size ≤ i.toNatClampNeg) := by
  obtain ⟨h1, h2⟩ := ow_idx hi
  have : cl.slots.size = vs.length := by rw [← e]; simp
  rintro (q | q)
  · exact h1 q
  · omega
theorem OwA.at {cl : Cell} {i : Int32} {j : Nat} {v : Value} (e : cl.slots.toList = vs) (hi : i.toInt = (j : Int)) (hv : vs[j]? = some v) : cl.slots[i.toNatClampNeg]? = some v := by
  rw [(ow_idx hi).2, ← hv, ← e]; simp
theorem ow_getlt {j : Nat} {v : Value} (hv : vs[j]? = some v) : j < vs.length := (List.getElem?_eq_some_iff.mp hv).1
theorem OwC.newP {aty : ArrayType} {z : Int32} {N k' n' : Nat} (w : (Cond.arrayClass (newarray.typeOf aty)).before a0 Z = true) (d : decode bytes pc = .ok (.newarray aty, 2)) (ht : newarray.typeOf aty = ty) (hz : z.toInt = (N : Int)) {cap : Nat} (hcap : N ≤ cap) (hb : cap * 8 ≤ 536870912) (hk : k + 1 = k') (hn : n + cap = n') (hc : k' ≤ R.cells) (hs : n' ≤ R.slots) (hq : pc + 2 = q)
    (g : ∀ h' a, a = h.size → Ext h h' → OwA Z h' a ty (List.replicate N (defaultValue ty)) → X.G h' k' n' q Ls (.ref a :: st)) : X.G h k n pc Ls (.int z :: st) := fun T locs Y eT Nf => by
  subst hq hk hn ht
  obtain ⟨z1, z2⟩ := ow_idx hz
  obtain ⟨T', h', cA, Y', eT', E, A, w'⟩ := RoadKit.newP Y X.1 X.2.2.2.2.1 w eT (g := mkF m pc Ls (.int z :: st)) rfl (X.hd d) rfl z1 (cap := cap) (by omega) hb hc hs
  obtain ⟨v, s₂, L, r1, r⟩ := g h' h.size rfl E ⟨_, A, by simp [newA, z2], by have := z.toInt_lt; simp; omega⟩ T' _ Y' eT' Nf
  exact ⟨v, s₂, L, w' _ r1, r⟩
theorem OwC.alen {z : Int32} (A : OwA Z h a ty vs) (hz : z.toInt = (vs.length : Int)) (d : decode bytes pc = .ok (.arraylength, 1)) (hq : pc + 1 = q) (g : X.G h k n q Ls (.int z :: st)) : X.G h k n pc Ls (.ref a :: st) := fun T locs Y eT N => by
  subst hq
  obtain ⟨cl, A, e, hl⟩ := A
  obtain ⟨v, s₂, L, r1, r⟩ := g T locs Y eT N
  have hsz : cl.slots.size = vs.length := by rw [← e]; simp
  have ez : cl.slots.size.toInt32 = z := by rw [hsz, ← Int32.toInt_inj, len_toInt hl, hz]
  exact ⟨v, s₂, L, Y.arraylength X.1 (by rw [eT]; exact A.1) (State.isArrayOf_alike X.2.2.2.2.1.alike A.2.1) (g := mkF m pc Ls (.ref a :: st)) rfl rfl (X.hd d) _ (by rw [ez]; exact r1), r⟩
theorem OwC.iaload {i : Int32} {j : Nat} {v : Value} (A : OwA Z h a .int vs) (hi : i.toInt = (j : Int)) (hv : vs[j]? = some v) (d : decode bytes pc = .ok (.iaload, 1)) (hq : pc + 1 = q) (g : X.G h k n q Ls (v :: st)) : X.G h k n pc Ls (.int i :: .ref a :: st) := fun T locs Y eT N => by
  subst hq
  obtain ⟨cl, A, e, -⟩ := A
  obtain ⟨v, s₂, L, r1, r⟩ := g T locs Y eT N
  exact ⟨v, s₂, L, Y.iaload X.1 (by rw [eT]; exact A.1) (State.isArrayOf_alike X.2.2.2.2.1.alike A.2.1) A.2.2 (OwA.inb e hi (ow_getlt hv)) (OwA.at e hi hv) (g := mkF m pc Ls (.int i :: .ref a :: st)) rfl rfl (X.hd d) _ r1, r⟩
theorem OwC.laload {i : Int32} {j : Nat} {v : Value} (A : OwA Z h a .long vs) (hi : i.toInt = (j : Int)) (hv : vs[j]? = some v) (d : decode bytes pc = .ok (.laload, 1)) (hq : pc + 1 = q) (g : X.G h k n q Ls (v :: st)) : X.G h k n pc Ls (.int i :: .ref a :: st) := fun T locs Y eT N => by
  subst hq
  obtain ⟨cl, A, e, -⟩ := A
  obtain ⟨v, s₂, L, r1, r⟩ := g T locs Y eT N
  exact ⟨v, s₂, L, Y.laload X.1 (by rw [eT]; exact A.1) (State.isArrayOf_alike X.2.2.2.2.1.alike A.2.1) A.2.2 (OwA.inb e hi (ow_getlt hv)) (OwA.at e hi hv) (g := mkF m pc Ls (.int i :: .ref a :: st)) rfl rfl (X.hd d) _ r1, r⟩
theorem OwC.baload {i : Int32} {j : Nat} {v : Value} (A : OwA Z h a .byte vs) (hi : i.toInt = (j : Int)) (hv : vs[j]? = some v) (d : decode bytes pc = .ok (.baload, 1)) (hq : pc + 1 = q) (g : X.G h k n q Ls (v :: st)) : X.G h k n pc Ls (.int i :: .ref a :: st) := fun T locs Y eT N => by
  subst hq
  obtain ⟨cl, A, e, -⟩ := A
  obtain ⟨v, s₂, L, r1, r⟩ := g T locs Y eT N
  exact ⟨v, s₂, L, Y.baloadBytes X.1 (by rw [eT]; exact A.1) (State.isArrayOf_alike X.2.2.2.2.1.alike A.2.1) A.2.2 (OwA.inb e hi (ow_getlt hv)) (OwA.at e hi hv) (g := mkF m pc Ls (.int i :: .ref a :: st)) rfl rfl (X.hd d) _ r1, r⟩
theorem OwC.caload {i : Int32} {j : Nat} {v : Value} (A : OwA Z h a .char vs) (hi : i.toInt = (j : Int)) (hv : vs[j]? = some v) (d : decode bytes pc = .ok (.caload, 1)) (hq : pc + 1 = q) (g : X.G h k n q Ls (v :: st)) : X.G h k n pc Ls (.int i :: .ref a :: st) := fun T locs Y eT N => by
  subst hq
  obtain ⟨cl, A, e, -⟩ := A
  obtain ⟨v, s₂, L, r1, r⟩ := g T locs Y eT N
  exact ⟨v, s₂, L, Y.caload X.1 (by rw [eT]; exact A.1) (State.isArrayOf_alike X.2.2.2.2.1.alike A.2.1) A.2.2 (OwA.inb e hi (ow_getlt hv)) (OwA.at e hi hv) (g := mkF m pc Ls (.int i :: .ref a :: st)) rfl rfl (X.hd d) _ r1, r⟩
theorem OwC.iastore {i : Int32} {j : Nat} {x : Int32} (A : OwA Z h a .int vs) (hi : i.toInt = (j : Int)) (hj : j < vs.length) (ge : n0 ≤ a) (d : decode bytes pc = .ok (.iastore, 1)) (hq : pc + 1 = q) (g : ∀ h', Wr h h' a j (.int x) → OwA Z h' a .int (vs.set j (.int x)) → X.G h' k n q Ls st) : X.G h k n pc Ls (.int x :: .int i :: .ref a :: st) := fun T locs Y eT N => by
  subst hq
  obtain ⟨cl, A1, e, hl⟩ := id A
  obtain ⟨T', h', Y', eT', W, w'⟩ := RoadKit.stI Y X.1 X.2.2.2.2.1 eT A1 (OwA.inb e hi hj) (g := mkF m pc Ls (.int x :: .int i :: .ref a :: st)) rfl rfl (X.hd d)
  have N' := Fr.snoc Y' N ge
  rw [(ow_idx hi).2] at W
  obtain ⟨v, s₂, L, r1, r⟩ := g h' W (A.set W) T' _ Y' eT' N'
  exact ⟨v, s₂, L, w' _ r1, r⟩
theorem OwC.lastore {i : Int32} {j : Nat} {x : Int64} (A : OwA Z h a .long vs) (hi : i.toInt = (j : Int)) (hj : j < vs.length) (ge : n0 ≤ a) (d : decode bytes pc = .ok (.lastore, 1)) (hq : pc + 1 = q) (g : ∀ h', Wr h h' a j (.long x) → OwA Z h' a .long (vs.set j (.long x)) → X.G h' k n q Ls st) : X.G h k n pc Ls (.long x :: .int i :: .ref a :: st) := fun T locs Y eT N => by
  subst hq
  obtain ⟨cl, A1, e, hl⟩ := id A
  obtain ⟨T', h', Y', eT', W, w'⟩ := RoadKit.stJ Y X.1 X.2.2.2.2.1 eT A1 (OwA.inb e hi hj) (g := mkF m pc Ls (.long x :: .int i :: .ref a :: st)) rfl rfl (X.hd d)
  have N' := Fr.snoc Y' N ge
  rw [(ow_idx hi).2] at W
  obtain ⟨v, s₂, L, r1, r⟩ := g h' W (A.set W) T' _ Y' eT' N'
  exact ⟨v, s₂, L, w' _ r1, r⟩
theorem OwC.bastore {i : Int32} {j : Nat} {x : Int32} (A : OwA Z h a .byte vs) (hi : i.toInt = (j : Int)) (hj : j < vs.length) (ge : n0 ≤ a) (d : decode bytes pc = .ok (.bastore, 1)) (hq : pc + 1 = q) (g : ∀ h', Wr h h' a j (.int (nar .byte x)) → OwA Z h' a .byte (vs.set j (.int (nar .byte x))) → X.G h' k n q Ls st) : X.G h k n pc Ls (.int x :: .int i :: .ref a :: st) := fun T locs Y eT N => by
  subst hq
  obtain ⟨cl, A1, e, hl⟩ := id A
  obtain ⟨T', h', Y', eT', W, w'⟩ := RoadKit.stB Y X.1 X.2.2.2.2.1 eT A1 (OwA.inb e hi hj) (g := mkF m pc Ls (.int x :: .int i :: .ref a :: st)) rfl rfl (X.hd d)
  have N' := Fr.snoc Y' N ge
  rw [(ow_idx hi).2] at W
  obtain ⟨v, s₂, L, r1, r⟩ := g h' W (A.set W) T' _ Y' eT' N'
  exact ⟨v, s₂, L, w' _ r1, r⟩
theorem OwC.castore {i : Int32} {j : Nat} {x : Int32} (A : OwA Z h a .char vs) (hi : i.toInt = (j : Int)) (hj : j < vs.length) (ge : n0 ≤ a) (d : decode bytes pc = .ok (.castore, 1)) (hq : pc + 1 = q) (g : ∀ h', Wr h h' a j (.int (nar .char x)) → OwA Z h' a .char (vs.set j (.int (nar .char x))) → X.G h' k n q Ls st) : X.G h k n pc Ls (.int x :: .int i :: .ref a :: st) := fun T locs Y eT N => by
  subst hq
  obtain ⟨cl, A1, e, hl⟩ := id A
  obtain ⟨T', h', Y', eT', W, w'⟩ := RoadKit.stC Y X.1 X.2.2.2.2.1 eT A1 (OwA.inb e hi hj) (g := mkF m pc Ls (.int x :: .int i :: .ref a :: st)) rfl rfl (X.hd d)
  have N' := Fr.snoc Y' N ge
  rw [(ow_idx hi).2] at W
  obtain ⟨v, s₂, L, r1, r⟩ := g h' W (A.set W) T' _ Y' eT' N'
  exact ⟨v, s₂, L, w' _ r1, r⟩
/-! contracts and calls -/
def OwM (l : Launch) (Z : State) (y : MethodName) (bytes : ByteArray) (mL : Nat) (ret : Option FieldType) (rm : Room) (kM nM : Nat) (ws : List Cond) (as : Array Value) (h0 : Heap) (n0 : Nat) (Φ : Option Value → Heap → Prop) : Prop :=
  MetFree l y (head1 (Cond.code y bytes mL ret :: ws) rm) (fun a U => a = as ∧ Z.Warmed39 U.vm ∧ U.heap = h0) (fun _ _ _ _ _ => True) (fun _ U o U' => ∃ v L, o = .returned v ∧ (Φ v U'.heap ∧ Fr n0 L) ∧ FrameEnd U o U' L kM nM)
theorem OwM.of {y : MethodName} {rm : Room} {ws : List Cond} {as : Array Value} {h0 : Heap} (hpn : plainFor y = true) (hef : ∀ m, entryFrame m as mL = mkF m 0 Ls [])
    (body : ∀ p e s m below meth c (X : OwC p l e rm s m as below meth c Z y.cls y.name bytes mL ret n0 kM nM Φ), X.G h0 0 0 0 Ls []) : OwM l Z y bytes mL ret rm kM nM ws as h0 n0 Φ := by
  refine MetFree.of_bodySF hpn hisR ?_
  intro p e s m args below meth c s₁ Bd hml0 hP hK
  obtain ⟨rfl, hZ, hh⟩ := hP
  have X : OwC p l e rm s m args below meth c Z y.cls y.name bytes mL ret n0 kM nM Φ := ⟨Bd.exec, Bd.bytes, hml0, findClass_of_methodNamed Bd.named, hZ, Bd.returns, Bd.notSynchronized, (name_of_methodNamed Bd.named Bd.method).1⟩
  obtain ⟨v, s₂, L, r1, r2, r3, r4, r5⟩ := body p e s m below meth c X s₁ [] (Stand.of_body Bd) (by rw [← hh, Bd.state]; rfl) (Fr.nil n0)
  exact ⟨s₂, _, castTop (hef m) r1, r2, r3, v, L, rfl, r4, r5⟩
variable {y : MethodName} {by' : ByteArray} {mL' : Nat} {ret' : Option FieldType} {rm : Room} {as : Array Value} {Ψ : Option Value → Heap → Prop}
theorem OwC.back (X : OwC p l e R s m args below meth c Z own nm bytes mL ret n0 kM nM Φ) {len W : Nat} (K : OwM l Z y by' mL' ret' rm rm.cells rm.slots [] as h n0 Ψ) (wc : (Cond.code y by' mL' ret').before a0 Z = true) (wz : (Cond.initialized y.cls).before a0 Z = true) (hf : rm.frames + 1 ≤ R.frames) (hl : W + (mL' + 11) + rm.locals ≤ R.locals) :
    Back l R p e below s args y len W (fun A a => a = as ∧ A.U.heap = h ∧ A.cells + rm.cells ≤ R.cells ∧ A.slots + rm.slots ≤ R.slots)
      (fun A _ v B => ∃ L, (Ψ v B.U.heap ∧ Fr n0 L) ∧ B.locs = A.locs ++ L ∧ B.cells = A.cells + rm.cells ∧ B.slots = A.slots + rm.slots) :=
  backOf (Q := fun v h L => Ψ v h ∧ Fr n0 L) K X.2.2.2.2.1 wc wz hf hl
theorem OwC.callS {i W k' n' : Nat} {argsL : List Value} {ps : List FieldType} {rt : Option FieldType} (K : OwM l Z y by' mL' ret' rm rm.cells rm.slots [] as h n0 Ψ) (w1 : (Cond.methodLink own i y).before a0 Z = true) (w2 : (Cond.static y).before a0 Z = true) (w3 : (Cond.initialized y.cls).before a0 Z = true) (w4 : (Cond.code y by' mL' ret').before a0 Z = true) (hy : y.cls ≠ "java/lang/invoke/MethodHandle" ∧ y.cls ≠ "java/lang/invoke/VarHandle")
    (pd : parseMethodDescriptor y.desc = some ⟨ps, rt⟩) (hlen : argsL.length = ps.length) (has : argsL.toArray = as) (hst : st = argsL.reverse ++ rest) (hW : (rest.map fun v => v.category).sum ≤ W) (hsz : Ls.size = mL) (hf : rm.frames + 1 ≤ R.frames) (hl : W + (mL' + 11) + rm.locals ≤ R.locals) (hk : k + rm.cells = k') (hn : n + rm.slots = n') (hc : k' ≤ R.cells) (hs : n' ≤ R.slots)
    (d : decode bytes pc = .ok (.invokestatic i, 3)) (hq : pc + 3 = q) (g : ∀ v h', Ψ v h' → X.G h' k' n' q Ls (v.toList ++ rest)) : X.G h k n pc Ls st := fun T locs Y eT N => by
  subst hq hk hn has
  obtain ⟨v, vm1, B, -, Y', ⟨L0, ⟨hΨ, N0⟩, l1, l2, l3⟩, w'⟩ := Jvm.LawKit.callS Y X.1 (y := y) X.2.2.2.1 (mvT X.2.2.2.2.1 w1) (mvT X.2.2.2.2.1 w2) (mvT X.2.2.2.2.1 w3) (mvT X.2.2.2.2.1 w4) hy (X.back K w4 w3 hf hl) (g := mkF m pc Ls st) rfl (hsz.trans X.2.2.1.symm) (argsL := argsL) (rest := rest) (lenOf pd hlen) hst (by show 2 * 0 + _ ≤ _; omega) (X.hd d) (fun _ _ => ⟨rfl, eT, hc, hs⟩)
  obtain ⟨T', L', k', n'⟩ := B
  dsimp only [Pt.U, Pt.locs, Pt.cells, Pt.slots] at Y' l1 l2 l3 w' hΨ
  subst l1 l2 l3
  obtain ⟨v, s₂, L, r1, r⟩ := g v _ hΨ T' _ Y' rfl (N.app N0)
  exact ⟨v, s₂, L, w' _ r1, r⟩
theorem OwC.special {i W k' n' : Nat} {a : Addr} {argsL : List Value} {ps : List FieldType} {rt : Option FieldType} (K : OwM l Z y by' mL' none rm rm.cells rm.slots [] as h n0 Ψ) (hin : y.name = "<init>") (w1 : (Cond.methodLink own i y).before a0 Z = true) (w2 : (Cond.instanceMethod y).before a0 Z = true) (w3 : (Cond.initialized y.cls).before a0 Z = true) (w4 : (Cond.code y by' mL' none).before a0 Z = true) (hy : y.cls ≠ "java/lang/invoke/MethodHandle" ∧ y.cls ≠ "java/lang/invoke/VarHandle")
    (pd : parseMethodDescriptor y.desc = some ⟨ps, rt⟩) (hlen : argsL.length = ps.length) (has : (.ref a :: argsL).toArray = as) (hst : st = argsL.reverse ++ .ref a :: rest) (hW : (rest.map fun v => v.category).sum ≤ W) (hsz : Ls.size = mL) (hf : rm.frames + 1 ≤ R.frames) (hl : W + (mL' + 11) + rm.locals ≤ R.locals) (hk : k + rm.cells = k') (hn : n + rm.slots = n') (hc : k' ≤ R.cells) (hs : n' ≤ R.slots)
    (d : decode bytes pc = .ok (.invokespecial i, 3)) (hq : pc + 3 = q) (g : ∀ v h', Ψ v h' → X.G h' k' n' q Ls (v.toList ++ rest)) : X.G h k n pc Ls st := fun T locs Y eT N => by
  subst hq hk hn has
  obtain ⟨v, vm1, B, -, Y', ⟨L0, ⟨hΨ, N0⟩, l1, l2, l3⟩, w'⟩ := Y.specialBack X.1 (y := y) hin X.2.2.2.1 (mvT X.2.2.2.2.1 w1) (mvT X.2.2.2.2.1 w2) (mvT X.2.2.2.2.1 w4) hy (X.back K w4 w3 hf hl) (g := mkF m pc Ls st) rfl (hsz.trans X.2.2.1.symm) (Steps.refl _) (a := a) (argsL := argsL) (rest := rest) (lenOf pd hlen) hst (by show 2 * 0 + _ ≤ _; omega) (X.hd d) (fun _ _ => ⟨rfl, eT, hc, hs⟩)
  obtain ⟨T', L', k', n'⟩ := B
  dsimp only [Pt.U, Pt.locs, Pt.cells, Pt.slots] at Y' l1 l2 l3 w' hΨ
  subst l1 l2 l3
  obtain ⟨v, s₂, L, r1, r⟩ := g v _ hΨ T' _ Y' rfl (N.app N0)
  exact ⟨v, s₂, L, w'.trans r1, r⟩
theorem OwC.virtual {C : String} {i W k' n' : Nat} {a : Addr} {argsL : List Value} {ps : List FieldType} {rt : Option FieldType} (K : OwM l Z y by' mL' ret' rm rm.cells rm.slots [] as h n0 Ψ) (w1 : (Cond.methodLink own i y).before a0 Z = true) (w2 : (Cond.declares y).before a0 Z = true) (w5 : (Cond.selects C y y).before a0 Z = true) (w6 : (Cond.instanceMethod y).before a0 Z = true) (w3 : (Cond.initialized y.cls).before a0 Z = true) (w4 : (Cond.code y by' mL' ret').before a0 Z = true) (hy : y.cls ≠ "java/lang/invoke/MethodHandle" ∧ y.cls ≠ "java/lang/invoke/VarHandle") (E : Exa Z h a C)
    (pd : parseMethodDescriptor y.desc = some ⟨ps, rt⟩) (hlen : argsL.length = ps.length) (has : (.ref a :: argsL).toArray = as) (hst : st = argsL.reverse ++ .ref a :: rest) (hW : (rest.map fun v => v.category).sum ≤ W) (hsz : Ls.size = mL) (hf : rm.frames + 1 ≤ R.frames) (hl : W + (mL' + 11) + rm.locals ≤ R.locals) (hk : k + rm.cells = k') (hn : n + rm.slots = n') (hc : k' ≤ R.cells) (hs : n' ≤ R.slots)
    (d : decode bytes pc = .ok (.invokevirtual i, 3)) (hq : pc + 3 = q) (g : ∀ v h', Ψ v h' → X.G h' k' n' q Ls (v.toList ++ rest)) : X.G h k n pc Ls st := fun T locs Y eT N => by
  subst hq hk hn has
  obtain ⟨cB, kB, q1, q2, q3⟩ := isOf (T := T) X.2.2.2.2.1 eT E
  obtain ⟨v, vm1, B, -, Y', ⟨L0, ⟨hΨ, N0⟩, l1, l2, l3⟩, w'⟩ := Y.virtualBack X.1 (y := y) (z := y) X.2.2.2.1 (mvT X.2.2.2.2.1 w1) (mvT X.2.2.2.2.1 w2) (notFace_of_selects (args := #[]) (mvT X.2.2.2.2.1 w5)) (mvT X.2.2.2.2.1 w5) (mvT X.2.2.2.2.1 w6) hy (X.back K w4 w3 hf hl) q1 q3 (g := mkF m pc Ls st) rfl (hsz.trans X.2.2.1.symm) (Steps.refl _) (argsL := argsL) (rest := rest) (lenOf pd hlen) hst (by show 2 * 0 + _ ≤ _; omega) (X.hd d) (fun _ _ => ⟨rfl, eT, hc, hs⟩)
  obtain ⟨T', L', k', n'⟩ := B
  dsimp only [Pt.U, Pt.locs, Pt.cells, Pt.slots] at Y' l1 l2 l3 w' hΨ
  subst l1 l2 l3
  obtain ⟨v, s₂, L, r1, r⟩ := g v _ hΨ T' _ Y' rfl (N.app N0)
  exact ⟨v, s₂, L, w'.trans r1, r⟩
theorem OwC.private {C : String} {i W k' n' kk : Nat} {a : Addr} {argsL : List Value} {ps : List FieldType} {rt : Option FieldType} (K : OwM l Z y by' mL' ret' rm rm.cells rm.slots [] as h n0 Ψ) (w1 : (Cond.methodLink own i y).before a0 Z = true) (w6 : (Cond.instanceMethod y).before a0 Z = true) (w7 : (Cond.privateMethod y).before a0 Z = true) (w8 : (Cond.instantiable y.cls kk).before a0 Z = true) (w3 : (Cond.initialized y.cls).before a0 Z = true) (w4 : (Cond.code y by' mL' ret').before a0 Z = true) (hy : y.cls ≠ "java/lang/invoke/MethodHandle" ∧ y.cls ≠ "java/lang/invoke/VarHandle") (E : Exa Z h a C)
    (pd : parseMethodDescriptor y.desc = some ⟨ps, rt⟩) (hlen : argsL.length = ps.length) (has : (.ref a :: argsL).toArray = as) (hst : st = argsL.reverse ++ .ref a :: rest) (hW : (rest.map fun v => v.category).sum ≤ W) (hsz : Ls.size = mL) (hf : rm.frames + 1 ≤ R.frames) (hl : W + (mL' + 11) + rm.locals ≤ R.locals) (hk : k + rm.cells = k') (hn : n + rm.slots = n') (hc : k' ≤ R.cells) (hs : n' ≤ R.slots)
    (d : decode bytes pc = .ok (.invokevirtual i, 3)) (hq : pc + 3 = q) (g : ∀ v h', Ψ v h' → X.G h' k' n' q Ls (v.toList ++ rest)) : X.G h k n pc Ls st := fun T locs Y eT N => by
  subst hq hk hn has
  obtain ⟨cell, e1, e2⟩ := E.cell
  obtain ⟨c8, k8, f1, f2, -, f4, -⟩ := Cond.instantiable_spec (mvT (args := #[]) X.2.2.2.2.1 w8)
  have hni : k8.isInterface = false := by cases hh : k8.isInterface with
    | false => rfl
    | true => rw [hh] at f4; cases f4
  have hpr := Cond.privateMethod_at (mvP X.2.2.2.2.1 w7 (args := #[]))
  obtain ⟨v, vm1, B, -, Y', ⟨L0, ⟨hΨ, N0⟩, l1, l2, l3⟩, w'⟩ := Y.privateBack X.1 (y := y) X.2.2.2.1 (mvT X.2.2.2.2.1 w1) (mvT X.2.2.2.2.1 w6) (Jvm.Stand.selects_self_of_private f1 f2 hni hpr (mvT X.2.2.2.2.1 w6) hy) hpr (mvT X.2.2.2.2.1 w4) hy (X.back K w4 w3 hf hl) (g := mkF m pc Ls st) rfl (hsz.trans X.2.2.1.symm) (Steps.refl _) (a := a) (cell := cell) (by rw [eT]; exact e1) e2 (argsL := argsL) (rest := rest) (lenOf pd hlen) hst (by show 2 * 0 + _ ≤ _; omega) (X.hd d) (fun _ _ => ⟨rfl, eT, hc, hs⟩)
  obtain ⟨T', L', k', n'⟩ := B
  dsimp only [Pt.U, Pt.locs, Pt.cells, Pt.slots] at Y' l1 l2 l3 w' hΨ
  subst l1 l2 l3
  obtain ⟨v, s₂, L, r1, r⟩ := g v _ hΨ T' _ Y' rfl (N.app N0)
  exact ⟨v, s₂, L, w'.trans r1, r⟩
end OwKit
/-! numbers -/
theorem own_ofNat {c : Int32} (h1 : 0 ≤ c.toInt) (h2 : c.toInt < 2147483648) : c = Int32.ofNat c.toInt.toNat := by
  rw [← Int32.toInt_inj, Int32.toInt_ofNat_small (by omega)]; omega
theorem own_natInt (x : Int32) : x.toInt = if x.toBitVec.toNat < 2147483648 then (x.toBitVec.toNat : Int) else (x.toBitVec.toNat : Int) - 4294967296 := by
  show x.toBitVec.toInt = _
  rw [BitVec.toInt_eq_toNat_cond]
  split <;> split <;> omega
theorem own_c16 (x : Int32) : x.toUInt32.toUInt16.toUInt32.toInt32.toInt = x.toInt % 65536 := by
  have e : x.toUInt32.toUInt16.toUInt32.toInt32.toBitVec.toNat = x.toBitVec.toNat % 65536 := rfl
  have h1 := own_natInt x.toUInt32.toUInt16.toUInt32.toInt32
  have h2 := own_natInt x
  have h3 := x.toBitVec.isLt
  rw [e] at h1
  split at h1 <;> split at h2 <;> omega

theorem own_sub {x y : Int32} {b : Int} (hy : y.toInt = b) (h1 : -2147483648 ≤ x.toInt - b) (h2 : x.toInt - b < 2147483648) : (x - y).toInt = x.toInt - b := by
  subst hy; rw [Int32.toInt_sub]; exact Int.bmod_eq_of_le (by omega) (by omega)
theorem own_add {x y : Int32} {b : Int} (hy : y.toInt = b) (h1 : -2147483648 ≤ x.toInt + b) (h2 : x.toInt + b < 2147483648) : (x + y).toInt = x.toInt + b := by
  subst hy; rw [Int32.toInt_add]; exact Int.bmod_eq_of_le (by omega) (by omega)
theorem own_nor32 (n : Nat) : n ||| 32 = n + 32 * (1 - n / 32 % 2) := by
  have h1 : (n ||| 32) / 64 = n / 64 := by
    have := Nat.or_div_two_pow (a := n) (b := 32) (n := 6)
    simpa using this
  have h2 : (n ||| 32) % 64 = (n % 64) ||| 32 := by
    have := Nat.or_mod_two_pow (a := n) (b := 32) (n := 6)
    simpa using this
  have key : ∀ k : Fin 64, k.val ||| 32 = k.val + 32 * (1 - k.val / 32 % 2) := by decide
  have h3 := key ⟨n % 64, Nat.mod_lt _ (by omega)⟩
  simp only at h3
  rw [h3] at h2
  omega
theorem own_or32 (c : Int32) (h0 : 0 ≤ c.toInt) : (c ||| 32).toInt = c.toInt + 32 * (1 - c.toInt / 32 % 2) := by
  have e : (c ||| 32).toBitVec.toNat = c.toBitVec.toNat ||| 32 := rfl
  have h1 := own_natInt (c ||| 32)
  have h2 := own_natInt c
  have h3 := c.toBitVec.isLt
  rw [e, own_nor32] at h1
  split at h1 <;> split at h2 <;> omega

theorem own_nbt (x : Int32) : (nar .byte x.toInt8.toInt32).toInt = (x.toInt + 128) % 256 - 128 := by
  show (x.toInt8.toInt32.toInt8.toInt32).toInt = _
  simp only [Int8.toInt_toInt32, Int32.toInt_toInt8]
  have h1 : x.toInt.bmod (2 ^ 8) = (x.toInt + 128) % 256 - 128 := by
    have q1 := Int.bmod_emod (x := x.toInt) (m := 2 ^ 8)
    have q2 := Int.bmod_lt (x := x.toInt) (m := 2 ^ 8) (by decide)
    have q3 := Int.le_bmod (x := x.toInt) (m := 2 ^ 8) (by decide)
    omega
  rw [h1]; exact Int.bmod_eq_of_le (by omega) (by omega)
theorem own_hB (L : List Int32) (j : Nat) (h : j < L.length) : (L.map Value.int)[j]? = some (.int (L.getD j 0)) := by
  rw [List.getElem?_map, List.getElem?_eq_getElem h, List.getD_eq_getElem?_getD, List.getElem?_eq_getElem h]; rfl
theorem own_rng {L : List Int32} (hr : ∀ x ∈ L, -128 ≤ x.toInt ∧ x.toInt ≤ 127) (j : Nat) : -128 ≤ (L.getD j 0).toInt ∧ (L.getD j 0).toInt ≤ 127 := by
  rcases Nat.lt_or_ge j L.length with h | h
  · rw [List.getD_eq_getElem?_getD, List.getElem?_eq_getElem h]
    exact hr _ (List.getElem_mem h)
  · rw [List.getD_eq_getElem?_getD, List.getElem?_eq_none h]
    exact ⟨by decide, by decide⟩
theorem own_b7 (b : Int32) (h1 : -128 ≤ b.toInt) (h2 : b.toInt ≤ 127) : (b &&& 128).toInt = 0 ↔ 0 ≤ b.toInt := by
  have key : ∀ k : Fin 256, ((Int32.ofInt ((k.val : Int) - 128)) &&& 128).toInt = 0 ↔ 0 ≤ (k.val : Int) - 128 := by decide +kernel
  have e : b = Int32.ofInt (((b.toInt + 128).toNat : Int) - 128) := by
    rw [show ((b.toInt + 128).toNat : Int) - 128 = b.toInt by omega, Int32.ofInt_toInt]
  have := key ⟨(b.toInt + 128).toNat, by omega⟩
  simp only at this
  rw [← e] at this
  rw [this]; omega
theorem own_b5 (t : Int32) (h1 : 0 ≤ t.toInt) (h2 : t.toInt ≤ 255) : (t &&& 32).toInt = 0 ↔ t.toInt / 32 % 2 = 0 := by
  have key : ∀ k : Fin 256, ((Int32.ofNat k.val) &&& 32).toInt = 0 ↔ (k.val : Int) / 32 % 2 = 0 := by decide +kernel
  have e := own_ofNat h1 (by omega)
  have := key ⟨t.toInt.toNat, by omega⟩
  simp only at this
  rw [← e] at this
  rw [this]; omega
theorem own_acc (b : Int32) : (((0 : Int64) <<< ((8 : Int32).toInt64 &&& 63)) ||| (b &&& 255).toInt64).toInt = b.toInt % 256 := by
  have e : ((0 : Int64) <<< ((8 : Int32).toInt64 &&& 63)) = 0 := by decide
  have e2 : (0 : Int64) ||| (b &&& 255).toInt64 = (b &&& 255).toInt64 := by
    rw [← Int64.toBitVec_inj, Int64.toBitVec_or]; exact BitVec.zero_or
  rw [e, e2, Int32.toInt_toInt64, Jvm.Kit.i32_mask (k := 8) _ _ (by decide) (by decide)]
  omega
/-- what stands at p of the bytes: a header with tag T, its content from s on, of length Ln -/
def own_hdr (L : List Int32) (p : Nat) (T : Int32) (q s : Nat) (S Ln : Int32) : Prop :=
  p < L.length ∧ T.toInt = (L.getD p 0).toInt % 256 ∧
  ((¬ T.toInt % 32 = 31 ∧ q = p + 1) ∨ (T.toInt % 32 = 31 ∧ p + 1 < L.length ∧ 0 ≤ (L.getD (p + 1) 0).toInt ∧ q = p + 2) ∨ (T.toInt % 32 = 31 ∧ p + 2 < L.length ∧ (L.getD (p + 1) 0).toInt < 0 ∧ 0 ≤ (L.getD (p + 2) 0).toInt ∧ q = p + 3)) ∧
  q < L.length ∧ S.toInt = (s : Int) ∧
  ((0 ≤ (L.getD q 0).toInt ∧ Ln.toInt = (L.getD q 0).toInt ∧ s = q + 1) ∨ ((L.getD q 0).toInt = -128 ∧ T.toInt / 32 % 2 = 1 ∧ Ln.toInt = -1 ∧ s = q + 1) ∨ ((L.getD q 0).toInt = -127 ∧ q + 1 < L.length ∧ Ln.toInt = (L.getD (q + 1) 0).toInt % 256 ∧ s = q + 2)) ∧
  Ln.toInt ≤ (L.length : Int) - s ∧ (¬ T.toInt = 0 ∨ Ln.toInt = 0)

theorem own_d_prog_2_method_2_0 : decode prog_2_method_2_code 0 = .ok (.aload_n 0, 1) := by decide +kernel
theorem own_d_prog_2_method_2_1 : decode prog_2_method_2_code 1 = .ok (.invokespecial 7, 3) := by decide +kernel
theorem own_d_prog_2_method_2_4 : decode prog_2_method_2_code 4 = .ok (.aload_n 0, 1) := by decide +kernel
theorem own_d_prog_2_method_2_5 : decode prog_2_method_2_code 5 = .ok (.aload_n 1, 1) := by decide +kernel
theorem own_d_prog_2_method_2_6 : decode prog_2_method_2_code 6 = .ok (.putfield 12, 3) := by decide +kernel
theorem own_d_prog_2_method_2_9 : decode prog_2_method_2_code 9 = .ok (.aload_n 0, 1) := by decide +kernel
theorem own_d_prog_2_method_2_10 : decode prog_2_method_2_code 10 = .ok (.iload_n 2, 1) := by decide +kernel
theorem own_d_prog_2_method_2_11 : decode prog_2_method_2_code 11 = .ok (.putfield 16, 3) := by decide +kernel
theorem own_d_prog_2_method_2_14 : decode prog_2_method_2_code 14 = .ok (.aload_n 0, 1) := by decide +kernel
theorem own_d_prog_2_method_2_15 : decode prog_2_method_2_code 15 = .ok (.iload_n 3, 1) := by decide +kernel
theorem own_d_prog_2_method_2_16 : decode prog_2_method_2_code 16 = .ok (.putfield 20, 3) := by decide +kernel
theorem own_d_prog_2_method_2_19 : decode prog_2_method_2_code 19 = .ok (.return_, 1) := by decide +kernel
def own_rm_own_i2 : Room := ({ frames := 1, cells := 0, slots := 0, locals := 12 } : Room)
set_option maxRecDepth 65536 in
set_option maxHeartbeats 40000000 in
theorem own_i2 (l : Launch) (Z : State) (a0 : Array Value) (hw : ∀ d ∈ tables_1, d.before a0 Z = true) (h : Heap) (n0 : Nat) (a b : Addr) (i j : Int32)  (hn0 : n0 ≤ h.size) (B : Exa Z h a "com/example/dircred/dircred/credential/DerReader") (Fb : Fld Z h a "com/example/dircred/dircred/credential/DerReader" "bytes" "[B" .null) (Fp : Fld Z h a "com/example/dircred/dircred/credential/DerReader" "position" "I" (.int (0 : Int32))) (Fe : Fld Z h a "com/example/dircred/dircred/credential/DerReader" "end" "I" (.int (0 : Int32))) (gea : n0 ≤ a) :
    OwM l Z (⟨"com/example/dircred/dircred/credential/DerReader", "<init>", "([BII)V"⟩ : MethodName) prog_2_method_2_code 4 none own_rm_own_i2 0 0 [] #[(.ref a), (.ref b), (.int i), (.int j)] h n0 (fun r h' => r = none ∧ Keep h h' [a] ∧ Fld Z h' a "com/example/dircred/dircred/credential/DerReader" "bytes" "[B" (.ref b) ∧ Fld Z h' a "com/example/dircred/dircred/credential/DerReader" "position" "I" (.int i) ∧ Fld Z h' a "com/example/dircred/dircred/credential/DerReader" "end" "I" (.int j)) := by
  refine OwM.of (Ls := #[.val (.ref a), .val (.ref b), .val (.int i), .val (.int j)]) (by decide +kernel) (fun m => by first | (simp [entryFrame, mkF, argsToLocals, Value.category]; done) | rfl) ?_
  intro _ _ _ _ _ _ _ X
  have K0 : Keep h h [a] := Keep.refl _ _
  refine X.aloadN (q := 1) own_d_prog_2_method_2_0 rfl rfl rfl ?_
  refine X.initO (q := 4) (W := 0) (hw _ (List.mem_of_getElem? (i := 10) rfl)) (hw _ (List.mem_of_getElem? (i := 11) rfl)) (hw _ (List.mem_of_getElem? (i := 12) rfl)) own_d_prog_2_method_2_1 rfl (by decide) (Nat.le_of_eq rfl) (by decide) rfl ?_
  refine X.aloadN (q := 5) own_d_prog_2_method_2_4 rfl rfl rfl ?_
  refine X.aloadN (q := 6) own_d_prog_2_method_2_5 rfl rfl rfl ?_
  refine X.putF (q := 9) (host := "") (Or.inl (hw _ (List.mem_of_getElem? (i := 13) rfl))) Via.refl Fb B (Or.inr ⟨(hw _ (List.mem_of_getElem? (i := 14) rfl)), rfl, rfl⟩) (hw _ (List.mem_of_getElem? (i := 2) rfl)) (ty := (.array .byte)) (by decide) rfl rfl gea own_d_prog_2_method_2_6 rfl (fun h1 Wh1 => ?_)
  have B'h1 : Exa Z h1 a "com/example/dircred/dircred/credential/DerReader" := Exa.wr Wh1 B
  have Fb'h1 : Fld Z h1 a "com/example/dircred/dircred/credential/DerReader" "bytes" "[B" (.ref b) := Fld.same Wh1 Fb
  have Fp'h1 : Fld Z h1 a "com/example/dircred/dircred/credential/DerReader" "position" "I" (.int (0 : Int32)) := Fld.other Wh1 Fp (Or.inr (slot_ne (Or.inl (hw _ (List.mem_of_getElem? (i := 16) rfl))) (Or.inr (hw _ (List.mem_of_getElem? (i := 14) rfl))) (by decide) (ht := (by decide : _ = some .int)) (ht' := (by decide : _ = some (.array .byte)))))
  have Fe'h1 : Fld Z h1 a "com/example/dircred/dircred/credential/DerReader" "end" "I" (.int (0 : Int32)) := Fld.other Wh1 Fe (Or.inr (slot_ne (Or.inr (hw _ (List.mem_of_getElem? (i := 18) rfl))) (Or.inr (hw _ (List.mem_of_getElem? (i := 14) rfl))) (by decide) (ht := (by decide : _ = some .int)) (ht' := (by decide : _ = some (.array .byte)))))
  have hsh1 : n0 ≤ h1.size := by rw [Wr.size Wh1]; exact hn0
  have Kh1 : Keep h h1 [a] := Keep.wr K0 Wh1 (Or.inl (List.mem_of_getElem? (i := 0) rfl))
  refine X.aloadN (q := 10) own_d_prog_2_method_2_9 rfl rfl rfl ?_
  refine X.iloadN (q := 11) own_d_prog_2_method_2_10 rfl rfl ?_
  refine X.putF (q := 14) (host := "") (Or.inl (hw _ (List.mem_of_getElem? (i := 15) rfl))) Via.refl Fp'h1 B'h1 (Or.inl (hw _ (List.mem_of_getElem? (i := 16) rfl))) (hw _ (List.mem_of_getElem? (i := 2) rfl)) (ty := .int) (by decide) rfl rfl gea own_d_prog_2_method_2_11 rfl (fun h2 Wh2 => ?_)
  have B'h2 : Exa Z h2 a "com/example/dircred/dircred/credential/DerReader" := Exa.wr Wh2 B'h1
  have Fb'h2 : Fld Z h2 a "com/example/dircred/dircred/credential/DerReader" "bytes" "[B" (.ref b) := Fld.other Wh2 Fb'h1 (Or.inr (slot_ne (Or.inr (hw _ (List.mem_of_getElem? (i := 14) rfl))) (Or.inl (hw _ (List.mem_of_getElem? (i := 16) rfl))) (by decide) (ht := (by decide : _ = some (.array .byte))) (ht' := (by decide : _ = some .int))))
  have Fp'h2 : Fld Z h2 a "com/example/dircred/dircred/credential/DerReader" "position" "I" (.int i) := Fld.same Wh2 Fp'h1
  have Fe'h2 : Fld Z h2 a "com/example/dircred/dircred/credential/DerReader" "end" "I" (.int (0 : Int32)) := Fld.other Wh2 Fe'h1 (Or.inr (slot_ne (Or.inr (hw _ (List.mem_of_getElem? (i := 18) rfl))) (Or.inl (hw _ (List.mem_of_getElem? (i := 16) rfl))) (by decide) (ht := (by decide : _ = some .int)) (ht' := (by decide : _ = some .int))))
  have hsh2 : n0 ≤ h2.size := by rw [Wr.size Wh2]; exact hsh1
  have Kh2 : Keep h h2 [a] := Keep.wr Kh1 Wh2 (Or.inl (List.mem_of_getElem? (i := 0) rfl))
  refine X.aloadN (q := 15) own_d_prog_2_method_2_14 rfl rfl rfl ?_
  refine X.iloadN (q := 16) own_d_prog_2_method_2_15 rfl rfl ?_
  refine X.putF (q := 19) (host := "") (Or.inl (hw _ (List.mem_of_getElem? (i := 17) rfl))) Via.refl Fe'h2 B'h2 (Or.inr ⟨(hw _ (List.mem_of_getElem? (i := 18) rfl)), rfl, rfl⟩) (hw _ (List.mem_of_getElem? (i := 2) rfl)) (ty := .int) (by decide) rfl rfl gea own_d_prog_2_method_2_16 rfl (fun h3 Wh3 => ?_)
  have B'h3 : Exa Z h3 a "com/example/dircred/dircred/credential/DerReader" := Exa.wr Wh3 B'h2
  have Fb'h3 : Fld Z h3 a "com/example/dircred/dircred/credential/DerReader" "bytes" "[B" (.ref b) := Fld.other Wh3 Fb'h2 (Or.inr (slot_ne (Or.inr (hw _ (List.mem_of_getElem? (i := 14) rfl))) (Or.inr (hw _ (List.mem_of_getElem? (i := 18) rfl))) (by decide) (ht := (by decide : _ = some (.array .byte))) (ht' := (by decide : _ = some .int))))
  have Fp'h3 : Fld Z h3 a "com/example/dircred/dircred/credential/DerReader" "position" "I" (.int i) := Fld.other Wh3 Fp'h2 (Or.inr (slot_ne (Or.inl (hw _ (List.mem_of_getElem? (i := 16) rfl))) (Or.inr (hw _ (List.mem_of_getElem? (i := 18) rfl))) (by decide) (ht := (by decide : _ = some .int)) (ht' := (by decide : _ = some .int))))
  have Fe'h3 : Fld Z h3 a "com/example/dircred/dircred/credential/DerReader" "end" "I" (.int j) := Fld.same Wh3 Fe'h2
  have hsh3 : n0 ≤ h3.size := by rw [Wr.size Wh3]; exact hsh2
  have Kh3 : Keep h h3 [a] := Keep.wr Kh2 Wh3 (Or.inl (List.mem_of_getElem? (i := 0) rfl))
  refine X.retV own_d_prog_2_method_2_19 rfl (by decide) (by decide) ?_
  exact ⟨rfl, Kh3, Fb'h3, Fp'h3, Fe'h3⟩
theorem own_d_prog_3_method_1_0 : decode prog_3_method_1_code 0 = .ok (.aload_n 0, 1) := by decide +kernel
theorem own_d_prog_3_method_1_1 : decode prog_3_method_1_code 1 = .ok (.invokespecial 1, 3) := by decide +kernel
theorem own_d_prog_3_method_1_4 : decode prog_3_method_1_code 4 = .ok (.aload_n 0, 1) := by decide +kernel
theorem own_d_prog_3_method_1_5 : decode prog_3_method_1_code 5 = .ok (.iload_n 1, 1) := by decide +kernel
theorem own_d_prog_3_method_1_6 : decode prog_3_method_1_code 6 = .ok (.putfield 7, 3) := by decide +kernel
theorem own_d_prog_3_method_1_9 : decode prog_3_method_1_code 9 = .ok (.aload_n 0, 1) := by decide +kernel
theorem own_d_prog_3_method_1_10 : decode prog_3_method_1_code 10 = .ok (.iload_n 2, 1) := by decide +kernel
theorem own_d_prog_3_method_1_11 : decode prog_3_method_1_code 11 = .ok (.putfield 13, 3) := by decide +kernel
theorem own_d_prog_3_method_1_14 : decode prog_3_method_1_code 14 = .ok (.aload_n 0, 1) := by decide +kernel
theorem own_d_prog_3_method_1_15 : decode prog_3_method_1_code 15 = .ok (.iload_n 3, 1) := by decide +kernel
theorem own_d_prog_3_method_1_16 : decode prog_3_method_1_code 16 = .ok (.putfield 16, 3) := by decide +kernel
theorem own_d_prog_3_method_1_19 : decode prog_3_method_1_code 19 = .ok (.return_, 1) := by decide +kernel
def own_rm_own_hi : Room := ({ frames := 1, cells := 0, slots := 0, locals := 12 } : Room)
set_option maxRecDepth 65536 in
set_option maxHeartbeats 40000000 in
theorem own_hi (l : Launch) (Z : State) (a0 : Array Value) (hw : ∀ d ∈ tables_1, d.before a0 Z = true) (h : Heap) (n0 : Nat) (a : Addr) (i j k : Int32)  (hn0 : n0 ≤ h.size) (B : Exa Z h a "com/example/dircred/dircred/credential/DerReader$Header") (Ft : Fld Z h a "com/example/dircred/dircred/credential/DerReader$Header" "tag" "I" (.int (0 : Int32))) (Fs : Fld Z h a "com/example/dircred/dircred/credential/DerReader$Header" "contentStart" "I" (.int (0 : Int32))) (Fl : Fld Z h a "com/example/dircred/dircred/credential/DerReader$Header" "length" "I" (.int (0 : Int32))) (gea : n0 ≤ a) :
    OwM l Z (⟨"com/example/dircred/dircred/credential/DerReader$Header", "<init>", "(III)V"⟩ : MethodName) prog_3_method_1_code 4 none own_rm_own_hi 0 0 [] #[(.ref a), (.int i), (.int j), (.int k)] h n0 (fun r h' => r = none ∧ Keep h h' [a] ∧ Fld Z h' a "com/example/dircred/dircred/credential/DerReader$Header" "tag" "I" (.int i) ∧ Fld Z h' a "com/example/dircred/dircred/credential/DerReader$Header" "contentStart" "I" (.int j) ∧ Fld Z h' a "com/example/dircred/dircred/credential/DerReader$Header" "length" "I" (.int k)) := by
  refine OwM.of (Ls := #[.val (.ref a), .val (.int i), .val (.int j), .val (.int k)]) (by decide +kernel) (fun m => by first | (simp [entryFrame, mkF, argsToLocals, Value.category]; done) | rfl) ?_
  intro _ _ _ _ _ _ _ X
  have K0 : Keep h h [a] := Keep.refl _ _
  refine X.aloadN (q := 1) own_d_prog_3_method_1_0 rfl rfl rfl ?_
  refine X.initO (q := 4) (W := 0) (hw _ (List.mem_of_getElem? (i := 56) rfl)) (hw _ (List.mem_of_getElem? (i := 11) rfl)) (hw _ (List.mem_of_getElem? (i := 12) rfl)) own_d_prog_3_method_1_1 rfl (by decide) (Nat.le_of_eq rfl) (by decide) rfl ?_
  refine X.aloadN (q := 5) own_d_prog_3_method_1_4 rfl rfl rfl ?_
  refine X.iloadN (q := 6) own_d_prog_3_method_1_5 rfl rfl ?_
  refine X.putF (q := 9) (host := "") (Or.inl (hw _ (List.mem_of_getElem? (i := 57) rfl))) Via.refl Ft B (Or.inr ⟨(hw _ (List.mem_of_getElem? (i := 58) rfl)), rfl, rfl⟩) (hw _ (List.mem_of_getElem? (i := 51) rfl)) (ty := .int) (by decide) rfl rfl gea own_d_prog_3_method_1_6 rfl (fun h1 Wh1 => ?_)
  have B'h1 : Exa Z h1 a "com/example/dircred/dircred/credential/DerReader$Header" := Exa.wr Wh1 B
  have Ft'h1 : Fld Z h1 a "com/example/dircred/dircred/credential/DerReader$Header" "tag" "I" (.int i) := Fld.same Wh1 Ft
  have Fs'h1 : Fld Z h1 a "com/example/dircred/dircred/credential/DerReader$Header" "contentStart" "I" (.int (0 : Int32)) := Fld.other Wh1 Fs (Or.inr (slot_ne (Or.inr (hw _ (List.mem_of_getElem? (i := 60) rfl))) (Or.inr (hw _ (List.mem_of_getElem? (i := 58) rfl))) (by decide) (ht := (by decide : _ = some .int)) (ht' := (by decide : _ = some .int))))
  have Fl'h1 : Fld Z h1 a "com/example/dircred/dircred/credential/DerReader$Header" "length" "I" (.int (0 : Int32)) := Fld.other Wh1 Fl (Or.inr (slot_ne (Or.inr (hw _ (List.mem_of_getElem? (i := 62) rfl))) (Or.inr (hw _ (List.mem_of_getElem? (i := 58) rfl))) (by decide) (ht := (by decide : _ = some .int)) (ht' := (by decide : _ = some .int))))
  have hsh1 : n0 ≤ h1.size := by rw [Wr.size Wh1]; exact hn0
  have Kh1 : Keep h h1 [a] := Keep.wr K0 Wh1 (Or.inl (List.mem_of_getElem? (i := 0) rfl))
  refine X.aloadN (q := 10) own_d_prog_3_method_1_9 rfl rfl rfl ?_
  refine X.iloadN (q := 11) own_d_prog_3_method_1_10 rfl rfl ?_
  refine X.putF (q := 14) (host := "") (Or.inl (hw _ (List.mem_of_getElem? (i := 59) rfl))) Via.refl Fs'h1 B'h1 (Or.inr ⟨(hw _ (List.mem_of_getElem? (i := 60) rfl)), rfl, rfl⟩) (hw _ (List.mem_of_getElem? (i := 51) rfl)) (ty := .int) (by decide) rfl rfl gea own_d_prog_3_method_1_11 rfl (fun h2 Wh2 => ?_)
  have B'h2 : Exa Z h2 a "com/example/dircred/dircred/credential/DerReader$Header" := Exa.wr Wh2 B'h1
  have Ft'h2 : Fld Z h2 a "com/example/dircred/dircred/credential/DerReader$Header" "tag" "I" (.int i) := Fld.other Wh2 Ft'h1 (Or.inr (slot_ne (Or.inr (hw _ (List.mem_of_getElem? (i := 58) rfl))) (Or.inr (hw _ (List.mem_of_getElem? (i := 60) rfl))) (by decide) (ht := (by decide : _ = some .int)) (ht' := (by decide : _ = some .int))))
  have Fs'h2 : Fld Z h2 a "com/example/dircred/dircred/credential/DerReader$Header" "contentStart" "I" (.int j) := Fld.same Wh2 Fs'h1
  have Fl'h2 : Fld Z h2 a "com/example/dircred/dircred/credential/DerReader$Header" "length" "I" (.int (0 : Int32)) := Fld.other Wh2 Fl'h1 (Or.inr (slot_ne (Or.inr (hw _ (List.mem_of_getElem? (i := 62) rfl))) (Or.inr (hw _ (List.mem_of_getElem? (i := 60) rfl))) (by decide) (ht := (by decide : _ = some .int)) (ht' := (by decide : _ = some .int))))
  have hsh2 : n0 ≤ h2.size := by rw [Wr.size Wh2]; exact hsh1
  have Kh2 : Keep h h2 [a] := Keep.wr Kh1 Wh2 (Or.inl (List.mem_of_getElem? (i := 0) rfl))
  refine X.aloadN (q := 15) own_d_prog_3_method_1_14 rfl rfl rfl ?_
  refine X.iloadN (q := 16) own_d_prog_3_method_1_15 rfl rfl ?_
  refine X.putF (q := 19) (host := "") (Or.inl (hw _ (List.mem_of_getElem? (i := 61) rfl))) Via.refl Fl'h2 B'h2 (Or.inr ⟨(hw _ (List.mem_of_getElem? (i := 62) rfl)), rfl, rfl⟩) (hw _ (List.mem_of_getElem? (i := 51) rfl)) (ty := .int) (by decide) rfl rfl gea own_d_prog_3_method_1_16 rfl (fun h3 Wh3 => ?_)
  have B'h3 : Exa Z h3 a "com/example/dircred/dircred/credential/DerReader$Header" := Exa.wr Wh3 B'h2
  have Ft'h3 : Fld Z h3 a "com/example/dircred/dircred/credential/DerReader$Header" "tag" "I" (.int i) := Fld.other Wh3 Ft'h2 (Or.inr (slot_ne (Or.inr (hw _ (List.mem_of_getElem? (i := 58) rfl))) (Or.inr (hw _ (List.mem_of_getElem? (i := 62) rfl))) (by decide) (ht := (by decide : _ = some .int)) (ht' := (by decide : _ = some .int))))
  have Fs'h3 : Fld Z h3 a "com/example/dircred/dircred/credential/DerReader$Header" "contentStart" "I" (.int j) := Fld.other Wh3 Fs'h2 (Or.inr (slot_ne (Or.inr (hw _ (List.mem_of_getElem? (i := 60) rfl))) (Or.inr (hw _ (List.mem_of_getElem? (i := 62) rfl))) (by decide) (ht := (by decide : _ = some .int)) (ht' := (by decide : _ = some .int))))
  have Fl'h3 : Fld Z h3 a "com/example/dircred/dircred/credential/DerReader$Header" "length" "I" (.int k) := Fld.same Wh3 Fl'h2
  have hsh3 : n0 ≤ h3.size := by rw [Wr.size Wh3]; exact hsh2
  have Kh3 : Keep h h3 [a] := Keep.wr Kh2 Wh3 (Or.inl (List.mem_of_getElem? (i := 0) rfl))
  refine X.retV own_d_prog_3_method_1_19 rfl (by decide) (by decide) ?_
  exact ⟨rfl, Kh3, Ft'h3, Fs'h3, Fl'h3⟩
theorem own_d_prog_4_method_1_0 : decode prog_4_method_1_code 0 = .ok (.aload_n 0, 1) := by decide +kernel
theorem own_d_prog_4_method_1_1 : decode prog_4_method_1_code 1 = .ok (.invokespecial 1, 3) := by decide +kernel
theorem own_d_prog_4_method_1_4 : decode prog_4_method_1_code 4 = .ok (.aload_n 0, 1) := by decide +kernel
theorem own_d_prog_4_method_1_5 : decode prog_4_method_1_code 5 = .ok (.iload_n 1, 1) := by decide +kernel
theorem own_d_prog_4_method_1_6 : decode prog_4_method_1_code 6 = .ok (.putfield 7, 3) := by decide +kernel
theorem own_d_prog_4_method_1_9 : decode prog_4_method_1_code 9 = .ok (.aload_n 0, 1) := by decide +kernel
theorem own_d_prog_4_method_1_10 : decode prog_4_method_1_code 10 = .ok (.iload_n 2, 1) := by decide +kernel
theorem own_d_prog_4_method_1_11 : decode prog_4_method_1_code 11 = .ok (.putfield 13, 3) := by decide +kernel
theorem own_d_prog_4_method_1_14 : decode prog_4_method_1_code 14 = .ok (.aload_n 0, 1) := by decide +kernel
theorem own_d_prog_4_method_1_15 : decode prog_4_method_1_code 15 = .ok (.iload_n 3, 1) := by decide +kernel
theorem own_d_prog_4_method_1_16 : decode prog_4_method_1_code 16 = .ok (.putfield 16, 3) := by decide +kernel
theorem own_d_prog_4_method_1_19 : decode prog_4_method_1_code 19 = .ok (.aload_n 0, 1) := by decide +kernel
theorem own_d_prog_4_method_1_20 : decode prog_4_method_1_code 20 = .ok (.iload 4, 2) := by decide +kernel
theorem own_d_prog_4_method_1_22 : decode prog_4_method_1_code 22 = .ok (.putfield 19, 3) := by decide +kernel
theorem own_d_prog_4_method_1_25 : decode prog_4_method_1_code 25 = .ok (.return_, 1) := by decide +kernel
def own_rm_own_vi : Room := ({ frames := 1, cells := 0, slots := 0, locals := 12 } : Room)
set_option maxRecDepth 65536 in
set_option maxHeartbeats 40000000 in
theorem own_vi (l : Launch) (Z : State) (a0 : Array Value) (hw : ∀ d ∈ tables_1, d.before a0 Z = true) (h : Heap) (n0 : Nat) (a : Addr) (i j k m : Int32)  (hn0 : n0 ≤ h.size) (B : Exa Z h a "com/example/dircred/dircred/credential/DerReader$Value") (Ft : Fld Z h a "com/example/dircred/dircred/credential/DerReader$Value" "tag" "I" (.int (0 : Int32))) (Fs : Fld Z h a "com/example/dircred/dircred/credential/DerReader$Value" "contentStart" "I" (.int (0 : Int32))) (Fc : Fld Z h a "com/example/dircred/dircred/credential/DerReader$Value" "contentEnd" "I" (.int (0 : Int32))) (Fe : Fld Z h a "com/example/dircred/dircred/credential/DerReader$Value" "end" "I" (.int (0 : Int32))) (gea : n0 ≤ a) :
    OwM l Z (⟨"com/example/dircred/dircred/credential/DerReader$Value", "<init>", "(IIII)V"⟩ : MethodName) prog_4_method_1_code 5 none own_rm_own_vi 0 0 [] #[(.ref a), (.int i), (.int j), (.int k), (.int m)] h n0 (fun r h' => r = none ∧ Keep h h' [a] ∧ Fld Z h' a "com/example/dircred/dircred/credential/DerReader$Value" "tag" "I" (.int i) ∧ Fld Z h' a "com/example/dircred/dircred/credential/DerReader$Value" "contentStart" "I" (.int j) ∧ Fld Z h' a "com/example/dircred/dircred/credential/DerReader$Value" "contentEnd" "I" (.int k) ∧ Fld Z h' a "com/example/dircred/dircred/credential/DerReader$Value" "end" "I" (.int m)) := by
  refine OwM.of (Ls := #[.val (.ref a), .val (.int i), .val (.int j), .val (.int k), .val (.int m)]) (by decide +kernel) (fun m => by first | (simp [entryFrame, mkF, argsToLocals, Value.category]; done) | rfl) ?_
  intro _ _ _ _ _ _ _ X
  have K0 : Keep h h [a] := Keep.refl _ _
  refine X.aloadN (q := 1) own_d_prog_4_method_1_0 rfl rfl rfl ?_
  refine X.initO (q := 4) (W := 0) (hw _ (List.mem_of_getElem? (i := 72) rfl)) (hw _ (List.mem_of_getElem? (i := 11) rfl)) (hw _ (List.mem_of_getElem? (i := 12) rfl)) own_d_prog_4_method_1_1 rfl (by decide) (Nat.le_of_eq rfl) (by decide) rfl ?_
  refine X.aloadN (q := 5) own_d_prog_4_method_1_4 rfl rfl rfl ?_
  refine X.iloadN (q := 6) own_d_prog_4_method_1_5 rfl rfl ?_
  refine X.putF (q := 9) (host := "") (Or.inl (hw _ (List.mem_of_getElem? (i := 73) rfl))) Via.refl Ft B (Or.inr ⟨(hw _ (List.mem_of_getElem? (i := 74) rfl)), rfl, rfl⟩) (hw _ (List.mem_of_getElem? (i := 67) rfl)) (ty := .int) (by decide) rfl rfl gea own_d_prog_4_method_1_6 rfl (fun h1 Wh1 => ?_)
  have B'h1 : Exa Z h1 a "com/example/dircred/dircred/credential/DerReader$Value" := Exa.wr Wh1 B
  have Ft'h1 : Fld Z h1 a "com/example/dircred/dircred/credential/DerReader$Value" "tag" "I" (.int i) := Fld.same Wh1 Ft
  have Fs'h1 : Fld Z h1 a "com/example/dircred/dircred/credential/DerReader$Value" "contentStart" "I" (.int (0 : Int32)) := Fld.other Wh1 Fs (Or.inr (slot_ne (Or.inr (hw _ (List.mem_of_getElem? (i := 76) rfl))) (Or.inr (hw _ (List.mem_of_getElem? (i := 74) rfl))) (by decide) (ht := (by decide : _ = some .int)) (ht' := (by decide : _ = some .int))))
  have Fc'h1 : Fld Z h1 a "com/example/dircred/dircred/credential/DerReader$Value" "contentEnd" "I" (.int (0 : Int32)) := Fld.other Wh1 Fc (Or.inr (slot_ne (Or.inr (hw _ (List.mem_of_getElem? (i := 78) rfl))) (Or.inr (hw _ (List.mem_of_getElem? (i := 74) rfl))) (by decide) (ht := (by decide : _ = some .int)) (ht' := (by decide : _ = some .int))))
  have Fe'h1 : Fld Z h1 a "com/example/dircred/dircred/credential/DerReader$Value" "end" "I" (.int (0 : Int32)) := Fld.other Wh1 Fe (Or.inr (slot_ne (Or.inr (hw _ (List.mem_of_getElem? (i := 80) rfl))) (Or.inr (hw _ (List.mem_of_getElem? (i := 74) rfl))) (by decide) (ht := (by decide : _ = some .int)) (ht' := (by decide : _ = some .int))))
  have hsh1 : n0 ≤ h1.size := by rw [Wr.size Wh1]; exact hn0
  have Kh1 : Keep h h1 [a] := Keep.wr K0 Wh1 (Or.inl (List.mem_of_getElem? (i := 0) rfl))
  refine X.aloadN (q := 10) own_d_prog_4_method_1_9 rfl rfl rfl ?_
  refine X.iloadN (q := 11) own_d_prog_4_method_1_10 rfl rfl ?_
  refine X.putF (q := 14) (host := "") (Or.inl (hw _ (List.mem_of_getElem? (i := 75) rfl))) Via.refl Fs'h1 B'h1 (Or.inr ⟨(hw _ (List.mem_of_getElem? (i := 76) rfl)), rfl, rfl⟩) (hw _ (List.mem_of_getElem? (i := 67) rfl)) (ty := .int) (by decide) rfl rfl gea own_d_prog_4_method_1_11 rfl (fun h2 Wh2 => ?_)
  have B'h2 : Exa Z h2 a "com/example/dircred/dircred/credential/DerReader$Value" := Exa.wr Wh2 B'h1
  have Ft'h2 : Fld Z h2 a "com/example/dircred/dircred/credential/DerReader$Value" "tag" "I" (.int i) := Fld.other Wh2 Ft'h1 (Or.inr (slot_ne (Or.inr (hw _ (List.mem_of_getElem? (i := 74) rfl))) (Or.inr (hw _ (List.mem_of_getElem? (i := 76) rfl))) (by decide) (ht := (by decide : _ = some .int)) (ht' := (by decide : _ = some .int))))
  have Fs'h2 : Fld Z h2 a "com/example/dircred/dircred/credential/DerReader$Value" "contentStart" "I" (.int j) := Fld.same Wh2 Fs'h1
  have Fc'h2 : Fld Z h2 a "com/example/dircred/dircred/credential/DerReader$Value" "contentEnd" "I" (.int (0 : Int32)) := Fld.other Wh2 Fc'h1 (Or.inr (slot_ne (Or.inr (hw _ (List.mem_of_getElem? (i := 78) rfl))) (Or.inr (hw _ (List.mem_of_getElem? (i := 76) rfl))) (by decide) (ht := (by decide : _ = some .int)) (ht' := (by decide : _ = some .int))))
  have Fe'h2 : Fld Z h2 a "com/example/dircred/dircred/credential/DerReader$Value" "end" "I" (.int (0 : Int32)) := Fld.other Wh2 Fe'h1 (Or.inr (slot_ne (Or.inr (hw _ (List.mem_of_getElem? (i := 80) rfl))) (Or.inr (hw _ (List.mem_of_getElem? (i := 76) rfl))) (by decide) (ht := (by decide : _ = some .int)) (ht' := (by decide : _ = some .int))))
  have hsh2 : n0 ≤ h2.size := by rw [Wr.size Wh2]; exact hsh1
  have Kh2 : Keep h h2 [a] := Keep.wr Kh1 Wh2 (Or.inl (List.mem_of_getElem? (i := 0) rfl))
  refine X.aloadN (q := 15) own_d_prog_4_method_1_14 rfl rfl rfl ?_
  refine X.iloadN (q := 16) own_d_prog_4_method_1_15 rfl rfl ?_
  refine X.putF (q := 19) (host := "") (Or.inl (hw _ (List.mem_of_getElem? (i := 77) rfl))) Via.refl Fc'h2 B'h2 (Or.inr ⟨(hw _ (List.mem_of_getElem? (i := 78) rfl)), rfl, rfl⟩) (hw _ (List.mem_of_getElem? (i := 67) rfl)) (ty := .int) (by decide) rfl rfl gea own_d_prog_4_method_1_16 rfl (fun h3 Wh3 => ?_)
  have B'h3 : Exa Z h3 a "com/example/dircred/dircred/credential/DerReader$Value" := Exa.wr Wh3 B'h2
  have Ft'h3 : Fld Z h3 a "com/example/dircred/dircred/credential/DerReader$Value" "tag" "I" (.int i) := Fld.other Wh3 Ft'h2 (Or.inr (slot_ne (Or.inr (hw _ (List.mem_of_getElem? (i := 74) rfl))) (Or.inr (hw _ (List.mem_of_getElem? (i := 78) rfl))) (by decide) (ht := (by decide : _ = some .int)) (ht' := (by decide : _ = some .int))))
  have Fs'h3 : Fld Z h3 a "com/example/dircred/dircred/credential/DerReader$Value" "contentStart" "I" (.int j) := Fld.other Wh3 Fs'h2 (Or.inr (slot_ne (Or.inr (hw _ (List.mem_of_getElem? (i := 76) rfl))) (Or.inr (hw _ (List.mem_of_getElem? (i := 78) rfl))) (by decide) (ht := (by decide : _ = some .int)) (ht' := (by decide : _ = some .int))))
  have Fc'h3 : Fld Z h3 a "com/example/dircred/dircred/credential/DerReader$Value" "contentEnd" "I" (.int k) := Fld.same Wh3 Fc'h2
  have Fe'h3 : Fld Z h3 a "com/example/dircred/dircred/credential/DerReader$Value" "end" "I" (.int (0 : Int32)) := Fld.other Wh3 Fe'h2 (Or.inr (slot_ne (Or.inr (hw _ (List.mem_of_getElem? (i := 80) rfl))) (Or.inr (hw _ (List.mem_of_getElem? (i := 78) rfl))) (by decide) (ht := (by decide : _ = some .int)) (ht' := (by decide : _ = some .int))))
  have hsh3 : n0 ≤ h3.size := by rw [Wr.size Wh3]; exact hsh2
  have Kh3 : Keep h h3 [a] := Keep.wr Kh2 Wh3 (Or.inl (List.mem_of_getElem? (i := 0) rfl))
  refine X.aloadN (q := 20) own_d_prog_4_method_1_19 rfl rfl rfl ?_
  refine X.iload (q := 22) own_d_prog_4_method_1_20 rfl rfl ?_
  refine X.putF (q := 25) (host := "") (Or.inl (hw _ (List.mem_of_getElem? (i := 79) rfl))) Via.refl Fe'h3 B'h3 (Or.inr ⟨(hw _ (List.mem_of_getElem? (i := 80) rfl)), rfl, rfl⟩) (hw _ (List.mem_of_getElem? (i := 67) rfl)) (ty := .int) (by decide) rfl rfl gea own_d_prog_4_method_1_22 rfl (fun h4 Wh4 => ?_)
  have B'h4 : Exa Z h4 a "com/example/dircred/dircred/credential/DerReader$Value" := Exa.wr Wh4 B'h3
  have Ft'h4 : Fld Z h4 a "com/example/dircred/dircred/credential/DerReader$Value" "tag" "I" (.int i) := Fld.other Wh4 Ft'h3 (Or.inr (slot_ne (Or.inr (hw _ (List.mem_of_getElem? (i := 74) rfl))) (Or.inr (hw _ (List.mem_of_getElem? (i := 80) rfl))) (by decide) (ht := (by decide : _ = some .int)) (ht' := (by decide : _ = some .int))))
  have Fs'h4 : Fld Z h4 a "com/example/dircred/dircred/credential/DerReader$Value" "contentStart" "I" (.int j) := Fld.other Wh4 Fs'h3 (Or.inr (slot_ne (Or.inr (hw _ (List.mem_of_getElem? (i := 76) rfl))) (Or.inr (hw _ (List.mem_of_getElem? (i := 80) rfl))) (by decide) (ht := (by decide : _ = some .int)) (ht' := (by decide : _ = some .int))))
  have Fc'h4 : Fld Z h4 a "com/example/dircred/dircred/credential/DerReader$Value" "contentEnd" "I" (.int k) := Fld.other Wh4 Fc'h3 (Or.inr (slot_ne (Or.inr (hw _ (List.mem_of_getElem? (i := 78) rfl))) (Or.inr (hw _ (List.mem_of_getElem? (i := 80) rfl))) (by decide) (ht := (by decide : _ = some .int)) (ht' := (by decide : _ = some .int))))
  have Fe'h4 : Fld Z h4 a "com/example/dircred/dircred/credential/DerReader$Value" "end" "I" (.int m) := Fld.same Wh4 Fe'h3
  have hsh4 : n0 ≤ h4.size := by rw [Wr.size Wh4]; exact hsh3
  have Kh4 : Keep h h4 [a] := Keep.wr Kh3 Wh4 (Or.inl (List.mem_of_getElem? (i := 0) rfl))
  refine X.retV own_d_prog_4_method_1_25 rfl (by decide) (by decide) ?_
  exact ⟨rfl, Kh4, Ft'h4, Fs'h4, Fc'h4, Fe'h4⟩
theorem own_d_prog_2_method_1_0 : decode prog_2_method_1_code 0 = .ok (.aload_n 0, 1) := by decide +kernel
theorem own_d_prog_2_method_1_1 : decode prog_2_method_1_code 1 = .ok (.aload_n 1, 1) := by decide +kernel
theorem own_d_prog_2_method_1_2 : decode prog_2_method_1_code 2 = .ok (.iconst 0, 1) := by decide +kernel
theorem own_d_prog_2_method_1_3 : decode prog_2_method_1_code 3 = .ok (.aload_n 1, 1) := by decide +kernel
theorem own_d_prog_2_method_1_4 : decode prog_2_method_1_code 4 = .ok (.arraylength, 1) := by decide +kernel
theorem own_d_prog_2_method_1_5 : decode prog_2_method_1_code 5 = .ok (.invokespecial 1, 3) := by decide +kernel
theorem own_pd0 : parseMethodDescriptor "([BII)V" = some ⟨[(.array .byte), .int, .int], none⟩ := by decide +kernel
theorem own_d_prog_2_method_1_8 : decode prog_2_method_1_code 8 = .ok (.return_, 1) := by decide +kernel
def own_rm_own_i1 : Room := ({ frames := 2, cells := 0, slots := 0, locals := 27 } : Room)
set_option maxRecDepth 65536 in
set_option maxHeartbeats 40000000 in
theorem own_i1 (l : Launch) (Z : State) (a0 : Array Value) (hw : ∀ d ∈ tables_1, d.before a0 Z = true) (h : Heap) (n0 : Nat) (a b : Addr) (L : List Int32) (E : Int32) (hE : E.toInt = (L.length : Int))  (hn0 : n0 ≤ h.size) (B : Exa Z h a "com/example/dircred/dircred/credential/DerReader") (Fb : Fld Z h a "com/example/dircred/dircred/credential/DerReader" "bytes" "[B" .null) (Fp : Fld Z h a "com/example/dircred/dircred/credential/DerReader" "position" "I" (.int (0 : Int32))) (Fe : Fld Z h a "com/example/dircred/dircred/credential/DerReader" "end" "I" (.int (0 : Int32))) (A1 : OwA Z h b .byte (L.map Value.int)) (gea : n0 ≤ a) (neab : a ≠ b) :
    OwM l Z (⟨"com/example/dircred/dircred/credential/DerReader", "<init>", "([B)V"⟩ : MethodName) prog_2_method_1_code 2 none own_rm_own_i1 0 0 [] #[(.ref a), (.ref b)] h n0 (fun r h' => r = none ∧ Keep h h' [a] ∧ Fld Z h' a "com/example/dircred/dircred/credential/DerReader" "bytes" "[B" (.ref b) ∧ Fld Z h' a "com/example/dircred/dircred/credential/DerReader" "position" "I" (.int (0 : Int32)) ∧ Fld Z h' a "com/example/dircred/dircred/credential/DerReader" "end" "I" (.int E)) := by
  refine OwM.of (Ls := #[.val (.ref a), .val (.ref b)]) (by decide +kernel) (fun m => by first | (simp [entryFrame, mkF, argsToLocals, Value.category]; done) | rfl) ?_
  intro _ _ _ _ _ _ _ X
  have K0 : Keep h h [a] := Keep.refl _ _
  refine X.aloadN (q := 1) own_d_prog_2_method_1_0 rfl rfl rfl ?_
  refine X.aloadN (q := 2) own_d_prog_2_method_1_1 rfl rfl rfl ?_
  refine X.iconst (q := 3) (0 : Int32) own_d_prog_2_method_1_2 (by decide) rfl ?_
  refine X.aloadN (q := 4) own_d_prog_2_method_1_3 rfl rfl rfl ?_
  refine X.alen (q := 5) (z := E) A1 (by rw [hE]; simp) own_d_prog_2_method_1_4 rfl ?_
  refine X.special (a := a) (own_i2 l Z a0 hw h n0 a b 0 E hn0 B Fb Fp Fe gea) rfl (hw _ (List.mem_of_getElem? (i := 7) rfl)) (hw _ (List.mem_of_getElem? (i := 8) rfl)) (hw _ (List.mem_of_getElem? (i := 3) rfl)) (hw _ (List.mem_of_getElem? (i := 9) rfl)) (by decide) own_pd0 (argsL := [(.ref b), (.int (0 : Int32)), (.int E)]) (rest := []) rfl rfl rfl (W := 0) (Nat.le_of_eq rfl) rfl (by decide) (by decide) (k' := 0) (n' := 0) rfl rfl (by decide) (by decide) own_d_prog_2_method_1_5 (q := 8) rfl ?_
  rintro _ h1 ⟨rfl, Kh1c, Gb, Gp, Ge⟩
  have B'h1 : Exa Z h1 a "com/example/dircred/dircred/credential/DerReader" := Exa.keep B Kh1c
  have A1'h1 : OwA Z h1 b .byte (L.map Value.int) := OwA.keep A1 Kh1c (ninS (Ne.symm neab) nin0)
  have hsh1 : n0 ≤ h1.size := Nat.le_trans hn0 Kh1c.1
  have Kh1 : Keep h h1 [a] := Keep.trans K0 Kh1c (allS (Or.inl (List.mem_of_getElem? (i := 0) rfl)) all0)
  show X.G h1 0 0 8 #[.val (.ref a), .val (.ref b)] []
  refine X.retV own_d_prog_2_method_1_8 rfl (by decide) (by decide) ?_
  exact ⟨rfl, Kh1, Gb, Gp, Ge⟩
theorem own_d_prog_2_method_4_0 : decode prog_2_method_4_code 0 = .ok (.aload_n 0, 1) := by decide +kernel
theorem own_d_prog_2_method_4_1 : decode prog_2_method_4_code 1 = .ok (.getfield 16, 3) := by decide +kernel
theorem own_d_prog_2_method_4_4 : decode prog_2_method_4_code 4 = .ok (.aload_n 0, 1) := by decide +kernel
theorem own_d_prog_2_method_4_5 : decode prog_2_method_4_code 5 = .ok (.getfield 20, 3) := by decide +kernel
theorem own_d_prog_2_method_4_8 : decode prog_2_method_4_code 8 = .ok (.if_icmp .ge 7, 3) := by decide +kernel
theorem own_d_prog_2_method_4_15 : decode prog_2_method_4_code 15 = .ok (.iconst 0, 1) := by decide +kernel
theorem own_d_prog_2_method_4_16 : decode prog_2_method_4_code 16 = .ok (.ireturn, 1) := by decide +kernel
theorem own_d_prog_2_method_4_11 : decode prog_2_method_4_code 11 = .ok (.iconst 1, 1) := by decide +kernel
theorem own_d_prog_2_method_4_12 : decode prog_2_method_4_code 12 = .ok (.goto 4, 3) := by decide +kernel
def own_rm_own_hm : Room := ({ frames := 0, cells := 0, slots := 0, locals := 0 } : Room)
set_option maxRecDepth 65536 in
set_option maxHeartbeats 40000000 in
theorem own_hm (l : Launch) (Z : State) (a0 : Array Value) (hw : ∀ d ∈ tables_1, d.before a0 Z = true) (h : Heap) (n0 : Nat) (a : Addr) (P E : Int32)  (hn0 : n0 ≤ h.size) (Fp : Fld Z h a "com/example/dircred/dircred/credential/DerReader" "position" "I" (.int P)) (Fe : Fld Z h a "com/example/dircred/dircred/credential/DerReader" "end" "I" (.int E)) :
    OwM l Z (⟨"com/example/dircred/dircred/credential/DerReader", "hasMore", "()Z"⟩ : MethodName) prog_2_method_4_code 1 (some .boolean) own_rm_own_hm 0 0 [] #[(.ref a)] h n0 (fun r h' => ∃ z : Int32, r = some (.int z) ∧ ((z.toInt = 1 ∧ (P.toInt < E.toInt)) ∨ (z.toInt = 0 ∧ ¬ (P.toInt < E.toInt))) ∧ h = h') := by
  refine OwM.of (Ls := #[.val (.ref a)]) (by decide +kernel) (fun m => by first | (simp [entryFrame, mkF, argsToLocals, Value.category]; done) | rfl) ?_
  intro _ _ _ _ _ _ _ X
  have e0 : (0 : Int32).toInt = 0 := rfl
  have e1 : (1 : Int32).toInt = 1 := rfl
  refine X.aloadN (q := 1) own_d_prog_2_method_4_0 rfl rfl rfl ?_
  refine X.getF (q := 4) (host := "") (Or.inl (hw _ (List.mem_of_getElem? (i := 15) rfl))) Via.refl Fp own_d_prog_2_method_4_1 rfl ?_
  refine X.aloadN (q := 5) own_d_prog_2_method_4_4 rfl rfl rfl ?_
  refine X.getF (q := 8) (host := "") (Or.inl (hw _ (List.mem_of_getElem? (i := 17) rfl))) Via.refl Fe own_d_prog_2_method_4_5 rfl ?_
  refine X.icmp_ge (q' := 15) (q := 11) own_d_prog_2_method_4_8 rfl rfl (by decide) rfl (fun c8 => ?_) (fun c8 => ?_)
  · refine X.iconst (q := 16) (0 : Int32) own_d_prog_2_method_4_15 (by decide) rfl ?_
    refine X.retN (t := .boolean) (z' := (0 : Int32)) own_d_prog_2_method_4_16 rfl (by simp) (by decide) (by decide) (by decide) ?_
    exact ⟨_, rfl, by omega, rfl⟩
  · refine X.iconst (q := 12) (1 : Int32) own_d_prog_2_method_4_11 (by decide) rfl ?_
    refine X.goto (q' := 16) own_d_prog_2_method_4_12 (by decide) ?_
    refine X.retN (t := .boolean) (z' := (1 : Int32)) own_d_prog_2_method_4_16 rfl (by simp) (by decide) (by decide) (by decide) ?_
    exact ⟨_, rfl, by omega, rfl⟩
theorem own_d_prog_2_method_20_0 : decode prog_2_method_20_code 0 = .ok (.iload_n 1, 1) := by decide +kernel
theorem own_d_prog_2_method_20_1 : decode prog_2_method_20_code 1 = .ok (.istore_n 2, 1) := by decide +kernel
theorem own_d_prog_2_method_20_2 : decode prog_2_method_20_code 2 = .ok (.iload_n 2, 1) := by decide +kernel
theorem own_d_prog_2_method_20_3 : decode prog_2_method_20_code 3 = .ok (.aload_n 0, 1) := by decide +kernel
theorem own_d_prog_2_method_20_4 : decode prog_2_method_20_code 4 = .ok (.getfield 20, 3) := by decide +kernel
theorem own_d_prog_2_method_20_7 : decode prog_2_method_20_code 7 = .ok (.if_icmp .lt 13, 3) := by decide +kernel
theorem own_d_prog_2_method_20_20 : decode prog_2_method_20_code 20 = .ok (.aload_n 0, 1) := by decide +kernel
theorem own_d_prog_2_method_20_21 : decode prog_2_method_20_code 21 = .ok (.getfield 12, 3) := by decide +kernel
theorem own_d_prog_2_method_20_24 : decode prog_2_method_20_code 24 = .ok (.iload_n 2, 1) := by decide +kernel
theorem own_d_prog_2_method_20_25 : decode prog_2_method_20_code 25 = .ok (.iinc 2 1, 3) := by decide +kernel
theorem own_d_prog_2_method_20_28 : decode prog_2_method_20_code 28 = .ok (.baload, 1) := by decide +kernel
theorem own_d_prog_2_method_20_29 : decode prog_2_method_20_code 29 = .ok (.sipush 255, 3) := by decide +kernel
theorem own_d_prog_2_method_20_32 : decode prog_2_method_20_code 32 = .ok (.iand, 1) := by decide +kernel
theorem own_d_prog_2_method_20_33 : decode prog_2_method_20_code 33 = .ok (.istore_n 3, 1) := by decide +kernel
theorem own_d_prog_2_method_20_73 : decode prog_2_method_20_code 73 = .ok (.iload_n 2, 1) := by decide +kernel
theorem own_d_prog_2_method_20_74 : decode prog_2_method_20_code 74 = .ok (.aload_n 0, 1) := by decide +kernel
theorem own_d_prog_2_method_20_75 : decode prog_2_method_20_code 75 = .ok (.getfield 20, 3) := by decide +kernel
theorem own_d_prog_2_method_20_78 : decode prog_2_method_20_code 78 = .ok (.if_icmp .lt 13, 3) := by decide +kernel
theorem own_d_prog_2_method_20_91 : decode prog_2_method_20_code 91 = .ok (.aload_n 0, 1) := by decide +kernel
theorem own_d_prog_2_method_20_92 : decode prog_2_method_20_code 92 = .ok (.getfield 12, 3) := by decide +kernel
theorem own_d_prog_2_method_20_95 : decode prog_2_method_20_code 95 = .ok (.iload_n 2, 1) := by decide +kernel
theorem own_d_prog_2_method_20_96 : decode prog_2_method_20_code 96 = .ok (.iinc 2 1, 3) := by decide +kernel
theorem own_d_prog_2_method_20_99 : decode prog_2_method_20_code 99 = .ok (.baload, 1) := by decide +kernel
theorem own_d_prog_2_method_20_100 : decode prog_2_method_20_code 100 = .ok (.sipush 255, 3) := by decide +kernel
theorem own_d_prog_2_method_20_103 : decode prog_2_method_20_code 103 = .ok (.iand, 1) := by decide +kernel
theorem own_d_prog_2_method_20_104 : decode prog_2_method_20_code 104 = .ok (.istore 4, 2) := by decide +kernel
theorem own_d_prog_2_method_20_106 : decode prog_2_method_20_code 106 = .ok (.iload 4, 2) := by decide +kernel
theorem own_d_prog_2_method_20_108 : decode prog_2_method_20_code 108 = .ok (.sipush 128, 3) := by decide +kernel
theorem own_d_prog_2_method_20_111 : decode prog_2_method_20_code 111 = .ok (.if_icmp .ge 10, 3) := by decide +kernel
theorem own_d_prog_2_method_20_121 : decode prog_2_method_20_code 121 = .ok (.iload 4, 2) := by decide +kernel
theorem own_d_prog_2_method_20_123 : decode prog_2_method_20_code 123 = .ok (.sipush 128, 3) := by decide +kernel
theorem own_d_prog_2_method_20_126 : decode prog_2_method_20_code 126 = .ok (.if_icmp .ne 40, 3) := by decide +kernel
theorem own_d_prog_2_method_20_166 : decode prog_2_method_20_code 166 = .ok (.iload 4, 2) := by decide +kernel
theorem own_d_prog_2_method_20_168 : decode prog_2_method_20_code 168 = .ok (.bipush 127, 2) := by decide +kernel
theorem own_d_prog_2_method_20_170 : decode prog_2_method_20_code 170 = .ok (.iand, 1) := by decide +kernel
theorem own_d_prog_2_method_20_171 : decode prog_2_method_20_code 171 = .ok (.istore 6, 2) := by decide +kernel
theorem own_d_prog_2_method_20_173 : decode prog_2_method_20_code 173 = .ok (.iload 6, 2) := by decide +kernel
theorem own_d_prog_2_method_20_175 : decode prog_2_method_20_code 175 = .ok (.iconst 4, 1) := by decide +kernel
theorem own_d_prog_2_method_20_176 : decode prog_2_method_20_code 176 = .ok (.if_icmp .gt 14, 3) := by decide +kernel
theorem own_d_prog_2_method_20_179 : decode prog_2_method_20_code 179 = .ok (.iload 6, 2) := by decide +kernel
theorem own_d_prog_2_method_20_181 : decode prog_2_method_20_code 181 = .ok (.aload_n 0, 1) := by decide +kernel
theorem own_d_prog_2_method_20_182 : decode prog_2_method_20_code 182 = .ok (.getfield 20, 3) := by decide +kernel
theorem own_d_prog_2_method_20_185 : decode prog_2_method_20_code 185 = .ok (.iload_n 2, 1) := by decide +kernel
theorem own_d_prog_2_method_20_186 : decode prog_2_method_20_code 186 = .ok (.isub, 1) := by decide +kernel
theorem own_d_prog_2_method_20_187 : decode prog_2_method_20_code 187 = .ok (.if_icmp .le 13, 3) := by decide +kernel
theorem own_d_prog_2_method_20_200 : decode prog_2_method_20_code 200 = .ok (.lconst 0, 1) := by decide +kernel
theorem own_d_prog_2_method_20_201 : decode prog_2_method_20_code 201 = .ok (.lstore 7, 2) := by decide +kernel
theorem own_d_prog_2_method_20_203 : decode prog_2_method_20_code 203 = .ok (.iconst 0, 1) := by decide +kernel
theorem own_d_prog_2_method_20_204 : decode prog_2_method_20_code 204 = .ok (.istore 9, 2) := by decide +kernel
theorem own_d_prog_2_method_20_206 : decode prog_2_method_20_code 206 = .ok (.iload 9, 2) := by decide +kernel
theorem own_d_prog_2_method_20_208 : decode prog_2_method_20_code 208 = .ok (.iload 6, 2) := by decide +kernel
theorem own_d_prog_2_method_20_210 : decode prog_2_method_20_code 210 = .ok (.if_icmp .ge 31, 3) := by decide +kernel
theorem own_d_prog_2_method_20_213 : decode prog_2_method_20_code 213 = .ok (.lload 7, 2) := by decide +kernel
theorem own_d_prog_2_method_20_215 : decode prog_2_method_20_code 215 = .ok (.bipush 8, 2) := by decide +kernel
theorem own_d_prog_2_method_20_217 : decode prog_2_method_20_code 217 = .ok (.lshl, 1) := by decide +kernel
theorem own_d_prog_2_method_20_218 : decode prog_2_method_20_code 218 = .ok (.aload_n 0, 1) := by decide +kernel
theorem own_d_prog_2_method_20_219 : decode prog_2_method_20_code 219 = .ok (.getfield 12, 3) := by decide +kernel
theorem own_d_prog_2_method_20_222 : decode prog_2_method_20_code 222 = .ok (.iload_n 2, 1) := by decide +kernel
theorem own_d_prog_2_method_20_223 : decode prog_2_method_20_code 223 = .ok (.iinc 2 1, 3) := by decide +kernel
theorem own_d_prog_2_method_20_226 : decode prog_2_method_20_code 226 = .ok (.baload, 1) := by decide +kernel
theorem own_d_prog_2_method_20_227 : decode prog_2_method_20_code 227 = .ok (.sipush 255, 3) := by decide +kernel
theorem own_d_prog_2_method_20_230 : decode prog_2_method_20_code 230 = .ok (.iand, 1) := by decide +kernel
theorem own_d_prog_2_method_20_231 : decode prog_2_method_20_code 231 = .ok (.i2l, 1) := by decide +kernel
theorem own_d_prog_2_method_20_232 : decode prog_2_method_20_code 232 = .ok (.lor, 1) := by decide +kernel
theorem own_d_prog_2_method_20_233 : decode prog_2_method_20_code 233 = .ok (.lstore 7, 2) := by decide +kernel
theorem own_d_prog_2_method_20_235 : decode prog_2_method_20_code 235 = .ok (.iinc 9 1, 3) := by decide +kernel
theorem own_d_prog_2_method_20_238 : decode prog_2_method_20_code 238 = .ok (.goto (-32), 3) := by decide +kernel
theorem own_d_prog_2_method_20_241 : decode prog_2_method_20_code 241 = .ok (.lload 7, 2) := by decide +kernel
theorem own_d_prog_2_method_20_243 : decode prog_2_method_20_code 243 = .ok (.ldc2_w 170, 3) := by decide +kernel
theorem own_d_prog_2_method_20_246 : decode prog_2_method_20_code 246 = .ok (.lcmp, 1) := by decide +kernel
theorem own_d_prog_2_method_20_247 : decode prog_2_method_20_code 247 = .ok (.ifCond .le 13, 3) := by decide +kernel
theorem own_d_prog_2_method_20_260 : decode prog_2_method_20_code 260 = .ok (.lload 7, 2) := by decide +kernel
theorem own_d_prog_2_method_20_262 : decode prog_2_method_20_code 262 = .ok (.l2i, 1) := by decide +kernel
theorem own_d_prog_2_method_20_263 : decode prog_2_method_20_code 263 = .ok (.istore 5, 2) := by decide +kernel
theorem own_d_prog_2_method_20_265 : decode prog_2_method_20_code 265 = .ok (.iload 5, 2) := by decide +kernel
theorem own_d_prog_2_method_20_267 : decode prog_2_method_20_code 267 = .ok (.aload_n 0, 1) := by decide +kernel
theorem own_d_prog_2_method_20_268 : decode prog_2_method_20_code 268 = .ok (.getfield 20, 3) := by decide +kernel
theorem own_d_prog_2_method_20_271 : decode prog_2_method_20_code 271 = .ok (.iload_n 2, 1) := by decide +kernel
theorem own_d_prog_2_method_20_272 : decode prog_2_method_20_code 272 = .ok (.isub, 1) := by decide +kernel
theorem own_d_prog_2_method_20_273 : decode prog_2_method_20_code 273 = .ok (.if_icmp .le 24, 3) := by decide +kernel
theorem own_d_prog_2_method_20_297 : decode prog_2_method_20_code 297 = .ok (.iload_n 3, 1) := by decide +kernel
theorem own_d_prog_2_method_20_298 : decode prog_2_method_20_code 298 = .ok (.ifCond .ne 18, 3) := by decide +kernel
theorem own_d_prog_2_method_20_316 : decode prog_2_method_20_code 316 = .ok (.new 40, 3) := by decide +kernel
theorem own_d_prog_2_method_20_319 : decode prog_2_method_20_code 319 = .ok (.dup, 1) := by decide +kernel
theorem own_d_prog_2_method_20_320 : decode prog_2_method_20_code 320 = .ok (.iload_n 3, 1) := by decide +kernel
theorem own_d_prog_2_method_20_321 : decode prog_2_method_20_code 321 = .ok (.iload_n 2, 1) := by decide +kernel
theorem own_d_prog_2_method_20_322 : decode prog_2_method_20_code 322 = .ok (.iload 5, 2) := by decide +kernel
theorem own_d_prog_2_method_20_324 : decode prog_2_method_20_code 324 = .ok (.invokespecial 177, 3) := by decide +kernel
theorem own_pd1 : parseMethodDescriptor "(III)V" = some ⟨[.int, .int, .int], none⟩ := by decide +kernel
theorem own_d_prog_2_method_20_327 : decode prog_2_method_20_code 327 = .ok (.areturn, 1) := by decide +kernel
theorem own_d_prog_2_method_20_301 : decode prog_2_method_20_code 301 = .ok (.iload 5, 2) := by decide +kernel
theorem own_d_prog_2_method_20_303 : decode prog_2_method_20_code 303 = .ok (.ifCond .eq 13, 3) := by decide +kernel
theorem own_d_prog_2_method_20_129 : decode prog_2_method_20_code 129 = .ok (.iload_n 3, 1) := by decide +kernel
theorem own_d_prog_2_method_20_130 : decode prog_2_method_20_code 130 = .ok (.bipush 32, 2) := by decide +kernel
theorem own_d_prog_2_method_20_132 : decode prog_2_method_20_code 132 = .ok (.iand, 1) := by decide +kernel
theorem own_d_prog_2_method_20_133 : decode prog_2_method_20_code 133 = .ok (.ifCond .ne 27, 3) := by decide +kernel
theorem own_d_prog_2_method_20_160 : decode prog_2_method_20_code 160 = .ok (.iconst (-1), 1) := by decide +kernel
theorem own_d_prog_2_method_20_161 : decode prog_2_method_20_code 161 = .ok (.istore 5, 2) := by decide +kernel
theorem own_d_prog_2_method_20_163 : decode prog_2_method_20_code 163 = .ok (.goto 102, 3) := by decide +kernel
theorem own_d_prog_2_method_20_114 : decode prog_2_method_20_code 114 = .ok (.iload 4, 2) := by decide +kernel
theorem own_d_prog_2_method_20_116 : decode prog_2_method_20_code 116 = .ok (.istore 5, 2) := by decide +kernel
theorem own_d_prog_2_method_20_118 : decode prog_2_method_20_code 118 = .ok (.goto 147, 3) := by decide +kernel
theorem own_d_prog_2_method_20_34 : decode prog_2_method_20_code 34 = .ok (.iload_n 3, 1) := by decide +kernel
theorem own_d_prog_2_method_20_35 : decode prog_2_method_20_code 35 = .ok (.bipush 31, 2) := by decide +kernel
theorem own_d_prog_2_method_20_37 : decode prog_2_method_20_code 37 = .ok (.iand, 1) := by decide +kernel
theorem own_d_prog_2_method_20_38 : decode prog_2_method_20_code 38 = .ok (.bipush 31, 2) := by decide +kernel
theorem own_d_prog_2_method_20_40 : decode prog_2_method_20_code 40 = .ok (.if_icmp .ne 33, 3) := by decide +kernel
theorem own_d_prog_2_method_20_43 : decode prog_2_method_20_code 43 = .ok (.iload_n 2, 1) := by decide +kernel
theorem own_d_prog_2_method_20_44 : decode prog_2_method_20_code 44 = .ok (.aload_n 0, 1) := by decide +kernel
theorem own_d_prog_2_method_20_45 : decode prog_2_method_20_code 45 = .ok (.getfield 20, 3) := by decide +kernel
theorem own_d_prog_2_method_20_48 : decode prog_2_method_20_code 48 = .ok (.if_icmp .ge 22, 3) := by decide +kernel
theorem own_d_prog_2_method_20_51 : decode prog_2_method_20_code 51 = .ok (.aload_n 0, 1) := by decide +kernel
theorem own_d_prog_2_method_20_52 : decode prog_2_method_20_code 52 = .ok (.getfield 12, 3) := by decide +kernel
theorem own_d_prog_2_method_20_55 : decode prog_2_method_20_code 55 = .ok (.iload_n 2, 1) := by decide +kernel
theorem own_d_prog_2_method_20_56 : decode prog_2_method_20_code 56 = .ok (.baload, 1) := by decide +kernel
theorem own_d_prog_2_method_20_57 : decode prog_2_method_20_code 57 = .ok (.sipush 128, 3) := by decide +kernel
theorem own_d_prog_2_method_20_60 : decode prog_2_method_20_code 60 = .ok (.iand, 1) := by decide +kernel
theorem own_d_prog_2_method_20_61 : decode prog_2_method_20_code 61 = .ok (.ifCond .eq 9, 3) := by decide +kernel
theorem own_d_prog_2_method_20_70 : decode prog_2_method_20_code 70 = .ok (.iinc 2 1, 3) := by decide +kernel
theorem own_d_prog_2_method_20_64 : decode prog_2_method_20_code 64 = .ok (.iinc 2 1, 3) := by decide +kernel
theorem own_d_prog_2_method_20_67 : decode prog_2_method_20_code 67 = .ok (.goto (-24), 3) := by decide +kernel
def own_rm_own_header : Room := ({ frames := 2, cells := 1, slots := 3, locals := 28 } : Room)
set_option maxRecDepth 65536 in
set_option maxHeartbeats 40000000 in
theorem own_header (l : Launch) (Z : State) (a0 : Array Value) (hw : ∀ d ∈ tables_1, d.before a0 Z = true) (h : Heap) (n0 : Nat) (a b : Addr) (L : List Int32) (P E : Int32) (p : Nat) (T : Int32) (q s : Nat) (S Ln : Int32) (hr : ∀ x ∈ L, -128 ≤ x.toInt ∧ x.toInt ≤ 127) (hE : E.toInt = (L.length : Int)) (hN : L.length < 1000) (hP : P.toInt = (p : Int)) (H : own_hdr L p T q s S Ln)  (hn0 : n0 ≤ h.size) (Fb : Fld Z h a "com/example/dircred/dircred/credential/DerReader" "bytes" "[B" (.ref b)) (Fe : Fld Z h a "com/example/dircred/dircred/credential/DerReader" "end" "I" (.int E)) (A1 : OwA Z h b .byte (L.map Value.int)) :
    OwM l Z (⟨"com/example/dircred/dircred/credential/DerReader", "header", "(I)Lcom/example/dircred/dircred/credential/DerReader$Header;"⟩ : MethodName) prog_2_method_20_code 10 (some (.object "com/example/dircred/dircred/credential/DerReader$Header")) own_rm_own_header 1 3 [] #[(.ref a), (.int P)] h n0 (fun r h' => ∃ b', r = some (.ref b') ∧ Keep h h' [] ∧ h.size ≤ b' ∧ Fld Z h' b' "com/example/dircred/dircred/credential/DerReader$Header" "tag" "I" (.int T) ∧ Fld Z h' b' "com/example/dircred/dircred/credential/DerReader$Header" "contentStart" "I" (.int S) ∧ Fld Z h' b' "com/example/dircred/dircred/credential/DerReader$Header" "length" "I" (.int Ln)) := by
  refine OwM.of (Ls := #[.val (.ref a), .val (.int P), .unset, .unset, .unset, .unset, .unset, .unset, .unset, .unset]) (by decide +kernel) (fun m => by first | (simp [entryFrame, mkF, argsToLocals, Value.category]; done) | rfl) ?_
  intro _ _ _ _ _ _ _ X
  have K0 : Keep h h [] := Keep.refl _ _
  have e0 : (0 : Int32).toInt = 0 := rfl
  have e1 : (1 : Int32).toInt = 1 := rfl
  have em1 : (-1 : Int32).toInt = -1 := rfl
  have e31 : (31 : Int32).toInt = 31 := rfl
  have e32 : (32 : Int32).toInt = 32 := rfl
  have e127 : (127 : Int32).toInt = 127 := rfl
  have e128 : (128 : Int32).toInt = 128 := rfl
  have e129 : (129 : Int32).toInt = 129 := rfl
  have em127 : (-127 : Int32).toInt = -127 := rfl
  have em128 : (-128 : Int32).toInt = -128 := rfl
  obtain ⟨H1, H2, H3, H4, H5, H6, H7, H8⟩ := H
  have rp := own_rng hr p
  have rp1 := own_rng hr (p + 1)
  have rp2 := own_rng hr (p + 2)
  have rq := own_rng hr q
  have rq1 := own_rng hr (q + 1)
  refine X.iloadN (q := 1) own_d_prog_2_method_20_0 rfl rfl ?_
  refine X.istoreN (q := 2) (Ls' := #[.val (.ref a), .val (.int P), .val (.int P), .unset, .unset, .unset, .unset, .unset, .unset, .unset]) own_d_prog_2_method_20_1 rfl rfl ?_
  refine X.iloadN (q := 3) own_d_prog_2_method_20_2 rfl rfl ?_
  refine X.aloadN (q := 4) own_d_prog_2_method_20_3 rfl rfl rfl ?_
  refine X.getF (q := 7) (host := "") (Or.inl (hw _ (List.mem_of_getElem? (i := 17) rfl))) Via.refl Fe own_d_prog_2_method_20_4 rfl ?_
  refine X.icmp_lt (q' := 20) (q := 10) own_d_prog_2_method_20_7 rfl rfl (by decide) rfl (fun c7 => ?_) (fun c7 => ?_)
  · refine X.aloadN (q := 21) own_d_prog_2_method_20_20 rfl rfl rfl ?_
    refine X.getF (q := 24) (host := "") (Or.inl (hw _ (List.mem_of_getElem? (i := 13) rfl))) Via.refl Fb own_d_prog_2_method_20_21 rfl ?_
    refine X.iloadN (q := 25) own_d_prog_2_method_20_24 rfl rfl ?_
    refine X.iinc (q := 28) (Ls' := #[.val (.ref a), .val (.int P), .val (.int (P + (1 : Int32))), .unset, .unset, .unset, .unset, .unset, .unset, .unset]) (1 : Int32) own_d_prog_2_method_20_25 (by decide) rfl rfl rfl ?_
    have hP1_ : (P + (1 : Int32)).toInt = P.toInt + 1 := own_add (b := 1) rfl (by omega) (by omega)
    obtain ⟨P1, hdP1⟩ : ∃ v_ : Int32, v_ = (P + (1 : Int32)) := ⟨_, rfl⟩
    rw [← hdP1]
    rw [← hdP1] at hP1_
    clear hdP1
    have hP1_ : P1.toInt = ((p + 1 : Nat) : Int) := by omega
    refine X.baload (q := 29) (j := p) (v := (.int (L.getD (p) 0))) A1 hP (own_hB L _ (by omega)) own_d_prog_2_method_20_28 rfl ?_
    refine X.sipush (q := 32) (255 : Int32) own_d_prog_2_method_20_29 (by decide) rfl ?_
    refine X.iand (q := 33) own_d_prog_2_method_20_32 rfl ?_
    refine X.foldI (v := T) (Int32.toInt_inj.mp (by rw [Jvm.Kit.i32_mask (k := 8) _ _ (by decide) (by decide)]; omega)) ?_
    refine X.istoreN (q := 34) (Ls' := #[.val (.ref a), .val (.int P), .val (.int P1), .val (.int T), .unset, .unset, .unset, .unset, .unset, .unset]) own_d_prog_2_method_20_33 rfl rfl ?_
    have J73 : ∀ (Q : Int32), (Q.toInt = (q : Int)) →  X.G h 0 0 73 #[.val (.ref a), .val (.int P), .val (.int Q), .val (.int T), .unset, .unset, .unset, .unset, .unset, .unset] [] := by
      intro Q hQ
      refine X.iloadN (q := 74) own_d_prog_2_method_20_73 rfl rfl ?_
      refine X.aloadN (q := 75) own_d_prog_2_method_20_74 rfl rfl rfl ?_
      refine X.getF (q := 78) (host := "") (Or.inl (hw _ (List.mem_of_getElem? (i := 17) rfl))) Via.refl Fe own_d_prog_2_method_20_75 rfl ?_
      refine X.icmp_lt (q' := 91) (q := 81) own_d_prog_2_method_20_78 rfl rfl (by decide) rfl (fun c78 => ?_) (fun c78 => ?_)
      · refine X.aloadN (q := 92) own_d_prog_2_method_20_91 rfl rfl rfl ?_
        refine X.getF (q := 95) (host := "") (Or.inl (hw _ (List.mem_of_getElem? (i := 13) rfl))) Via.refl Fb own_d_prog_2_method_20_92 rfl ?_
        refine X.iloadN (q := 96) own_d_prog_2_method_20_95 rfl rfl ?_
        refine X.iinc (q := 99) (Ls' := #[.val (.ref a), .val (.int P), .val (.int (Q + (1 : Int32))), .val (.int T), .unset, .unset, .unset, .unset, .unset, .unset]) (1 : Int32) own_d_prog_2_method_20_96 (by decide) rfl rfl rfl ?_
        have hQ1_ : (Q + (1 : Int32)).toInt = Q.toInt + 1 := own_add (b := 1) rfl (by omega) (by omega)
        obtain ⟨Q1, hdQ1⟩ : ∃ v_ : Int32, v_ = (Q + (1 : Int32)) := ⟨_, rfl⟩
        rw [← hdQ1]
        rw [← hdQ1] at hQ1_
        clear hdQ1
        have hQ1_ : Q1.toInt = ((q + 1 : Nat) : Int) := by omega
        refine X.baload (q := 100) (j := q) (v := (.int (L.getD (q) 0))) A1 hQ (own_hB L _ (by omega)) own_d_prog_2_method_20_99 rfl ?_
        refine X.sipush (q := 103) (255 : Int32) own_d_prog_2_method_20_100 (by decide) rfl ?_
        refine X.iand (q := 104) own_d_prog_2_method_20_103 rfl ?_
        refine X.nmI (fun L0 hL0 => ?_)
        have hL0_ : L0.toInt = (L.getD q 0).toInt % 256 := by rw [hL0, Jvm.Kit.i32_mask (k := 8) _ _ (by decide) (by decide)]; rfl
        clear hL0
        refine X.istore (q := 106) (Ls' := #[.val (.ref a), .val (.int P), .val (.int Q1), .val (.int T), .val (.int L0), .unset, .unset, .unset, .unset, .unset]) own_d_prog_2_method_20_104 rfl rfl ?_
        refine X.iload (q := 108) own_d_prog_2_method_20_106 rfl rfl ?_
        refine X.sipush (q := 111) (128 : Int32) own_d_prog_2_method_20_108 (by decide) rfl ?_
        refine X.icmp_ge (b := 128) (q' := 121) (q := 114) own_d_prog_2_method_20_111 rfl rfl (by decide) rfl (fun c111 => ?_) (fun c111 => ?_)
        · refine X.iload (q := 123) own_d_prog_2_method_20_121 rfl rfl ?_
          refine X.sipush (q := 126) (128 : Int32) own_d_prog_2_method_20_123 (by decide) rfl ?_
          refine X.icmp_ne (b := 128) (q' := 166) (q := 129) own_d_prog_2_method_20_126 rfl rfl (by decide) rfl (fun c126 => ?_) (fun c126 => ?_)
          · refine X.iload (q := 168) own_d_prog_2_method_20_166 rfl rfl ?_
            refine X.bipush (q := 170) (127 : Int32) own_d_prog_2_method_20_168 (by decide) rfl ?_
            refine X.iand (q := 171) own_d_prog_2_method_20_170 rfl ?_
            refine X.foldI (v := (1 : Int32)) (Int32.toInt_inj.mp (by rw [Jvm.Kit.i32_mask (k := 7) _ _ (by decide) (by decide)]; omega)) ?_
            refine X.istore (q := 173) (Ls' := #[.val (.ref a), .val (.int P), .val (.int Q1), .val (.int T), .val (.int L0), .unset, .val (.int (1 : Int32)), .unset, .unset, .unset]) own_d_prog_2_method_20_171 rfl rfl ?_
            refine X.iload (q := 175) own_d_prog_2_method_20_173 rfl rfl ?_
            refine X.iconst (q := 176) (4 : Int32) own_d_prog_2_method_20_175 (by decide) rfl ?_
            refine X.icmp_gt (a := 1) (b := 4) (q' := 190) (q := 179) own_d_prog_2_method_20_176 rfl rfl (by decide) rfl (fun c176 => ?_) (fun c176 => ?_)
            · omega
            · refine X.iload (q := 181) own_d_prog_2_method_20_179 rfl rfl ?_
              refine X.aloadN (q := 182) own_d_prog_2_method_20_181 rfl rfl rfl ?_
              refine X.getF (q := 185) (host := "") (Or.inl (hw _ (List.mem_of_getElem? (i := 17) rfl))) Via.refl Fe own_d_prog_2_method_20_182 rfl ?_
              refine X.iloadN (q := 186) own_d_prog_2_method_20_185 rfl rfl ?_
              refine X.isub (q := 187) own_d_prog_2_method_20_186 rfl ?_
              refine X.nmI (fun av hav => ?_)
              have hav_ : av.toInt = E.toInt - Q1.toInt := by rw [hav, Int32.toInt_sub]; exact Int.bmod_eq_of_le (by omega) (by omega)
              clear hav
              refine X.icmp_le (a := 1) (q' := 200) (q := 190) own_d_prog_2_method_20_187 rfl rfl (by decide) rfl (fun c187 => ?_) (fun c187 => ?_)
              · refine X.lconst (q := 201) (0 : Int64) own_d_prog_2_method_20_200 (by decide) rfl ?_
                refine X.lstore (q := 203) (Ls' := #[.val (.ref a), .val (.int P), .val (.int Q1), .val (.int T), .val (.int L0), .unset, .val (.int (1 : Int32)), .val (.long (0 : Int64)), .second, .unset]) own_d_prog_2_method_20_201 rfl rfl ?_
                refine X.iconst (q := 204) (0 : Int32) own_d_prog_2_method_20_203 (by decide) rfl ?_
                refine X.istore (q := 206) (Ls' := #[.val (.ref a), .val (.int P), .val (.int Q1), .val (.int T), .val (.int L0), .unset, .val (.int (1 : Int32)), .val (.long (0 : Int64)), .second, .val (.int (0 : Int32))]) own_d_prog_2_method_20_204 rfl rfl ?_
                refine X.iload (q := 208) own_d_prog_2_method_20_206 rfl rfl ?_
                refine X.iload (q := 210) own_d_prog_2_method_20_208 rfl rfl ?_
                refine X.icmp_ge (a := 0) (b := 1) (q' := 241) (q := 213) own_d_prog_2_method_20_210 rfl rfl (by decide) rfl (fun c210 => ?_) (fun c210 => ?_)
                · omega
                · refine X.lload (q := 215) own_d_prog_2_method_20_213 rfl rfl ?_
                  refine X.bipush (q := 217) (8 : Int32) own_d_prog_2_method_20_215 (by decide) rfl ?_
                  refine X.lshl (q := 218) own_d_prog_2_method_20_217 rfl ?_
                  refine X.aloadN (q := 219) own_d_prog_2_method_20_218 rfl rfl rfl ?_
                  refine X.getF (q := 222) (host := "") (Or.inl (hw _ (List.mem_of_getElem? (i := 13) rfl))) Via.refl Fb own_d_prog_2_method_20_219 rfl ?_
                  refine X.iloadN (q := 223) own_d_prog_2_method_20_222 rfl rfl ?_
                  refine X.iinc (q := 226) (Ls' := #[.val (.ref a), .val (.int P), .val (.int (Q1 + (1 : Int32))), .val (.int T), .val (.int L0), .unset, .val (.int (1 : Int32)), .val (.long (0 : Int64)), .second, .val (.int (0 : Int32))]) (1 : Int32) own_d_prog_2_method_20_223 (by decide) rfl rfl rfl ?_
                  have hQ2_ : (Q1 + (1 : Int32)).toInt = Q1.toInt + 1 := own_add (b := 1) rfl (by omega) (by omega)
                  obtain ⟨Q2, hdQ2⟩ : ∃ v_ : Int32, v_ = (Q1 + (1 : Int32)) := ⟨_, rfl⟩
                  rw [← hdQ2]
                  rw [← hdQ2] at hQ2_
                  clear hdQ2
                  have hQ2_ : Q2.toInt = ((q + 2 : Nat) : Int) := by omega
                  refine X.baload (q := 227) (j := q + 1) (v := (.int (L.getD (q + 1) 0))) A1 hQ1_ (own_hB L _ (by omega)) own_d_prog_2_method_20_226 rfl ?_
                  refine X.sipush (q := 230) (255 : Int32) own_d_prog_2_method_20_227 (by decide) rfl ?_
                  refine X.iand (q := 231) own_d_prog_2_method_20_230 rfl ?_
                  refine X.i2l (q := 232) own_d_prog_2_method_20_231 rfl ?_
                  refine X.lor (q := 233) own_d_prog_2_method_20_232 rfl ?_
                  refine X.nmJ (fun acc hacc => ?_)
                  have hacc_ : acc.toInt = (L.getD (q + 1) 0).toInt % 256 := by rw [hacc]; exact own_acc _
                  clear hacc
                  refine X.lstore (q := 235) (Ls' := #[.val (.ref a), .val (.int P), .val (.int Q2), .val (.int T), .val (.int L0), .unset, .val (.int (1 : Int32)), .val (.long acc), .second, .val (.int (0 : Int32))]) own_d_prog_2_method_20_233 rfl rfl ?_
                  refine X.iinc (q := 238) (Ls' := #[.val (.ref a), .val (.int P), .val (.int Q2), .val (.int T), .val (.int L0), .unset, .val (.int (1 : Int32)), .val (.long acc), .second, .val (.int (1 : Int32))]) (1 : Int32) own_d_prog_2_method_20_235 (by decide) rfl rfl rfl ?_
                  refine X.goto (q' := 206) own_d_prog_2_method_20_238 (by decide) ?_
                  refine X.iload (q := 208) own_d_prog_2_method_20_206 rfl rfl ?_
                  refine X.iload (q := 210) own_d_prog_2_method_20_208 rfl rfl ?_
                  refine X.icmp_ge (a := 1) (b := 1) (q' := 241) (q := 213) own_d_prog_2_method_20_210 rfl rfl (by decide) rfl (fun c210 => ?_) (fun c210 => ?_)
                  · refine X.lload (q := 243) own_d_prog_2_method_20_241 rfl rfl ?_
                    refine X.ldc2_w (q := 246) (v := (2147483647 : Int64)) (hw _ (List.mem_of_getElem? (i := 81) rfl)) own_d_prog_2_method_20_243 rfl ?_
                    refine X.lcmp_le (b := 2147483647) (q1 := 247) (q' := 260) (q := 250) own_d_prog_2_method_20_246 rfl own_d_prog_2_method_20_247 rfl rfl (by decide) rfl (fun c246 => ?_) (fun c246 => ?_)
                    · refine X.lload (q := 262) own_d_prog_2_method_20_260 rfl rfl ?_
                      refine X.l2i (q := 263) own_d_prog_2_method_20_262 rfl ?_
                      refine X.foldI (v := Ln) (Int32.toInt_inj.mp (by rw [Int64.toInt_toInt32, Int.bmod_eq_of_le (by omega) (by omega)]; omega)) ?_
                      refine X.istore (q := 265) (Ls' := #[.val (.ref a), .val (.int P), .val (.int Q2), .val (.int T), .val (.int L0), .val (.int Ln), .val (.int (1 : Int32)), .val (.long acc), .second, .val (.int (1 : Int32))]) own_d_prog_2_method_20_263 rfl rfl ?_
                      refine X.iload (q := 267) own_d_prog_2_method_20_265 rfl rfl ?_
                      refine X.aloadN (q := 268) own_d_prog_2_method_20_267 rfl rfl rfl ?_
                      refine X.getF (q := 271) (host := "") (Or.inl (hw _ (List.mem_of_getElem? (i := 17) rfl))) Via.refl Fe own_d_prog_2_method_20_268 rfl ?_
                      refine X.iloadN (q := 272) own_d_prog_2_method_20_271 rfl rfl ?_
                      refine X.isub (q := 273) own_d_prog_2_method_20_272 rfl ?_
                      refine X.nmI (fun av2 hav2 => ?_)
                      have hav2_ : av2.toInt = E.toInt - Q2.toInt := by rw [hav2, Int32.toInt_sub]; exact Int.bmod_eq_of_le (by omega) (by omega)
                      clear hav2
                      refine X.icmp_le (q' := 297) (q := 276) own_d_prog_2_method_20_273 rfl rfl (by decide) rfl (fun c273 => ?_) (fun c273 => ?_)
                      · refine X.iloadN (q := 298) own_d_prog_2_method_20_297 rfl rfl ?_
                        refine X.if_ne (q' := 316) (q := 301) own_d_prog_2_method_20_298 rfl (by decide) rfl (fun c298 => ?_) (fun c298 => ?_)
                        · refine X.newO (q := 319) (k' := 1) (n' := 3) (hw _ (List.mem_of_getElem? (i := 50) rfl)) (hw _ (List.mem_of_getElem? (i := 51) rfl)) (hw _ (List.mem_of_getElem? (i := 52) rfl)) own_d_prog_2_method_20_316 rfl rfl (by decide) (by decide) rfl (fun h1 a2 ga2 Eh1 Ba2 Da2 => ?_)
                          have la_a2 : a < a2 := by have := Fb.lt; rw [← ga2] at this; exact this
                          have lb_a2 : b < a2 := by have := A1.lt; rw [← ga2] at this; exact this
                          have Fb'h1 : Fld Z h1 a "com/example/dircred/dircred/credential/DerReader" "bytes" "[B" (.ref b) := Fld.ext Eh1 Fb
                          have Fe'h1 : Fld Z h1 a "com/example/dircred/dircred/credential/DerReader" "end" "I" (.int E) := Fld.ext Eh1 Fe
                          have A1'h1 : OwA Z h1 b .byte (L.map Value.int) := OwA.ext (E := Eh1) A1
                          have gea2 : n0 ≤ a2 := by rw [ga2]; exact hn0
                          have hsh1 : n0 ≤ h1.size := Nat.le_trans hn0 Eh1.1
                          have fra2 : h.size ≤ a2 := by rw [ga2]; exact K0.1
                          have Kh1 : Keep h h1 [] := Keep.ext K0 Eh1
                          have Fa2_tag : Fld Z h1 a2 "com/example/dircred/dircred/credential/DerReader$Header" "tag" "I" (.int (0 : Int32)) := Da2 (Or.inr (hw _ (List.mem_of_getElem? (i := 58) rfl))) (ty := .int) (by decide)
                          have Fa2_contentStart : Fld Z h1 a2 "com/example/dircred/dircred/credential/DerReader$Header" "contentStart" "I" (.int (0 : Int32)) := Da2 (Or.inr (hw _ (List.mem_of_getElem? (i := 60) rfl))) (ty := .int) (by decide)
                          have Fa2_length : Fld Z h1 a2 "com/example/dircred/dircred/credential/DerReader$Header" "length" "I" (.int (0 : Int32)) := Da2 (Or.inr (hw _ (List.mem_of_getElem? (i := 62) rfl))) (ty := .int) (by decide)
                          refine X.dup (q := 320) own_d_prog_2_method_20_319 rfl rfl ?_
                          refine X.iloadN (q := 321) own_d_prog_2_method_20_320 rfl rfl ?_
                          refine X.iloadN (q := 322) own_d_prog_2_method_20_321 rfl rfl ?_
                          refine X.foldI (v := S) (Int32.toInt_inj.mp (by omega)) ?_
                          refine X.iload (q := 324) own_d_prog_2_method_20_322 rfl rfl ?_
                          refine X.special (a := a2) (own_hi l Z a0 hw h1 n0 a2 T S Ln hsh1 Ba2 Fa2_tag Fa2_contentStart Fa2_length gea2) rfl (hw _ (List.mem_of_getElem? (i := 53) rfl)) (hw _ (List.mem_of_getElem? (i := 54) rfl)) (hw _ (List.mem_of_getElem? (i := 52) rfl)) (hw _ (List.mem_of_getElem? (i := 55) rfl)) (by decide) own_pd1 (argsL := [(.int T), (.int S), (.int Ln)]) (rest := [(.ref a2)]) rfl rfl rfl (W := 1) (Nat.le_of_eq rfl) rfl (by decide) (by decide) (k' := 1) (n' := 3) rfl rfl (by decide) (by decide) own_d_prog_2_method_20_324 (q := 327) rfl ?_
                          rintro _ h3 ⟨rfl, Kh3c, Gt, Gs, Gl⟩
                          have Fb'h3 : Fld Z h3 a "com/example/dircred/dircred/credential/DerReader" "bytes" "[B" (.ref b) := Fld.keep Fb'h1 Kh3c (ninS (Nat.ne_of_lt la_a2) nin0)
                          have Fe'h3 : Fld Z h3 a "com/example/dircred/dircred/credential/DerReader" "end" "I" (.int E) := Fld.keep Fe'h1 Kh3c (ninS (Nat.ne_of_lt la_a2) nin0)
                          have A1'h3 : OwA Z h3 b .byte (L.map Value.int) := OwA.keep A1'h1 Kh3c (ninS (Nat.ne_of_lt lb_a2) nin0)
                          have Ba2'h3 : Exa Z h3 a2 "com/example/dircred/dircred/credential/DerReader$Header" := Exa.keep Ba2 Kh3c
                          have hsh3 : n0 ≤ h3.size := Nat.le_trans hsh1 Kh3c.1
                          have Kh3 : Keep h h3 [] := Keep.trans Kh1 Kh3c (allS (Or.inr fra2) all0)
                          show X.G h3 1 3 327 #[.val (.ref a), .val (.int P), .val (.int Q2), .val (.int T), .val (.int L0), .val (.int Ln), .val (.int (1 : Int32)), .val (.long acc), .second, .val (.int (1 : Int32))] [(.ref a2)]
                          refine X.retA (t := (.object "com/example/dircred/dircred/credential/DerReader$Header")) own_d_prog_2_method_20_327 rfl rfl rfl rfl (by decide) (by decide) ?_
                          exact ⟨a2, rfl, Kh3, fra2, Gt, Gs, Gl⟩
                        · refine X.iload (q := 303) own_d_prog_2_method_20_301 rfl rfl ?_
                          refine X.if_eq (q' := 316) (q := 306) own_d_prog_2_method_20_303 rfl (by decide) rfl (fun c303 => ?_) (fun c303 => ?_)
                          · refine X.newO (q := 319) (k' := 1) (n' := 3) (hw _ (List.mem_of_getElem? (i := 50) rfl)) (hw _ (List.mem_of_getElem? (i := 51) rfl)) (hw _ (List.mem_of_getElem? (i := 52) rfl)) own_d_prog_2_method_20_316 rfl rfl (by decide) (by decide) rfl (fun h4 a5 ga5 Eh4 Ba5 Da5 => ?_)
                            have la_a5 : a < a5 := by have := Fb.lt; rw [← ga5] at this; exact this
                            have lb_a5 : b < a5 := by have := A1.lt; rw [← ga5] at this; exact this
                            have Fb'h4 : Fld Z h4 a "com/example/dircred/dircred/credential/DerReader" "bytes" "[B" (.ref b) := Fld.ext Eh4 Fb
                            have Fe'h4 : Fld Z h4 a "com/example/dircred/dircred/credential/DerReader" "end" "I" (.int E) := Fld.ext Eh4 Fe
                            have A1'h4 : OwA Z h4 b .byte (L.map Value.int) := OwA.ext (E := Eh4) A1
                            have gea5 : n0 ≤ a5 := by rw [ga5]; exact hn0
                            have hsh4 : n0 ≤ h4.size := Nat.le_trans hn0 Eh4.1
                            have fra5 : h.size ≤ a5 := by rw [ga5]; exact K0.1
                            have Kh4 : Keep h h4 [] := Keep.ext K0 Eh4
                            have Fa5_tag : Fld Z h4 a5 "com/example/dircred/dircred/credential/DerReader$Header" "tag" "I" (.int (0 : Int32)) := Da5 (Or.inr (hw _ (List.mem_of_getElem? (i := 58) rfl))) (ty := .int) (by decide)
                            have Fa5_contentStart : Fld Z h4 a5 "com/example/dircred/dircred/credential/DerReader$Header" "contentStart" "I" (.int (0 : Int32)) := Da5 (Or.inr (hw _ (List.mem_of_getElem? (i := 60) rfl))) (ty := .int) (by decide)
                            have Fa5_length : Fld Z h4 a5 "com/example/dircred/dircred/credential/DerReader$Header" "length" "I" (.int (0 : Int32)) := Da5 (Or.inr (hw _ (List.mem_of_getElem? (i := 62) rfl))) (ty := .int) (by decide)
                            refine X.dup (q := 320) own_d_prog_2_method_20_319 rfl rfl ?_
                            refine X.iloadN (q := 321) own_d_prog_2_method_20_320 rfl rfl ?_
                            refine X.iloadN (q := 322) own_d_prog_2_method_20_321 rfl rfl ?_
                            refine X.foldI (v := S) (Int32.toInt_inj.mp (by omega)) ?_
                            refine X.iload (q := 324) own_d_prog_2_method_20_322 rfl rfl ?_
                            refine X.special (a := a5) (own_hi l Z a0 hw h4 n0 a5 T S Ln hsh4 Ba5 Fa5_tag Fa5_contentStart Fa5_length gea5) rfl (hw _ (List.mem_of_getElem? (i := 53) rfl)) (hw _ (List.mem_of_getElem? (i := 54) rfl)) (hw _ (List.mem_of_getElem? (i := 52) rfl)) (hw _ (List.mem_of_getElem? (i := 55) rfl)) (by decide) own_pd1 (argsL := [(.int T), (.int S), (.int Ln)]) (rest := [(.ref a5)]) rfl rfl rfl (W := 1) (Nat.le_of_eq rfl) rfl (by decide) (by decide) (k' := 1) (n' := 3) rfl rfl (by decide) (by decide) own_d_prog_2_method_20_324 (q := 327) rfl ?_
                            rintro _ h6 ⟨rfl, Kh6c, Gt, Gs, Gl⟩
                            have Fb'h6 : Fld Z h6 a "com/example/dircred/dircred/credential/DerReader" "bytes" "[B" (.ref b) := Fld.keep Fb'h4 Kh6c (ninS (Nat.ne_of_lt la_a5) nin0)
                            have Fe'h6 : Fld Z h6 a "com/example/dircred/dircred/credential/DerReader" "end" "I" (.int E) := Fld.keep Fe'h4 Kh6c (ninS (Nat.ne_of_lt la_a5) nin0)
                            have A1'h6 : OwA Z h6 b .byte (L.map Value.int) := OwA.keep A1'h4 Kh6c (ninS (Nat.ne_of_lt lb_a5) nin0)
                            have Ba5'h6 : Exa Z h6 a5 "com/example/dircred/dircred/credential/DerReader$Header" := Exa.keep Ba5 Kh6c
                            have hsh6 : n0 ≤ h6.size := Nat.le_trans hsh4 Kh6c.1
                            have Kh6 : Keep h h6 [] := Keep.trans Kh4 Kh6c (allS (Or.inr fra5) all0)
                            show X.G h6 1 3 327 #[.val (.ref a), .val (.int P), .val (.int Q2), .val (.int T), .val (.int L0), .val (.int Ln), .val (.int (1 : Int32)), .val (.long acc), .second, .val (.int (1 : Int32))] [(.ref a5)]
                            refine X.retA (t := (.object "com/example/dircred/dircred/credential/DerReader$Header")) own_d_prog_2_method_20_327 rfl rfl rfl rfl (by decide) (by decide) ?_
                            exact ⟨a5, rfl, Kh6, fra5, Gt, Gs, Gl⟩
                          · omega
                      · omega
                    · omega
                  · omega
              · omega
          · refine X.iloadN (q := 130) own_d_prog_2_method_20_129 rfl rfl ?_
            refine X.bipush (q := 132) (32 : Int32) own_d_prog_2_method_20_130 (by decide) rfl ?_
            refine X.iand (q := 133) own_d_prog_2_method_20_132 rfl ?_
            refine X.nmI (fun t32 ht32 => ?_)
            have ht32_ := own_b5 T (by omega) (by omega)
            rw [← ht32] at ht32_
            clear ht32
            refine X.if_ne (q' := 160) (q := 136) own_d_prog_2_method_20_133 rfl (by decide) rfl (fun c133 => ?_) (fun c133 => ?_)
            · refine X.iconst (q := 161) (-1 : Int32) own_d_prog_2_method_20_160 (by decide) rfl ?_
              refine X.foldI (v := Ln) (Int32.toInt_inj.mp (by omega)) ?_
              refine X.istore (q := 163) (Ls' := #[.val (.ref a), .val (.int P), .val (.int Q1), .val (.int T), .val (.int L0), .val (.int Ln), .unset, .unset, .unset, .unset]) own_d_prog_2_method_20_161 rfl rfl ?_
              refine X.goto (q' := 265) own_d_prog_2_method_20_163 (by decide) ?_
              refine X.iload (q := 267) own_d_prog_2_method_20_265 rfl rfl ?_
              refine X.aloadN (q := 268) own_d_prog_2_method_20_267 rfl rfl rfl ?_
              refine X.getF (q := 271) (host := "") (Or.inl (hw _ (List.mem_of_getElem? (i := 17) rfl))) Via.refl Fe own_d_prog_2_method_20_268 rfl ?_
              refine X.iloadN (q := 272) own_d_prog_2_method_20_271 rfl rfl ?_
              refine X.isub (q := 273) own_d_prog_2_method_20_272 rfl ?_
              refine X.nmI (fun av2 hav2 => ?_)
              have hav2_ : av2.toInt = E.toInt - Q1.toInt := by rw [hav2, Int32.toInt_sub]; exact Int.bmod_eq_of_le (by omega) (by omega)
              clear hav2
              refine X.icmp_le (q' := 297) (q := 276) own_d_prog_2_method_20_273 rfl rfl (by decide) rfl (fun c273 => ?_) (fun c273 => ?_)
              · refine X.iloadN (q := 298) own_d_prog_2_method_20_297 rfl rfl ?_
                refine X.if_ne (q' := 316) (q := 301) own_d_prog_2_method_20_298 rfl (by decide) rfl (fun c298 => ?_) (fun c298 => ?_)
                · refine X.newO (q := 319) (k' := 1) (n' := 3) (hw _ (List.mem_of_getElem? (i := 50) rfl)) (hw _ (List.mem_of_getElem? (i := 51) rfl)) (hw _ (List.mem_of_getElem? (i := 52) rfl)) own_d_prog_2_method_20_316 rfl rfl (by decide) (by decide) rfl (fun h7 a8 ga8 Eh7 Ba8 Da8 => ?_)
                  have la_a8 : a < a8 := by have := Fb.lt; rw [← ga8] at this; exact this
                  have lb_a8 : b < a8 := by have := A1.lt; rw [← ga8] at this; exact this
                  have Fb'h7 : Fld Z h7 a "com/example/dircred/dircred/credential/DerReader" "bytes" "[B" (.ref b) := Fld.ext Eh7 Fb
                  have Fe'h7 : Fld Z h7 a "com/example/dircred/dircred/credential/DerReader" "end" "I" (.int E) := Fld.ext Eh7 Fe
                  have A1'h7 : OwA Z h7 b .byte (L.map Value.int) := OwA.ext (E := Eh7) A1
                  have gea8 : n0 ≤ a8 := by rw [ga8]; exact hn0
                  have hsh7 : n0 ≤ h7.size := Nat.le_trans hn0 Eh7.1
                  have fra8 : h.size ≤ a8 := by rw [ga8]; exact K0.1
                  have Kh7 : Keep h h7 [] := Keep.ext K0 Eh7
                  have Fa8_tag : Fld Z h7 a8 "com/example/dircred/dircred/credential/DerReader$Header" "tag" "I" (.int (0 : Int32)) := Da8 (Or.inr (hw _ (List.mem_of_getElem? (i := 58) rfl))) (ty := .int) (by decide)
                  have Fa8_contentStart : Fld Z h7 a8 "com/example/dircred/dircred/credential/DerReader$Header" "contentStart" "I" (.int (0 : Int32)) := Da8 (Or.inr (hw _ (List.mem_of_getElem? (i := 60) rfl))) (ty := .int) (by decide)
                  have Fa8_length : Fld Z h7 a8 "com/example/dircred/dircred/credential/DerReader$Header" "length" "I" (.int (0 : Int32)) := Da8 (Or.inr (hw _ (List.mem_of_getElem? (i := 62) rfl))) (ty := .int) (by decide)
                  refine X.dup (q := 320) own_d_prog_2_method_20_319 rfl rfl ?_
                  refine X.iloadN (q := 321) own_d_prog_2_method_20_320 rfl rfl ?_
                  refine X.iloadN (q := 322) own_d_prog_2_method_20_321 rfl rfl ?_
                  refine X.foldI (v := S) (Int32.toInt_inj.mp (by omega)) ?_
                  refine X.iload (q := 324) own_d_prog_2_method_20_322 rfl rfl ?_
                  refine X.special (a := a8) (own_hi l Z a0 hw h7 n0 a8 T S Ln hsh7 Ba8 Fa8_tag Fa8_contentStart Fa8_length gea8) rfl (hw _ (List.mem_of_getElem? (i := 53) rfl)) (hw _ (List.mem_of_getElem? (i := 54) rfl)) (hw _ (List.mem_of_getElem? (i := 52) rfl)) (hw _ (List.mem_of_getElem? (i := 55) rfl)) (by decide) own_pd1 (argsL := [(.int T), (.int S), (.int Ln)]) (rest := [(.ref a8)]) rfl rfl rfl (W := 1) (Nat.le_of_eq rfl) rfl (by decide) (by decide) (k' := 1) (n' := 3) rfl rfl (by decide) (by decide) own_d_prog_2_method_20_324 (q := 327) rfl ?_
                  rintro _ h9 ⟨rfl, Kh9c, Gt, Gs, Gl⟩
                  have Fb'h9 : Fld Z h9 a "com/example/dircred/dircred/credential/DerReader" "bytes" "[B" (.ref b) := Fld.keep Fb'h7 Kh9c (ninS (Nat.ne_of_lt la_a8) nin0)
                  have Fe'h9 : Fld Z h9 a "com/example/dircred/dircred/credential/DerReader" "end" "I" (.int E) := Fld.keep Fe'h7 Kh9c (ninS (Nat.ne_of_lt la_a8) nin0)
                  have A1'h9 : OwA Z h9 b .byte (L.map Value.int) := OwA.keep A1'h7 Kh9c (ninS (Nat.ne_of_lt lb_a8) nin0)
                  have Ba8'h9 : Exa Z h9 a8 "com/example/dircred/dircred/credential/DerReader$Header" := Exa.keep Ba8 Kh9c
                  have hsh9 : n0 ≤ h9.size := Nat.le_trans hsh7 Kh9c.1
                  have Kh9 : Keep h h9 [] := Keep.trans Kh7 Kh9c (allS (Or.inr fra8) all0)
                  show X.G h9 1 3 327 #[.val (.ref a), .val (.int P), .val (.int Q1), .val (.int T), .val (.int L0), .val (.int Ln), .unset, .unset, .unset, .unset] [(.ref a8)]
                  refine X.retA (t := (.object "com/example/dircred/dircred/credential/DerReader$Header")) own_d_prog_2_method_20_327 rfl rfl rfl rfl (by decide) (by decide) ?_
                  exact ⟨a8, rfl, Kh9, fra8, Gt, Gs, Gl⟩
                · refine X.iload (q := 303) own_d_prog_2_method_20_301 rfl rfl ?_
                  refine X.if_eq (q' := 316) (q := 306) own_d_prog_2_method_20_303 rfl (by decide) rfl (fun c303 => ?_) (fun c303 => ?_)
                  · refine X.newO (q := 319) (k' := 1) (n' := 3) (hw _ (List.mem_of_getElem? (i := 50) rfl)) (hw _ (List.mem_of_getElem? (i := 51) rfl)) (hw _ (List.mem_of_getElem? (i := 52) rfl)) own_d_prog_2_method_20_316 rfl rfl (by decide) (by decide) rfl (fun h10 a11 ga11 Eh10 Ba11 Da11 => ?_)
                    have la_a11 : a < a11 := by have := Fb.lt; rw [← ga11] at this; exact this
                    have lb_a11 : b < a11 := by have := A1.lt; rw [← ga11] at this; exact this
                    have Fb'h10 : Fld Z h10 a "com/example/dircred/dircred/credential/DerReader" "bytes" "[B" (.ref b) := Fld.ext Eh10 Fb
                    have Fe'h10 : Fld Z h10 a "com/example/dircred/dircred/credential/DerReader" "end" "I" (.int E) := Fld.ext Eh10 Fe
                    have A1'h10 : OwA Z h10 b .byte (L.map Value.int) := OwA.ext (E := Eh10) A1
                    have gea11 : n0 ≤ a11 := by rw [ga11]; exact hn0
                    have hsh10 : n0 ≤ h10.size := Nat.le_trans hn0 Eh10.1
                    have fra11 : h.size ≤ a11 := by rw [ga11]; exact K0.1
                    have Kh10 : Keep h h10 [] := Keep.ext K0 Eh10
                    have Fa11_tag : Fld Z h10 a11 "com/example/dircred/dircred/credential/DerReader$Header" "tag" "I" (.int (0 : Int32)) := Da11 (Or.inr (hw _ (List.mem_of_getElem? (i := 58) rfl))) (ty := .int) (by decide)
                    have Fa11_contentStart : Fld Z h10 a11 "com/example/dircred/dircred/credential/DerReader$Header" "contentStart" "I" (.int (0 : Int32)) := Da11 (Or.inr (hw _ (List.mem_of_getElem? (i := 60) rfl))) (ty := .int) (by decide)
                    have Fa11_length : Fld Z h10 a11 "com/example/dircred/dircred/credential/DerReader$Header" "length" "I" (.int (0 : Int32)) := Da11 (Or.inr (hw _ (List.mem_of_getElem? (i := 62) rfl))) (ty := .int) (by decide)
                    refine X.dup (q := 320) own_d_prog_2_method_20_319 rfl rfl ?_
                    refine X.iloadN (q := 321) own_d_prog_2_method_20_320 rfl rfl ?_
                    refine X.iloadN (q := 322) own_d_prog_2_method_20_321 rfl rfl ?_
                    refine X.foldI (v := S) (Int32.toInt_inj.mp (by omega)) ?_
                    refine X.iload (q := 324) own_d_prog_2_method_20_322 rfl rfl ?_
                    refine X.special (a := a11) (own_hi l Z a0 hw h10 n0 a11 T S Ln hsh10 Ba11 Fa11_tag Fa11_contentStart Fa11_length gea11) rfl (hw _ (List.mem_of_getElem? (i := 53) rfl)) (hw _ (List.mem_of_getElem? (i := 54) rfl)) (hw _ (List.mem_of_getElem? (i := 52) rfl)) (hw _ (List.mem_of_getElem? (i := 55) rfl)) (by decide) own_pd1 (argsL := [(.int T), (.int S), (.int Ln)]) (rest := [(.ref a11)]) rfl rfl rfl (W := 1) (Nat.le_of_eq rfl) rfl (by decide) (by decide) (k' := 1) (n' := 3) rfl rfl (by decide) (by decide) own_d_prog_2_method_20_324 (q := 327) rfl ?_
                    rintro _ h12 ⟨rfl, Kh12c, Gt, Gs, Gl⟩
                    have Fb'h12 : Fld Z h12 a "com/example/dircred/dircred/credential/DerReader" "bytes" "[B" (.ref b) := Fld.keep Fb'h10 Kh12c (ninS (Nat.ne_of_lt la_a11) nin0)
                    have Fe'h12 : Fld Z h12 a "com/example/dircred/dircred/credential/DerReader" "end" "I" (.int E) := Fld.keep Fe'h10 Kh12c (ninS (Nat.ne_of_lt la_a11) nin0)
                    have A1'h12 : OwA Z h12 b .byte (L.map Value.int) := OwA.keep A1'h10 Kh12c (ninS (Nat.ne_of_lt lb_a11) nin0)
                    have Ba11'h12 : Exa Z h12 a11 "com/example/dircred/dircred/credential/DerReader$Header" := Exa.keep Ba11 Kh12c
                    have hsh12 : n0 ≤ h12.size := Nat.le_trans hsh10 Kh12c.1
                    have Kh12 : Keep h h12 [] := Keep.trans Kh10 Kh12c (allS (Or.inr fra11) all0)
                    show X.G h12 1 3 327 #[.val (.ref a), .val (.int P), .val (.int Q1), .val (.int T), .val (.int L0), .val (.int Ln), .unset, .unset, .unset, .unset] [(.ref a11)]
                    refine X.retA (t := (.object "com/example/dircred/dircred/credential/DerReader$Header")) own_d_prog_2_method_20_327 rfl rfl rfl rfl (by decide) (by decide) ?_
                    exact ⟨a11, rfl, Kh12, fra11, Gt, Gs, Gl⟩
                  · omega
              · omega
            · omega
        · refine X.iload (q := 116) own_d_prog_2_method_20_114 rfl rfl ?_
          refine X.foldI (v := Ln) (Int32.toInt_inj.mp (by omega)) ?_
          refine X.istore (q := 118) (Ls' := #[.val (.ref a), .val (.int P), .val (.int Q1), .val (.int T), .val (.int L0), .val (.int Ln), .unset, .unset, .unset, .unset]) own_d_prog_2_method_20_116 rfl rfl ?_
          refine X.goto (q' := 265) own_d_prog_2_method_20_118 (by decide) ?_
          refine X.iload (q := 267) own_d_prog_2_method_20_265 rfl rfl ?_
          refine X.aloadN (q := 268) own_d_prog_2_method_20_267 rfl rfl rfl ?_
          refine X.getF (q := 271) (host := "") (Or.inl (hw _ (List.mem_of_getElem? (i := 17) rfl))) Via.refl Fe own_d_prog_2_method_20_268 rfl ?_
          refine X.iloadN (q := 272) own_d_prog_2_method_20_271 rfl rfl ?_
          refine X.isub (q := 273) own_d_prog_2_method_20_272 rfl ?_
          refine X.nmI (fun av2 hav2 => ?_)
          have hav2_ : av2.toInt = E.toInt - Q1.toInt := by rw [hav2, Int32.toInt_sub]; exact Int.bmod_eq_of_le (by omega) (by omega)
          clear hav2
          refine X.icmp_le (q' := 297) (q := 276) own_d_prog_2_method_20_273 rfl rfl (by decide) rfl (fun c273 => ?_) (fun c273 => ?_)
          · refine X.iloadN (q := 298) own_d_prog_2_method_20_297 rfl rfl ?_
            refine X.if_ne (q' := 316) (q := 301) own_d_prog_2_method_20_298 rfl (by decide) rfl (fun c298 => ?_) (fun c298 => ?_)
            · refine X.newO (q := 319) (k' := 1) (n' := 3) (hw _ (List.mem_of_getElem? (i := 50) rfl)) (hw _ (List.mem_of_getElem? (i := 51) rfl)) (hw _ (List.mem_of_getElem? (i := 52) rfl)) own_d_prog_2_method_20_316 rfl rfl (by decide) (by decide) rfl (fun h13 a14 ga14 Eh13 Ba14 Da14 => ?_)
              have la_a14 : a < a14 := by have := Fb.lt; rw [← ga14] at this; exact this
              have lb_a14 : b < a14 := by have := A1.lt; rw [← ga14] at this; exact this
              have Fb'h13 : Fld Z h13 a "com/example/dircred/dircred/credential/DerReader" "bytes" "[B" (.ref b) := Fld.ext Eh13 Fb
              have Fe'h13 : Fld Z h13 a "com/example/dircred/dircred/credential/DerReader" "end" "I" (.int E) := Fld.ext Eh13 Fe
              have A1'h13 : OwA Z h13 b .byte (L.map Value.int) := OwA.ext (E := Eh13) A1
              have gea14 : n0 ≤ a14 := by rw [ga14]; exact hn0
              have hsh13 : n0 ≤ h13.size := Nat.le_trans hn0 Eh13.1
              have fra14 : h.size ≤ a14 := by rw [ga14]; exact K0.1
              have Kh13 : Keep h h13 [] := Keep.ext K0 Eh13
              have Fa14_tag : Fld Z h13 a14 "com/example/dircred/dircred/credential/DerReader$Header" "tag" "I" (.int (0 : Int32)) := Da14 (Or.inr (hw _ (List.mem_of_getElem? (i := 58) rfl))) (ty := .int) (by decide)
              have Fa14_contentStart : Fld Z h13 a14 "com/example/dircred/dircred/credential/DerReader$Header" "contentStart" "I" (.int (0 : Int32)) := Da14 (Or.inr (hw _ (List.mem_of_getElem? (i := 60) rfl))) (ty := .int) (by decide)
              have Fa14_length : Fld Z h13 a14 "com/example/dircred/dircred/credential/DerReader$Header" "length" "I" (.int (0 : Int32)) := Da14 (Or.inr (hw _ (List.mem_of_getElem? (i := 62) rfl))) (ty := .int) (by decide)
              refine X.dup (q := 320) own_d_prog_2_method_20_319 rfl rfl ?_
              refine X.iloadN (q := 321) own_d_prog_2_method_20_320 rfl rfl ?_
              refine X.iloadN (q := 322) own_d_prog_2_method_20_321 rfl rfl ?_
              refine X.foldI (v := S) (Int32.toInt_inj.mp (by omega)) ?_
              refine X.iload (q := 324) own_d_prog_2_method_20_322 rfl rfl ?_
              refine X.special (a := a14) (own_hi l Z a0 hw h13 n0 a14 T S Ln hsh13 Ba14 Fa14_tag Fa14_contentStart Fa14_length gea14) rfl (hw _ (List.mem_of_getElem? (i := 53) rfl)) (hw _ (List.mem_of_getElem? (i := 54) rfl)) (hw _ (List.mem_of_getElem? (i := 52) rfl)) (hw _ (List.mem_of_getElem? (i := 55) rfl)) (by decide) own_pd1 (argsL := [(.int T), (.int S), (.int Ln)]) (rest := [(.ref a14)]) rfl rfl rfl (W := 1) (Nat.le_of_eq rfl) rfl (by decide) (by decide) (k' := 1) (n' := 3) rfl rfl (by decide) (by decide) own_d_prog_2_method_20_324 (q := 327) rfl ?_
              rintro _ h15 ⟨rfl, Kh15c, Gt, Gs, Gl⟩
              have Fb'h15 : Fld Z h15 a "com/example/dircred/dircred/credential/DerReader" "bytes" "[B" (.ref b) := Fld.keep Fb'h13 Kh15c (ninS (Nat.ne_of_lt la_a14) nin0)
              have Fe'h15 : Fld Z h15 a "com/example/dircred/dircred/credential/DerReader" "end" "I" (.int E) := Fld.keep Fe'h13 Kh15c (ninS (Nat.ne_of_lt la_a14) nin0)
              have A1'h15 : OwA Z h15 b .byte (L.map Value.int) := OwA.keep A1'h13 Kh15c (ninS (Nat.ne_of_lt lb_a14) nin0)
              have Ba14'h15 : Exa Z h15 a14 "com/example/dircred/dircred/credential/DerReader$Header" := Exa.keep Ba14 Kh15c
              have hsh15 : n0 ≤ h15.size := Nat.le_trans hsh13 Kh15c.1
              have Kh15 : Keep h h15 [] := Keep.trans Kh13 Kh15c (allS (Or.inr fra14) all0)
              show X.G h15 1 3 327 #[.val (.ref a), .val (.int P), .val (.int Q1), .val (.int T), .val (.int L0), .val (.int Ln), .unset, .unset, .unset, .unset] [(.ref a14)]
              refine X.retA (t := (.object "com/example/dircred/dircred/credential/DerReader$Header")) own_d_prog_2_method_20_327 rfl rfl rfl rfl (by decide) (by decide) ?_
              exact ⟨a14, rfl, Kh15, fra14, Gt, Gs, Gl⟩
            · refine X.iload (q := 303) own_d_prog_2_method_20_301 rfl rfl ?_
              refine X.if_eq (q' := 316) (q := 306) own_d_prog_2_method_20_303 rfl (by decide) rfl (fun c303 => ?_) (fun c303 => ?_)
              · refine X.newO (q := 319) (k' := 1) (n' := 3) (hw _ (List.mem_of_getElem? (i := 50) rfl)) (hw _ (List.mem_of_getElem? (i := 51) rfl)) (hw _ (List.mem_of_getElem? (i := 52) rfl)) own_d_prog_2_method_20_316 rfl rfl (by decide) (by decide) rfl (fun h16 a17 ga17 Eh16 Ba17 Da17 => ?_)
                have la_a17 : a < a17 := by have := Fb.lt; rw [← ga17] at this; exact this
                have lb_a17 : b < a17 := by have := A1.lt; rw [← ga17] at this; exact this
                have Fb'h16 : Fld Z h16 a "com/example/dircred/dircred/credential/DerReader" "bytes" "[B" (.ref b) := Fld.ext Eh16 Fb
                have Fe'h16 : Fld Z h16 a "com/example/dircred/dircred/credential/DerReader" "end" "I" (.int E) := Fld.ext Eh16 Fe
                have A1'h16 : OwA Z h16 b .byte (L.map Value.int) := OwA.ext (E := Eh16) A1
                have gea17 : n0 ≤ a17 := by rw [ga17]; exact hn0
                have hsh16 : n0 ≤ h16.size := Nat.le_trans hn0 Eh16.1
                have fra17 : h.size ≤ a17 := by rw [ga17]; exact K0.1
                have Kh16 : Keep h h16 [] := Keep.ext K0 Eh16
                have Fa17_tag : Fld Z h16 a17 "com/example/dircred/dircred/credential/DerReader$Header" "tag" "I" (.int (0 : Int32)) := Da17 (Or.inr (hw _ (List.mem_of_getElem? (i := 58) rfl))) (ty := .int) (by decide)
                have Fa17_contentStart : Fld Z h16 a17 "com/example/dircred/dircred/credential/DerReader$Header" "contentStart" "I" (.int (0 : Int32)) := Da17 (Or.inr (hw _ (List.mem_of_getElem? (i := 60) rfl))) (ty := .int) (by decide)
                have Fa17_length : Fld Z h16 a17 "com/example/dircred/dircred/credential/DerReader$Header" "length" "I" (.int (0 : Int32)) := Da17 (Or.inr (hw _ (List.mem_of_getElem? (i := 62) rfl))) (ty := .int) (by decide)
                refine X.dup (q := 320) own_d_prog_2_method_20_319 rfl rfl ?_
                refine X.iloadN (q := 321) own_d_prog_2_method_20_320 rfl rfl ?_
                refine X.iloadN (q := 322) own_d_prog_2_method_20_321 rfl rfl ?_
                refine X.foldI (v := S) (Int32.toInt_inj.mp (by omega)) ?_
                refine X.iload (q := 324) own_d_prog_2_method_20_322 rfl rfl ?_
                refine X.special (a := a17) (own_hi l Z a0 hw h16 n0 a17 T S Ln hsh16 Ba17 Fa17_tag Fa17_contentStart Fa17_length gea17) rfl (hw _ (List.mem_of_getElem? (i := 53) rfl)) (hw _ (List.mem_of_getElem? (i := 54) rfl)) (hw _ (List.mem_of_getElem? (i := 52) rfl)) (hw _ (List.mem_of_getElem? (i := 55) rfl)) (by decide) own_pd1 (argsL := [(.int T), (.int S), (.int Ln)]) (rest := [(.ref a17)]) rfl rfl rfl (W := 1) (Nat.le_of_eq rfl) rfl (by decide) (by decide) (k' := 1) (n' := 3) rfl rfl (by decide) (by decide) own_d_prog_2_method_20_324 (q := 327) rfl ?_
                rintro _ h18 ⟨rfl, Kh18c, Gt, Gs, Gl⟩
                have Fb'h18 : Fld Z h18 a "com/example/dircred/dircred/credential/DerReader" "bytes" "[B" (.ref b) := Fld.keep Fb'h16 Kh18c (ninS (Nat.ne_of_lt la_a17) nin0)
                have Fe'h18 : Fld Z h18 a "com/example/dircred/dircred/credential/DerReader" "end" "I" (.int E) := Fld.keep Fe'h16 Kh18c (ninS (Nat.ne_of_lt la_a17) nin0)
                have A1'h18 : OwA Z h18 b .byte (L.map Value.int) := OwA.keep A1'h16 Kh18c (ninS (Nat.ne_of_lt lb_a17) nin0)
                have Ba17'h18 : Exa Z h18 a17 "com/example/dircred/dircred/credential/DerReader$Header" := Exa.keep Ba17 Kh18c
                have hsh18 : n0 ≤ h18.size := Nat.le_trans hsh16 Kh18c.1
                have Kh18 : Keep h h18 [] := Keep.trans Kh16 Kh18c (allS (Or.inr fra17) all0)
                show X.G h18 1 3 327 #[.val (.ref a), .val (.int P), .val (.int Q1), .val (.int T), .val (.int L0), .val (.int Ln), .unset, .unset, .unset, .unset] [(.ref a17)]
                refine X.retA (t := (.object "com/example/dircred/dircred/credential/DerReader$Header")) own_d_prog_2_method_20_327 rfl rfl rfl rfl (by decide) (by decide) ?_
                exact ⟨a17, rfl, Kh18, fra17, Gt, Gs, Gl⟩
              · omega
          · omega
      · omega
    refine X.iloadN (q := 35) own_d_prog_2_method_20_34 rfl rfl ?_
    refine X.bipush (q := 37) (31 : Int32) own_d_prog_2_method_20_35 (by decide) rfl ?_
    refine X.iand (q := 38) own_d_prog_2_method_20_37 rfl ?_
    refine X.nmI (fun t31 ht31 => ?_)
    have ht31_ : t31.toInt = T.toInt % 32 := by rw [ht31, Jvm.Kit.i32_mask (k := 5) _ _ (by decide) (by decide)]; rfl
    clear ht31
    refine X.bipush (q := 40) (31 : Int32) own_d_prog_2_method_20_38 (by decide) rfl ?_
    refine X.icmp_ne (b := 31) (q' := 73) (q := 43) own_d_prog_2_method_20_40 rfl rfl (by decide) rfl (fun c40 => ?_) (fun c40 => ?_)
    · exact J73 _ (by first | omega | (rw [own_add (b := 1) rfl (by omega) (by omega)]; omega))
    · refine X.iloadN (q := 44) own_d_prog_2_method_20_43 rfl rfl ?_
      refine X.aloadN (q := 45) own_d_prog_2_method_20_44 rfl rfl rfl ?_
      refine X.getF (q := 48) (host := "") (Or.inl (hw _ (List.mem_of_getElem? (i := 17) rfl))) Via.refl Fe own_d_prog_2_method_20_45 rfl ?_
      refine X.icmp_ge (q' := 70) (q := 51) own_d_prog_2_method_20_48 rfl rfl (by decide) rfl (fun c48 => ?_) (fun c48 => ?_)
      · omega
      · refine X.aloadN (q := 52) own_d_prog_2_method_20_51 rfl rfl rfl ?_
        refine X.getF (q := 55) (host := "") (Or.inl (hw _ (List.mem_of_getElem? (i := 13) rfl))) Via.refl Fb own_d_prog_2_method_20_52 rfl ?_
        refine X.iloadN (q := 56) own_d_prog_2_method_20_55 rfl rfl ?_
        refine X.baload (q := 57) (j := p + 1) (v := (.int (L.getD (p + 1) 0))) A1 hP1_ (own_hB L _ (by omega)) own_d_prog_2_method_20_56 rfl ?_
        refine X.sipush (q := 60) (128 : Int32) own_d_prog_2_method_20_57 (by decide) rfl ?_
        refine X.iand (q := 61) own_d_prog_2_method_20_60 rfl ?_
        refine X.nmI (fun b7P1 hb7P1 => ?_)
        have hb7P1_ := own_b7 (L.getD (p + 1) 0) (own_rng hr _).1 (own_rng hr _).2
        rw [← hb7P1] at hb7P1_
        clear hb7P1
        refine X.if_eq (q' := 70) (q := 64) own_d_prog_2_method_20_61 rfl (by decide) rfl (fun c61 => ?_) (fun c61 => ?_)
        · refine X.iinc (q := 73) (Ls' := #[.val (.ref a), .val (.int P), .val (.int (P1 + (1 : Int32))), .val (.int T), .unset, .unset, .unset, .unset, .unset, .unset]) (1 : Int32) own_d_prog_2_method_20_70 (by decide) rfl rfl rfl ?_
          exact J73 _ (by first | omega | (rw [own_add (b := 1) rfl (by omega) (by omega)]; omega))
        · refine X.iinc (q := 67) (Ls' := #[.val (.ref a), .val (.int P), .val (.int (P1 + (1 : Int32))), .val (.int T), .unset, .unset, .unset, .unset, .unset, .unset]) (1 : Int32) own_d_prog_2_method_20_64 (by decide) rfl rfl rfl ?_
          have hP2_ : (P1 + (1 : Int32)).toInt = P1.toInt + 1 := own_add (b := 1) rfl (by omega) (by omega)
          obtain ⟨P2, hdP2⟩ : ∃ v_ : Int32, v_ = (P1 + (1 : Int32)) := ⟨_, rfl⟩
          rw [← hdP2]
          rw [← hdP2] at hP2_
          clear hdP2
          have hP2_ : P2.toInt = ((p + 2 : Nat) : Int) := by omega
          refine X.goto (q' := 43) own_d_prog_2_method_20_67 (by decide) ?_
          refine X.iloadN (q := 44) own_d_prog_2_method_20_43 rfl rfl ?_
          refine X.aloadN (q := 45) own_d_prog_2_method_20_44 rfl rfl rfl ?_
          refine X.getF (q := 48) (host := "") (Or.inl (hw _ (List.mem_of_getElem? (i := 17) rfl))) Via.refl Fe own_d_prog_2_method_20_45 rfl ?_
          refine X.icmp_ge (q' := 70) (q := 51) own_d_prog_2_method_20_48 rfl rfl (by decide) rfl (fun c48 => ?_) (fun c48 => ?_)
          · omega
          · refine X.aloadN (q := 52) own_d_prog_2_method_20_51 rfl rfl rfl ?_
            refine X.getF (q := 55) (host := "") (Or.inl (hw _ (List.mem_of_getElem? (i := 13) rfl))) Via.refl Fb own_d_prog_2_method_20_52 rfl ?_
            refine X.iloadN (q := 56) own_d_prog_2_method_20_55 rfl rfl ?_
            refine X.baload (q := 57) (j := p + 2) (v := (.int (L.getD (p + 2) 0))) A1 hP2_ (own_hB L _ (by omega)) own_d_prog_2_method_20_56 rfl ?_
            refine X.sipush (q := 60) (128 : Int32) own_d_prog_2_method_20_57 (by decide) rfl ?_
            refine X.iand (q := 61) own_d_prog_2_method_20_60 rfl ?_
            refine X.nmI (fun b7P2 hb7P2 => ?_)
            have hb7P2_ := own_b7 (L.getD (p + 2) 0) (own_rng hr _).1 (own_rng hr _).2
            rw [← hb7P2] at hb7P2_
            clear hb7P2
            refine X.if_eq (q' := 70) (q := 64) own_d_prog_2_method_20_61 rfl (by decide) rfl (fun c61 => ?_) (fun c61 => ?_)
            · refine X.iinc (q := 73) (Ls' := #[.val (.ref a), .val (.int P), .val (.int (P2 + (1 : Int32))), .val (.int T), .unset, .unset, .unset, .unset, .unset, .unset]) (1 : Int32) own_d_prog_2_method_20_70 (by decide) rfl rfl rfl ?_
              exact J73 _ (by first | omega | (rw [own_add (b := 1) rfl (by omega) (by omega)]; omega))
            · omega
  · omega
theorem own_d_prog_2_method_18_0 : decode prog_2_method_18_code 0 = .ok (.aload_n 0, 1) := by decide +kernel
theorem own_d_prog_2_method_18_1 : decode prog_2_method_18_code 1 = .ok (.aload_n 0, 1) := by decide +kernel
theorem own_d_prog_2_method_18_2 : decode prog_2_method_18_code 2 = .ok (.getfield 16, 3) := by decide +kernel
theorem own_d_prog_2_method_18_5 : decode prog_2_method_18_code 5 = .ok (.invokevirtual 35, 3) := by decide +kernel
theorem own_pd2 : parseMethodDescriptor "(I)Lcom/example/dircred/dircred/credential/DerReader$Header;" = some ⟨[.int], some (.object "com/example/dircred/dircred/credential/DerReader$Header")⟩ := by decide +kernel
theorem own_d_prog_2_method_18_8 : decode prog_2_method_18_code 8 = .ok (.astore_n 1, 1) := by decide +kernel
theorem own_d_prog_2_method_18_9 : decode prog_2_method_18_code 9 = .ok (.aload_n 1, 1) := by decide +kernel
theorem own_d_prog_2_method_18_10 : decode prog_2_method_18_code 10 = .ok (.getfield 140, 3) := by decide +kernel
theorem own_d_prog_2_method_18_13 : decode prog_2_method_18_code 13 = .ok (.ifCond .lt 36, 3) := by decide +kernel
theorem own_d_prog_2_method_18_16 : decode prog_2_method_18_code 16 = .ok (.aload_n 1, 1) := by decide +kernel
theorem own_d_prog_2_method_18_17 : decode prog_2_method_18_code 17 = .ok (.getfield 142, 3) := by decide +kernel
theorem own_d_prog_2_method_18_20 : decode prog_2_method_18_code 20 = .ok (.aload_n 1, 1) := by decide +kernel
theorem own_d_prog_2_method_18_21 : decode prog_2_method_18_code 21 = .ok (.getfield 140, 3) := by decide +kernel
theorem own_d_prog_2_method_18_24 : decode prog_2_method_18_code 24 = .ok (.iadd, 1) := by decide +kernel
theorem own_d_prog_2_method_18_25 : decode prog_2_method_18_code 25 = .ok (.istore_n 2, 1) := by decide +kernel
theorem own_d_prog_2_method_18_26 : decode prog_2_method_18_code 26 = .ok (.aload_n 0, 1) := by decide +kernel
theorem own_d_prog_2_method_18_27 : decode prog_2_method_18_code 27 = .ok (.iload_n 2, 1) := by decide +kernel
theorem own_d_prog_2_method_18_28 : decode prog_2_method_18_code 28 = .ok (.putfield 16, 3) := by decide +kernel
theorem own_d_prog_2_method_18_31 : decode prog_2_method_18_code 31 = .ok (.new 57, 3) := by decide +kernel
theorem own_d_prog_2_method_18_34 : decode prog_2_method_18_code 34 = .ok (.dup, 1) := by decide +kernel
theorem own_d_prog_2_method_18_35 : decode prog_2_method_18_code 35 = .ok (.aload_n 1, 1) := by decide +kernel
theorem own_d_prog_2_method_18_36 : decode prog_2_method_18_code 36 = .ok (.getfield 39, 3) := by decide +kernel
theorem own_d_prog_2_method_18_39 : decode prog_2_method_18_code 39 = .ok (.aload_n 1, 1) := by decide +kernel
theorem own_d_prog_2_method_18_40 : decode prog_2_method_18_code 40 = .ok (.getfield 142, 3) := by decide +kernel
theorem own_d_prog_2_method_18_43 : decode prog_2_method_18_code 43 = .ok (.iload_n 2, 1) := by decide +kernel
theorem own_d_prog_2_method_18_44 : decode prog_2_method_18_code 44 = .ok (.iload_n 2, 1) := by decide +kernel
theorem own_d_prog_2_method_18_45 : decode prog_2_method_18_code 45 = .ok (.invokespecial 143, 3) := by decide +kernel
theorem own_pd3 : parseMethodDescriptor "(IIII)V" = some ⟨[.int, .int, .int, .int], none⟩ := by decide +kernel
theorem own_d_prog_2_method_18_48 : decode prog_2_method_18_code 48 = .ok (.areturn, 1) := by decide +kernel
def own_rm_own_next : Room := ({ frames := 3, cells := 2, slots := 7, locals := 49 } : Room)
set_option maxRecDepth 65536 in
set_option maxHeartbeats 40000000 in
theorem own_next (l : Launch) (Z : State) (a0 : Array Value) (hw : ∀ d ∈ tables_1, d.before a0 Z = true) (h : Heap) (n0 : Nat) (a b : Addr) (L : List Int32) (P E : Int32) (p : Nat) (T : Int32) (q s : Nat) (S Ln : Int32) (hr : ∀ x ∈ L, -128 ≤ x.toInt ∧ x.toInt ≤ 127) (hE : E.toInt = (L.length : Int)) (hN : L.length < 1000) (hP : P.toInt = (p : Int)) (H : own_hdr L p T q s S Ln) (E2 : Int32) (hE2 : E2.toInt = (s : Int) + Ln.toInt) (hLn : 0 ≤ Ln.toInt)  (hn0 : n0 ≤ h.size) (B : Exa Z h a "com/example/dircred/dircred/credential/DerReader") (Fb : Fld Z h a "com/example/dircred/dircred/credential/DerReader" "bytes" "[B" (.ref b)) (Fp : Fld Z h a "com/example/dircred/dircred/credential/DerReader" "position" "I" (.int P)) (Fe : Fld Z h a "com/example/dircred/dircred/credential/DerReader" "end" "I" (.int E)) (A1 : OwA Z h b .byte (L.map Value.int)) (gea : n0 ≤ a) (neab : a ≠ b) :
    OwM l Z (⟨"com/example/dircred/dircred/credential/DerReader", "next", "()Lcom/example/dircred/dircred/credential/DerReader$Value;"⟩ : MethodName) prog_2_method_18_code 5 (some (.object "com/example/dircred/dircred/credential/DerReader$Value")) own_rm_own_next 2 7 [] #[(.ref a)] h n0 (fun r h' => ∃ b', r = some (.ref b') ∧ Keep h h' [a] ∧ h.size ≤ b' ∧ Fld Z h' b' "com/example/dircred/dircred/credential/DerReader$Value" "tag" "I" (.int T) ∧ Fld Z h' b' "com/example/dircred/dircred/credential/DerReader$Value" "contentStart" "I" (.int S) ∧ Fld Z h' b' "com/example/dircred/dircred/credential/DerReader$Value" "contentEnd" "I" (.int E2) ∧ Fld Z h' b' "com/example/dircred/dircred/credential/DerReader$Value" "end" "I" (.int E2) ∧ Fld Z h' a "com/example/dircred/dircred/credential/DerReader" "bytes" "[B" (.ref b) ∧ Fld Z h' a "com/example/dircred/dircred/credential/DerReader" "position" "I" (.int E2) ∧ Fld Z h' a "com/example/dircred/dircred/credential/DerReader" "end" "I" (.int E)) := by
  refine OwM.of (Ls := #[.val (.ref a), .unset, .unset, .unset, .unset]) (by decide +kernel) (fun m => by first | (simp [entryFrame, mkF, argsToLocals, Value.category]; done) | rfl) ?_
  intro _ _ _ _ _ _ _ X
  have K0 : Keep h h [a] := Keep.refl _ _
  have H5 : S.toInt = (s : Int) := H.2.2.2.2.1
  have H7 : Ln.toInt ≤ (L.length : Int) - s := H.2.2.2.2.2.2.1
  refine X.aloadN (q := 1) own_d_prog_2_method_18_0 rfl rfl rfl ?_
  refine X.aloadN (q := 2) own_d_prog_2_method_18_1 rfl rfl rfl ?_
  refine X.getF (q := 5) (host := "") (Or.inl (hw _ (List.mem_of_getElem? (i := 15) rfl))) Via.refl Fp own_d_prog_2_method_18_2 rfl ?_
  refine X.private (a := a) (own_header l Z a0 hw h n0 a b L P E p T q s S Ln hr hE hN hP H hn0 Fb Fe A1) (hw _ (List.mem_of_getElem? (i := 46) rfl)) (hw _ (List.mem_of_getElem? (i := 47) rfl)) (hw _ (List.mem_of_getElem? (i := 48) rfl)) (hw _ (List.mem_of_getElem? (i := 2) rfl)) (hw _ (List.mem_of_getElem? (i := 3) rfl)) (hw _ (List.mem_of_getElem? (i := 49) rfl)) (by decide) B own_pd2 (argsL := [(.int P)]) (rest := []) rfl rfl rfl (W := 0) (Nat.le_of_eq rfl) rfl (by decide) (by decide) (k' := 1) (n' := 3) rfl rfl (by decide) (by decide) own_d_prog_2_method_18_5 (q := 8) rfl ?_
  rintro _ h1 ⟨hb, rfl, Kh1c, frhb, Ghbt, Ghbs, Ghbl⟩
  have B'h1 : Exa Z h1 a "com/example/dircred/dircred/credential/DerReader" := Exa.keep B Kh1c
  have Fb'h1 : Fld Z h1 a "com/example/dircred/dircred/credential/DerReader" "bytes" "[B" (.ref b) := Fld.keep Fb Kh1c nin0
  have Fp'h1 : Fld Z h1 a "com/example/dircred/dircred/credential/DerReader" "position" "I" (.int P) := Fld.keep Fp Kh1c nin0
  have Fe'h1 : Fld Z h1 a "com/example/dircred/dircred/credential/DerReader" "end" "I" (.int E) := Fld.keep Fe Kh1c nin0
  have A1'h1 : OwA Z h1 b .byte (L.map Value.int) := OwA.keep A1 Kh1c nin0
  have hsh1 : n0 ≤ h1.size := Nat.le_trans hn0 Kh1c.1
  have Kh1 : Keep h h1 [a] := Keep.trans K0 Kh1c all0
  show X.G h1 1 3 8 #[.val (.ref a), .unset, .unset, .unset, .unset] [(.ref hb)]
  have lahb : a < hb := Nat.lt_of_lt_of_le B.lt frhb
  have lbhb : b < hb := Nat.lt_of_lt_of_le A1.lt frhb
  have fr0hb : h.size ≤ hb := Nat.le_trans K0.1 frhb
  have gehb : n0 ≤ hb := Nat.le_trans hn0 frhb
  refine X.astoreN (q := 9) (Ls' := #[.val (.ref a), .val (.ref hb), .unset, .unset, .unset]) own_d_prog_2_method_18_8 rfl rfl rfl ?_
  refine X.aloadN (q := 10) own_d_prog_2_method_18_9 rfl rfl rfl ?_
  refine X.getR (q := 13) (hw _ (List.mem_of_getElem? (i := 63) rfl)) Ghbl own_d_prog_2_method_18_10 rfl ?_
  refine X.if_lt (q' := 49) (q := 16) own_d_prog_2_method_18_13 rfl (by decide) rfl (fun c13 => ?_) (fun c13 => ?_)
  · omega
  · refine X.aloadN (q := 17) own_d_prog_2_method_18_16 rfl rfl rfl ?_
    refine X.getR (q := 20) (hw _ (List.mem_of_getElem? (i := 64) rfl)) Ghbs own_d_prog_2_method_18_17 rfl ?_
    refine X.aloadN (q := 21) own_d_prog_2_method_18_20 rfl rfl rfl ?_
    refine X.getR (q := 24) (hw _ (List.mem_of_getElem? (i := 63) rfl)) Ghbl own_d_prog_2_method_18_21 rfl ?_
    refine X.iadd (q := 25) own_d_prog_2_method_18_24 rfl ?_
    refine X.foldI (v := E2) (Int32.toInt_inj.mp (by rw [own_add rfl (by omega) (by omega)]; omega)) ?_
    refine X.istoreN (q := 26) (Ls' := #[.val (.ref a), .val (.ref hb), .val (.int E2), .unset, .unset]) own_d_prog_2_method_18_25 rfl rfl ?_
    refine X.aloadN (q := 27) own_d_prog_2_method_18_26 rfl rfl rfl ?_
    refine X.iloadN (q := 28) own_d_prog_2_method_18_27 rfl rfl ?_
    refine X.putF (q := 31) (host := "") (Or.inl (hw _ (List.mem_of_getElem? (i := 15) rfl))) Via.refl Fp'h1 B'h1 (Or.inl (hw _ (List.mem_of_getElem? (i := 16) rfl))) (hw _ (List.mem_of_getElem? (i := 2) rfl)) (ty := .int) (by decide) rfl rfl gea own_d_prog_2_method_18_28 rfl (fun h2 Wh2 => ?_)
    have B'h2 : Exa Z h2 a "com/example/dircred/dircred/credential/DerReader" := Exa.wr Wh2 B'h1
    have Fb'h2 : Fld Z h2 a "com/example/dircred/dircred/credential/DerReader" "bytes" "[B" (.ref b) := Fld.other Wh2 Fb'h1 (Or.inr (slot_ne (Or.inr (hw _ (List.mem_of_getElem? (i := 14) rfl))) (Or.inl (hw _ (List.mem_of_getElem? (i := 16) rfl))) (by decide) (ht := (by decide : _ = some (.array .byte))) (ht' := (by decide : _ = some .int))))
    have Fp'h2 : Fld Z h2 a "com/example/dircred/dircred/credential/DerReader" "position" "I" (.int E2) := Fld.same Wh2 Fp'h1
    have Fe'h2 : Fld Z h2 a "com/example/dircred/dircred/credential/DerReader" "end" "I" (.int E) := Fld.other Wh2 Fe'h1 (Or.inr (slot_ne (Or.inr (hw _ (List.mem_of_getElem? (i := 18) rfl))) (Or.inl (hw _ (List.mem_of_getElem? (i := 16) rfl))) (by decide) (ht := (by decide : _ = some .int)) (ht' := (by decide : _ = some .int))))
    have A1'h2 : OwA Z h2 b .byte (L.map Value.int) := OwA.other A1'h1 Wh2 (Ne.symm neab)
    have Ghbt'h2 : Fld Z h2 hb "com/example/dircred/dircred/credential/DerReader$Header" "tag" "I" (.int T) := Fld.other Wh2 Ghbt (Or.inl (Nat.ne_of_gt lahb))
    have Ghbs'h2 : Fld Z h2 hb "com/example/dircred/dircred/credential/DerReader$Header" "contentStart" "I" (.int S) := Fld.other Wh2 Ghbs (Or.inl (Nat.ne_of_gt lahb))
    have Ghbl'h2 : Fld Z h2 hb "com/example/dircred/dircred/credential/DerReader$Header" "length" "I" (.int Ln) := Fld.other Wh2 Ghbl (Or.inl (Nat.ne_of_gt lahb))
    have hsh2 : n0 ≤ h2.size := by rw [Wr.size Wh2]; exact hsh1
    have Kh2 : Keep h h2 [a] := Keep.wr Kh1 Wh2 (Or.inl (List.mem_of_getElem? (i := 0) rfl))
    refine X.newO (q := 34) (k' := 2) (n' := 7) (hw _ (List.mem_of_getElem? (i := 66) rfl)) (hw _ (List.mem_of_getElem? (i := 67) rfl)) (hw _ (List.mem_of_getElem? (i := 68) rfl)) own_d_prog_2_method_18_31 rfl rfl (by decide) (by decide) rfl (fun h3 a4 ga4 Eh3 Ba4 Da4 => ?_)
    have la_a4 : a < a4 := by have := B'h2.lt; rw [← ga4] at this; exact this
    have lb_a4 : b < a4 := by have := A1'h2.lt; rw [← ga4] at this; exact this
    have lhb_a4 : hb < a4 := by have := Ghbt'h2.lt; rw [← ga4] at this; exact this
    have B'h3 : Exa Z h3 a "com/example/dircred/dircred/credential/DerReader" := Exa.ext Eh3 B'h2
    have Fb'h3 : Fld Z h3 a "com/example/dircred/dircred/credential/DerReader" "bytes" "[B" (.ref b) := Fld.ext Eh3 Fb'h2
    have Fp'h3 : Fld Z h3 a "com/example/dircred/dircred/credential/DerReader" "position" "I" (.int E2) := Fld.ext Eh3 Fp'h2
    have Fe'h3 : Fld Z h3 a "com/example/dircred/dircred/credential/DerReader" "end" "I" (.int E) := Fld.ext Eh3 Fe'h2
    have A1'h3 : OwA Z h3 b .byte (L.map Value.int) := OwA.ext (E := Eh3) A1'h2
    have Ghbt'h3 : Fld Z h3 hb "com/example/dircred/dircred/credential/DerReader$Header" "tag" "I" (.int T) := Fld.ext Eh3 Ghbt'h2
    have Ghbs'h3 : Fld Z h3 hb "com/example/dircred/dircred/credential/DerReader$Header" "contentStart" "I" (.int S) := Fld.ext Eh3 Ghbs'h2
    have Ghbl'h3 : Fld Z h3 hb "com/example/dircred/dircred/credential/DerReader$Header" "length" "I" (.int Ln) := Fld.ext Eh3 Ghbl'h2
    have gea4 : n0 ≤ a4 := by rw [ga4]; exact hsh2
    have hsh3 : n0 ≤ h3.size := Nat.le_trans hsh2 Eh3.1
    have fra4 : h.size ≤ a4 := by rw [ga4]; exact Kh2.1
    have Kh3 : Keep h h3 [a] := Keep.ext Kh2 Eh3
    have Fa4_tag : Fld Z h3 a4 "com/example/dircred/dircred/credential/DerReader$Value" "tag" "I" (.int (0 : Int32)) := Da4 (Or.inr (hw _ (List.mem_of_getElem? (i := 74) rfl))) (ty := .int) (by decide)
    have Fa4_contentStart : Fld Z h3 a4 "com/example/dircred/dircred/credential/DerReader$Value" "contentStart" "I" (.int (0 : Int32)) := Da4 (Or.inr (hw _ (List.mem_of_getElem? (i := 76) rfl))) (ty := .int) (by decide)
    have Fa4_contentEnd : Fld Z h3 a4 "com/example/dircred/dircred/credential/DerReader$Value" "contentEnd" "I" (.int (0 : Int32)) := Da4 (Or.inr (hw _ (List.mem_of_getElem? (i := 78) rfl))) (ty := .int) (by decide)
    have Fa4_end : Fld Z h3 a4 "com/example/dircred/dircred/credential/DerReader$Value" "end" "I" (.int (0 : Int32)) := Da4 (Or.inr (hw _ (List.mem_of_getElem? (i := 80) rfl))) (ty := .int) (by decide)
    refine X.dup (q := 35) own_d_prog_2_method_18_34 rfl rfl ?_
    refine X.aloadN (q := 36) own_d_prog_2_method_18_35 rfl rfl rfl ?_
    refine X.getR (q := 39) (hw _ (List.mem_of_getElem? (i := 65) rfl)) Ghbt'h3 own_d_prog_2_method_18_36 rfl ?_
    refine X.aloadN (q := 40) own_d_prog_2_method_18_39 rfl rfl rfl ?_
    refine X.getR (q := 43) (hw _ (List.mem_of_getElem? (i := 64) rfl)) Ghbs'h3 own_d_prog_2_method_18_40 rfl ?_
    refine X.iloadN (q := 44) own_d_prog_2_method_18_43 rfl rfl ?_
    refine X.iloadN (q := 45) own_d_prog_2_method_18_44 rfl rfl ?_
    refine X.special (a := a4) (own_vi l Z a0 hw h3 n0 a4 T S E2 E2 hsh3 Ba4 Fa4_tag Fa4_contentStart Fa4_contentEnd Fa4_end gea4) rfl (hw _ (List.mem_of_getElem? (i := 69) rfl)) (hw _ (List.mem_of_getElem? (i := 70) rfl)) (hw _ (List.mem_of_getElem? (i := 68) rfl)) (hw _ (List.mem_of_getElem? (i := 71) rfl)) (by decide) own_pd3 (argsL := [(.int T), (.int S), (.int E2), (.int E2)]) (rest := [(.ref a4)]) rfl rfl rfl (W := 1) (Nat.le_of_eq rfl) rfl (by decide) (by decide) (k' := 2) (n' := 7) rfl rfl (by decide) (by decide) own_d_prog_2_method_18_45 (q := 48) rfl ?_
    rintro _ h5 ⟨rfl, Kh5c, Vt, Vs, Vc, Ve⟩
    have B'h5 : Exa Z h5 a "com/example/dircred/dircred/credential/DerReader" := Exa.keep B'h3 Kh5c
    have Fb'h5 : Fld Z h5 a "com/example/dircred/dircred/credential/DerReader" "bytes" "[B" (.ref b) := Fld.keep Fb'h3 Kh5c (ninS (Nat.ne_of_lt la_a4) nin0)
    have Fp'h5 : Fld Z h5 a "com/example/dircred/dircred/credential/DerReader" "position" "I" (.int E2) := Fld.keep Fp'h3 Kh5c (ninS (Nat.ne_of_lt la_a4) nin0)
    have Fe'h5 : Fld Z h5 a "com/example/dircred/dircred/credential/DerReader" "end" "I" (.int E) := Fld.keep Fe'h3 Kh5c (ninS (Nat.ne_of_lt la_a4) nin0)
    have A1'h5 : OwA Z h5 b .byte (L.map Value.int) := OwA.keep A1'h3 Kh5c (ninS (Nat.ne_of_lt lb_a4) nin0)
    have Ghbt'h5 : Fld Z h5 hb "com/example/dircred/dircred/credential/DerReader$Header" "tag" "I" (.int T) := Fld.keep Ghbt'h3 Kh5c (ninS (Nat.ne_of_lt lhb_a4) nin0)
    have Ghbs'h5 : Fld Z h5 hb "com/example/dircred/dircred/credential/DerReader$Header" "contentStart" "I" (.int S) := Fld.keep Ghbs'h3 Kh5c (ninS (Nat.ne_of_lt lhb_a4) nin0)
    have Ghbl'h5 : Fld Z h5 hb "com/example/dircred/dircred/credential/DerReader$Header" "length" "I" (.int Ln) := Fld.keep Ghbl'h3 Kh5c (ninS (Nat.ne_of_lt lhb_a4) nin0)
    have Ba4'h5 : Exa Z h5 a4 "com/example/dircred/dircred/credential/DerReader$Value" := Exa.keep Ba4 Kh5c
    have hsh5 : n0 ≤ h5.size := Nat.le_trans hsh3 Kh5c.1
    have Kh5 : Keep h h5 [a] := Keep.trans Kh3 Kh5c (allS (Or.inr fra4) all0)
    show X.G h5 2 7 48 #[.val (.ref a), .val (.ref hb), .val (.int E2), .unset, .unset] [(.ref a4)]
    refine X.retA (t := (.object "com/example/dircred/dircred/credential/DerReader$Value")) own_d_prog_2_method_18_48 rfl rfl rfl rfl (by decide) (by decide) ?_
    exact ⟨a4, rfl, Kh5, fra4, Vt, Vs, Vc, Ve, Fb'h5, Fp'h5, Fe'h5⟩
theorem own_d_prog_2_method_14_0 : decode prog_2_method_14_code 0 = .ok (.aload_n 0, 1) := by decide +kernel
theorem own_d_prog_2_method_14_1 : decode prog_2_method_14_code 1 = .ok (.invokevirtual 110, 3) := by decide +kernel
theorem own_pd4 : parseMethodDescriptor "()Lcom/example/dircred/dircred/credential/DerReader$Value;" = some ⟨[], some (.object "com/example/dircred/dircred/credential/DerReader$Value")⟩ := by decide +kernel
theorem own_d_prog_2_method_14_4 : decode prog_2_method_14_code 4 = .ok (.pop, 1) := by decide +kernel
theorem own_d_prog_2_method_14_5 : decode prog_2_method_14_code 5 = .ok (.return_, 1) := by decide +kernel
def own_rm_own_skip : Room := ({ frames := 4, cells := 2, slots := 7, locals := 65 } : Room)
set_option maxRecDepth 65536 in
set_option maxHeartbeats 40000000 in
theorem own_skip (l : Launch) (Z : State) (a0 : Array Value) (hw : ∀ d ∈ tables_1, d.before a0 Z = true) (h : Heap) (n0 : Nat) (a b : Addr) (L : List Int32) (P E : Int32) (p : Nat) (T : Int32) (q s : Nat) (S Ln : Int32) (hr : ∀ x ∈ L, -128 ≤ x.toInt ∧ x.toInt ≤ 127) (hE : E.toInt = (L.length : Int)) (hN : L.length < 1000) (hP : P.toInt = (p : Int)) (H : own_hdr L p T q s S Ln) (E2 : Int32) (hE2 : E2.toInt = (s : Int) + Ln.toInt) (hLn : 0 ≤ Ln.toInt)  (hn0 : n0 ≤ h.size) (B : Exa Z h a "com/example/dircred/dircred/credential/DerReader") (Fb : Fld Z h a "com/example/dircred/dircred/credential/DerReader" "bytes" "[B" (.ref b)) (Fp : Fld Z h a "com/example/dircred/dircred/credential/DerReader" "position" "I" (.int P)) (Fe : Fld Z h a "com/example/dircred/dircred/credential/DerReader" "end" "I" (.int E)) (A1 : OwA Z h b .byte (L.map Value.int)) (gea : n0 ≤ a) (neab : a ≠ b) :
    OwM l Z (⟨"com/example/dircred/dircred/credential/DerReader", "skip", "()V"⟩ : MethodName) prog_2_method_14_code 1 none own_rm_own_skip 2 7 [] #[(.ref a)] h n0 (fun r h' => r = none ∧ Keep h h' [a] ∧ Fld Z h' a "com/example/dircred/dircred/credential/DerReader" "bytes" "[B" (.ref b) ∧ Fld Z h' a "com/example/dircred/dircred/credential/DerReader" "position" "I" (.int E2) ∧ Fld Z h' a "com/example/dircred/dircred/credential/DerReader" "end" "I" (.int E)) := by
  refine OwM.of (Ls := #[.val (.ref a)]) (by decide +kernel) (fun m => by first | (simp [entryFrame, mkF, argsToLocals, Value.category]; done) | rfl) ?_
  intro _ _ _ _ _ _ _ X
  have K0 : Keep h h [a] := Keep.refl _ _
  refine X.aloadN (q := 1) own_d_prog_2_method_14_0 rfl rfl rfl ?_
  refine X.private (a := a) (own_next l Z a0 hw h n0 a b L P E p T q s S Ln hr hE hN hP H E2 hE2 hLn hn0 B Fb Fp Fe A1 gea neab) (hw _ (List.mem_of_getElem? (i := 42) rfl)) (hw _ (List.mem_of_getElem? (i := 43) rfl)) (hw _ (List.mem_of_getElem? (i := 44) rfl)) (hw _ (List.mem_of_getElem? (i := 2) rfl)) (hw _ (List.mem_of_getElem? (i := 3) rfl)) (hw _ (List.mem_of_getElem? (i := 45) rfl)) (by decide) B own_pd4 (argsL := []) (rest := []) rfl rfl rfl (W := 0) (Nat.le_of_eq rfl) rfl (by decide) (by decide) (k' := 2) (n' := 7) rfl rfl (by decide) (by decide) own_d_prog_2_method_14_1 (q := 4) rfl ?_
  rintro _ h1 ⟨vb, rfl, Kh1c, frvb, _, _, _, _, Gb, Gp, Ge⟩
  have B'h1 : Exa Z h1 a "com/example/dircred/dircred/credential/DerReader" := Exa.keep B Kh1c
  have A1'h1 : OwA Z h1 b .byte (L.map Value.int) := OwA.keep A1 Kh1c (ninS (Ne.symm neab) nin0)
  have hsh1 : n0 ≤ h1.size := Nat.le_trans hn0 Kh1c.1
  have Kh1 : Keep h h1 [a] := Keep.trans K0 Kh1c (allS (Or.inl (List.mem_of_getElem? (i := 0) rfl)) all0)
  show X.G h1 2 7 4 #[.val (.ref a)] [(.ref vb)]
  refine X.pop (q := 5) own_d_prog_2_method_14_4 rfl rfl ?_
  refine X.retV own_d_prog_2_method_14_5 rfl (by decide) (by decide) ?_
  exact ⟨rfl, Kh1, Gb, Gp, Ge⟩
theorem own_xor1 (t : Int32) (h1 : 0 ≤ t.toInt) (h2 : t.toInt ≤ 255) (h3 : t.toInt % 32 = 31) : (t ^^^ 1).toInt = t.toInt - 1 := by
  have key : ∀ k : Fin 256, (k.val : Int) % 32 = 31 → (Int32.ofNat k.val ^^^ 1).toInt = (k.val : Int) - 1 := by decide +kernel
  have e := own_ofNat h1 (by omega)
  have e2 : ((t.toInt.toNat : Nat) : Int) = t.toInt := by omega
  have := key ⟨t.toInt.toNat, by omega⟩ (by simp only; omega)
  simp only at this
  rw [← e, e2] at this; exact this
theorem own_or20 (b : Int32) : 0 ≤ ((32 : Int32) ||| (b &&& 222)).toInt ∧ ((32 : Int32) ||| (b &&& 222)).toInt ≤ 255 ∧ ((32 : Int32) ||| (b &&& 222)).toInt / 32 % 2 = 1 ∧ ¬ ((32 : Int32) ||| (b &&& 222)).toInt % 32 = 31 := by
  have key : ∀ k : Fin 256, 0 ≤ ((32 : Int32) ||| (Int32.ofNat k.val &&& 222)).toInt ∧ ((32 : Int32) ||| (Int32.ofNat k.val &&& 222)).toInt ≤ 255 ∧ ((32 : Int32) ||| (Int32.ofNat k.val &&& 222)).toInt / 32 % 2 = 1 ∧ ¬ ((32 : Int32) ||| (Int32.ofNat k.val &&& 222)).toInt % 32 = 31 := by decide +kernel
  have e0 : b &&& 222 = (b &&& 255) &&& 222 := by rw [Int32.and_assoc]; rfl
  have m := Jvm.Kit.i32_mask b 255 (k := 8) (by decide) (by decide)
  have e := own_ofNat (c := b &&& 255) (by omega) (by omega)
  rw [e0, e]; exact key ⟨(b &&& 255).toInt.toNat, by omega⟩
theorem own_d_prog_2_method_15_0 : decode prog_2_method_15_code 0 = .ok (.aload_n 0, 1) := by decide +kernel
theorem own_d_prog_2_method_15_1 : decode prog_2_method_15_code 1 = .ok (.invokevirtual 31, 3) := by decide +kernel
theorem own_pd5 : parseMethodDescriptor "()Z" = some ⟨[], some .boolean⟩ := by decide +kernel
theorem own_d_prog_2_method_15_4 : decode prog_2_method_15_code 4 = .ok (.ifCond .eq 25, 3) := by decide +kernel
theorem own_d_prog_2_method_15_29 : decode prog_2_method_15_code 29 = .ok (.return_, 1) := by decide +kernel
def own_rm_own_en : Room := ({ frames := 1, cells := 0, slots := 0, locals := 12 } : Room)
set_option maxRecDepth 65536 in
set_option maxHeartbeats 40000000 in
theorem own_en (l : Launch) (Z : State) (a0 : Array Value) (hw : ∀ d ∈ tables_1, d.before a0 Z = true) (h : Heap) (n0 : Nat) (a b : Addr) (P E : Int32) (hPE : E.toInt ≤ P.toInt)  (hn0 : n0 ≤ h.size) (B : Exa Z h a "com/example/dircred/dircred/credential/DerReader") (Fb : Fld Z h a "com/example/dircred/dircred/credential/DerReader" "bytes" "[B" (.ref b)) (Fp : Fld Z h a "com/example/dircred/dircred/credential/DerReader" "position" "I" (.int P)) (Fe : Fld Z h a "com/example/dircred/dircred/credential/DerReader" "end" "I" (.int E)) :
    OwM l Z (⟨"com/example/dircred/dircred/credential/DerReader", "end", "()V"⟩ : MethodName) prog_2_method_15_code 1 none own_rm_own_en 0 0 [] #[(.ref a)] h n0 (fun r h' => r = none ∧ h = h') := by
  refine OwM.of (Ls := #[.val (.ref a)]) (by decide +kernel) (fun m => by first | (simp [entryFrame, mkF, argsToLocals, Value.category]; done) | rfl) ?_
  intro _ _ _ _ _ _ _ X
  have e0 : (0 : Int32).toInt = 0 := rfl
  have e1 : (1 : Int32).toInt = 1 := rfl
  refine X.aloadN (q := 1) own_d_prog_2_method_15_0 rfl rfl rfl ?_
  refine X.virtual (a := a) (own_hm l Z a0 hw h n0 a P E hn0 Fp Fe) (hw _ (List.mem_of_getElem? (i := 29) rfl)) (hw _ (List.mem_of_getElem? (i := 20) rfl)) (hw _ (List.mem_of_getElem? (i := 22) rfl)) (hw _ (List.mem_of_getElem? (i := 21) rfl)) (hw _ (List.mem_of_getElem? (i := 3) rfl)) (hw _ (List.mem_of_getElem? (i := 23) rfl)) (by decide) B own_pd5 (argsL := []) (rest := []) rfl rfl rfl (W := 0) (Nat.le_of_eq rfl) rfl (by decide) (by decide) (k' := 0) (n' := 0) rfl rfl (by decide) (by decide) own_d_prog_2_method_15_1 (q := 4) rfl ?_
  rintro _ _ ⟨z, rfl, hz, rfl⟩
  show X.G h 0 0 4 #[.val (.ref a)] [(.int z)]
  refine X.if_eq (q' := 29) (q := 7) own_d_prog_2_method_15_4 rfl (by decide) rfl (fun c4 => ?_) (fun c4 => ?_)
  · refine X.retV own_d_prog_2_method_15_29 rfl (by decide) (by decide) ?_
    exact ⟨rfl, rfl⟩
  · omega
theorem own_d_method_2_0 : decode method_2_code 0 = .ok (.iload_n 0, 1) := by decide +kernel
theorem own_d_method_2_1 : decode method_2_code 1 = .ok (.sipush 255, 3) := by decide +kernel
theorem own_d_method_2_4 : decode method_2_code 4 = .ok (.iand, 1) := by decide +kernel
theorem own_d_method_2_5 : decode method_2_code 5 = .ok (.istore_n 2, 1) := by decide +kernel
theorem own_d_method_2_19 : decode method_2_code 19 = .ok (.iload_n 2, 1) := by decide +kernel
theorem own_d_method_2_20 : decode method_2_code 20 = .ok (.ifCond .ne 9, 3) := by decide +kernel
theorem own_d_method_2_29 : decode method_2_code 29 = .ok (.iload_n 2, 1) := by decide +kernel
theorem own_d_method_2_30 : decode method_2_code 30 = .ok (.ireturn, 1) := by decide +kernel
theorem own_d_method_2_23 : decode method_2_code 23 = .ok (.iload_n 1, 1) := by decide +kernel
theorem own_d_method_2_24 : decode method_2_code 24 = .ok (.ifCond .eq 5, 3) := by decide +kernel
theorem own_d_method_2_27 : decode method_2_code 27 = .ok (.iconst 4, 1) := by decide +kernel
theorem own_d_method_2_28 : decode method_2_code 28 = .ok (.istore_n 2, 1) := by decide +kernel
theorem own_d_method_2_6 : decode method_2_code 6 = .ok (.iload_n 2, 1) := by decide +kernel
theorem own_d_method_2_7 : decode method_2_code 7 = .ok (.bipush 31, 2) := by decide +kernel
theorem own_d_method_2_9 : decode method_2_code 9 = .ok (.iand, 1) := by decide +kernel
theorem own_d_method_2_10 : decode method_2_code 10 = .ok (.bipush 31, 2) := by decide +kernel
theorem own_d_method_2_12 : decode method_2_code 12 = .ok (.if_icmp .ne 7, 3) := by decide +kernel
theorem own_d_method_2_15 : decode method_2_code 15 = .ok (.iload_n 2, 1) := by decide +kernel
theorem own_d_method_2_16 : decode method_2_code 16 = .ok (.iconst 1, 1) := by decide +kernel
theorem own_d_method_2_17 : decode method_2_code 17 = .ok (.ixor, 1) := by decide +kernel
theorem own_d_method_2_18 : decode method_2_code 18 = .ok (.istore_n 2, 1) := by decide +kernel
def own_rm_own_tag : Room := ({ frames := 0, cells := 0, slots := 0, locals := 0 } : Room)
set_option maxRecDepth 65536 in
set_option maxHeartbeats 40000000 in
theorem own_tag (l : Launch) (Z : State) (a0 : Array Value) (hw : ∀ d ∈ tables_1, d.before a0 Z = true) (h : Heap) (n0 : Nat) (b n : Int32)  :
    OwM l Z (⟨"com/example/dircred/dircred/credential/DerReaderEndPinLaw", "tag", "(II)I"⟩ : MethodName) method_2_code 3 (some .int) own_rm_own_tag 0 0 [] #[(.int b), (.int n)] h n0 (fun r h' => ∃ z : Int32, r = some (.int z) ∧ (0 ≤ z.toInt ∧ z.toInt ≤ 255 ∧ ¬ z.toInt % 32 = 31 ∧ (¬ z.toInt = 0 ∨ n.toInt = 0)) ∧ h = h') := by
  refine OwM.of (Ls := #[.val (.int b), .val (.int n), .unset]) (by decide +kernel) (fun m => by first | (simp [entryFrame, mkF, argsToLocals, Value.category]; done) | rfl) ?_
  intro _ _ _ _ _ _ _ X
  have e0 : (0 : Int32).toInt = 0 := rfl
  have e4 : (4 : Int32).toInt = 4 := rfl
  refine X.iloadN (q := 1) own_d_method_2_0 rfl rfl ?_
  refine X.sipush (q := 4) (255 : Int32) own_d_method_2_1 (by decide) rfl ?_
  refine X.iand (q := 5) own_d_method_2_4 rfl ?_
  refine X.nmI (fun t0 ht0 => ?_)
  have ht0r : 0 ≤ t0.toInt ∧ t0.toInt ≤ 255 := by rw [ht0, Jvm.Kit.i32_mask (k := 8) _ _ (by decide) (by decide)]; omega
  clear ht0
  refine X.istoreN (q := 6) (Ls' := #[.val (.int b), .val (.int n), .val (.int t0)]) own_d_method_2_5 rfl rfl ?_
  have J19 : ∀ (t1 : Int32), (0 ≤ t1.toInt ∧ t1.toInt ≤ 255 ∧ ¬ t1.toInt % 32 = 31) →  X.G h 0 0 19 #[.val (.int b), .val (.int n), .val (.int t1)] [] := by
    intro t1 ht1
    refine X.iloadN (q := 20) own_d_method_2_19 rfl rfl ?_
    refine X.if_ne (q' := 29) (q := 23) own_d_method_2_20 rfl (by decide) rfl (fun c20 => ?_) (fun c20 => ?_)
    · refine X.iloadN (q := 30) own_d_method_2_29 rfl rfl ?_
      refine X.retI own_d_method_2_30 rfl (by decide) (by decide) ?_
      exact ⟨_, rfl, by omega, rfl⟩
    · refine X.iloadN (q := 24) own_d_method_2_23 rfl rfl ?_
      refine X.if_eq (q' := 29) (q := 27) own_d_method_2_24 rfl (by decide) rfl (fun c24 => ?_) (fun c24 => ?_)
      · refine X.iloadN (q := 30) own_d_method_2_29 rfl rfl ?_
        refine X.retI own_d_method_2_30 rfl (by decide) (by decide) ?_
        exact ⟨_, rfl, by omega, rfl⟩
      · refine X.iconst (q := 28) (4 : Int32) own_d_method_2_27 (by decide) rfl ?_
        refine X.istoreN (q := 29) (Ls' := #[.val (.int b), .val (.int n), .val (.int (4 : Int32))]) own_d_method_2_28 rfl rfl ?_
        refine X.iloadN (q := 30) own_d_method_2_29 rfl rfl ?_
        refine X.retI own_d_method_2_30 rfl (by decide) (by decide) ?_
        exact ⟨_, rfl, by omega, rfl⟩
  refine X.iloadN (q := 7) own_d_method_2_6 rfl rfl ?_
  refine X.bipush (q := 9) (31 : Int32) own_d_method_2_7 (by decide) rfl ?_
  refine X.iand (q := 10) own_d_method_2_9 rfl ?_
  refine X.nmI (fun t31 ht31 => ?_)
  have ht31_ : t31.toInt = t0.toInt % 32 := by rw [ht31, Jvm.Kit.i32_mask (k := 5) _ _ (by decide) (by decide)]; rfl
  clear ht31
  refine X.bipush (q := 12) (31 : Int32) own_d_method_2_10 (by decide) rfl ?_
  refine X.icmp_ne (b := 31) (q' := 19) (q := 15) own_d_method_2_12 rfl rfl (by decide) rfl (fun c12 => ?_) (fun c12 => ?_)
  · exact J19 _ (by first | omega | (have q_ := own_xor1 t0 (by omega) (by omega) (by omega); omega))
  · refine X.iloadN (q := 16) own_d_method_2_15 rfl rfl ?_
    refine X.iconst (q := 17) (1 : Int32) own_d_method_2_16 (by decide) rfl ?_
    refine X.ixor (q := 18) own_d_method_2_17 rfl ?_
    refine X.istoreN (q := 19) (Ls' := #[.val (.int b), .val (.int n), .val (.int (t0 ^^^ (1 : Int32)))]) own_d_method_2_18 rfl rfl ?_
    exact J19 _ (by first | omega | (have q_ := own_xor1 t0 (by omega) (by omega) (by omega); omega))
theorem own_d_method_3_0 : decode method_3_code 0 = .ok (.iload_n 2, 1) := by decide +kernel
theorem own_d_method_3_1 : decode method_3_code 1 = .ok (.ifCond .le 8, 3) := by decide +kernel
theorem own_d_method_3_9 : decode method_3_code 9 = .ok (.iload_n 2, 1) := by decide +kernel
theorem own_d_method_3_10 : decode method_3_code 10 = .ok (.iconst 1, 1) := by decide +kernel
theorem own_d_method_3_11 : decode method_3_code 11 = .ok (.if_icmp .le 13, 3) := by decide +kernel
theorem own_d_method_3_24 : decode method_3_code 24 = .ok (.iload_n 2, 1) := by decide +kernel
theorem own_d_method_3_25 : decode method_3_code 25 = .ok (.iconst 2, 1) := by decide +kernel
theorem own_d_method_3_26 : decode method_3_code 26 = .ok (.if_icmp .le 13, 3) := by decide +kernel
theorem own_d_method_3_39 : decode method_3_code 39 = .ok (.return_, 1) := by decide +kernel
def own_rm_own_put0 : Room := ({ frames := 0, cells := 0, slots := 0, locals := 0 } : Room)
set_option maxRecDepth 65536 in
set_option maxHeartbeats 40000000 in
theorem own_put0 (l : Launch) (Z : State) (a0 : Array Value) (hw : ∀ d ∈ tables_1, d.before a0 Z = true) (h : Heap) (n0 : Nat) (a : Addr) (sx x : Int32) (j : Nat) (vs : List Value) (hj : sx.toInt = (j : Int)) (hjn : j + 0 ≤ vs.length) (hjs : j < 100)  (hn0 : n0 ≤ h.size) (A1 : OwA Z h a .byte vs) (gea : n0 ≤ a) :
    OwM l Z (⟨"com/example/dircred/dircred/credential/DerReaderEndPinLaw", "put", "([BIII)V"⟩ : MethodName) method_3_code 4 none own_rm_own_put0 0 0 [] #[(.ref a), (.int sx), (.int (0 : Int32)), (.int x)] h n0 (fun r h' => r = none ∧ Keep h h' [a] ∧ OwA Z h' a .byte vs) := by
  refine OwM.of (Ls := #[.val (.ref a), .val (.int sx), .val (.int (0 : Int32)), .val (.int x)]) (by decide +kernel) (fun m => by first | (simp [entryFrame, mkF, argsToLocals, Value.category]; done) | rfl) ?_
  intro _ _ _ _ _ _ _ X
  have K0 : Keep h h [a] := Keep.refl _ _
  have hj1 : (sx + (1 : Int32)).toInt = ((j + 1 : Nat) : Int) := by rw [own_add (b := 1) rfl (by omega) (by omega)]; omega
  have hj2 : (sx + (2 : Int32)).toInt = ((j + 2 : Nat) : Int) := by rw [own_add (b := 2) rfl (by omega) (by omega)]; omega
  refine X.iloadN (q := 1) own_d_method_3_0 rfl rfl ?_
  refine X.if_le (a := 0) (q' := 9) (q := 4) own_d_method_3_1 rfl (by decide) rfl (fun c1 => ?_) (fun c1 => ?_)
  · refine X.iloadN (q := 10) own_d_method_3_9 rfl rfl ?_
    refine X.iconst (q := 11) (1 : Int32) own_d_method_3_10 (by decide) rfl ?_
    refine X.icmp_le (a := 0) (b := 1) (q' := 24) (q := 14) own_d_method_3_11 rfl rfl (by decide) rfl (fun c11 => ?_) (fun c11 => ?_)
    · refine X.iloadN (q := 25) own_d_method_3_24 rfl rfl ?_
      refine X.iconst (q := 26) (2 : Int32) own_d_method_3_25 (by decide) rfl ?_
      refine X.icmp_le (a := 0) (b := 2) (q' := 39) (q := 29) own_d_method_3_26 rfl rfl (by decide) rfl (fun c26 => ?_) (fun c26 => ?_)
      · refine X.retV own_d_method_3_39 rfl (by decide) (by decide) ?_
        exact ⟨rfl, K0, A1⟩
      · omega
    · omega
  · omega
theorem own_d_method_3_4 : decode method_3_code 4 = .ok (.aload_n 0, 1) := by decide +kernel
theorem own_d_method_3_5 : decode method_3_code 5 = .ok (.iload_n 1, 1) := by decide +kernel
theorem own_d_method_3_6 : decode method_3_code 6 = .ok (.iload_n 3, 1) := by decide +kernel
theorem own_d_method_3_7 : decode method_3_code 7 = .ok (.i2b, 1) := by decide +kernel
theorem own_d_method_3_8 : decode method_3_code 8 = .ok (.bastore, 1) := by decide +kernel
def own_rm_own_put1 : Room := ({ frames := 0, cells := 0, slots := 0, locals := 0 } : Room)
set_option maxRecDepth 65536 in
set_option maxHeartbeats 40000000 in
theorem own_put1 (l : Launch) (Z : State) (a0 : Array Value) (hw : ∀ d ∈ tables_1, d.before a0 Z = true) (h : Heap) (n0 : Nat) (a : Addr) (sx x : Int32) (j : Nat) (vs : List Value) (hj : sx.toInt = (j : Int)) (hjn : j + 1 ≤ vs.length) (hjs : j < 100)  (hn0 : n0 ≤ h.size) (A1 : OwA Z h a .byte vs) (gea : n0 ≤ a) :
    OwM l Z (⟨"com/example/dircred/dircred/credential/DerReaderEndPinLaw", "put", "([BIII)V"⟩ : MethodName) method_3_code 4 none own_rm_own_put1 0 0 [] #[(.ref a), (.int sx), (.int (1 : Int32)), (.int x)] h n0 (fun r h' => ∃ y0 : Int32, r = none ∧ Keep h h' [a] ∧ OwA Z h' a .byte (vs.set (j) (.int (nar .byte y0.toInt8.toInt32)))) := by
  refine OwM.of (Ls := #[.val (.ref a), .val (.int sx), .val (.int (1 : Int32)), .val (.int x)]) (by decide +kernel) (fun m => by first | (simp [entryFrame, mkF, argsToLocals, Value.category]; done) | rfl) ?_
  intro _ _ _ _ _ _ _ X
  have K0 : Keep h h [a] := Keep.refl _ _
  have hj1 : (sx + (1 : Int32)).toInt = ((j + 1 : Nat) : Int) := by rw [own_add (b := 1) rfl (by omega) (by omega)]; omega
  have hj2 : (sx + (2 : Int32)).toInt = ((j + 2 : Nat) : Int) := by rw [own_add (b := 2) rfl (by omega) (by omega)]; omega
  refine X.iloadN (q := 1) own_d_method_3_0 rfl rfl ?_
  refine X.if_le (a := 1) (q' := 9) (q := 4) own_d_method_3_1 rfl (by decide) rfl (fun c1 => ?_) (fun c1 => ?_)
  · omega
  · refine X.aloadN (q := 5) own_d_method_3_4 rfl rfl rfl ?_
    refine X.iloadN (q := 6) own_d_method_3_5 rfl rfl ?_
    refine X.iloadN (q := 7) own_d_method_3_6 rfl rfl ?_
    refine X.i2b (q := 8) own_d_method_3_7 rfl ?_
    refine X.bastore (q := 9) (j := (j)) A1 hj (by first | omega | (simp only [List.length_set]; omega)) gea own_d_method_3_8 rfl (fun h1 Wh1 Ah1 => ?_)
    have hsh1 : n0 ≤ h1.size := by rw [Wr.size Wh1]; exact hn0
    have Kh1 : Keep h h1 [a] := Keep.wr K0 Wh1 (Or.inl (List.mem_of_getElem? (i := 0) rfl))
    have Ah1_ : OwA Z h1 a .byte (vs.set (j) (.int (nar .byte x.toInt8.toInt32))) := Ah1
    refine X.iloadN (q := 10) own_d_method_3_9 rfl rfl ?_
    refine X.iconst (q := 11) (1 : Int32) own_d_method_3_10 (by decide) rfl ?_
    refine X.icmp_le (a := 1) (b := 1) (q' := 24) (q := 14) own_d_method_3_11 rfl rfl (by decide) rfl (fun c11 => ?_) (fun c11 => ?_)
    · refine X.iloadN (q := 25) own_d_method_3_24 rfl rfl ?_
      refine X.iconst (q := 26) (2 : Int32) own_d_method_3_25 (by decide) rfl ?_
      refine X.icmp_le (a := 1) (b := 2) (q' := 39) (q := 29) own_d_method_3_26 rfl rfl (by decide) rfl (fun c26 => ?_) (fun c26 => ?_)
      · refine X.retV own_d_method_3_39 rfl (by decide) (by decide) ?_
        exact ⟨_, rfl, Kh1, Ah1_⟩
      · omega
    · omega
theorem own_d_method_3_14 : decode method_3_code 14 = .ok (.aload_n 0, 1) := by decide +kernel
theorem own_d_method_3_15 : decode method_3_code 15 = .ok (.iload_n 1, 1) := by decide +kernel
theorem own_d_method_3_16 : decode method_3_code 16 = .ok (.iconst 1, 1) := by decide +kernel
theorem own_d_method_3_17 : decode method_3_code 17 = .ok (.iadd, 1) := by decide +kernel
theorem own_d_method_3_18 : decode method_3_code 18 = .ok (.iload_n 3, 1) := by decide +kernel
theorem own_d_method_3_19 : decode method_3_code 19 = .ok (.bipush 8, 2) := by decide +kernel
theorem own_d_method_3_21 : decode method_3_code 21 = .ok (.iushr, 1) := by decide +kernel
theorem own_d_method_3_22 : decode method_3_code 22 = .ok (.i2b, 1) := by decide +kernel
theorem own_d_method_3_23 : decode method_3_code 23 = .ok (.bastore, 1) := by decide +kernel
def own_rm_own_put2 : Room := ({ frames := 0, cells := 0, slots := 0, locals := 0 } : Room)
set_option maxRecDepth 65536 in
set_option maxHeartbeats 40000000 in
theorem own_put2 (l : Launch) (Z : State) (a0 : Array Value) (hw : ∀ d ∈ tables_1, d.before a0 Z = true) (h : Heap) (n0 : Nat) (a : Addr) (sx x : Int32) (j : Nat) (vs : List Value) (hj : sx.toInt = (j : Int)) (hjn : j + 2 ≤ vs.length) (hjs : j < 100)  (hn0 : n0 ≤ h.size) (A1 : OwA Z h a .byte vs) (gea : n0 ≤ a) :
    OwM l Z (⟨"com/example/dircred/dircred/credential/DerReaderEndPinLaw", "put", "([BIII)V"⟩ : MethodName) method_3_code 4 none own_rm_own_put2 0 0 [] #[(.ref a), (.int sx), (.int (2 : Int32)), (.int x)] h n0 (fun r h' => ∃ y0 : Int32, ∃ y1 : Int32, r = none ∧ Keep h h' [a] ∧ OwA Z h' a .byte ((vs.set (j) (.int (nar .byte y0.toInt8.toInt32))).set (j + 1) (.int (nar .byte y1.toInt8.toInt32)))) := by
  refine OwM.of (Ls := #[.val (.ref a), .val (.int sx), .val (.int (2 : Int32)), .val (.int x)]) (by decide +kernel) (fun m => by first | (simp [entryFrame, mkF, argsToLocals, Value.category]; done) | rfl) ?_
  intro _ _ _ _ _ _ _ X
  have K0 : Keep h h [a] := Keep.refl _ _
  have hj1 : (sx + (1 : Int32)).toInt = ((j + 1 : Nat) : Int) := by rw [own_add (b := 1) rfl (by omega) (by omega)]; omega
  have hj2 : (sx + (2 : Int32)).toInt = ((j + 2 : Nat) : Int) := by rw [own_add (b := 2) rfl (by omega) (by omega)]; omega
  refine X.iloadN (q := 1) own_d_method_3_0 rfl rfl ?_
  refine X.if_le (a := 2) (q' := 9) (q := 4) own_d_method_3_1 rfl (by decide) rfl (fun c1 => ?_) (fun c1 => ?_)
  · omega
  · refine X.aloadN (q := 5) own_d_method_3_4 rfl rfl rfl ?_
    refine X.iloadN (q := 6) own_d_method_3_5 rfl rfl ?_
    refine X.iloadN (q := 7) own_d_method_3_6 rfl rfl ?_
    refine X.i2b (q := 8) own_d_method_3_7 rfl ?_
    refine X.bastore (q := 9) (j := (j)) A1 hj (by first | omega | (simp only [List.length_set]; omega)) gea own_d_method_3_8 rfl (fun h1 Wh1 Ah1 => ?_)
    have hsh1 : n0 ≤ h1.size := by rw [Wr.size Wh1]; exact hn0
    have Kh1 : Keep h h1 [a] := Keep.wr K0 Wh1 (Or.inl (List.mem_of_getElem? (i := 0) rfl))
    have Ah1_ : OwA Z h1 a .byte (vs.set (j) (.int (nar .byte x.toInt8.toInt32))) := Ah1
    refine X.iloadN (q := 10) own_d_method_3_9 rfl rfl ?_
    refine X.iconst (q := 11) (1 : Int32) own_d_method_3_10 (by decide) rfl ?_
    refine X.icmp_le (a := 2) (b := 1) (q' := 24) (q := 14) own_d_method_3_11 rfl rfl (by decide) rfl (fun c11 => ?_) (fun c11 => ?_)
    · omega
    · refine X.aloadN (q := 15) own_d_method_3_14 rfl rfl rfl ?_
      refine X.iloadN (q := 16) own_d_method_3_15 rfl rfl ?_
      refine X.iconst (q := 17) (1 : Int32) own_d_method_3_16 (by decide) rfl ?_
      refine X.iadd (q := 18) own_d_method_3_17 rfl ?_
      refine X.iloadN (q := 19) own_d_method_3_18 rfl rfl ?_
      refine X.bipush (q := 21) (8 : Int32) own_d_method_3_19 (by decide) rfl ?_
      refine X.iushr (q := 22) own_d_method_3_21 rfl ?_
      refine X.i2b (q := 23) own_d_method_3_22 rfl ?_
      refine X.bastore (q := 24) (j := (j + 1)) Ah1_ hj1 (by first | omega | (simp only [List.length_set]; omega)) gea own_d_method_3_23 rfl (fun h2 Wh2 Ah2 => ?_)
      have hsh2 : n0 ≤ h2.size := by rw [Wr.size Wh2]; exact hsh1
      have Kh2 : Keep h h2 [a] := Keep.wr Kh1 Wh2 (Or.inl (List.mem_of_getElem? (i := 0) rfl))
      have Ah2_ : OwA Z h2 a .byte ((vs.set (j) (.int (nar .byte x.toInt8.toInt32))).set (j + 1) (.int (nar .byte (XT.ushr x (8 : Int32)).toInt8.toInt32))) := Ah2
      refine X.iloadN (q := 25) own_d_method_3_24 rfl rfl ?_
      refine X.iconst (q := 26) (2 : Int32) own_d_method_3_25 (by decide) rfl ?_
      refine X.icmp_le (a := 2) (b := 2) (q' := 39) (q := 29) own_d_method_3_26 rfl rfl (by decide) rfl (fun c26 => ?_) (fun c26 => ?_)
      · refine X.retV own_d_method_3_39 rfl (by decide) (by decide) ?_
        exact ⟨_, _, rfl, Kh2, Ah2_⟩
      · omega
theorem own_d_method_3_29 : decode method_3_code 29 = .ok (.aload_n 0, 1) := by decide +kernel
theorem own_d_method_3_30 : decode method_3_code 30 = .ok (.iload_n 1, 1) := by decide +kernel
theorem own_d_method_3_31 : decode method_3_code 31 = .ok (.iconst 2, 1) := by decide +kernel
theorem own_d_method_3_32 : decode method_3_code 32 = .ok (.iadd, 1) := by decide +kernel
theorem own_d_method_3_33 : decode method_3_code 33 = .ok (.iload_n 3, 1) := by decide +kernel
theorem own_d_method_3_34 : decode method_3_code 34 = .ok (.bipush 16, 2) := by decide +kernel
theorem own_d_method_3_36 : decode method_3_code 36 = .ok (.iushr, 1) := by decide +kernel
theorem own_d_method_3_37 : decode method_3_code 37 = .ok (.i2b, 1) := by decide +kernel
theorem own_d_method_3_38 : decode method_3_code 38 = .ok (.bastore, 1) := by decide +kernel
def own_rm_own_put3 : Room := ({ frames := 0, cells := 0, slots := 0, locals := 0 } : Room)
set_option maxRecDepth 65536 in
set_option maxHeartbeats 40000000 in
theorem own_put3 (l : Launch) (Z : State) (a0 : Array Value) (hw : ∀ d ∈ tables_1, d.before a0 Z = true) (h : Heap) (n0 : Nat) (a : Addr) (sx x : Int32) (j : Nat) (vs : List Value) (hj : sx.toInt = (j : Int)) (hjn : j + 3 ≤ vs.length) (hjs : j < 100)  (hn0 : n0 ≤ h.size) (A1 : OwA Z h a .byte vs) (gea : n0 ≤ a) :
    OwM l Z (⟨"com/example/dircred/dircred/credential/DerReaderEndPinLaw", "put", "([BIII)V"⟩ : MethodName) method_3_code 4 none own_rm_own_put3 0 0 [] #[(.ref a), (.int sx), (.int (3 : Int32)), (.int x)] h n0 (fun r h' => ∃ y0 : Int32, ∃ y1 : Int32, ∃ y2 : Int32, r = none ∧ Keep h h' [a] ∧ OwA Z h' a .byte (((vs.set (j) (.int (nar .byte y0.toInt8.toInt32))).set (j + 1) (.int (nar .byte y1.toInt8.toInt32))).set (j + 2) (.int (nar .byte y2.toInt8.toInt32)))) := by
  refine OwM.of (Ls := #[.val (.ref a), .val (.int sx), .val (.int (3 : Int32)), .val (.int x)]) (by decide +kernel) (fun m => by first | (simp [entryFrame, mkF, argsToLocals, Value.category]; done) | rfl) ?_
  intro _ _ _ _ _ _ _ X
  have K0 : Keep h h [a] := Keep.refl _ _
  have hj1 : (sx + (1 : Int32)).toInt = ((j + 1 : Nat) : Int) := by rw [own_add (b := 1) rfl (by omega) (by omega)]; omega
  have hj2 : (sx + (2 : Int32)).toInt = ((j + 2 : Nat) : Int) := by rw [own_add (b := 2) rfl (by omega) (by omega)]; omega
  refine X.iloadN (q := 1) own_d_method_3_0 rfl rfl ?_
  refine X.if_le (a := 3) (q' := 9) (q := 4) own_d_method_3_1 rfl (by decide) rfl (fun c1 => ?_) (fun c1 => ?_)
  · omega
  · refine X.aloadN (q := 5) own_d_method_3_4 rfl rfl rfl ?_
    refine X.iloadN (q := 6) own_d_method_3_5 rfl rfl ?_
    refine X.iloadN (q := 7) own_d_method_3_6 rfl rfl ?_
    refine X.i2b (q := 8) own_d_method_3_7 rfl ?_
    refine X.bastore (q := 9) (j := (j)) A1 hj (by first | omega | (simp only [List.length_set]; omega)) gea own_d_method_3_8 rfl (fun h1 Wh1 Ah1 => ?_)
    have hsh1 : n0 ≤ h1.size := by rw [Wr.size Wh1]; exact hn0
    have Kh1 : Keep h h1 [a] := Keep.wr K0 Wh1 (Or.inl (List.mem_of_getElem? (i := 0) rfl))
    have Ah1_ : OwA Z h1 a .byte (vs.set (j) (.int (nar .byte x.toInt8.toInt32))) := Ah1
    refine X.iloadN (q := 10) own_d_method_3_9 rfl rfl ?_
    refine X.iconst (q := 11) (1 : Int32) own_d_method_3_10 (by decide) rfl ?_
    refine X.icmp_le (a := 3) (b := 1) (q' := 24) (q := 14) own_d_method_3_11 rfl rfl (by decide) rfl (fun c11 => ?_) (fun c11 => ?_)
    · omega
    · refine X.aloadN (q := 15) own_d_method_3_14 rfl rfl rfl ?_
      refine X.iloadN (q := 16) own_d_method_3_15 rfl rfl ?_
      refine X.iconst (q := 17) (1 : Int32) own_d_method_3_16 (by decide) rfl ?_
      refine X.iadd (q := 18) own_d_method_3_17 rfl ?_
      refine X.iloadN (q := 19) own_d_method_3_18 rfl rfl ?_
      refine X.bipush (q := 21) (8 : Int32) own_d_method_3_19 (by decide) rfl ?_
      refine X.iushr (q := 22) own_d_method_3_21 rfl ?_
      refine X.i2b (q := 23) own_d_method_3_22 rfl ?_
      refine X.bastore (q := 24) (j := (j + 1)) Ah1_ hj1 (by first | omega | (simp only [List.length_set]; omega)) gea own_d_method_3_23 rfl (fun h2 Wh2 Ah2 => ?_)
      have hsh2 : n0 ≤ h2.size := by rw [Wr.size Wh2]; exact hsh1
      have Kh2 : Keep h h2 [a] := Keep.wr Kh1 Wh2 (Or.inl (List.mem_of_getElem? (i := 0) rfl))
      have Ah2_ : OwA Z h2 a .byte ((vs.set (j) (.int (nar .byte x.toInt8.toInt32))).set (j + 1) (.int (nar .byte (XT.ushr x (8 : Int32)).toInt8.toInt32))) := Ah2
      refine X.iloadN (q := 25) own_d_method_3_24 rfl rfl ?_
      refine X.iconst (q := 26) (2 : Int32) own_d_method_3_25 (by decide) rfl ?_
      refine X.icmp_le (a := 3) (b := 2) (q' := 39) (q := 29) own_d_method_3_26 rfl rfl (by decide) rfl (fun c26 => ?_) (fun c26 => ?_)
      · omega
      · refine X.aloadN (q := 30) own_d_method_3_29 rfl rfl rfl ?_
        refine X.iloadN (q := 31) own_d_method_3_30 rfl rfl ?_
        refine X.iconst (q := 32) (2 : Int32) own_d_method_3_31 (by decide) rfl ?_
        refine X.iadd (q := 33) own_d_method_3_32 rfl ?_
        refine X.iloadN (q := 34) own_d_method_3_33 rfl rfl ?_
        refine X.bipush (q := 36) (16 : Int32) own_d_method_3_34 (by decide) rfl ?_
        refine X.iushr (q := 37) own_d_method_3_36 rfl ?_
        refine X.i2b (q := 38) own_d_method_3_37 rfl ?_
        refine X.bastore (q := 39) (j := (j + 2)) Ah2_ hj2 (by first | omega | (simp only [List.length_set]; omega)) gea own_d_method_3_38 rfl (fun h3 Wh3 Ah3 => ?_)
        have hsh3 : n0 ≤ h3.size := by rw [Wr.size Wh3]; exact hsh2
        have Kh3 : Keep h h3 [a] := Keep.wr Kh2 Wh3 (Or.inl (List.mem_of_getElem? (i := 0) rfl))
        have Ah3_ : OwA Z h3 a .byte (((vs.set (j) (.int (nar .byte x.toInt8.toInt32))).set (j + 1) (.int (nar .byte (XT.ushr x (8 : Int32)).toInt8.toInt32))).set (j + 2) (.int (nar .byte (XT.ushr x (16 : Int32)).toInt8.toInt32))) := Ah3
        refine X.retV own_d_method_3_39 rfl (by decide) (by decide) ?_
        exact ⟨_, _, _, rfl, Kh3, Ah3_⟩
theorem own_d_prog_2_method_18_49 : decode prog_2_method_18_code 49 = .ok (.iconst 1, 1) := by decide +kernel
theorem own_d_prog_2_method_18_50 : decode prog_2_method_18_code 50 = .ok (.istore_n 2, 1) := by decide +kernel
theorem own_d_prog_2_method_18_51 : decode prog_2_method_18_code 51 = .ok (.aload_n 1, 1) := by decide +kernel
theorem own_d_prog_2_method_18_52 : decode prog_2_method_18_code 52 = .ok (.getfield 142, 3) := by decide +kernel
theorem own_d_prog_2_method_18_55 : decode prog_2_method_18_code 55 = .ok (.istore_n 3, 1) := by decide +kernel
theorem own_d_prog_2_method_18_56 : decode prog_2_method_18_code 56 = .ok (.aload_n 0, 1) := by decide +kernel
theorem own_d_prog_2_method_18_57 : decode prog_2_method_18_code 57 = .ok (.iload_n 3, 1) := by decide +kernel
theorem own_d_prog_2_method_18_58 : decode prog_2_method_18_code 58 = .ok (.invokevirtual 35, 3) := by decide +kernel
theorem own_d_prog_2_method_18_61 : decode prog_2_method_18_code 61 = .ok (.astore 4, 2) := by decide +kernel
theorem own_d_prog_2_method_18_63 : decode prog_2_method_18_code 63 = .ok (.aload 4, 2) := by decide +kernel
theorem own_d_prog_2_method_18_65 : decode prog_2_method_18_code 65 = .ok (.getfield 39, 3) := by decide +kernel
theorem own_d_prog_2_method_18_68 : decode prog_2_method_18_code 68 = .ok (.ifCond .ne 41, 3) := by decide +kernel
theorem own_d_prog_2_method_18_109 : decode prog_2_method_18_code 109 = .ok (.aload 4, 2) := by decide +kernel
theorem own_d_prog_2_method_18_111 : decode prog_2_method_18_code 111 = .ok (.getfield 140, 3) := by decide +kernel
theorem own_d_prog_2_method_18_114 : decode prog_2_method_18_code 114 = .ok (.ifCond .ge 15, 3) := by decide +kernel
theorem own_d_prog_2_method_18_129 : decode prog_2_method_18_code 129 = .ok (.aload 4, 2) := by decide +kernel
theorem own_d_prog_2_method_18_131 : decode prog_2_method_18_code 131 = .ok (.getfield 142, 3) := by decide +kernel
theorem own_d_prog_2_method_18_134 : decode prog_2_method_18_code 134 = .ok (.aload 4, 2) := by decide +kernel
theorem own_d_prog_2_method_18_136 : decode prog_2_method_18_code 136 = .ok (.getfield 140, 3) := by decide +kernel
theorem own_d_prog_2_method_18_139 : decode prog_2_method_18_code 139 = .ok (.iadd, 1) := by decide +kernel
theorem own_d_prog_2_method_18_140 : decode prog_2_method_18_code 140 = .ok (.istore_n 3, 1) := by decide +kernel
theorem own_d_prog_2_method_18_141 : decode prog_2_method_18_code 141 = .ok (.goto (-85), 3) := by decide +kernel
theorem own_d_prog_2_method_18_71 : decode prog_2_method_18_code 71 = .ok (.iinc 2 (-1), 3) := by decide +kernel
theorem own_d_prog_2_method_18_74 : decode prog_2_method_18_code 74 = .ok (.aload 4, 2) := by decide +kernel
theorem own_d_prog_2_method_18_76 : decode prog_2_method_18_code 76 = .ok (.getfield 142, 3) := by decide +kernel
theorem own_d_prog_2_method_18_79 : decode prog_2_method_18_code 79 = .ok (.istore_n 3, 1) := by decide +kernel
theorem own_d_prog_2_method_18_80 : decode prog_2_method_18_code 80 = .ok (.iload_n 2, 1) := by decide +kernel
theorem own_d_prog_2_method_18_81 : decode prog_2_method_18_code 81 = .ok (.ifCond .ne 60, 3) := by decide +kernel
theorem own_d_prog_2_method_18_84 : decode prog_2_method_18_code 84 = .ok (.aload_n 0, 1) := by decide +kernel
theorem own_d_prog_2_method_18_85 : decode prog_2_method_18_code 85 = .ok (.iload_n 3, 1) := by decide +kernel
theorem own_d_prog_2_method_18_86 : decode prog_2_method_18_code 86 = .ok (.putfield 16, 3) := by decide +kernel
theorem own_d_prog_2_method_18_89 : decode prog_2_method_18_code 89 = .ok (.new 57, 3) := by decide +kernel
theorem own_d_prog_2_method_18_92 : decode prog_2_method_18_code 92 = .ok (.dup, 1) := by decide +kernel
theorem own_d_prog_2_method_18_93 : decode prog_2_method_18_code 93 = .ok (.aload_n 1, 1) := by decide +kernel
theorem own_d_prog_2_method_18_94 : decode prog_2_method_18_code 94 = .ok (.getfield 39, 3) := by decide +kernel
theorem own_d_prog_2_method_18_97 : decode prog_2_method_18_code 97 = .ok (.aload_n 1, 1) := by decide +kernel
theorem own_d_prog_2_method_18_98 : decode prog_2_method_18_code 98 = .ok (.getfield 142, 3) := by decide +kernel
theorem own_d_prog_2_method_18_101 : decode prog_2_method_18_code 101 = .ok (.iload_n 3, 1) := by decide +kernel
theorem own_d_prog_2_method_18_102 : decode prog_2_method_18_code 102 = .ok (.iconst 2, 1) := by decide +kernel
theorem own_d_prog_2_method_18_103 : decode prog_2_method_18_code 103 = .ok (.isub, 1) := by decide +kernel
theorem own_d_prog_2_method_18_104 : decode prog_2_method_18_code 104 = .ok (.iload_n 3, 1) := by decide +kernel
theorem own_d_prog_2_method_18_105 : decode prog_2_method_18_code 105 = .ok (.invokespecial 143, 3) := by decide +kernel
theorem own_d_prog_2_method_18_108 : decode prog_2_method_18_code 108 = .ok (.areturn, 1) := by decide +kernel
def own_rm_own_next3 : Room := ({ frames := 3, cells := 4, slots := 13, locals := 49 } : Room)
set_option maxRecDepth 65536 in
set_option maxHeartbeats 40000000 in
theorem own_next3 (l : Launch) (Z : State) (a0 : Array Value) (hw : ∀ d ∈ tables_1, d.before a0 Z = true) (h : Heap) (n0 : Nat) (a b : Addr) (L : List Int32) (P E : Int32) (p : Nat) (T : Int32) (q s : Nat) (S Ln : Int32) (hr : ∀ x ∈ L, -128 ≤ x.toInt ∧ x.toInt ≤ 127) (hE : E.toInt = (L.length : Int)) (hN : L.length < 1000) (hP : P.toInt = (p : Int)) (H : own_hdr L p T q s S Ln) (hLn : Ln.toInt = -1) (T2 : Int32) (q2 s2 : Nat) (S2 L2 : Int32) (H2 : own_hdr L s T2 q2 s2 S2 L2) (hT2 : ¬ T2.toInt = 0) (hL2 : 0 ≤ L2.toInt) (P3 : Int32) (p3 : Nat) (hP3 : P3.toInt = (p3 : Int)) (hp3 : (p3 : Int) = (s2 : Int) + L2.toInt) (T3 : Int32) (q3 s3 : Nat) (S3 L3 : Int32) (H3 : own_hdr L p3 T3 q3 s3 S3 L3) (hT3 : T3.toInt = 0)  (hn0 : n0 ≤ h.size) (B : Exa Z h a "com/example/dircred/dircred/credential/DerReader") (Fb : Fld Z h a "com/example/dircred/dircred/credential/DerReader" "bytes" "[B" (.ref b)) (Fp : Fld Z h a "com/example/dircred/dircred/credential/DerReader" "position" "I" (.int P)) (Fe : Fld Z h a "com/example/dircred/dircred/credential/DerReader" "end" "I" (.int E)) (A1 : OwA Z h b .byte (L.map Value.int)) (gea : n0 ≤ a) (neab : a ≠ b) :
    OwM l Z (⟨"com/example/dircred/dircred/credential/DerReader", "next", "()Lcom/example/dircred/dircred/credential/DerReader$Value;"⟩ : MethodName) prog_2_method_18_code 5 (some (.object "com/example/dircred/dircred/credential/DerReader$Value")) own_rm_own_next3 4 13 [] #[(.ref a)] h n0 (fun r h' => ∃ b', r = some (.ref b') ∧ Keep h h' [a] ∧ Fld Z h' a "com/example/dircred/dircred/credential/DerReader" "bytes" "[B" (.ref b) ∧ Fld Z h' a "com/example/dircred/dircred/credential/DerReader" "position" "I" (.int S3) ∧ Fld Z h' a "com/example/dircred/dircred/credential/DerReader" "end" "I" (.int E)) := by
  refine OwM.of (Ls := #[.val (.ref a), .unset, .unset, .unset, .unset]) (by decide +kernel) (fun m => by first | (simp [entryFrame, mkF, argsToLocals, Value.category]; done) | rfl) ?_
  intro _ _ _ _ _ _ _ X
  have K0 : Keep h h [a] := Keep.refl _ _
  have G5 : S2.toInt = (s2 : Int) := H2.2.2.2.2.1
  have G7 : L2.toInt ≤ (L.length : Int) - s2 := H2.2.2.2.2.2.2.1
  refine X.aloadN (q := 1) own_d_prog_2_method_18_0 rfl rfl rfl ?_
  refine X.aloadN (q := 2) own_d_prog_2_method_18_1 rfl rfl rfl ?_
  refine X.getF (q := 5) (host := "") (Or.inl (hw _ (List.mem_of_getElem? (i := 15) rfl))) Via.refl Fp own_d_prog_2_method_18_2 rfl ?_
  refine X.private (a := a) (own_header l Z a0 hw h n0 a b L P E p T q s S Ln hr hE hN hP H hn0 Fb Fe A1) (hw _ (List.mem_of_getElem? (i := 46) rfl)) (hw _ (List.mem_of_getElem? (i := 47) rfl)) (hw _ (List.mem_of_getElem? (i := 48) rfl)) (hw _ (List.mem_of_getElem? (i := 2) rfl)) (hw _ (List.mem_of_getElem? (i := 3) rfl)) (hw _ (List.mem_of_getElem? (i := 49) rfl)) (by decide) B own_pd2 (argsL := [(.int P)]) (rest := []) rfl rfl rfl (W := 0) (Nat.le_of_eq rfl) rfl (by decide) (by decide) (k' := 1) (n' := 3) rfl rfl (by decide) (by decide) own_d_prog_2_method_18_5 (q := 8) rfl ?_
  rintro _ h1 ⟨hb, rfl, Kh1c, frhb, Ghbt, Ghbs, Ghbl⟩
  have B'h1 : Exa Z h1 a "com/example/dircred/dircred/credential/DerReader" := Exa.keep B Kh1c
  have Fb'h1 : Fld Z h1 a "com/example/dircred/dircred/credential/DerReader" "bytes" "[B" (.ref b) := Fld.keep Fb Kh1c nin0
  have Fp'h1 : Fld Z h1 a "com/example/dircred/dircred/credential/DerReader" "position" "I" (.int P) := Fld.keep Fp Kh1c nin0
  have Fe'h1 : Fld Z h1 a "com/example/dircred/dircred/credential/DerReader" "end" "I" (.int E) := Fld.keep Fe Kh1c nin0
  have A1'h1 : OwA Z h1 b .byte (L.map Value.int) := OwA.keep A1 Kh1c nin0
  have hsh1 : n0 ≤ h1.size := Nat.le_trans hn0 Kh1c.1
  have Kh1 : Keep h h1 [a] := Keep.trans K0 Kh1c all0
  show X.G h1 1 3 8 #[.val (.ref a), .unset, .unset, .unset, .unset] [(.ref hb)]
  have lahb : a < hb := Nat.lt_of_lt_of_le B.lt frhb
  have lbhb : b < hb := Nat.lt_of_lt_of_le A1.lt frhb
  have fr0hb : h.size ≤ hb := Nat.le_trans K0.1 frhb
  have gehb : n0 ≤ hb := Nat.le_trans hn0 frhb
  refine X.astoreN (q := 9) (Ls' := #[.val (.ref a), .val (.ref hb), .unset, .unset, .unset]) own_d_prog_2_method_18_8 rfl rfl rfl ?_
  refine X.aloadN (q := 10) own_d_prog_2_method_18_9 rfl rfl rfl ?_
  refine X.getR (q := 13) (hw _ (List.mem_of_getElem? (i := 63) rfl)) Ghbl own_d_prog_2_method_18_10 rfl ?_
  refine X.if_lt (q' := 49) (q := 16) own_d_prog_2_method_18_13 rfl (by decide) rfl (fun c13 => ?_) (fun c13 => ?_)
  · refine X.iconst (q := 50) (1 : Int32) own_d_prog_2_method_18_49 (by decide) rfl ?_
    refine X.istoreN (q := 51) (Ls' := #[.val (.ref a), .val (.ref hb), .val (.int (1 : Int32)), .unset, .unset]) own_d_prog_2_method_18_50 rfl rfl ?_
    refine X.aloadN (q := 52) own_d_prog_2_method_18_51 rfl rfl rfl ?_
    refine X.getR (q := 55) (hw _ (List.mem_of_getElem? (i := 64) rfl)) Ghbs own_d_prog_2_method_18_52 rfl ?_
    refine X.istoreN (q := 56) (Ls' := #[.val (.ref a), .val (.ref hb), .val (.int (1 : Int32)), .val (.int S), .unset]) own_d_prog_2_method_18_55 rfl rfl ?_
    refine X.aloadN (q := 57) own_d_prog_2_method_18_56 rfl rfl rfl ?_
    refine X.iloadN (q := 58) own_d_prog_2_method_18_57 rfl rfl ?_
    refine X.private (a := a) (own_header l Z a0 hw h1 n0 a b L S E s T2 q2 s2 S2 L2 hr hE hN H.2.2.2.2.1 H2 hsh1 Fb'h1 Fe'h1 A1'h1) (hw _ (List.mem_of_getElem? (i := 46) rfl)) (hw _ (List.mem_of_getElem? (i := 47) rfl)) (hw _ (List.mem_of_getElem? (i := 48) rfl)) (hw _ (List.mem_of_getElem? (i := 2) rfl)) (hw _ (List.mem_of_getElem? (i := 3) rfl)) (hw _ (List.mem_of_getElem? (i := 49) rfl)) (by decide) B'h1 own_pd2 (argsL := [(.int S)]) (rest := []) rfl rfl rfl (W := 0) (Nat.le_of_eq rfl) rfl (by decide) (by decide) (k' := 2) (n' := 6) rfl rfl (by decide) (by decide) own_d_prog_2_method_18_58 (q := 61) rfl ?_
    rintro _ h2 ⟨hc, rfl, Kh2c, frhc, Ghct, Ghcs, Ghcl⟩
    have B'h2 : Exa Z h2 a "com/example/dircred/dircred/credential/DerReader" := Exa.keep B'h1 Kh2c
    have Fb'h2 : Fld Z h2 a "com/example/dircred/dircred/credential/DerReader" "bytes" "[B" (.ref b) := Fld.keep Fb'h1 Kh2c nin0
    have Fp'h2 : Fld Z h2 a "com/example/dircred/dircred/credential/DerReader" "position" "I" (.int P) := Fld.keep Fp'h1 Kh2c nin0
    have Fe'h2 : Fld Z h2 a "com/example/dircred/dircred/credential/DerReader" "end" "I" (.int E) := Fld.keep Fe'h1 Kh2c nin0
    have A1'h2 : OwA Z h2 b .byte (L.map Value.int) := OwA.keep A1'h1 Kh2c nin0
    have Ghbt'h2 : Fld Z h2 hb "com/example/dircred/dircred/credential/DerReader$Header" "tag" "I" (.int T) := Fld.keep Ghbt Kh2c nin0
    have Ghbs'h2 : Fld Z h2 hb "com/example/dircred/dircred/credential/DerReader$Header" "contentStart" "I" (.int S) := Fld.keep Ghbs Kh2c nin0
    have Ghbl'h2 : Fld Z h2 hb "com/example/dircred/dircred/credential/DerReader$Header" "length" "I" (.int Ln) := Fld.keep Ghbl Kh2c nin0
    have hsh2 : n0 ≤ h2.size := Nat.le_trans hsh1 Kh2c.1
    have Kh2 : Keep h h2 [a] := Keep.trans Kh1 Kh2c all0
    show X.G h2 2 6 61 #[.val (.ref a), .val (.ref hb), .val (.int (1 : Int32)), .val (.int S), .unset] [(.ref hc)]
    have lahc : a < hc := Nat.lt_of_lt_of_le B'h1.lt frhc
    have lbhc : b < hc := Nat.lt_of_lt_of_le A1'h1.lt frhc
    have lhbhc : hb < hc := Nat.lt_of_lt_of_le Ghbt.lt frhc
    have fr0hc : h.size ≤ hc := Nat.le_trans Kh1.1 frhc
    have gehc : n0 ≤ hc := Nat.le_trans hsh1 frhc
    refine X.astore (q := 63) (Ls' := #[.val (.ref a), .val (.ref hb), .val (.int (1 : Int32)), .val (.int S), .val (.ref hc)]) own_d_prog_2_method_18_61 rfl rfl rfl ?_
    refine X.aload (q := 65) own_d_prog_2_method_18_63 rfl rfl rfl ?_
    refine X.getR (q := 68) (hw _ (List.mem_of_getElem? (i := 65) rfl)) Ghct own_d_prog_2_method_18_65 rfl ?_
    refine X.if_ne (q' := 109) (q := 71) own_d_prog_2_method_18_68 rfl (by decide) rfl (fun c68 => ?_) (fun c68 => ?_)
    · refine X.aload (q := 111) own_d_prog_2_method_18_109 rfl rfl rfl ?_
      refine X.getR (q := 114) (hw _ (List.mem_of_getElem? (i := 63) rfl)) Ghcl own_d_prog_2_method_18_111 rfl ?_
      refine X.if_ge (q' := 129) (q := 117) own_d_prog_2_method_18_114 rfl (by decide) rfl (fun c114 => ?_) (fun c114 => ?_)
      · refine X.aload (q := 131) own_d_prog_2_method_18_129 rfl rfl rfl ?_
        refine X.getR (q := 134) (hw _ (List.mem_of_getElem? (i := 64) rfl)) Ghcs own_d_prog_2_method_18_131 rfl ?_
        refine X.aload (q := 136) own_d_prog_2_method_18_134 rfl rfl rfl ?_
        refine X.getR (q := 139) (hw _ (List.mem_of_getElem? (i := 63) rfl)) Ghcl own_d_prog_2_method_18_136 rfl ?_
        refine X.iadd (q := 140) own_d_prog_2_method_18_139 rfl ?_
        refine X.foldI (v := P3) (Int32.toInt_inj.mp (by rw [own_add rfl (by omega) (by omega)]; omega)) ?_
        refine X.istoreN (q := 141) (Ls' := #[.val (.ref a), .val (.ref hb), .val (.int (1 : Int32)), .val (.int P3), .val (.ref hc)]) own_d_prog_2_method_18_140 rfl rfl ?_
        refine X.goto (q' := 56) own_d_prog_2_method_18_141 (by decide) ?_
        refine X.aloadN (q := 57) own_d_prog_2_method_18_56 rfl rfl rfl ?_
        refine X.iloadN (q := 58) own_d_prog_2_method_18_57 rfl rfl ?_
        refine X.private (a := a) (own_header l Z a0 hw h2 n0 a b L P3 E p3 T3 q3 s3 S3 L3 hr hE hN hP3 H3 hsh2 Fb'h2 Fe'h2 A1'h2) (hw _ (List.mem_of_getElem? (i := 46) rfl)) (hw _ (List.mem_of_getElem? (i := 47) rfl)) (hw _ (List.mem_of_getElem? (i := 48) rfl)) (hw _ (List.mem_of_getElem? (i := 2) rfl)) (hw _ (List.mem_of_getElem? (i := 3) rfl)) (hw _ (List.mem_of_getElem? (i := 49) rfl)) (by decide) B'h2 own_pd2 (argsL := [(.int P3)]) (rest := []) rfl rfl rfl (W := 0) (Nat.le_of_eq rfl) rfl (by decide) (by decide) (k' := 3) (n' := 9) rfl rfl (by decide) (by decide) own_d_prog_2_method_18_58 (q := 61) rfl ?_
        rintro _ h3 ⟨he, rfl, Kh3c, frhe, Ghet, Ghes, Ghel⟩
        have B'h3 : Exa Z h3 a "com/example/dircred/dircred/credential/DerReader" := Exa.keep B'h2 Kh3c
        have Fb'h3 : Fld Z h3 a "com/example/dircred/dircred/credential/DerReader" "bytes" "[B" (.ref b) := Fld.keep Fb'h2 Kh3c nin0
        have Fp'h3 : Fld Z h3 a "com/example/dircred/dircred/credential/DerReader" "position" "I" (.int P) := Fld.keep Fp'h2 Kh3c nin0
        have Fe'h3 : Fld Z h3 a "com/example/dircred/dircred/credential/DerReader" "end" "I" (.int E) := Fld.keep Fe'h2 Kh3c nin0
        have A1'h3 : OwA Z h3 b .byte (L.map Value.int) := OwA.keep A1'h2 Kh3c nin0
        have Ghbt'h3 : Fld Z h3 hb "com/example/dircred/dircred/credential/DerReader$Header" "tag" "I" (.int T) := Fld.keep Ghbt'h2 Kh3c nin0
        have Ghbs'h3 : Fld Z h3 hb "com/example/dircred/dircred/credential/DerReader$Header" "contentStart" "I" (.int S) := Fld.keep Ghbs'h2 Kh3c nin0
        have Ghbl'h3 : Fld Z h3 hb "com/example/dircred/dircred/credential/DerReader$Header" "length" "I" (.int Ln) := Fld.keep Ghbl'h2 Kh3c nin0
        have Ghct'h3 : Fld Z h3 hc "com/example/dircred/dircred/credential/DerReader$Header" "tag" "I" (.int T2) := Fld.keep Ghct Kh3c nin0
        have Ghcs'h3 : Fld Z h3 hc "com/example/dircred/dircred/credential/DerReader$Header" "contentStart" "I" (.int S2) := Fld.keep Ghcs Kh3c nin0
        have Ghcl'h3 : Fld Z h3 hc "com/example/dircred/dircred/credential/DerReader$Header" "length" "I" (.int L2) := Fld.keep Ghcl Kh3c nin0
        have hsh3 : n0 ≤ h3.size := Nat.le_trans hsh2 Kh3c.1
        have Kh3 : Keep h h3 [a] := Keep.trans Kh2 Kh3c all0
        show X.G h3 3 9 61 #[.val (.ref a), .val (.ref hb), .val (.int (1 : Int32)), .val (.int P3), .val (.ref hc)] [(.ref he)]
        have lahe : a < he := Nat.lt_of_lt_of_le B'h2.lt frhe
        have lbhe : b < he := Nat.lt_of_lt_of_le A1'h2.lt frhe
        have lhbhe : hb < he := Nat.lt_of_lt_of_le Ghbt'h2.lt frhe
        have lhche : hc < he := Nat.lt_of_lt_of_le Ghct.lt frhe
        have fr0he : h.size ≤ he := Nat.le_trans Kh2.1 frhe
        have gehe : n0 ≤ he := Nat.le_trans hsh2 frhe
        refine X.astore (q := 63) (Ls' := #[.val (.ref a), .val (.ref hb), .val (.int (1 : Int32)), .val (.int P3), .val (.ref he)]) own_d_prog_2_method_18_61 rfl rfl rfl ?_
        refine X.aload (q := 65) own_d_prog_2_method_18_63 rfl rfl rfl ?_
        refine X.getR (q := 68) (hw _ (List.mem_of_getElem? (i := 65) rfl)) Ghet own_d_prog_2_method_18_65 rfl ?_
        refine X.if_ne (q' := 109) (q := 71) own_d_prog_2_method_18_68 rfl (by decide) rfl (fun c68 => ?_) (fun c68 => ?_)
        · omega
        · refine X.iinc (q := 74) (Ls' := #[.val (.ref a), .val (.ref hb), .val (.int (0 : Int32)), .val (.int P3), .val (.ref he)]) (-1 : Int32) own_d_prog_2_method_18_71 (by decide) rfl rfl rfl ?_
          refine X.aload (q := 76) own_d_prog_2_method_18_74 rfl rfl rfl ?_
          refine X.getR (q := 79) (hw _ (List.mem_of_getElem? (i := 64) rfl)) Ghes own_d_prog_2_method_18_76 rfl ?_
          refine X.istoreN (q := 80) (Ls' := #[.val (.ref a), .val (.ref hb), .val (.int (0 : Int32)), .val (.int S3), .val (.ref he)]) own_d_prog_2_method_18_79 rfl rfl ?_
          refine X.iloadN (q := 81) own_d_prog_2_method_18_80 rfl rfl ?_
          refine X.if_ne (a := 0) (q' := 141) (q := 84) own_d_prog_2_method_18_81 rfl (by decide) rfl (fun c81 => ?_) (fun c81 => ?_)
          · omega
          · refine X.aloadN (q := 85) own_d_prog_2_method_18_84 rfl rfl rfl ?_
            refine X.iloadN (q := 86) own_d_prog_2_method_18_85 rfl rfl ?_
            refine X.putF (q := 89) (host := "") (Or.inl (hw _ (List.mem_of_getElem? (i := 15) rfl))) Via.refl Fp'h3 B'h3 (Or.inl (hw _ (List.mem_of_getElem? (i := 16) rfl))) (hw _ (List.mem_of_getElem? (i := 2) rfl)) (ty := .int) (by decide) rfl rfl gea own_d_prog_2_method_18_86 rfl (fun h4 Wh4 => ?_)
            have B'h4 : Exa Z h4 a "com/example/dircred/dircred/credential/DerReader" := Exa.wr Wh4 B'h3
            have Fb'h4 : Fld Z h4 a "com/example/dircred/dircred/credential/DerReader" "bytes" "[B" (.ref b) := Fld.other Wh4 Fb'h3 (Or.inr (slot_ne (Or.inr (hw _ (List.mem_of_getElem? (i := 14) rfl))) (Or.inl (hw _ (List.mem_of_getElem? (i := 16) rfl))) (by decide) (ht := (by decide : _ = some (.array .byte))) (ht' := (by decide : _ = some .int))))
            have Fp'h4 : Fld Z h4 a "com/example/dircred/dircred/credential/DerReader" "position" "I" (.int S3) := Fld.same Wh4 Fp'h3
            have Fe'h4 : Fld Z h4 a "com/example/dircred/dircred/credential/DerReader" "end" "I" (.int E) := Fld.other Wh4 Fe'h3 (Or.inr (slot_ne (Or.inr (hw _ (List.mem_of_getElem? (i := 18) rfl))) (Or.inl (hw _ (List.mem_of_getElem? (i := 16) rfl))) (by decide) (ht := (by decide : _ = some .int)) (ht' := (by decide : _ = some .int))))
            have A1'h4 : OwA Z h4 b .byte (L.map Value.int) := OwA.other A1'h3 Wh4 (Ne.symm neab)
            have Ghbt'h4 : Fld Z h4 hb "com/example/dircred/dircred/credential/DerReader$Header" "tag" "I" (.int T) := Fld.other Wh4 Ghbt'h3 (Or.inl (Nat.ne_of_gt lahb))
            have Ghbs'h4 : Fld Z h4 hb "com/example/dircred/dircred/credential/DerReader$Header" "contentStart" "I" (.int S) := Fld.other Wh4 Ghbs'h3 (Or.inl (Nat.ne_of_gt lahb))
            have Ghbl'h4 : Fld Z h4 hb "com/example/dircred/dircred/credential/DerReader$Header" "length" "I" (.int Ln) := Fld.other Wh4 Ghbl'h3 (Or.inl (Nat.ne_of_gt lahb))
            have Ghct'h4 : Fld Z h4 hc "com/example/dircred/dircred/credential/DerReader$Header" "tag" "I" (.int T2) := Fld.other Wh4 Ghct'h3 (Or.inl (Nat.ne_of_gt lahc))
            have Ghcs'h4 : Fld Z h4 hc "com/example/dircred/dircred/credential/DerReader$Header" "contentStart" "I" (.int S2) := Fld.other Wh4 Ghcs'h3 (Or.inl (Nat.ne_of_gt lahc))
            have Ghcl'h4 : Fld Z h4 hc "com/example/dircred/dircred/credential/DerReader$Header" "length" "I" (.int L2) := Fld.other Wh4 Ghcl'h3 (Or.inl (Nat.ne_of_gt lahc))
            have Ghet'h4 : Fld Z h4 he "com/example/dircred/dircred/credential/DerReader$Header" "tag" "I" (.int T3) := Fld.other Wh4 Ghet (Or.inl (Nat.ne_of_gt lahe))
            have Ghes'h4 : Fld Z h4 he "com/example/dircred/dircred/credential/DerReader$Header" "contentStart" "I" (.int S3) := Fld.other Wh4 Ghes (Or.inl (Nat.ne_of_gt lahe))
            have Ghel'h4 : Fld Z h4 he "com/example/dircred/dircred/credential/DerReader$Header" "length" "I" (.int L3) := Fld.other Wh4 Ghel (Or.inl (Nat.ne_of_gt lahe))
            have hsh4 : n0 ≤ h4.size := by rw [Wr.size Wh4]; exact hsh3
            have Kh4 : Keep h h4 [a] := Keep.wr Kh3 Wh4 (Or.inl (List.mem_of_getElem? (i := 0) rfl))
            refine X.newO (q := 92) (k' := 4) (n' := 13) (hw _ (List.mem_of_getElem? (i := 66) rfl)) (hw _ (List.mem_of_getElem? (i := 67) rfl)) (hw _ (List.mem_of_getElem? (i := 68) rfl)) own_d_prog_2_method_18_89 rfl rfl (by decide) (by decide) rfl (fun h5 a6 ga6 Eh5 Ba6 Da6 => ?_)
            have la_a6 : a < a6 := by have := B'h4.lt; rw [← ga6] at this; exact this
            have lb_a6 : b < a6 := by have := A1'h4.lt; rw [← ga6] at this; exact this
            have lhb_a6 : hb < a6 := by have := Ghbt'h4.lt; rw [← ga6] at this; exact this
            have lhc_a6 : hc < a6 := by have := Ghct'h4.lt; rw [← ga6] at this; exact this
            have lhe_a6 : he < a6 := by have := Ghet'h4.lt; rw [← ga6] at this; exact this
            have B'h5 : Exa Z h5 a "com/example/dircred/dircred/credential/DerReader" := Exa.ext Eh5 B'h4
            have Fb'h5 : Fld Z h5 a "com/example/dircred/dircred/credential/DerReader" "bytes" "[B" (.ref b) := Fld.ext Eh5 Fb'h4
            have Fp'h5 : Fld Z h5 a "com/example/dircred/dircred/credential/DerReader" "position" "I" (.int S3) := Fld.ext Eh5 Fp'h4
            have Fe'h5 : Fld Z h5 a "com/example/dircred/dircred/credential/DerReader" "end" "I" (.int E) := Fld.ext Eh5 Fe'h4
            have A1'h5 : OwA Z h5 b .byte (L.map Value.int) := OwA.ext (E := Eh5) A1'h4
            have Ghbt'h5 : Fld Z h5 hb "com/example/dircred/dircred/credential/DerReader$Header" "tag" "I" (.int T) := Fld.ext Eh5 Ghbt'h4
            have Ghbs'h5 : Fld Z h5 hb "com/example/dircred/dircred/credential/DerReader$Header" "contentStart" "I" (.int S) := Fld.ext Eh5 Ghbs'h4
            have Ghbl'h5 : Fld Z h5 hb "com/example/dircred/dircred/credential/DerReader$Header" "length" "I" (.int Ln) := Fld.ext Eh5 Ghbl'h4
            have Ghct'h5 : Fld Z h5 hc "com/example/dircred/dircred/credential/DerReader$Header" "tag" "I" (.int T2) := Fld.ext Eh5 Ghct'h4
            have Ghcs'h5 : Fld Z h5 hc "com/example/dircred/dircred/credential/DerReader$Header" "contentStart" "I" (.int S2) := Fld.ext Eh5 Ghcs'h4
            have Ghcl'h5 : Fld Z h5 hc "com/example/dircred/dircred/credential/DerReader$Header" "length" "I" (.int L2) := Fld.ext Eh5 Ghcl'h4
            have Ghet'h5 : Fld Z h5 he "com/example/dircred/dircred/credential/DerReader$Header" "tag" "I" (.int T3) := Fld.ext Eh5 Ghet'h4
            have Ghes'h5 : Fld Z h5 he "com/example/dircred/dircred/credential/DerReader$Header" "contentStart" "I" (.int S3) := Fld.ext Eh5 Ghes'h4
            have Ghel'h5 : Fld Z h5 he "com/example/dircred/dircred/credential/DerReader$Header" "length" "I" (.int L3) := Fld.ext Eh5 Ghel'h4
            have gea6 : n0 ≤ a6 := by rw [ga6]; exact hsh4
            have hsh5 : n0 ≤ h5.size := Nat.le_trans hsh4 Eh5.1
            have fra6 : h.size ≤ a6 := by rw [ga6]; exact Kh4.1
            have Kh5 : Keep h h5 [a] := Keep.ext Kh4 Eh5
            have Fa6_tag : Fld Z h5 a6 "com/example/dircred/dircred/credential/DerReader$Value" "tag" "I" (.int (0 : Int32)) := Da6 (Or.inr (hw _ (List.mem_of_getElem? (i := 74) rfl))) (ty := .int) (by decide)
            have Fa6_contentStart : Fld Z h5 a6 "com/example/dircred/dircred/credential/DerReader$Value" "contentStart" "I" (.int (0 : Int32)) := Da6 (Or.inr (hw _ (List.mem_of_getElem? (i := 76) rfl))) (ty := .int) (by decide)
            have Fa6_contentEnd : Fld Z h5 a6 "com/example/dircred/dircred/credential/DerReader$Value" "contentEnd" "I" (.int (0 : Int32)) := Da6 (Or.inr (hw _ (List.mem_of_getElem? (i := 78) rfl))) (ty := .int) (by decide)
            have Fa6_end : Fld Z h5 a6 "com/example/dircred/dircred/credential/DerReader$Value" "end" "I" (.int (0 : Int32)) := Da6 (Or.inr (hw _ (List.mem_of_getElem? (i := 80) rfl))) (ty := .int) (by decide)
            refine X.dup (q := 93) own_d_prog_2_method_18_92 rfl rfl ?_
            refine X.aloadN (q := 94) own_d_prog_2_method_18_93 rfl rfl rfl ?_
            refine X.getR (q := 97) (hw _ (List.mem_of_getElem? (i := 65) rfl)) Ghbt'h5 own_d_prog_2_method_18_94 rfl ?_
            refine X.aloadN (q := 98) own_d_prog_2_method_18_97 rfl rfl rfl ?_
            refine X.getR (q := 101) (hw _ (List.mem_of_getElem? (i := 64) rfl)) Ghbs'h5 own_d_prog_2_method_18_98 rfl ?_
            refine X.iloadN (q := 102) own_d_prog_2_method_18_101 rfl rfl ?_
            refine X.iconst (q := 103) (2 : Int32) own_d_prog_2_method_18_102 (by decide) rfl ?_
            refine X.isub (q := 104) own_d_prog_2_method_18_103 rfl ?_
            refine X.iloadN (q := 105) own_d_prog_2_method_18_104 rfl rfl ?_
            refine X.special (a := a6) (own_vi l Z a0 hw h5 n0 a6 T S (S3 - (2 : Int32)) S3 hsh5 Ba6 Fa6_tag Fa6_contentStart Fa6_contentEnd Fa6_end gea6) rfl (hw _ (List.mem_of_getElem? (i := 69) rfl)) (hw _ (List.mem_of_getElem? (i := 70) rfl)) (hw _ (List.mem_of_getElem? (i := 68) rfl)) (hw _ (List.mem_of_getElem? (i := 71) rfl)) (by decide) own_pd3 (argsL := [(.int T), (.int S), (.int (S3 - (2 : Int32))), (.int S3)]) (rest := [(.ref a6)]) rfl rfl rfl (W := 1) (Nat.le_of_eq rfl) rfl (by decide) (by decide) (k' := 4) (n' := 13) rfl rfl (by decide) (by decide) own_d_prog_2_method_18_105 (q := 108) rfl ?_
            rintro _ h7 ⟨rfl, Kh7c, Vt, Vs, Vc, Ve⟩
            have B'h7 : Exa Z h7 a "com/example/dircred/dircred/credential/DerReader" := Exa.keep B'h5 Kh7c
            have Fb'h7 : Fld Z h7 a "com/example/dircred/dircred/credential/DerReader" "bytes" "[B" (.ref b) := Fld.keep Fb'h5 Kh7c (ninS (Nat.ne_of_lt la_a6) nin0)
            have Fp'h7 : Fld Z h7 a "com/example/dircred/dircred/credential/DerReader" "position" "I" (.int S3) := Fld.keep Fp'h5 Kh7c (ninS (Nat.ne_of_lt la_a6) nin0)
            have Fe'h7 : Fld Z h7 a "com/example/dircred/dircred/credential/DerReader" "end" "I" (.int E) := Fld.keep Fe'h5 Kh7c (ninS (Nat.ne_of_lt la_a6) nin0)
            have A1'h7 : OwA Z h7 b .byte (L.map Value.int) := OwA.keep A1'h5 Kh7c (ninS (Nat.ne_of_lt lb_a6) nin0)
            have Ghbt'h7 : Fld Z h7 hb "com/example/dircred/dircred/credential/DerReader$Header" "tag" "I" (.int T) := Fld.keep Ghbt'h5 Kh7c (ninS (Nat.ne_of_lt lhb_a6) nin0)
            have Ghbs'h7 : Fld Z h7 hb "com/example/dircred/dircred/credential/DerReader$Header" "contentStart" "I" (.int S) := Fld.keep Ghbs'h5 Kh7c (ninS (Nat.ne_of_lt lhb_a6) nin0)
            have Ghbl'h7 : Fld Z h7 hb "com/example/dircred/dircred/credential/DerReader$Header" "length" "I" (.int Ln) := Fld.keep Ghbl'h5 Kh7c (ninS (Nat.ne_of_lt lhb_a6) nin0)
            have Ghct'h7 : Fld Z h7 hc "com/example/dircred/dircred/credential/DerReader$Header" "tag" "I" (.int T2) := Fld.keep Ghct'h5 Kh7c (ninS (Nat.ne_of_lt lhc_a6) nin0)
            have Ghcs'h7 : Fld Z h7 hc "com/example/dircred/dircred/credential/DerReader$Header" "contentStart" "I" (.int S2) := Fld.keep Ghcs'h5 Kh7c (ninS (Nat.ne_of_lt lhc_a6) nin0)
            have Ghcl'h7 : Fld Z h7 hc "com/example/dircred/dircred/credential/DerReader$Header" "length" "I" (.int L2) := Fld.keep Ghcl'h5 Kh7c (ninS (Nat.ne_of_lt lhc_a6) nin0)
            have Ghet'h7 : Fld Z h7 he "com/example/dircred/dircred/credential/DerReader$Header" "tag" "I" (.int T3) := Fld.keep Ghet'h5 Kh7c (ninS (Nat.ne_of_lt lhe_a6) nin0)
            have Ghes'h7 : Fld Z h7 he "com/example/dircred/dircred/credential/DerReader$Header" "contentStart" "I" (.int S3) := Fld.keep Ghes'h5 Kh7c (ninS (Nat.ne_of_lt lhe_a6) nin0)
            have Ghel'h7 : Fld Z h7 he "com/example/dircred/dircred/credential/DerReader$Header" "length" "I" (.int L3) := Fld.keep Ghel'h5 Kh7c (ninS (Nat.ne_of_lt lhe_a6) nin0)
            have Ba6'h7 : Exa Z h7 a6 "com/example/dircred/dircred/credential/DerReader$Value" := Exa.keep Ba6 Kh7c
            have hsh7 : n0 ≤ h7.size := Nat.le_trans hsh5 Kh7c.1
            have Kh7 : Keep h h7 [a] := Keep.trans Kh5 Kh7c (allS (Or.inr fra6) all0)
            show X.G h7 4 13 108 #[.val (.ref a), .val (.ref hb), .val (.int (0 : Int32)), .val (.int S3), .val (.ref he)] [(.ref a6)]
            refine X.retA (t := (.object "com/example/dircred/dircred/credential/DerReader$Value")) own_d_prog_2_method_18_108 rfl rfl rfl rfl (by decide) (by decide) ?_
            exact ⟨a6, rfl, Kh7, Fb'h7, Fp'h7, Fe'h7⟩
      · omega
    · omega
  · omega
def own_rm_own_skip3 : Room := ({ frames := 4, cells := 4, slots := 13, locals := 65 } : Room)
set_option maxRecDepth 65536 in
set_option maxHeartbeats 40000000 in
theorem own_skip3 (l : Launch) (Z : State) (a0 : Array Value) (hw : ∀ d ∈ tables_1, d.before a0 Z = true) (h : Heap) (n0 : Nat) (a b : Addr) (L : List Int32) (P E : Int32) (p : Nat) (T : Int32) (q s : Nat) (S Ln : Int32) (hr : ∀ x ∈ L, -128 ≤ x.toInt ∧ x.toInt ≤ 127) (hE : E.toInt = (L.length : Int)) (hN : L.length < 1000) (hP : P.toInt = (p : Int)) (H : own_hdr L p T q s S Ln) (hLn : Ln.toInt = -1) (T2 : Int32) (q2 s2 : Nat) (S2 L2 : Int32) (H2 : own_hdr L s T2 q2 s2 S2 L2) (hT2 : ¬ T2.toInt = 0) (hL2 : 0 ≤ L2.toInt) (P3 : Int32) (p3 : Nat) (hP3 : P3.toInt = (p3 : Int)) (hp3 : (p3 : Int) = (s2 : Int) + L2.toInt) (T3 : Int32) (q3 s3 : Nat) (S3 L3 : Int32) (H3 : own_hdr L p3 T3 q3 s3 S3 L3) (hT3 : T3.toInt = 0)  (hn0 : n0 ≤ h.size) (B : Exa Z h a "com/example/dircred/dircred/credential/DerReader") (Fb : Fld Z h a "com/example/dircred/dircred/credential/DerReader" "bytes" "[B" (.ref b)) (Fp : Fld Z h a "com/example/dircred/dircred/credential/DerReader" "position" "I" (.int P)) (Fe : Fld Z h a "com/example/dircred/dircred/credential/DerReader" "end" "I" (.int E)) (A1 : OwA Z h b .byte (L.map Value.int)) (gea : n0 ≤ a) (neab : a ≠ b) :
    OwM l Z (⟨"com/example/dircred/dircred/credential/DerReader", "skip", "()V"⟩ : MethodName) prog_2_method_14_code 1 none own_rm_own_skip3 4 13 [] #[(.ref a)] h n0 (fun r h' => r = none ∧ Keep h h' [a] ∧ Fld Z h' a "com/example/dircred/dircred/credential/DerReader" "bytes" "[B" (.ref b) ∧ Fld Z h' a "com/example/dircred/dircred/credential/DerReader" "position" "I" (.int S3) ∧ Fld Z h' a "com/example/dircred/dircred/credential/DerReader" "end" "I" (.int E)) := by
  refine OwM.of (Ls := #[.val (.ref a)]) (by decide +kernel) (fun m => by first | (simp [entryFrame, mkF, argsToLocals, Value.category]; done) | rfl) ?_
  intro _ _ _ _ _ _ _ X
  have K0 : Keep h h [a] := Keep.refl _ _
  refine X.aloadN (q := 1) own_d_prog_2_method_14_0 rfl rfl rfl ?_
  refine X.private (a := a) (own_next3 l Z a0 hw h n0 a b L P E p T q s S Ln hr hE hN hP H hLn T2 q2 s2 S2 L2 H2 hT2 hL2 P3 p3 hP3 hp3 T3 q3 s3 S3 L3 H3 hT3 hn0 B Fb Fp Fe A1 gea neab) (hw _ (List.mem_of_getElem? (i := 42) rfl)) (hw _ (List.mem_of_getElem? (i := 43) rfl)) (hw _ (List.mem_of_getElem? (i := 44) rfl)) (hw _ (List.mem_of_getElem? (i := 2) rfl)) (hw _ (List.mem_of_getElem? (i := 3) rfl)) (hw _ (List.mem_of_getElem? (i := 45) rfl)) (by decide) B own_pd4 (argsL := []) (rest := []) rfl rfl rfl (W := 0) (Nat.le_of_eq rfl) rfl (by decide) (by decide) (k' := 4) (n' := 13) rfl rfl (by decide) (by decide) own_d_prog_2_method_14_1 (q := 4) rfl ?_
  rintro _ h1 ⟨vb, rfl, Kh1c, Gb, Gp, Ge⟩
  have B'h1 : Exa Z h1 a "com/example/dircred/dircred/credential/DerReader" := Exa.keep B Kh1c
  have A1'h1 : OwA Z h1 b .byte (L.map Value.int) := OwA.keep A1 Kh1c (ninS (Ne.symm neab) nin0)
  have hsh1 : n0 ≤ h1.size := Nat.le_trans hn0 Kh1c.1
  have Kh1 : Keep h h1 [a] := Keep.trans K0 Kh1c (allS (Or.inl (List.mem_of_getElem? (i := 0) rfl)) all0)
  show X.G h1 4 13 4 #[.val (.ref a)] [(.ref vb)]
  refine X.pop (q := 5) own_d_prog_2_method_14_4 rfl rfl ?_
  refine X.retV own_d_prog_2_method_14_5 rfl (by decide) (by decide) ?_
  exact ⟨rfl, Kh1, Gb, Gp, Ge⟩
theorem own_pd6 : parseMethodDescriptor "(II)I" = some ⟨[.int, .int], some .int⟩ := by decide +kernel
theorem own_pd7 : parseMethodDescriptor "([BIII)V" = some ⟨[(.array .byte), .int, .int, .int], none⟩ := by decide +kernel
theorem own_pd8 : parseMethodDescriptor "([B)V" = some ⟨[(.array .byte)], none⟩ := by decide +kernel
theorem own_pd9 : parseMethodDescriptor "()V" = some ⟨[], none⟩ := by decide +kernel
set_option maxRecDepth 65536 in
set_option maxHeartbeats 40000000 in
theorem own_law (l : Launch) (Z : State) (a0 : Array Value) (hw : ∀ d ∈ tables_1, d.before a0 Z = true) (h : Heap) (n0 : Nat) (hn0 : n0 ≤ h.size) (x0 x1 x2 x3 x4 : Int32)  :
    OwM l Z (⟨"com/example/dircred/dircred/credential/DerReaderEndPinLaw", "law", "(IIIII)Z"⟩ : MethodName) code 12 (some .boolean) room_1 24 128 tables_1 #[(.int x0), (.int x1), (.int x2), (.int x3), (.int x4)] h n0 (fun r h' => r = some (.int 1)) := by
  refine OwM.of (Ls := #[.val (.int x0), .val (.int x1), .val (.int x2), .val (.int x3), .val (.int x4), .unset, .unset, .unset, .unset, .unset, .unset, .unset]) (by decide +kernel) (fun m => by first | (simp [entryFrame, mkF, argsToLocals, Value.category]; done) | rfl) ?_
  intro _ _ _ _ _ _ _ X
  have e0 : (0 : Int32).toInt = 0 := rfl
  have e1 : (1 : Int32).toInt = 1 := rfl
  have e2 : (2 : Int32).toInt = 2 := rfl
  have e3 : (3 : Int32).toInt = 3 := rfl
  have e4 : (4 : Int32).toInt = 4 := rfl
  have e5 : (5 : Int32).toInt = 5 := rfl
  have e6 : (6 : Int32).toInt = 6 := rfl
  have e7 : (7 : Int32).toInt = 7 := rfl
  have e8 : (8 : Int32).toInt = 8 := rfl
  have e9 : (9 : Int32).toInt = 9 := rfl
  have e10 : (10 : Int32).toInt = 10 := rfl
  have em1 : (-1 : Int32).toInt = -1 := rfl
  refine X.iloadN (q := 1) at_0 rfl rfl ?_
  refine X.iconst (q := 2) (3 : Int32) at_1 (by decide) rfl ?_
  refine X.iand (q := 3) at_2 rfl ?_
  refine X.nmI (fun m hm => ?_)
  have hmr : 0 ≤ m.toInt ∧ m.toInt ≤ 3 := by rw [hm, Jvm.Kit.i32_mask (k := 2) _ _ (by decide) (by decide)]; omega
  clear hm
  refine X.istore (q := 5) (Ls' := #[.val (.int x0), .val (.int x1), .val (.int x2), .val (.int x3), .val (.int x4), .val (.int m), .unset, .unset, .unset, .unset, .unset, .unset]) at_3 rfl rfl ?_
  refine X.iloadN (q := 6) at_5 rfl rfl ?_
  refine X.iconst (q := 7) (3 : Int32) at_6 (by decide) rfl ?_
  refine X.iand (q := 8) at_7 rfl ?_
  refine X.nmI (fun l1 hl1 => ?_)
  have hl1r : 0 ≤ l1.toInt ∧ l1.toInt ≤ 3 := by rw [hl1, Jvm.Kit.i32_mask (k := 2) _ _ (by decide) (by decide)]; omega
  clear hl1
  refine X.istore (q := 10) (Ls' := #[.val (.int x0), .val (.int x1), .val (.int x2), .val (.int x3), .val (.int x4), .val (.int m), .val (.int l1), .unset, .unset, .unset, .unset, .unset]) at_8 rfl rfl ?_
  refine X.iloadN (q := 11) at_10 rfl rfl ?_
  refine X.iconst (q := 12) (2 : Int32) at_11 (by decide) rfl ?_
  refine X.iushr (q := 13) at_12 rfl ?_
  refine X.iconst (q := 14) (3 : Int32) at_13 (by decide) rfl ?_
  refine X.iand (q := 15) at_14 rfl ?_
  refine X.nmI (fun l2 hl2 => ?_)
  have hl2r : 0 ≤ l2.toInt ∧ l2.toInt ≤ 3 := by rw [hl2, Jvm.Kit.i32_mask (k := 2) _ _ (by decide) (by decide)]; omega
  clear hl2
  refine X.istore (q := 17) (Ls' := #[.val (.int x0), .val (.int x1), .val (.int x2), .val (.int x3), .val (.int x4), .val (.int m), .val (.int l1), .val (.int l2), .unset, .unset, .unset, .unset]) at_15 rfl rfl ?_
  refine X.iload (q := 19) at_17 rfl rfl ?_
  refine X.if_ne (q' := 33) (q := 22) at_19 rfl (by decide) rfl (fun c19 => ?_) (fun c19 => ?_)
  · refine X.iload (q := 35) at_33 rfl rfl ?_
    refine X.iconst (q := 36) (1 : Int32) at_35 (by decide) rfl ?_
    refine X.icmp_ne (b := 1) (q' := 81) (q := 39) at_36 rfl rfl (by decide) rfl (fun c36 => ?_) (fun c36 => ?_)
    · refine X.iload (q := 83) at_81 rfl rfl ?_
      refine X.iconst (q := 84) (2 : Int32) at_83 (by decide) rfl ?_
      refine X.icmp_ne (b := 2) (q' := 172) (q := 87) at_84 rfl rfl (by decide) rfl (fun c84 => ?_) (fun c84 => ?_)
      · have hsp : l1 = (0 : Int32) ∨ l1 = (1 : Int32) ∨ l1 = (2 : Int32) ∨ l1 = (3 : Int32) := (by have q_ : l1.toInt = 0 ∨ l1.toInt = 1 ∨ l1.toInt = 2 ∨ l1.toInt = 3 := (by omega); exact (Or.imp (fun e_ => Int32.toInt_inj.mp e_) (Or.imp (fun e_ => Int32.toInt_inj.mp e_) (Or.imp (fun e_ => Int32.toInt_inj.mp e_) (fun e_ => Int32.toInt_inj.mp e_)))) q_)
        rcases hsp with rfl | rfl | rfl | rfl
        · refine X.bipush (q := 174) (6 : Int32) at_172 (by decide) rfl ?_
          refine X.iload (q := 176) at_174 rfl rfl ?_
          refine X.iadd (q := 177) at_176 rfl ?_
          refine X.foldI (v := (6 : Int32)) (by decide) ?_
          refine X.newP (q := 179) (ty := .byte) (N := 6) (cap := 6) (k' := 1) (n' := 6) (hw _ (List.mem_of_getElem? (i := 0) rfl)) at_177 rfl rfl (Nat.le_refl _) (by decide) rfl rfl (by decide) (by decide) rfl (fun h1 a2 ga2 Eh1 Aa2 => ?_)
          have gea2 : n0 ≤ a2 := by rw [ga2]; exact hn0
          have hsh1 : n0 ≤ h1.size := Nat.le_trans hn0 Eh1.1
          have Aa2 : OwA Z h1 a2 .byte [(.int (0 : Int32)), (.int (0 : Int32)), (.int (0 : Int32)), (.int (0 : Int32)), (.int (0 : Int32)), (.int (0 : Int32))] := Aa2
          refine X.astore (q := 181) (Ls' := #[.val (.int x0), .val (.int x1), .val (.int x2), .val (.int x3), .val (.int x4), .val (.int m), .val (.int (0 : Int32)), .val (.int l2), .val (.ref a2), .unset, .unset, .unset]) at_179 rfl rfl rfl ?_
          refine X.aload (q := 183) at_181 rfl rfl rfl ?_
          refine X.iconst (q := 184) (0 : Int32) at_183 (by decide) rfl ?_
          refine X.bipush (q := 186) (32 : Int32) at_184 (by decide) rfl ?_
          refine X.iloadN (q := 187) at_186 rfl rfl ?_
          refine X.sipush (q := 190) (222 : Int32) at_187 (by decide) rfl ?_
          refine X.iand (q := 191) at_190 rfl ?_
          refine X.ior (q := 192) at_191 rfl ?_
          refine X.nmI (fun ya hya => ?_)
          have hya_ := own_or20 x1
          rw [← hya] at hya_
          clear hya
          refine X.i2b (q := 193) at_192 rfl ?_
          refine X.bastore (q := 194) (j := 0) Aa2 rfl (by simp) gea2 at_193 rfl (fun h3 Wh3 Ah3 => ?_)
          have hsh3 : n0 ≤ h3.size := by rw [Wr.size Wh3]; exact hsh1
          have Ah3_ : OwA Z h3 a2 .byte [(.int (nar .byte ya.toInt8.toInt32)), (.int (0 : Int32)), (.int (0 : Int32)), (.int (0 : Int32)), (.int (0 : Int32)), (.int (0 : Int32))] := Ah3
          refine X.aload (q := 196) at_194 rfl rfl rfl ?_
          refine X.iconst (q := 197) (1 : Int32) at_196 (by decide) rfl ?_
          refine X.bipush (q := 199) (-128 : Int32) at_197 (by decide) rfl ?_
          refine X.bastore (q := 200) (j := 1) Ah3_ rfl (by simp) gea2 at_199 rfl (fun h4 Wh4 Ah4 => ?_)
          have hsh4 : n0 ≤ h4.size := by rw [Wr.size Wh4]; exact hsh3
          have Ah4_ : OwA Z h4 a2 .byte [(.int (nar .byte ya.toInt8.toInt32)), (.int (nar .byte (-128 : Int32))), (.int (0 : Int32)), (.int (0 : Int32)), (.int (0 : Int32)), (.int (0 : Int32))] := Ah4
          refine X.iloadN (q := 201) at_200 rfl rfl ?_
          refine X.iload (q := 203) at_201 rfl rfl ?_
          refine X.callS (own_tag l Z a0 hw h4 n0 x2 (0 : Int32)) (hw _ (List.mem_of_getElem? (i := 30) rfl)) (hw _ (List.mem_of_getElem? (i := 31) rfl)) (hw _ (List.mem_of_getElem? (i := 32) rfl)) (hw _ (List.mem_of_getElem? (i := 33) rfl)) (by decide) own_pd6 (argsL := [(.int x2), (.int (0 : Int32))]) (rest := []) rfl rfl rfl (W := 0) (Nat.le_of_eq rfl) rfl (by decide) (by decide) (k' := 1) (n' := 6) rfl rfl (by decide) (by decide) at_203 (q := 206) rfl ?_
          rintro _ _ ⟨tc, rfl, htc, rfl⟩
          show X.G h4 1 6 206 #[.val (.int x0), .val (.int x1), .val (.int x2), .val (.int x3), .val (.int x4), .val (.int m), .val (.int (0 : Int32)), .val (.int l2), .val (.ref a2), .unset, .unset, .unset] [(.int tc)]
          refine X.istore (q := 208) (Ls' := #[.val (.int x0), .val (.int x1), .val (.int x2), .val (.int x3), .val (.int x4), .val (.int m), .val (.int (0 : Int32)), .val (.int l2), .val (.ref a2), .unset, .val (.int tc), .unset]) at_206 rfl rfl ?_
          refine X.iload (q := 210) at_208 rfl rfl ?_
          refine X.if_ne (q' := 216) (q := 213) at_210 rfl (by decide) rfl (fun c210 => ?_) (fun c210 => ?_)
          · refine X.aload (q := 218) at_216 rfl rfl rfl ?_
            refine X.iconst (q := 219) (2 : Int32) at_218 (by decide) rfl ?_
            refine X.iload (q := 221) at_219 rfl rfl ?_
            refine X.i2b (q := 222) at_221 rfl ?_
            refine X.bastore (q := 223) (j := 2) Ah4_ rfl (by simp) gea2 at_222 rfl (fun h5 Wh5 Ah5 => ?_)
            have hsh5 : n0 ≤ h5.size := by rw [Wr.size Wh5]; exact hsh4
            have Ah5_ : OwA Z h5 a2 .byte [(.int (nar .byte ya.toInt8.toInt32)), (.int (nar .byte (-128 : Int32))), (.int (nar .byte tc.toInt8.toInt32)), (.int (0 : Int32)), (.int (0 : Int32)), (.int (0 : Int32))] := Ah5
            refine X.aload (q := 225) at_223 rfl rfl rfl ?_
            refine X.iconst (q := 226) (3 : Int32) at_225 (by decide) rfl ?_
            refine X.iload (q := 228) at_226 rfl rfl ?_
            refine X.i2b (q := 229) at_228 rfl ?_
            refine X.bastore (q := 230) (j := 3) Ah5_ rfl (by simp) gea2 at_229 rfl (fun h6 Wh6 Ah6 => ?_)
            have hsh6 : n0 ≤ h6.size := by rw [Wr.size Wh6]; exact hsh5
            have Ah6_ : OwA Z h6 a2 .byte [(.int (nar .byte ya.toInt8.toInt32)), (.int (nar .byte (-128 : Int32))), (.int (nar .byte tc.toInt8.toInt32)), (.int (nar .byte (0 : Int32).toInt8.toInt32)), (.int (0 : Int32)), (.int (0 : Int32))] := Ah6
            refine X.aload (q := 232) at_230 rfl rfl rfl ?_
            refine X.iconst (q := 233) (4 : Int32) at_232 (by decide) rfl ?_
            refine X.iload (q := 235) at_233 rfl rfl ?_
            refine X.iload (q := 237) at_235 rfl rfl ?_
            refine X.callS (own_put0 l Z a0 hw h6 n0 a2 (4 : Int32) x4 4 _ rfl (by simp) (by decide) hsh6 Ah6_ gea2) (hw _ (List.mem_of_getElem? (i := 34) rfl)) (hw _ (List.mem_of_getElem? (i := 35) rfl)) (hw _ (List.mem_of_getElem? (i := 32) rfl)) (hw _ (List.mem_of_getElem? (i := 36) rfl)) (by decide) own_pd7 (argsL := [(.ref a2), (.int (4 : Int32)), (.int (0 : Int32)), (.int x4)]) (rest := []) rfl rfl rfl (W := 0) (Nat.le_of_eq rfl) rfl (by decide) (by decide) (k' := 1) (n' := 6) rfl rfl (by decide) (by decide) at_237 (q := 240) rfl ?_
            rintro _ h7 ⟨rfl, Kh7c, Gu⟩
            have hsh7 : n0 ≤ h7.size := Nat.le_trans hsh6 Kh7c.1
            show X.G h7 1 6 240 #[.val (.int x0), .val (.int x1), .val (.int x2), .val (.int x3), .val (.int x4), .val (.int m), .val (.int (0 : Int32)), .val (.int l2), .val (.ref a2), .unset, .val (.int tc), .unset] []
            have Gu : OwA Z h7 a2 .byte [(.int (nar .byte ya.toInt8.toInt32)), (.int (nar .byte (-128 : Int32))), (.int (nar .byte tc.toInt8.toInt32)), (.int (nar .byte (0 : Int32).toInt8.toInt32)), (.int (0 : Int32)), (.int (0 : Int32))] := Gu
            refine X.aload (q := 242) at_240 rfl rfl rfl ?_
            refine X.iconst (q := 243) (4 : Int32) at_242 (by decide) rfl ?_
            refine X.iload (q := 245) at_243 rfl rfl ?_
            refine X.iadd (q := 246) at_245 rfl ?_
            refine X.foldI (v := (4 : Int32)) (by decide) ?_
            refine X.iconst (q := 247) (0 : Int32) at_246 (by decide) rfl ?_
            refine X.bastore (q := 248) (j := 4) Gu rfl (by simp) gea2 at_247 rfl (fun h8 Wh8 Ah8 => ?_)
            have hsh8 : n0 ≤ h8.size := by rw [Wr.size Wh8]; exact hsh7
            have Ah8_ : OwA Z h8 a2 .byte [(.int (nar .byte ya.toInt8.toInt32)), (.int (nar .byte (-128 : Int32))), (.int (nar .byte tc.toInt8.toInt32)), (.int (nar .byte (0 : Int32).toInt8.toInt32)), (.int (nar .byte (0 : Int32))), (.int (0 : Int32))] := Ah8
            refine X.aload (q := 250) at_248 rfl rfl rfl ?_
            refine X.iconst (q := 251) (5 : Int32) at_250 (by decide) rfl ?_
            refine X.iload (q := 253) at_251 rfl rfl ?_
            refine X.iadd (q := 254) at_253 rfl ?_
            refine X.foldI (v := (5 : Int32)) (by decide) ?_
            refine X.iconst (q := 255) (0 : Int32) at_254 (by decide) rfl ?_
            refine X.bastore (q := 256) (j := 5) Ah8_ rfl (by simp) gea2 at_255 rfl (fun h9 Wh9 Ah9 => ?_)
            have hsh9 : n0 ≤ h9.size := by rw [Wr.size Wh9]; exact hsh8
            have Ah9_ : OwA Z h9 a2 .byte [(.int (nar .byte ya.toInt8.toInt32)), (.int (nar .byte (-128 : Int32))), (.int (nar .byte tc.toInt8.toInt32)), (.int (nar .byte (0 : Int32).toInt8.toInt32)), (.int (nar .byte (0 : Int32))), (.int (nar .byte (0 : Int32)))] := Ah9
            refine X.iconst (q := 257) (1 : Int32) at_256 (by decide) rfl ?_
            refine X.istore (q := 259) (Ls' := #[.val (.int x0), .val (.int x1), .val (.int x2), .val (.int x3), .val (.int x4), .val (.int m), .val (.int (0 : Int32)), .val (.int l2), .val (.ref a2), .val (.int (1 : Int32)), .val (.int tc), .unset]) at_257 rfl rfl ?_
            refine X.newO (q := 262) (k' := 2) (n' := 9) (hw _ (List.mem_of_getElem? (i := 1) rfl)) (hw _ (List.mem_of_getElem? (i := 2) rfl)) (hw _ (List.mem_of_getElem? (i := 3) rfl)) at_259 rfl rfl (by decide) (by decide) rfl (fun h10 a11 ga11 Eh10 Ba11 Da11 => ?_)
            have la2_a11 : a2 < a11 := by have := Ah9_.lt; rw [← ga11] at this; exact this
            have Ah9_'h10 : OwA Z h10 a2 .byte [(.int (nar .byte ya.toInt8.toInt32)), (.int (nar .byte (-128 : Int32))), (.int (nar .byte tc.toInt8.toInt32)), (.int (nar .byte (0 : Int32).toInt8.toInt32)), (.int (nar .byte (0 : Int32))), (.int (nar .byte (0 : Int32)))] := OwA.ext (E := Eh10) Ah9_
            have gea11 : n0 ≤ a11 := by rw [ga11]; exact hsh9
            have hsh10 : n0 ≤ h10.size := Nat.le_trans hsh9 Eh10.1
            have Fa11_bytes : Fld Z h10 a11 "com/example/dircred/dircred/credential/DerReader" "bytes" "[B" .null := Da11 (Or.inr (hw _ (List.mem_of_getElem? (i := 14) rfl))) (ty := (.array .byte)) (by decide)
            have Fa11_position : Fld Z h10 a11 "com/example/dircred/dircred/credential/DerReader" "position" "I" (.int (0 : Int32)) := Da11 (Or.inl (hw _ (List.mem_of_getElem? (i := 16) rfl))) (ty := .int) (by decide)
            have Fa11_end : Fld Z h10 a11 "com/example/dircred/dircred/credential/DerReader" "end" "I" (.int (0 : Int32)) := Da11 (Or.inr (hw _ (List.mem_of_getElem? (i := 18) rfl))) (ty := .int) (by decide)
            refine X.dup (q := 263) at_262 rfl rfl ?_
            refine X.aload (q := 265) at_263 rfl rfl rfl ?_
            obtain ⟨L, hL⟩ : ∃ L_ : List Int32, L_ = [(nar .byte ya.toInt8.toInt32), (nar .byte (-128 : Int32)), (nar .byte tc.toInt8.toInt32), (nar .byte (0 : Int32).toInt8.toInt32), (nar .byte (0 : Int32)), (nar .byte (0 : Int32))] := ⟨_, rfl⟩
            have AL : OwA Z h10 a2 .byte (L.map Value.int) := by rw [hL]; exact Ah9_'h10
            have nL : L.length = 6 := by rw [hL]; rfl
            have gL0 : (L.getD 0 0).toInt = (ya.toInt + 128) % 256 - 128 := by rw [hL]; exact own_nbt _
            have gL1 : (L.getD 1 0).toInt = -128 := by rw [hL]; rfl
            have gL2 : (L.getD 2 0).toInt = (tc.toInt + 128) % 256 - 128 := by rw [hL]; exact own_nbt _
            have gL3 : (L.getD 3 0).toInt = ((0 : Int32).toInt + 128) % 256 - 128 := by rw [hL]; exact own_nbt _
            have gL4 : (L.getD 4 0).toInt = 0 := by rw [hL]; rfl
            have gL5 : (L.getD 5 0).toInt = 0 := by rw [hL]; rfl
            have rL : ∀ x ∈ L, -128 ≤ x.toInt ∧ x.toInt ≤ 127 := by
              intro x hx; rw [hL] at hx
              simp only [List.mem_cons, List.not_mem_nil, or_false] at hx
              rcases hx with rfl | rfl | rfl | rfl | rfl | rfl
              · rw [own_nbt]; omega
              · exact ⟨by decide, by decide⟩
              · rw [own_nbt]; omega
              · rw [own_nbt]; omega
              · exact ⟨by decide, by decide⟩
              · exact ⟨by decide, by decide⟩
            clear hL
            refine X.special (a := a11) (own_i1 l Z a0 hw h10 n0 a11 a2 L (6 : Int32) (by rw [nL]; rfl) hsh10 Ba11 Fa11_bytes Fa11_position Fa11_end AL gea11 (Nat.ne_of_gt la2_a11)) rfl (hw _ (List.mem_of_getElem? (i := 4) rfl)) (hw _ (List.mem_of_getElem? (i := 5) rfl)) (hw _ (List.mem_of_getElem? (i := 3) rfl)) (hw _ (List.mem_of_getElem? (i := 6) rfl)) (by decide) own_pd8 (argsL := [(.ref a2)]) (rest := [(.ref a11)]) rfl rfl rfl (W := 1) (Nat.le_of_eq rfl) rfl (by decide) (by decide) (k' := 2) (n' := 9) rfl rfl (by decide) (by decide) at_265 (q := 268) rfl ?_
            rintro _ h12 ⟨rfl, Kh12c, Db, Dp, De⟩
            have AL'h12 : OwA Z h12 a2 .byte (L.map Value.int) := OwA.keep AL Kh12c (ninS (Nat.ne_of_lt la2_a11) nin0)
            have Ba11'h12 : Exa Z h12 a11 "com/example/dircred/dircred/credential/DerReader" := Exa.keep Ba11 Kh12c
            have hsh12 : n0 ≤ h12.size := Nat.le_trans hsh10 Kh12c.1
            show X.G h12 2 9 268 #[.val (.int x0), .val (.int x1), .val (.int x2), .val (.int x3), .val (.int x4), .val (.int m), .val (.int (0 : Int32)), .val (.int l2), .val (.ref a2), .val (.int (1 : Int32)), .val (.int tc), .unset] [(.ref a11)]
            refine X.astore (q := 270) (Ls' := #[.val (.int x0), .val (.int x1), .val (.int x2), .val (.int x3), .val (.int x4), .val (.int m), .val (.int (0 : Int32)), .val (.int l2), .val (.ref a2), .val (.int (1 : Int32)), .val (.ref a11), .unset]) at_268 rfl rfl rfl ?_
            refine X.iload (q := 272) at_270 rfl rfl ?_
            refine X.iconst (q := 273) (1 : Int32) at_272 (by decide) rfl ?_
            refine X.icmp_lt (a := 1) (b := 1) (q' := 281) (q := 276) at_273 rfl rfl (by decide) rfl (fun c273 => ?_) (fun c273 => ?_)
            · omega
            · refine X.aload (q := 278) at_276 rfl rfl rfl ?_
              have HA : own_hdr L 0 ya 1 2 (2 : Int32) (-1 : Int32) := by have k2_ : (2 : Int32).toInt = 2 := rfl; unfold own_hdr; simp only [nL, Nat.reduceAdd, and_true]; refine ⟨?_, ?_, ?_, ?_, ?_, ?_, ?_, ?_⟩ <;> first | omega | rfl
              have HB : own_hdr L 2 tc 3 4 (4 : Int32) (0 : Int32) := by have k0_ : (0 : Int32).toInt = 0 := rfl; have k4_ : (4 : Int32).toInt = 4 := rfl; have k5_ : (5 : Int32).toInt = 5 := rfl; unfold own_hdr; simp only [nL, Nat.reduceAdd, and_true]; refine ⟨?_, ?_, ?_, ?_, ?_, ?_, ?_, ?_⟩ <;> first | omega | rfl
              have HC : own_hdr L 4 (0 : Int32) 5 6 (6 : Int32) (0 : Int32) := by have k0_ : (0 : Int32).toInt = 0 := rfl; have k6_ : (6 : Int32).toInt = 6 := rfl; unfold own_hdr; simp only [nL, Nat.reduceAdd, and_true]; refine ⟨?_, ?_, ?_, ?_, ?_, ?_, ?_, ?_⟩ <;> first | omega | rfl
              refine X.virtual (a := a11) (own_skip3 l Z a0 hw h12 n0 a11 a2 L 0 (6 : Int32) 0 ya 1 2 2 (-1) rL (by rw [nL]; rfl) (by rw [nL]; decide) rfl HA rfl tc 3 4 4 (0 : Int32) HB (by first | omega | decide) (by decide) (4 : Int32) 4 rfl (by decide) 0 5 6 (6 : Int32) 0 HC rfl hsh12 Ba11'h12 Db Dp De AL'h12 gea11 (Nat.ne_of_gt la2_a11)) (hw _ (List.mem_of_getElem? (i := 37) rfl)) (hw _ (List.mem_of_getElem? (i := 38) rfl)) (hw _ (List.mem_of_getElem? (i := 40) rfl)) (hw _ (List.mem_of_getElem? (i := 39) rfl)) (hw _ (List.mem_of_getElem? (i := 3) rfl)) (hw _ (List.mem_of_getElem? (i := 41) rfl)) (by decide) Ba11'h12 own_pd9 (argsL := []) (rest := []) rfl rfl rfl (W := 0) (Nat.le_of_eq rfl) rfl (by decide) (by decide) (k' := 6) (n' := 22) rfl rfl (by decide) (by decide) at_278 (q := 281) rfl ?_
              rintro _ h13 ⟨rfl, Kh13c, Sb, Sp, Se⟩
              have AL'h13 : OwA Z h13 a2 .byte (L.map Value.int) := OwA.keep AL'h12 Kh13c (ninS (Nat.ne_of_lt la2_a11) nin0)
              have Ba11'h13 : Exa Z h13 a11 "com/example/dircred/dircred/credential/DerReader" := Exa.keep Ba11'h12 Kh13c
              have hsh13 : n0 ≤ h13.size := Nat.le_trans hsh12 Kh13c.1
              show X.G h13 6 22 281 #[.val (.int x0), .val (.int x1), .val (.int x2), .val (.int x3), .val (.int x4), .val (.int m), .val (.int (0 : Int32)), .val (.int l2), .val (.ref a2), .val (.int (1 : Int32)), .val (.ref a11), .unset] []
              refine X.iload (q := 283) at_281 rfl rfl ?_
              refine X.iconst (q := 284) (2 : Int32) at_283 (by decide) rfl ?_
              refine X.icmp_ne (a := 1) (b := 2) (q' := 302) (q := 287) at_284 rfl rfl (by decide) rfl (fun c284 => ?_) (fun c284 => ?_)
              · refine X.aload (q := 304) at_302 rfl rfl rfl ?_
                refine X.virtual (a := a11) (own_hm l Z a0 hw h13 n0 a11 (6 : Int32) (6 : Int32) hsh13 Sp Se) (hw _ (List.mem_of_getElem? (i := 19) rfl)) (hw _ (List.mem_of_getElem? (i := 20) rfl)) (hw _ (List.mem_of_getElem? (i := 22) rfl)) (hw _ (List.mem_of_getElem? (i := 21) rfl)) (hw _ (List.mem_of_getElem? (i := 3) rfl)) (hw _ (List.mem_of_getElem? (i := 23) rfl)) (by decide) Ba11'h13 own_pd5 (argsL := []) (rest := []) rfl rfl rfl (W := 0) (Nat.le_of_eq rfl) rfl (by decide) (by decide) (k' := 6) (n' := 22) rfl rfl (by decide) (by decide) at_304 (q := 307) rfl ?_
                rintro _ _ ⟨zb, rfl, hzb, rfl⟩
                show X.G h13 6 22 307 #[.val (.int x0), .val (.int x1), .val (.int x2), .val (.int x3), .val (.int x4), .val (.int m), .val (.int (0 : Int32)), .val (.int l2), .val (.ref a2), .val (.int (1 : Int32)), .val (.ref a11), .unset] [(.int zb)]
                refine X.istore (q := 309) (Ls' := #[.val (.int x0), .val (.int x1), .val (.int x2), .val (.int x3), .val (.int x4), .val (.int m), .val (.int (0 : Int32)), .val (.int l2), .val (.ref a2), .val (.int (1 : Int32)), .val (.ref a11), .val (.int zb)]) at_307 rfl rfl ?_
                refine X.aload (q := 311) at_309 rfl rfl rfl ?_
                refine X.virtual (a := a11) (own_en l Z a0 hw h13 n0 a11 a2 (6 : Int32) (6 : Int32) (by decide) hsh13 Ba11'h13 Sb Sp Se) (hw _ (List.mem_of_getElem? (i := 24) rfl)) (hw _ (List.mem_of_getElem? (i := 25) rfl)) (hw _ (List.mem_of_getElem? (i := 27) rfl)) (hw _ (List.mem_of_getElem? (i := 26) rfl)) (hw _ (List.mem_of_getElem? (i := 3) rfl)) (hw _ (List.mem_of_getElem? (i := 28) rfl)) (by decide) Ba11'h13 own_pd9 (argsL := []) (rest := []) rfl rfl rfl (W := 0) (Nat.le_of_eq rfl) rfl (by decide) (by decide) (k' := 6) (n' := 22) rfl rfl (by decide) (by decide) at_311 (q := 314) rfl ?_
                rintro _ _ ⟨rfl, rfl⟩
                show X.G h13 6 22 314 #[.val (.int x0), .val (.int x1), .val (.int x2), .val (.int x3), .val (.int x4), .val (.int m), .val (.int (0 : Int32)), .val (.int l2), .val (.ref a2), .val (.int (1 : Int32)), .val (.ref a11), .val (.int zb)] []
                refine X.iload (q := 316) at_314 rfl rfl ?_
                refine X.if_ne (q' := 331) (q := 319) at_316 rfl (by decide) rfl (fun c316 => ?_) (fun c316 => ?_)
                · omega
                · refine X.aload (q := 321) at_319 rfl rfl rfl ?_
                  refine X.virtual (a := a11) (own_hm l Z a0 hw h13 n0 a11 (6 : Int32) (6 : Int32) hsh13 Sp Se) (hw _ (List.mem_of_getElem? (i := 19) rfl)) (hw _ (List.mem_of_getElem? (i := 20) rfl)) (hw _ (List.mem_of_getElem? (i := 22) rfl)) (hw _ (List.mem_of_getElem? (i := 21) rfl)) (hw _ (List.mem_of_getElem? (i := 3) rfl)) (hw _ (List.mem_of_getElem? (i := 23) rfl)) (by decide) Ba11'h13 own_pd5 (argsL := []) (rest := []) rfl rfl rfl (W := 0) (Nat.le_of_eq rfl) rfl (by decide) (by decide) (k' := 6) (n' := 22) rfl rfl (by decide) (by decide) at_321 (q := 324) rfl ?_
                  rintro _ _ ⟨zc, rfl, hzc, rfl⟩
                  show X.G h13 6 22 324 #[.val (.int x0), .val (.int x1), .val (.int x2), .val (.int x3), .val (.int x4), .val (.int m), .val (.int (0 : Int32)), .val (.int l2), .val (.ref a2), .val (.int (1 : Int32)), .val (.ref a11), .val (.int zb)] [(.int zc)]
                  refine X.if_ne (q' := 331) (q := 327) at_324 rfl (by decide) rfl (fun c324 => ?_) (fun c324 => ?_)
                  · omega
                  · refine X.iconst (q := 328) (1 : Int32) at_327 (by decide) rfl ?_
                    refine X.goto (q' := 332) at_328 (by decide) ?_
                    refine X.retN (t := .boolean) (z' := (1 : Int32)) at_332 rfl (by simp) (by decide) (by decide) (by decide) ?_
                    rfl
              · omega
          · refine X.iconst (q := 214) (5 : Int32) at_213 (by decide) rfl ?_
            refine X.istore (q := 216) (Ls' := #[.val (.int x0), .val (.int x1), .val (.int x2), .val (.int x3), .val (.int x4), .val (.int m), .val (.int (0 : Int32)), .val (.int l2), .val (.ref a2), .unset, .val (.int (5 : Int32)), .unset]) at_214 rfl rfl ?_
            refine X.aload (q := 218) at_216 rfl rfl rfl ?_
            refine X.iconst (q := 219) (2 : Int32) at_218 (by decide) rfl ?_
            refine X.iload (q := 221) at_219 rfl rfl ?_
            refine X.i2b (q := 222) at_221 rfl ?_
            refine X.bastore (q := 223) (j := 2) Ah4_ rfl (by simp) gea2 at_222 rfl (fun h14 Wh14 Ah14 => ?_)
            have hsh14 : n0 ≤ h14.size := by rw [Wr.size Wh14]; exact hsh4
            have Ah14_ : OwA Z h14 a2 .byte [(.int (nar .byte ya.toInt8.toInt32)), (.int (nar .byte (-128 : Int32))), (.int (nar .byte (5 : Int32).toInt8.toInt32)), (.int (0 : Int32)), (.int (0 : Int32)), (.int (0 : Int32))] := Ah14
            refine X.aload (q := 225) at_223 rfl rfl rfl ?_
            refine X.iconst (q := 226) (3 : Int32) at_225 (by decide) rfl ?_
            refine X.iload (q := 228) at_226 rfl rfl ?_
            refine X.i2b (q := 229) at_228 rfl ?_
            refine X.bastore (q := 230) (j := 3) Ah14_ rfl (by simp) gea2 at_229 rfl (fun h15 Wh15 Ah15 => ?_)
            have hsh15 : n0 ≤ h15.size := by rw [Wr.size Wh15]; exact hsh14
            have Ah15_ : OwA Z h15 a2 .byte [(.int (nar .byte ya.toInt8.toInt32)), (.int (nar .byte (-128 : Int32))), (.int (nar .byte (5 : Int32).toInt8.toInt32)), (.int (nar .byte (0 : Int32).toInt8.toInt32)), (.int (0 : Int32)), (.int (0 : Int32))] := Ah15
            refine X.aload (q := 232) at_230 rfl rfl rfl ?_
            refine X.iconst (q := 233) (4 : Int32) at_232 (by decide) rfl ?_
            refine X.iload (q := 235) at_233 rfl rfl ?_
            refine X.iload (q := 237) at_235 rfl rfl ?_
            refine X.callS (own_put0 l Z a0 hw h15 n0 a2 (4 : Int32) x4 4 _ rfl (by simp) (by decide) hsh15 Ah15_ gea2) (hw _ (List.mem_of_getElem? (i := 34) rfl)) (hw _ (List.mem_of_getElem? (i := 35) rfl)) (hw _ (List.mem_of_getElem? (i := 32) rfl)) (hw _ (List.mem_of_getElem? (i := 36) rfl)) (by decide) own_pd7 (argsL := [(.ref a2), (.int (4 : Int32)), (.int (0 : Int32)), (.int x4)]) (rest := []) rfl rfl rfl (W := 0) (Nat.le_of_eq rfl) rfl (by decide) (by decide) (k' := 1) (n' := 6) rfl rfl (by decide) (by decide) at_237 (q := 240) rfl ?_
            rintro _ h16 ⟨rfl, Kh16c, Gu⟩
            have hsh16 : n0 ≤ h16.size := Nat.le_trans hsh15 Kh16c.1
            show X.G h16 1 6 240 #[.val (.int x0), .val (.int x1), .val (.int x2), .val (.int x3), .val (.int x4), .val (.int m), .val (.int (0 : Int32)), .val (.int l2), .val (.ref a2), .unset, .val (.int (5 : Int32)), .unset] []
            have Gu : OwA Z h16 a2 .byte [(.int (nar .byte ya.toInt8.toInt32)), (.int (nar .byte (-128 : Int32))), (.int (nar .byte (5 : Int32).toInt8.toInt32)), (.int (nar .byte (0 : Int32).toInt8.toInt32)), (.int (0 : Int32)), (.int (0 : Int32))] := Gu
            refine X.aload (q := 242) at_240 rfl rfl rfl ?_
            refine X.iconst (q := 243) (4 : Int32) at_242 (by decide) rfl ?_
            refine X.iload (q := 245) at_243 rfl rfl ?_
            refine X.iadd (q := 246) at_245 rfl ?_
            refine X.foldI (v := (4 : Int32)) (by decide) ?_
            refine X.iconst (q := 247) (0 : Int32) at_246 (by decide) rfl ?_
            refine X.bastore (q := 248) (j := 4) Gu rfl (by simp) gea2 at_247 rfl (fun h17 Wh17 Ah17 => ?_)
            have hsh17 : n0 ≤ h17.size := by rw [Wr.size Wh17]; exact hsh16
            have Ah17_ : OwA Z h17 a2 .byte [(.int (nar .byte ya.toInt8.toInt32)), (.int (nar .byte (-128 : Int32))), (.int (nar .byte (5 : Int32).toInt8.toInt32)), (.int (nar .byte (0 : Int32).toInt8.toInt32)), (.int (nar .byte (0 : Int32))), (.int (0 : Int32))] := Ah17
            refine X.aload (q := 250) at_248 rfl rfl rfl ?_
            refine X.iconst (q := 251) (5 : Int32) at_250 (by decide) rfl ?_
            refine X.iload (q := 253) at_251 rfl rfl ?_
            refine X.iadd (q := 254) at_253 rfl ?_
            refine X.foldI (v := (5 : Int32)) (by decide) ?_
            refine X.iconst (q := 255) (0 : Int32) at_254 (by decide) rfl ?_
            refine X.bastore (q := 256) (j := 5) Ah17_ rfl (by simp) gea2 at_255 rfl (fun h18 Wh18 Ah18 => ?_)
            have hsh18 : n0 ≤ h18.size := by rw [Wr.size Wh18]; exact hsh17
            have Ah18_ : OwA Z h18 a2 .byte [(.int (nar .byte ya.toInt8.toInt32)), (.int (nar .byte (-128 : Int32))), (.int (nar .byte (5 : Int32).toInt8.toInt32)), (.int (nar .byte (0 : Int32).toInt8.toInt32)), (.int (nar .byte (0 : Int32))), (.int (nar .byte (0 : Int32)))] := Ah18
            refine X.iconst (q := 257) (1 : Int32) at_256 (by decide) rfl ?_
            refine X.istore (q := 259) (Ls' := #[.val (.int x0), .val (.int x1), .val (.int x2), .val (.int x3), .val (.int x4), .val (.int m), .val (.int (0 : Int32)), .val (.int l2), .val (.ref a2), .val (.int (1 : Int32)), .val (.int (5 : Int32)), .unset]) at_257 rfl rfl ?_
            refine X.newO (q := 262) (k' := 2) (n' := 9) (hw _ (List.mem_of_getElem? (i := 1) rfl)) (hw _ (List.mem_of_getElem? (i := 2) rfl)) (hw _ (List.mem_of_getElem? (i := 3) rfl)) at_259 rfl rfl (by decide) (by decide) rfl (fun h19 a20 ga20 Eh19 Ba20 Da20 => ?_)
            have la2_a20 : a2 < a20 := by have := Ah18_.lt; rw [← ga20] at this; exact this
            have Ah18_'h19 : OwA Z h19 a2 .byte [(.int (nar .byte ya.toInt8.toInt32)), (.int (nar .byte (-128 : Int32))), (.int (nar .byte (5 : Int32).toInt8.toInt32)), (.int (nar .byte (0 : Int32).toInt8.toInt32)), (.int (nar .byte (0 : Int32))), (.int (nar .byte (0 : Int32)))] := OwA.ext (E := Eh19) Ah18_
            have gea20 : n0 ≤ a20 := by rw [ga20]; exact hsh18
            have hsh19 : n0 ≤ h19.size := Nat.le_trans hsh18 Eh19.1
            have Fa20_bytes : Fld Z h19 a20 "com/example/dircred/dircred/credential/DerReader" "bytes" "[B" .null := Da20 (Or.inr (hw _ (List.mem_of_getElem? (i := 14) rfl))) (ty := (.array .byte)) (by decide)
            have Fa20_position : Fld Z h19 a20 "com/example/dircred/dircred/credential/DerReader" "position" "I" (.int (0 : Int32)) := Da20 (Or.inl (hw _ (List.mem_of_getElem? (i := 16) rfl))) (ty := .int) (by decide)
            have Fa20_end : Fld Z h19 a20 "com/example/dircred/dircred/credential/DerReader" "end" "I" (.int (0 : Int32)) := Da20 (Or.inr (hw _ (List.mem_of_getElem? (i := 18) rfl))) (ty := .int) (by decide)
            refine X.dup (q := 263) at_262 rfl rfl ?_
            refine X.aload (q := 265) at_263 rfl rfl rfl ?_
            obtain ⟨L, hL⟩ : ∃ L_ : List Int32, L_ = [(nar .byte ya.toInt8.toInt32), (nar .byte (-128 : Int32)), (nar .byte (5 : Int32).toInt8.toInt32), (nar .byte (0 : Int32).toInt8.toInt32), (nar .byte (0 : Int32)), (nar .byte (0 : Int32))] := ⟨_, rfl⟩
            have AL : OwA Z h19 a2 .byte (L.map Value.int) := by rw [hL]; exact Ah18_'h19
            have nL : L.length = 6 := by rw [hL]; rfl
            have gL0 : (L.getD 0 0).toInt = (ya.toInt + 128) % 256 - 128 := by rw [hL]; exact own_nbt _
            have gL1 : (L.getD 1 0).toInt = -128 := by rw [hL]; rfl
            have gL2 : (L.getD 2 0).toInt = ((5 : Int32).toInt + 128) % 256 - 128 := by rw [hL]; exact own_nbt _
            have gL3 : (L.getD 3 0).toInt = ((0 : Int32).toInt + 128) % 256 - 128 := by rw [hL]; exact own_nbt _
            have gL4 : (L.getD 4 0).toInt = 0 := by rw [hL]; rfl
            have gL5 : (L.getD 5 0).toInt = 0 := by rw [hL]; rfl
            have rL : ∀ x ∈ L, -128 ≤ x.toInt ∧ x.toInt ≤ 127 := by
              intro x hx; rw [hL] at hx
              simp only [List.mem_cons, List.not_mem_nil, or_false] at hx
              rcases hx with rfl | rfl | rfl | rfl | rfl | rfl
              · rw [own_nbt]; omega
              · exact ⟨by decide, by decide⟩
              · rw [own_nbt]; omega
              · rw [own_nbt]; omega
              · exact ⟨by decide, by decide⟩
              · exact ⟨by decide, by decide⟩
            clear hL
            refine X.special (a := a20) (own_i1 l Z a0 hw h19 n0 a20 a2 L (6 : Int32) (by rw [nL]; rfl) hsh19 Ba20 Fa20_bytes Fa20_position Fa20_end AL gea20 (Nat.ne_of_gt la2_a20)) rfl (hw _ (List.mem_of_getElem? (i := 4) rfl)) (hw _ (List.mem_of_getElem? (i := 5) rfl)) (hw _ (List.mem_of_getElem? (i := 3) rfl)) (hw _ (List.mem_of_getElem? (i := 6) rfl)) (by decide) own_pd8 (argsL := [(.ref a2)]) (rest := [(.ref a20)]) rfl rfl rfl (W := 1) (Nat.le_of_eq rfl) rfl (by decide) (by decide) (k' := 2) (n' := 9) rfl rfl (by decide) (by decide) at_265 (q := 268) rfl ?_
            rintro _ h21 ⟨rfl, Kh21c, Db, Dp, De⟩
            have AL'h21 : OwA Z h21 a2 .byte (L.map Value.int) := OwA.keep AL Kh21c (ninS (Nat.ne_of_lt la2_a20) nin0)
            have Ba20'h21 : Exa Z h21 a20 "com/example/dircred/dircred/credential/DerReader" := Exa.keep Ba20 Kh21c
            have hsh21 : n0 ≤ h21.size := Nat.le_trans hsh19 Kh21c.1
            show X.G h21 2 9 268 #[.val (.int x0), .val (.int x1), .val (.int x2), .val (.int x3), .val (.int x4), .val (.int m), .val (.int (0 : Int32)), .val (.int l2), .val (.ref a2), .val (.int (1 : Int32)), .val (.int (5 : Int32)), .unset] [(.ref a20)]
            refine X.astore (q := 270) (Ls' := #[.val (.int x0), .val (.int x1), .val (.int x2), .val (.int x3), .val (.int x4), .val (.int m), .val (.int (0 : Int32)), .val (.int l2), .val (.ref a2), .val (.int (1 : Int32)), .val (.ref a20), .unset]) at_268 rfl rfl rfl ?_
            refine X.iload (q := 272) at_270 rfl rfl ?_
            refine X.iconst (q := 273) (1 : Int32) at_272 (by decide) rfl ?_
            refine X.icmp_lt (a := 1) (b := 1) (q' := 281) (q := 276) at_273 rfl rfl (by decide) rfl (fun c273 => ?_) (fun c273 => ?_)
            · omega
            · refine X.aload (q := 278) at_276 rfl rfl rfl ?_
              have HA : own_hdr L 0 ya 1 2 (2 : Int32) (-1 : Int32) := by have k2_ : (2 : Int32).toInt = 2 := rfl; unfold own_hdr; simp only [nL, Nat.reduceAdd, and_true]; refine ⟨?_, ?_, ?_, ?_, ?_, ?_, ?_, ?_⟩ <;> first | omega | rfl
              have HB : own_hdr L 2 (5 : Int32) 3 4 (4 : Int32) (0 : Int32) := by have k0_ : (0 : Int32).toInt = 0 := rfl; have k4_ : (4 : Int32).toInt = 4 := rfl; have k5_ : (5 : Int32).toInt = 5 := rfl; unfold own_hdr; simp only [nL, Nat.reduceAdd, and_true]; refine ⟨?_, ?_, ?_, ?_, ?_, ?_, ?_, ?_⟩ <;> first | omega | rfl
              have HC : own_hdr L 4 (0 : Int32) 5 6 (6 : Int32) (0 : Int32) := by have k0_ : (0 : Int32).toInt = 0 := rfl; have k6_ : (6 : Int32).toInt = 6 := rfl; unfold own_hdr; simp only [nL, Nat.reduceAdd, and_true]; refine ⟨?_, ?_, ?_, ?_, ?_, ?_, ?_, ?_⟩ <;> first | omega | rfl
              refine X.virtual (a := a20) (own_skip3 l Z a0 hw h21 n0 a20 a2 L 0 (6 : Int32) 0 ya 1 2 2 (-1) rL (by rw [nL]; rfl) (by rw [nL]; decide) rfl HA rfl (5 : Int32) 3 4 4 (0 : Int32) HB (by first | omega | decide) (by decide) (4 : Int32) 4 rfl (by decide) 0 5 6 (6 : Int32) 0 HC rfl hsh21 Ba20'h21 Db Dp De AL'h21 gea20 (Nat.ne_of_gt la2_a20)) (hw _ (List.mem_of_getElem? (i := 37) rfl)) (hw _ (List.mem_of_getElem? (i := 38) rfl)) (hw _ (List.mem_of_getElem? (i := 40) rfl)) (hw _ (List.mem_of_getElem? (i := 39) rfl)) (hw _ (List.mem_of_getElem? (i := 3) rfl)) (hw _ (List.mem_of_getElem? (i := 41) rfl)) (by decide) Ba20'h21 own_pd9 (argsL := []) (rest := []) rfl rfl rfl (W := 0) (Nat.le_of_eq rfl) rfl (by decide) (by decide) (k' := 6) (n' := 22) rfl rfl (by decide) (by decide) at_278 (q := 281) rfl ?_
              rintro _ h22 ⟨rfl, Kh22c, Sb, Sp, Se⟩
              have AL'h22 : OwA Z h22 a2 .byte (L.map Value.int) := OwA.keep AL'h21 Kh22c (ninS (Nat.ne_of_lt la2_a20) nin0)
              have Ba20'h22 : Exa Z h22 a20 "com/example/dircred/dircred/credential/DerReader" := Exa.keep Ba20'h21 Kh22c
              have hsh22 : n0 ≤ h22.size := Nat.le_trans hsh21 Kh22c.1
              show X.G h22 6 22 281 #[.val (.int x0), .val (.int x1), .val (.int x2), .val (.int x3), .val (.int x4), .val (.int m), .val (.int (0 : Int32)), .val (.int l2), .val (.ref a2), .val (.int (1 : Int32)), .val (.ref a20), .unset] []
              refine X.iload (q := 283) at_281 rfl rfl ?_
              refine X.iconst (q := 284) (2 : Int32) at_283 (by decide) rfl ?_
              refine X.icmp_ne (a := 1) (b := 2) (q' := 302) (q := 287) at_284 rfl rfl (by decide) rfl (fun c284 => ?_) (fun c284 => ?_)
              · refine X.aload (q := 304) at_302 rfl rfl rfl ?_
                refine X.virtual (a := a20) (own_hm l Z a0 hw h22 n0 a20 (6 : Int32) (6 : Int32) hsh22 Sp Se) (hw _ (List.mem_of_getElem? (i := 19) rfl)) (hw _ (List.mem_of_getElem? (i := 20) rfl)) (hw _ (List.mem_of_getElem? (i := 22) rfl)) (hw _ (List.mem_of_getElem? (i := 21) rfl)) (hw _ (List.mem_of_getElem? (i := 3) rfl)) (hw _ (List.mem_of_getElem? (i := 23) rfl)) (by decide) Ba20'h22 own_pd5 (argsL := []) (rest := []) rfl rfl rfl (W := 0) (Nat.le_of_eq rfl) rfl (by decide) (by decide) (k' := 6) (n' := 22) rfl rfl (by decide) (by decide) at_304 (q := 307) rfl ?_
                rintro _ _ ⟨zb, rfl, hzb, rfl⟩
                show X.G h22 6 22 307 #[.val (.int x0), .val (.int x1), .val (.int x2), .val (.int x3), .val (.int x4), .val (.int m), .val (.int (0 : Int32)), .val (.int l2), .val (.ref a2), .val (.int (1 : Int32)), .val (.ref a20), .unset] [(.int zb)]
                refine X.istore (q := 309) (Ls' := #[.val (.int x0), .val (.int x1), .val (.int x2), .val (.int x3), .val (.int x4), .val (.int m), .val (.int (0 : Int32)), .val (.int l2), .val (.ref a2), .val (.int (1 : Int32)), .val (.ref a20), .val (.int zb)]) at_307 rfl rfl ?_
                refine X.aload (q := 311) at_309 rfl rfl rfl ?_
                refine X.virtual (a := a20) (own_en l Z a0 hw h22 n0 a20 a2 (6 : Int32) (6 : Int32) (by decide) hsh22 Ba20'h22 Sb Sp Se) (hw _ (List.mem_of_getElem? (i := 24) rfl)) (hw _ (List.mem_of_getElem? (i := 25) rfl)) (hw _ (List.mem_of_getElem? (i := 27) rfl)) (hw _ (List.mem_of_getElem? (i := 26) rfl)) (hw _ (List.mem_of_getElem? (i := 3) rfl)) (hw _ (List.mem_of_getElem? (i := 28) rfl)) (by decide) Ba20'h22 own_pd9 (argsL := []) (rest := []) rfl rfl rfl (W := 0) (Nat.le_of_eq rfl) rfl (by decide) (by decide) (k' := 6) (n' := 22) rfl rfl (by decide) (by decide) at_311 (q := 314) rfl ?_
                rintro _ _ ⟨rfl, rfl⟩
                show X.G h22 6 22 314 #[.val (.int x0), .val (.int x1), .val (.int x2), .val (.int x3), .val (.int x4), .val (.int m), .val (.int (0 : Int32)), .val (.int l2), .val (.ref a2), .val (.int (1 : Int32)), .val (.ref a20), .val (.int zb)] []
                refine X.iload (q := 316) at_314 rfl rfl ?_
                refine X.if_ne (q' := 331) (q := 319) at_316 rfl (by decide) rfl (fun c316 => ?_) (fun c316 => ?_)
                · omega
                · refine X.aload (q := 321) at_319 rfl rfl rfl ?_
                  refine X.virtual (a := a20) (own_hm l Z a0 hw h22 n0 a20 (6 : Int32) (6 : Int32) hsh22 Sp Se) (hw _ (List.mem_of_getElem? (i := 19) rfl)) (hw _ (List.mem_of_getElem? (i := 20) rfl)) (hw _ (List.mem_of_getElem? (i := 22) rfl)) (hw _ (List.mem_of_getElem? (i := 21) rfl)) (hw _ (List.mem_of_getElem? (i := 3) rfl)) (hw _ (List.mem_of_getElem? (i := 23) rfl)) (by decide) Ba20'h22 own_pd5 (argsL := []) (rest := []) rfl rfl rfl (W := 0) (Nat.le_of_eq rfl) rfl (by decide) (by decide) (k' := 6) (n' := 22) rfl rfl (by decide) (by decide) at_321 (q := 324) rfl ?_
                  rintro _ _ ⟨zc, rfl, hzc, rfl⟩
                  show X.G h22 6 22 324 #[.val (.int x0), .val (.int x1), .val (.int x2), .val (.int x3), .val (.int x4), .val (.int m), .val (.int (0 : Int32)), .val (.int l2), .val (.ref a2), .val (.int (1 : Int32)), .val (.ref a20), .val (.int zb)] [(.int zc)]
                  refine X.if_ne (q' := 331) (q := 327) at_324 rfl (by decide) rfl (fun c324 => ?_) (fun c324 => ?_)
                  · omega
                  · refine X.iconst (q := 328) (1 : Int32) at_327 (by decide) rfl ?_
                    refine X.goto (q' := 332) at_328 (by decide) ?_
                    refine X.retN (t := .boolean) (z' := (1 : Int32)) at_332 rfl (by simp) (by decide) (by decide) (by decide) ?_
                    rfl
              · omega
        · refine X.bipush (q := 174) (6 : Int32) at_172 (by decide) rfl ?_
          refine X.iload (q := 176) at_174 rfl rfl ?_
          refine X.iadd (q := 177) at_176 rfl ?_
          refine X.foldI (v := (7 : Int32)) (by decide) ?_
          refine X.newP (q := 179) (ty := .byte) (N := 7) (cap := 7) (k' := 1) (n' := 7) (hw _ (List.mem_of_getElem? (i := 0) rfl)) at_177 rfl rfl (Nat.le_refl _) (by decide) rfl rfl (by decide) (by decide) rfl (fun h23 a24 ga24 Eh23 Aa24 => ?_)
          have gea24 : n0 ≤ a24 := by rw [ga24]; exact hn0
          have hsh23 : n0 ≤ h23.size := Nat.le_trans hn0 Eh23.1
          have Aa24 : OwA Z h23 a24 .byte [(.int (0 : Int32)), (.int (0 : Int32)), (.int (0 : Int32)), (.int (0 : Int32)), (.int (0 : Int32)), (.int (0 : Int32)), (.int (0 : Int32))] := Aa24
          refine X.astore (q := 181) (Ls' := #[.val (.int x0), .val (.int x1), .val (.int x2), .val (.int x3), .val (.int x4), .val (.int m), .val (.int (1 : Int32)), .val (.int l2), .val (.ref a24), .unset, .unset, .unset]) at_179 rfl rfl rfl ?_
          refine X.aload (q := 183) at_181 rfl rfl rfl ?_
          refine X.iconst (q := 184) (0 : Int32) at_183 (by decide) rfl ?_
          refine X.bipush (q := 186) (32 : Int32) at_184 (by decide) rfl ?_
          refine X.iloadN (q := 187) at_186 rfl rfl ?_
          refine X.sipush (q := 190) (222 : Int32) at_187 (by decide) rfl ?_
          refine X.iand (q := 191) at_190 rfl ?_
          refine X.ior (q := 192) at_191 rfl ?_
          refine X.nmI (fun ya hya => ?_)
          have hya_ := own_or20 x1
          rw [← hya] at hya_
          clear hya
          refine X.i2b (q := 193) at_192 rfl ?_
          refine X.bastore (q := 194) (j := 0) Aa24 rfl (by simp) gea24 at_193 rfl (fun h25 Wh25 Ah25 => ?_)
          have hsh25 : n0 ≤ h25.size := by rw [Wr.size Wh25]; exact hsh23
          have Ah25_ : OwA Z h25 a24 .byte [(.int (nar .byte ya.toInt8.toInt32)), (.int (0 : Int32)), (.int (0 : Int32)), (.int (0 : Int32)), (.int (0 : Int32)), (.int (0 : Int32)), (.int (0 : Int32))] := Ah25
          refine X.aload (q := 196) at_194 rfl rfl rfl ?_
          refine X.iconst (q := 197) (1 : Int32) at_196 (by decide) rfl ?_
          refine X.bipush (q := 199) (-128 : Int32) at_197 (by decide) rfl ?_
          refine X.bastore (q := 200) (j := 1) Ah25_ rfl (by simp) gea24 at_199 rfl (fun h26 Wh26 Ah26 => ?_)
          have hsh26 : n0 ≤ h26.size := by rw [Wr.size Wh26]; exact hsh25
          have Ah26_ : OwA Z h26 a24 .byte [(.int (nar .byte ya.toInt8.toInt32)), (.int (nar .byte (-128 : Int32))), (.int (0 : Int32)), (.int (0 : Int32)), (.int (0 : Int32)), (.int (0 : Int32)), (.int (0 : Int32))] := Ah26
          refine X.iloadN (q := 201) at_200 rfl rfl ?_
          refine X.iload (q := 203) at_201 rfl rfl ?_
          refine X.callS (own_tag l Z a0 hw h26 n0 x2 (1 : Int32)) (hw _ (List.mem_of_getElem? (i := 30) rfl)) (hw _ (List.mem_of_getElem? (i := 31) rfl)) (hw _ (List.mem_of_getElem? (i := 32) rfl)) (hw _ (List.mem_of_getElem? (i := 33) rfl)) (by decide) own_pd6 (argsL := [(.int x2), (.int (1 : Int32))]) (rest := []) rfl rfl rfl (W := 0) (Nat.le_of_eq rfl) rfl (by decide) (by decide) (k' := 1) (n' := 7) rfl rfl (by decide) (by decide) at_203 (q := 206) rfl ?_
          rintro _ _ ⟨tc, rfl, htc, rfl⟩
          show X.G h26 1 7 206 #[.val (.int x0), .val (.int x1), .val (.int x2), .val (.int x3), .val (.int x4), .val (.int m), .val (.int (1 : Int32)), .val (.int l2), .val (.ref a24), .unset, .unset, .unset] [(.int tc)]
          refine X.istore (q := 208) (Ls' := #[.val (.int x0), .val (.int x1), .val (.int x2), .val (.int x3), .val (.int x4), .val (.int m), .val (.int (1 : Int32)), .val (.int l2), .val (.ref a24), .unset, .val (.int tc), .unset]) at_206 rfl rfl ?_
          refine X.iload (q := 210) at_208 rfl rfl ?_
          refine X.if_ne (q' := 216) (q := 213) at_210 rfl (by decide) rfl (fun c210 => ?_) (fun c210 => ?_)
          · refine X.aload (q := 218) at_216 rfl rfl rfl ?_
            refine X.iconst (q := 219) (2 : Int32) at_218 (by decide) rfl ?_
            refine X.iload (q := 221) at_219 rfl rfl ?_
            refine X.i2b (q := 222) at_221 rfl ?_
            refine X.bastore (q := 223) (j := 2) Ah26_ rfl (by simp) gea24 at_222 rfl (fun h27 Wh27 Ah27 => ?_)
            have hsh27 : n0 ≤ h27.size := by rw [Wr.size Wh27]; exact hsh26
            have Ah27_ : OwA Z h27 a24 .byte [(.int (nar .byte ya.toInt8.toInt32)), (.int (nar .byte (-128 : Int32))), (.int (nar .byte tc.toInt8.toInt32)), (.int (0 : Int32)), (.int (0 : Int32)), (.int (0 : Int32)), (.int (0 : Int32))] := Ah27
            refine X.aload (q := 225) at_223 rfl rfl rfl ?_
            refine X.iconst (q := 226) (3 : Int32) at_225 (by decide) rfl ?_
            refine X.iload (q := 228) at_226 rfl rfl ?_
            refine X.i2b (q := 229) at_228 rfl ?_
            refine X.bastore (q := 230) (j := 3) Ah27_ rfl (by simp) gea24 at_229 rfl (fun h28 Wh28 Ah28 => ?_)
            have hsh28 : n0 ≤ h28.size := by rw [Wr.size Wh28]; exact hsh27
            have Ah28_ : OwA Z h28 a24 .byte [(.int (nar .byte ya.toInt8.toInt32)), (.int (nar .byte (-128 : Int32))), (.int (nar .byte tc.toInt8.toInt32)), (.int (nar .byte (1 : Int32).toInt8.toInt32)), (.int (0 : Int32)), (.int (0 : Int32)), (.int (0 : Int32))] := Ah28
            refine X.aload (q := 232) at_230 rfl rfl rfl ?_
            refine X.iconst (q := 233) (4 : Int32) at_232 (by decide) rfl ?_
            refine X.iload (q := 235) at_233 rfl rfl ?_
            refine X.iload (q := 237) at_235 rfl rfl ?_
            refine X.callS (own_put1 l Z a0 hw h28 n0 a24 (4 : Int32) x4 4 _ rfl (by simp) (by decide) hsh28 Ah28_ gea24) (hw _ (List.mem_of_getElem? (i := 34) rfl)) (hw _ (List.mem_of_getElem? (i := 35) rfl)) (hw _ (List.mem_of_getElem? (i := 32) rfl)) (hw _ (List.mem_of_getElem? (i := 36) rfl)) (by decide) own_pd7 (argsL := [(.ref a24), (.int (4 : Int32)), (.int (1 : Int32)), (.int x4)]) (rest := []) rfl rfl rfl (W := 0) (Nat.le_of_eq rfl) rfl (by decide) (by decide) (k' := 1) (n' := 7) rfl rfl (by decide) (by decide) at_237 (q := 240) rfl ?_
            rintro _ h29 ⟨u0, rfl, Kh29c, Gu⟩
            have hsh29 : n0 ≤ h29.size := Nat.le_trans hsh28 Kh29c.1
            show X.G h29 1 7 240 #[.val (.int x0), .val (.int x1), .val (.int x2), .val (.int x3), .val (.int x4), .val (.int m), .val (.int (1 : Int32)), .val (.int l2), .val (.ref a24), .unset, .val (.int tc), .unset] []
            have Gu : OwA Z h29 a24 .byte [(.int (nar .byte ya.toInt8.toInt32)), (.int (nar .byte (-128 : Int32))), (.int (nar .byte tc.toInt8.toInt32)), (.int (nar .byte (1 : Int32).toInt8.toInt32)), (.int (nar .byte u0.toInt8.toInt32)), (.int (0 : Int32)), (.int (0 : Int32))] := Gu
            refine X.aload (q := 242) at_240 rfl rfl rfl ?_
            refine X.iconst (q := 243) (4 : Int32) at_242 (by decide) rfl ?_
            refine X.iload (q := 245) at_243 rfl rfl ?_
            refine X.iadd (q := 246) at_245 rfl ?_
            refine X.foldI (v := (5 : Int32)) (by decide) ?_
            refine X.iconst (q := 247) (0 : Int32) at_246 (by decide) rfl ?_
            refine X.bastore (q := 248) (j := 5) Gu rfl (by simp) gea24 at_247 rfl (fun h30 Wh30 Ah30 => ?_)
            have hsh30 : n0 ≤ h30.size := by rw [Wr.size Wh30]; exact hsh29
            have Ah30_ : OwA Z h30 a24 .byte [(.int (nar .byte ya.toInt8.toInt32)), (.int (nar .byte (-128 : Int32))), (.int (nar .byte tc.toInt8.toInt32)), (.int (nar .byte (1 : Int32).toInt8.toInt32)), (.int (nar .byte u0.toInt8.toInt32)), (.int (nar .byte (0 : Int32))), (.int (0 : Int32))] := Ah30
            refine X.aload (q := 250) at_248 rfl rfl rfl ?_
            refine X.iconst (q := 251) (5 : Int32) at_250 (by decide) rfl ?_
            refine X.iload (q := 253) at_251 rfl rfl ?_
            refine X.iadd (q := 254) at_253 rfl ?_
            refine X.foldI (v := (6 : Int32)) (by decide) ?_
            refine X.iconst (q := 255) (0 : Int32) at_254 (by decide) rfl ?_
            refine X.bastore (q := 256) (j := 6) Ah30_ rfl (by simp) gea24 at_255 rfl (fun h31 Wh31 Ah31 => ?_)
            have hsh31 : n0 ≤ h31.size := by rw [Wr.size Wh31]; exact hsh30
            have Ah31_ : OwA Z h31 a24 .byte [(.int (nar .byte ya.toInt8.toInt32)), (.int (nar .byte (-128 : Int32))), (.int (nar .byte tc.toInt8.toInt32)), (.int (nar .byte (1 : Int32).toInt8.toInt32)), (.int (nar .byte u0.toInt8.toInt32)), (.int (nar .byte (0 : Int32))), (.int (nar .byte (0 : Int32)))] := Ah31
            refine X.iconst (q := 257) (1 : Int32) at_256 (by decide) rfl ?_
            refine X.istore (q := 259) (Ls' := #[.val (.int x0), .val (.int x1), .val (.int x2), .val (.int x3), .val (.int x4), .val (.int m), .val (.int (1 : Int32)), .val (.int l2), .val (.ref a24), .val (.int (1 : Int32)), .val (.int tc), .unset]) at_257 rfl rfl ?_
            refine X.newO (q := 262) (k' := 2) (n' := 10) (hw _ (List.mem_of_getElem? (i := 1) rfl)) (hw _ (List.mem_of_getElem? (i := 2) rfl)) (hw _ (List.mem_of_getElem? (i := 3) rfl)) at_259 rfl rfl (by decide) (by decide) rfl (fun h32 a33 ga33 Eh32 Ba33 Da33 => ?_)
            have la24_a33 : a24 < a33 := by have := Ah31_.lt; rw [← ga33] at this; exact this
            have Ah31_'h32 : OwA Z h32 a24 .byte [(.int (nar .byte ya.toInt8.toInt32)), (.int (nar .byte (-128 : Int32))), (.int (nar .byte tc.toInt8.toInt32)), (.int (nar .byte (1 : Int32).toInt8.toInt32)), (.int (nar .byte u0.toInt8.toInt32)), (.int (nar .byte (0 : Int32))), (.int (nar .byte (0 : Int32)))] := OwA.ext (E := Eh32) Ah31_
            have gea33 : n0 ≤ a33 := by rw [ga33]; exact hsh31
            have hsh32 : n0 ≤ h32.size := Nat.le_trans hsh31 Eh32.1
            have Fa33_bytes : Fld Z h32 a33 "com/example/dircred/dircred/credential/DerReader" "bytes" "[B" .null := Da33 (Or.inr (hw _ (List.mem_of_getElem? (i := 14) rfl))) (ty := (.array .byte)) (by decide)
            have Fa33_position : Fld Z h32 a33 "com/example/dircred/dircred/credential/DerReader" "position" "I" (.int (0 : Int32)) := Da33 (Or.inl (hw _ (List.mem_of_getElem? (i := 16) rfl))) (ty := .int) (by decide)
            have Fa33_end : Fld Z h32 a33 "com/example/dircred/dircred/credential/DerReader" "end" "I" (.int (0 : Int32)) := Da33 (Or.inr (hw _ (List.mem_of_getElem? (i := 18) rfl))) (ty := .int) (by decide)
            refine X.dup (q := 263) at_262 rfl rfl ?_
            refine X.aload (q := 265) at_263 rfl rfl rfl ?_
            obtain ⟨L, hL⟩ : ∃ L_ : List Int32, L_ = [(nar .byte ya.toInt8.toInt32), (nar .byte (-128 : Int32)), (nar .byte tc.toInt8.toInt32), (nar .byte (1 : Int32).toInt8.toInt32), (nar .byte u0.toInt8.toInt32), (nar .byte (0 : Int32)), (nar .byte (0 : Int32))] := ⟨_, rfl⟩
            have AL : OwA Z h32 a24 .byte (L.map Value.int) := by rw [hL]; exact Ah31_'h32
            have nL : L.length = 7 := by rw [hL]; rfl
            have gL0 : (L.getD 0 0).toInt = (ya.toInt + 128) % 256 - 128 := by rw [hL]; exact own_nbt _
            have gL1 : (L.getD 1 0).toInt = -128 := by rw [hL]; rfl
            have gL2 : (L.getD 2 0).toInt = (tc.toInt + 128) % 256 - 128 := by rw [hL]; exact own_nbt _
            have gL3 : (L.getD 3 0).toInt = ((1 : Int32).toInt + 128) % 256 - 128 := by rw [hL]; exact own_nbt _
            have gL4 : (L.getD 4 0).toInt = (u0.toInt + 128) % 256 - 128 := by rw [hL]; exact own_nbt _
            have gL5 : (L.getD 5 0).toInt = 0 := by rw [hL]; rfl
            have gL6 : (L.getD 6 0).toInt = 0 := by rw [hL]; rfl
            have rL : ∀ x ∈ L, -128 ≤ x.toInt ∧ x.toInt ≤ 127 := by
              intro x hx; rw [hL] at hx
              simp only [List.mem_cons, List.not_mem_nil, or_false] at hx
              rcases hx with rfl | rfl | rfl | rfl | rfl | rfl | rfl
              · rw [own_nbt]; omega
              · exact ⟨by decide, by decide⟩
              · rw [own_nbt]; omega
              · rw [own_nbt]; omega
              · rw [own_nbt]; omega
              · exact ⟨by decide, by decide⟩
              · exact ⟨by decide, by decide⟩
            clear hL
            refine X.special (a := a33) (own_i1 l Z a0 hw h32 n0 a33 a24 L (7 : Int32) (by rw [nL]; rfl) hsh32 Ba33 Fa33_bytes Fa33_position Fa33_end AL gea33 (Nat.ne_of_gt la24_a33)) rfl (hw _ (List.mem_of_getElem? (i := 4) rfl)) (hw _ (List.mem_of_getElem? (i := 5) rfl)) (hw _ (List.mem_of_getElem? (i := 3) rfl)) (hw _ (List.mem_of_getElem? (i := 6) rfl)) (by decide) own_pd8 (argsL := [(.ref a24)]) (rest := [(.ref a33)]) rfl rfl rfl (W := 1) (Nat.le_of_eq rfl) rfl (by decide) (by decide) (k' := 2) (n' := 10) rfl rfl (by decide) (by decide) at_265 (q := 268) rfl ?_
            rintro _ h34 ⟨rfl, Kh34c, Db, Dp, De⟩
            have AL'h34 : OwA Z h34 a24 .byte (L.map Value.int) := OwA.keep AL Kh34c (ninS (Nat.ne_of_lt la24_a33) nin0)
            have Ba33'h34 : Exa Z h34 a33 "com/example/dircred/dircred/credential/DerReader" := Exa.keep Ba33 Kh34c
            have hsh34 : n0 ≤ h34.size := Nat.le_trans hsh32 Kh34c.1
            show X.G h34 2 10 268 #[.val (.int x0), .val (.int x1), .val (.int x2), .val (.int x3), .val (.int x4), .val (.int m), .val (.int (1 : Int32)), .val (.int l2), .val (.ref a24), .val (.int (1 : Int32)), .val (.int tc), .unset] [(.ref a33)]
            refine X.astore (q := 270) (Ls' := #[.val (.int x0), .val (.int x1), .val (.int x2), .val (.int x3), .val (.int x4), .val (.int m), .val (.int (1 : Int32)), .val (.int l2), .val (.ref a24), .val (.int (1 : Int32)), .val (.ref a33), .unset]) at_268 rfl rfl rfl ?_
            refine X.iload (q := 272) at_270 rfl rfl ?_
            refine X.iconst (q := 273) (1 : Int32) at_272 (by decide) rfl ?_
            refine X.icmp_lt (a := 1) (b := 1) (q' := 281) (q := 276) at_273 rfl rfl (by decide) rfl (fun c273 => ?_) (fun c273 => ?_)
            · omega
            · refine X.aload (q := 278) at_276 rfl rfl rfl ?_
              have HA : own_hdr L 0 ya 1 2 (2 : Int32) (-1 : Int32) := by have k2_ : (2 : Int32).toInt = 2 := rfl; unfold own_hdr; simp only [nL, Nat.reduceAdd, and_true]; refine ⟨?_, ?_, ?_, ?_, ?_, ?_, ?_, ?_⟩ <;> first | omega | rfl
              have HB : own_hdr L 2 tc 3 4 (4 : Int32) (1 : Int32) := by have k1_ : (1 : Int32).toInt = 1 := rfl; have k4_ : (4 : Int32).toInt = 4 := rfl; have k5_ : (5 : Int32).toInt = 5 := rfl; unfold own_hdr; simp only [nL, Nat.reduceAdd, and_true]; refine ⟨?_, ?_, ?_, ?_, ?_, ?_, ?_, ?_⟩ <;> first | omega | rfl
              have HC : own_hdr L 5 (0 : Int32) 6 7 (7 : Int32) (0 : Int32) := by have k0_ : (0 : Int32).toInt = 0 := rfl; have k7_ : (7 : Int32).toInt = 7 := rfl; unfold own_hdr; simp only [nL, Nat.reduceAdd, and_true]; refine ⟨?_, ?_, ?_, ?_, ?_, ?_, ?_, ?_⟩ <;> first | omega | rfl
              refine X.virtual (a := a33) (own_skip3 l Z a0 hw h34 n0 a33 a24 L 0 (7 : Int32) 0 ya 1 2 2 (-1) rL (by rw [nL]; rfl) (by rw [nL]; decide) rfl HA rfl tc 3 4 4 (1 : Int32) HB (by first | omega | decide) (by decide) (5 : Int32) 5 rfl (by decide) 0 6 7 (7 : Int32) 0 HC rfl hsh34 Ba33'h34 Db Dp De AL'h34 gea33 (Nat.ne_of_gt la24_a33)) (hw _ (List.mem_of_getElem? (i := 37) rfl)) (hw _ (List.mem_of_getElem? (i := 38) rfl)) (hw _ (List.mem_of_getElem? (i := 40) rfl)) (hw _ (List.mem_of_getElem? (i := 39) rfl)) (hw _ (List.mem_of_getElem? (i := 3) rfl)) (hw _ (List.mem_of_getElem? (i := 41) rfl)) (by decide) Ba33'h34 own_pd9 (argsL := []) (rest := []) rfl rfl rfl (W := 0) (Nat.le_of_eq rfl) rfl (by decide) (by decide) (k' := 6) (n' := 23) rfl rfl (by decide) (by decide) at_278 (q := 281) rfl ?_
              rintro _ h35 ⟨rfl, Kh35c, Sb, Sp, Se⟩
              have AL'h35 : OwA Z h35 a24 .byte (L.map Value.int) := OwA.keep AL'h34 Kh35c (ninS (Nat.ne_of_lt la24_a33) nin0)
              have Ba33'h35 : Exa Z h35 a33 "com/example/dircred/dircred/credential/DerReader" := Exa.keep Ba33'h34 Kh35c
              have hsh35 : n0 ≤ h35.size := Nat.le_trans hsh34 Kh35c.1
              show X.G h35 6 23 281 #[.val (.int x0), .val (.int x1), .val (.int x2), .val (.int x3), .val (.int x4), .val (.int m), .val (.int (1 : Int32)), .val (.int l2), .val (.ref a24), .val (.int (1 : Int32)), .val (.ref a33), .unset] []
              refine X.iload (q := 283) at_281 rfl rfl ?_
              refine X.iconst (q := 284) (2 : Int32) at_283 (by decide) rfl ?_
              refine X.icmp_ne (a := 1) (b := 2) (q' := 302) (q := 287) at_284 rfl rfl (by decide) rfl (fun c284 => ?_) (fun c284 => ?_)
              · refine X.aload (q := 304) at_302 rfl rfl rfl ?_
                refine X.virtual (a := a33) (own_hm l Z a0 hw h35 n0 a33 (7 : Int32) (7 : Int32) hsh35 Sp Se) (hw _ (List.mem_of_getElem? (i := 19) rfl)) (hw _ (List.mem_of_getElem? (i := 20) rfl)) (hw _ (List.mem_of_getElem? (i := 22) rfl)) (hw _ (List.mem_of_getElem? (i := 21) rfl)) (hw _ (List.mem_of_getElem? (i := 3) rfl)) (hw _ (List.mem_of_getElem? (i := 23) rfl)) (by decide) Ba33'h35 own_pd5 (argsL := []) (rest := []) rfl rfl rfl (W := 0) (Nat.le_of_eq rfl) rfl (by decide) (by decide) (k' := 6) (n' := 23) rfl rfl (by decide) (by decide) at_304 (q := 307) rfl ?_
                rintro _ _ ⟨zb, rfl, hzb, rfl⟩
                show X.G h35 6 23 307 #[.val (.int x0), .val (.int x1), .val (.int x2), .val (.int x3), .val (.int x4), .val (.int m), .val (.int (1 : Int32)), .val (.int l2), .val (.ref a24), .val (.int (1 : Int32)), .val (.ref a33), .unset] [(.int zb)]
                refine X.istore (q := 309) (Ls' := #[.val (.int x0), .val (.int x1), .val (.int x2), .val (.int x3), .val (.int x4), .val (.int m), .val (.int (1 : Int32)), .val (.int l2), .val (.ref a24), .val (.int (1 : Int32)), .val (.ref a33), .val (.int zb)]) at_307 rfl rfl ?_
                refine X.aload (q := 311) at_309 rfl rfl rfl ?_
                refine X.virtual (a := a33) (own_en l Z a0 hw h35 n0 a33 a24 (7 : Int32) (7 : Int32) (by decide) hsh35 Ba33'h35 Sb Sp Se) (hw _ (List.mem_of_getElem? (i := 24) rfl)) (hw _ (List.mem_of_getElem? (i := 25) rfl)) (hw _ (List.mem_of_getElem? (i := 27) rfl)) (hw _ (List.mem_of_getElem? (i := 26) rfl)) (hw _ (List.mem_of_getElem? (i := 3) rfl)) (hw _ (List.mem_of_getElem? (i := 28) rfl)) (by decide) Ba33'h35 own_pd9 (argsL := []) (rest := []) rfl rfl rfl (W := 0) (Nat.le_of_eq rfl) rfl (by decide) (by decide) (k' := 6) (n' := 23) rfl rfl (by decide) (by decide) at_311 (q := 314) rfl ?_
                rintro _ _ ⟨rfl, rfl⟩
                show X.G h35 6 23 314 #[.val (.int x0), .val (.int x1), .val (.int x2), .val (.int x3), .val (.int x4), .val (.int m), .val (.int (1 : Int32)), .val (.int l2), .val (.ref a24), .val (.int (1 : Int32)), .val (.ref a33), .val (.int zb)] []
                refine X.iload (q := 316) at_314 rfl rfl ?_
                refine X.if_ne (q' := 331) (q := 319) at_316 rfl (by decide) rfl (fun c316 => ?_) (fun c316 => ?_)
                · omega
                · refine X.aload (q := 321) at_319 rfl rfl rfl ?_
                  refine X.virtual (a := a33) (own_hm l Z a0 hw h35 n0 a33 (7 : Int32) (7 : Int32) hsh35 Sp Se) (hw _ (List.mem_of_getElem? (i := 19) rfl)) (hw _ (List.mem_of_getElem? (i := 20) rfl)) (hw _ (List.mem_of_getElem? (i := 22) rfl)) (hw _ (List.mem_of_getElem? (i := 21) rfl)) (hw _ (List.mem_of_getElem? (i := 3) rfl)) (hw _ (List.mem_of_getElem? (i := 23) rfl)) (by decide) Ba33'h35 own_pd5 (argsL := []) (rest := []) rfl rfl rfl (W := 0) (Nat.le_of_eq rfl) rfl (by decide) (by decide) (k' := 6) (n' := 23) rfl rfl (by decide) (by decide) at_321 (q := 324) rfl ?_
                  rintro _ _ ⟨zc, rfl, hzc, rfl⟩
                  show X.G h35 6 23 324 #[.val (.int x0), .val (.int x1), .val (.int x2), .val (.int x3), .val (.int x4), .val (.int m), .val (.int (1 : Int32)), .val (.int l2), .val (.ref a24), .val (.int (1 : Int32)), .val (.ref a33), .val (.int zb)] [(.int zc)]
                  refine X.if_ne (q' := 331) (q := 327) at_324 rfl (by decide) rfl (fun c324 => ?_) (fun c324 => ?_)
                  · omega
                  · refine X.iconst (q := 328) (1 : Int32) at_327 (by decide) rfl ?_
                    refine X.goto (q' := 332) at_328 (by decide) ?_
                    refine X.retN (t := .boolean) (z' := (1 : Int32)) at_332 rfl (by simp) (by decide) (by decide) (by decide) ?_
                    rfl
              · omega
          · refine X.iconst (q := 214) (5 : Int32) at_213 (by decide) rfl ?_
            refine X.istore (q := 216) (Ls' := #[.val (.int x0), .val (.int x1), .val (.int x2), .val (.int x3), .val (.int x4), .val (.int m), .val (.int (1 : Int32)), .val (.int l2), .val (.ref a24), .unset, .val (.int (5 : Int32)), .unset]) at_214 rfl rfl ?_
            refine X.aload (q := 218) at_216 rfl rfl rfl ?_
            refine X.iconst (q := 219) (2 : Int32) at_218 (by decide) rfl ?_
            refine X.iload (q := 221) at_219 rfl rfl ?_
            refine X.i2b (q := 222) at_221 rfl ?_
            refine X.bastore (q := 223) (j := 2) Ah26_ rfl (by simp) gea24 at_222 rfl (fun h36 Wh36 Ah36 => ?_)
            have hsh36 : n0 ≤ h36.size := by rw [Wr.size Wh36]; exact hsh26
            have Ah36_ : OwA Z h36 a24 .byte [(.int (nar .byte ya.toInt8.toInt32)), (.int (nar .byte (-128 : Int32))), (.int (nar .byte (5 : Int32).toInt8.toInt32)), (.int (0 : Int32)), (.int (0 : Int32)), (.int (0 : Int32)), (.int (0 : Int32))] := Ah36
            refine X.aload (q := 225) at_223 rfl rfl rfl ?_
            refine X.iconst (q := 226) (3 : Int32) at_225 (by decide) rfl ?_
            refine X.iload (q := 228) at_226 rfl rfl ?_
            refine X.i2b (q := 229) at_228 rfl ?_
            refine X.bastore (q := 230) (j := 3) Ah36_ rfl (by simp) gea24 at_229 rfl (fun h37 Wh37 Ah37 => ?_)
            have hsh37 : n0 ≤ h37.size := by rw [Wr.size Wh37]; exact hsh36
            have Ah37_ : OwA Z h37 a24 .byte [(.int (nar .byte ya.toInt8.toInt32)), (.int (nar .byte (-128 : Int32))), (.int (nar .byte (5 : Int32).toInt8.toInt32)), (.int (nar .byte (1 : Int32).toInt8.toInt32)), (.int (0 : Int32)), (.int (0 : Int32)), (.int (0 : Int32))] := Ah37
            refine X.aload (q := 232) at_230 rfl rfl rfl ?_
            refine X.iconst (q := 233) (4 : Int32) at_232 (by decide) rfl ?_
            refine X.iload (q := 235) at_233 rfl rfl ?_
            refine X.iload (q := 237) at_235 rfl rfl ?_
            refine X.callS (own_put1 l Z a0 hw h37 n0 a24 (4 : Int32) x4 4 _ rfl (by simp) (by decide) hsh37 Ah37_ gea24) (hw _ (List.mem_of_getElem? (i := 34) rfl)) (hw _ (List.mem_of_getElem? (i := 35) rfl)) (hw _ (List.mem_of_getElem? (i := 32) rfl)) (hw _ (List.mem_of_getElem? (i := 36) rfl)) (by decide) own_pd7 (argsL := [(.ref a24), (.int (4 : Int32)), (.int (1 : Int32)), (.int x4)]) (rest := []) rfl rfl rfl (W := 0) (Nat.le_of_eq rfl) rfl (by decide) (by decide) (k' := 1) (n' := 7) rfl rfl (by decide) (by decide) at_237 (q := 240) rfl ?_
            rintro _ h38 ⟨u0, rfl, Kh38c, Gu⟩
            have hsh38 : n0 ≤ h38.size := Nat.le_trans hsh37 Kh38c.1
            show X.G h38 1 7 240 #[.val (.int x0), .val (.int x1), .val (.int x2), .val (.int x3), .val (.int x4), .val (.int m), .val (.int (1 : Int32)), .val (.int l2), .val (.ref a24), .unset, .val (.int (5 : Int32)), .unset] []
            have Gu : OwA Z h38 a24 .byte [(.int (nar .byte ya.toInt8.toInt32)), (.int (nar .byte (-128 : Int32))), (.int (nar .byte (5 : Int32).toInt8.toInt32)), (.int (nar .byte (1 : Int32).toInt8.toInt32)), (.int (nar .byte u0.toInt8.toInt32)), (.int (0 : Int32)), (.int (0 : Int32))] := Gu
            refine X.aload (q := 242) at_240 rfl rfl rfl ?_
            refine X.iconst (q := 243) (4 : Int32) at_242 (by decide) rfl ?_
            refine X.iload (q := 245) at_243 rfl rfl ?_
            refine X.iadd (q := 246) at_245 rfl ?_
            refine X.foldI (v := (5 : Int32)) (by decide) ?_
            refine X.iconst (q := 247) (0 : Int32) at_246 (by decide) rfl ?_
            refine X.bastore (q := 248) (j := 5) Gu rfl (by simp) gea24 at_247 rfl (fun h39 Wh39 Ah39 => ?_)
            have hsh39 : n0 ≤ h39.size := by rw [Wr.size Wh39]; exact hsh38
            have Ah39_ : OwA Z h39 a24 .byte [(.int (nar .byte ya.toInt8.toInt32)), (.int (nar .byte (-128 : Int32))), (.int (nar .byte (5 : Int32).toInt8.toInt32)), (.int (nar .byte (1 : Int32).toInt8.toInt32)), (.int (nar .byte u0.toInt8.toInt32)), (.int (nar .byte (0 : Int32))), (.int (0 : Int32))] := Ah39
            refine X.aload (q := 250) at_248 rfl rfl rfl ?_
            refine X.iconst (q := 251) (5 : Int32) at_250 (by decide) rfl ?_
            refine X.iload (q := 253) at_251 rfl rfl ?_
            refine X.iadd (q := 254) at_253 rfl ?_
            refine X.foldI (v := (6 : Int32)) (by decide) ?_
            refine X.iconst (q := 255) (0 : Int32) at_254 (by decide) rfl ?_
            refine X.bastore (q := 256) (j := 6) Ah39_ rfl (by simp) gea24 at_255 rfl (fun h40 Wh40 Ah40 => ?_)
            have hsh40 : n0 ≤ h40.size := by rw [Wr.size Wh40]; exact hsh39
            have Ah40_ : OwA Z h40 a24 .byte [(.int (nar .byte ya.toInt8.toInt32)), (.int (nar .byte (-128 : Int32))), (.int (nar .byte (5 : Int32).toInt8.toInt32)), (.int (nar .byte (1 : Int32).toInt8.toInt32)), (.int (nar .byte u0.toInt8.toInt32)), (.int (nar .byte (0 : Int32))), (.int (nar .byte (0 : Int32)))] := Ah40
            refine X.iconst (q := 257) (1 : Int32) at_256 (by decide) rfl ?_
            refine X.istore (q := 259) (Ls' := #[.val (.int x0), .val (.int x1), .val (.int x2), .val (.int x3), .val (.int x4), .val (.int m), .val (.int (1 : Int32)), .val (.int l2), .val (.ref a24), .val (.int (1 : Int32)), .val (.int (5 : Int32)), .unset]) at_257 rfl rfl ?_
            refine X.newO (q := 262) (k' := 2) (n' := 10) (hw _ (List.mem_of_getElem? (i := 1) rfl)) (hw _ (List.mem_of_getElem? (i := 2) rfl)) (hw _ (List.mem_of_getElem? (i := 3) rfl)) at_259 rfl rfl (by decide) (by decide) rfl (fun h41 a42 ga42 Eh41 Ba42 Da42 => ?_)
            have la24_a42 : a24 < a42 := by have := Ah40_.lt; rw [← ga42] at this; exact this
            have Ah40_'h41 : OwA Z h41 a24 .byte [(.int (nar .byte ya.toInt8.toInt32)), (.int (nar .byte (-128 : Int32))), (.int (nar .byte (5 : Int32).toInt8.toInt32)), (.int (nar .byte (1 : Int32).toInt8.toInt32)), (.int (nar .byte u0.toInt8.toInt32)), (.int (nar .byte (0 : Int32))), (.int (nar .byte (0 : Int32)))] := OwA.ext (E := Eh41) Ah40_
            have gea42 : n0 ≤ a42 := by rw [ga42]; exact hsh40
            have hsh41 : n0 ≤ h41.size := Nat.le_trans hsh40 Eh41.1
            have Fa42_bytes : Fld Z h41 a42 "com/example/dircred/dircred/credential/DerReader" "bytes" "[B" .null := Da42 (Or.inr (hw _ (List.mem_of_getElem? (i := 14) rfl))) (ty := (.array .byte)) (by decide)
            have Fa42_position : Fld Z h41 a42 "com/example/dircred/dircred/credential/DerReader" "position" "I" (.int (0 : Int32)) := Da42 (Or.inl (hw _ (List.mem_of_getElem? (i := 16) rfl))) (ty := .int) (by decide)
            have Fa42_end : Fld Z h41 a42 "com/example/dircred/dircred/credential/DerReader" "end" "I" (.int (0 : Int32)) := Da42 (Or.inr (hw _ (List.mem_of_getElem? (i := 18) rfl))) (ty := .int) (by decide)
            refine X.dup (q := 263) at_262 rfl rfl ?_
            refine X.aload (q := 265) at_263 rfl rfl rfl ?_
            obtain ⟨L, hL⟩ : ∃ L_ : List Int32, L_ = [(nar .byte ya.toInt8.toInt32), (nar .byte (-128 : Int32)), (nar .byte (5 : Int32).toInt8.toInt32), (nar .byte (1 : Int32).toInt8.toInt32), (nar .byte u0.toInt8.toInt32), (nar .byte (0 : Int32)), (nar .byte (0 : Int32))] := ⟨_, rfl⟩
            have AL : OwA Z h41 a24 .byte (L.map Value.int) := by rw [hL]; exact Ah40_'h41
            have nL : L.length = 7 := by rw [hL]; rfl
            have gL0 : (L.getD 0 0).toInt = (ya.toInt + 128) % 256 - 128 := by rw [hL]; exact own_nbt _
            have gL1 : (L.getD 1 0).toInt = -128 := by rw [hL]; rfl
            have gL2 : (L.getD 2 0).toInt = ((5 : Int32).toInt + 128) % 256 - 128 := by rw [hL]; exact own_nbt _
            have gL3 : (L.getD 3 0).toInt = ((1 : Int32).toInt + 128) % 256 - 128 := by rw [hL]; exact own_nbt _
            have gL4 : (L.getD 4 0).toInt = (u0.toInt + 128) % 256 - 128 := by rw [hL]; exact own_nbt _
            have gL5 : (L.getD 5 0).toInt = 0 := by rw [hL]; rfl
            have gL6 : (L.getD 6 0).toInt = 0 := by rw [hL]; rfl
            have rL : ∀ x ∈ L, -128 ≤ x.toInt ∧ x.toInt ≤ 127 := by
              intro x hx; rw [hL] at hx
              simp only [List.mem_cons, List.not_mem_nil, or_false] at hx
              rcases hx with rfl | rfl | rfl | rfl | rfl | rfl | rfl
              · rw [own_nbt]; omega
              · exact ⟨by decide, by decide⟩
              · rw [own_nbt]; omega
              · rw [own_nbt]; omega
              · rw [own_nbt]; omega
              · exact ⟨by decide, by decide⟩
              · exact ⟨by decide, by decide⟩
            clear hL
            refine X.special (a := a42) (own_i1 l Z a0 hw h41 n0 a42 a24 L (7 : Int32) (by rw [nL]; rfl) hsh41 Ba42 Fa42_bytes Fa42_position Fa42_end AL gea42 (Nat.ne_of_gt la24_a42)) rfl (hw _ (List.mem_of_getElem? (i := 4) rfl)) (hw _ (List.mem_of_getElem? (i := 5) rfl)) (hw _ (List.mem_of_getElem? (i := 3) rfl)) (hw _ (List.mem_of_getElem? (i := 6) rfl)) (by decide) own_pd8 (argsL := [(.ref a24)]) (rest := [(.ref a42)]) rfl rfl rfl (W := 1) (Nat.le_of_eq rfl) rfl (by decide) (by decide) (k' := 2) (n' := 10) rfl rfl (by decide) (by decide) at_265 (q := 268) rfl ?_
            rintro _ h43 ⟨rfl, Kh43c, Db, Dp, De⟩
            have AL'h43 : OwA Z h43 a24 .byte (L.map Value.int) := OwA.keep AL Kh43c (ninS (Nat.ne_of_lt la24_a42) nin0)
            have Ba42'h43 : Exa Z h43 a42 "com/example/dircred/dircred/credential/DerReader" := Exa.keep Ba42 Kh43c
            have hsh43 : n0 ≤ h43.size := Nat.le_trans hsh41 Kh43c.1
            show X.G h43 2 10 268 #[.val (.int x0), .val (.int x1), .val (.int x2), .val (.int x3), .val (.int x4), .val (.int m), .val (.int (1 : Int32)), .val (.int l2), .val (.ref a24), .val (.int (1 : Int32)), .val (.int (5 : Int32)), .unset] [(.ref a42)]
            refine X.astore (q := 270) (Ls' := #[.val (.int x0), .val (.int x1), .val (.int x2), .val (.int x3), .val (.int x4), .val (.int m), .val (.int (1 : Int32)), .val (.int l2), .val (.ref a24), .val (.int (1 : Int32)), .val (.ref a42), .unset]) at_268 rfl rfl rfl ?_
            refine X.iload (q := 272) at_270 rfl rfl ?_
            refine X.iconst (q := 273) (1 : Int32) at_272 (by decide) rfl ?_
            refine X.icmp_lt (a := 1) (b := 1) (q' := 281) (q := 276) at_273 rfl rfl (by decide) rfl (fun c273 => ?_) (fun c273 => ?_)
            · omega
            · refine X.aload (q := 278) at_276 rfl rfl rfl ?_
              have HA : own_hdr L 0 ya 1 2 (2 : Int32) (-1 : Int32) := by have k2_ : (2 : Int32).toInt = 2 := rfl; unfold own_hdr; simp only [nL, Nat.reduceAdd, and_true]; refine ⟨?_, ?_, ?_, ?_, ?_, ?_, ?_, ?_⟩ <;> first | omega | rfl
              have HB : own_hdr L 2 (5 : Int32) 3 4 (4 : Int32) (1 : Int32) := by have k1_ : (1 : Int32).toInt = 1 := rfl; have k4_ : (4 : Int32).toInt = 4 := rfl; have k5_ : (5 : Int32).toInt = 5 := rfl; unfold own_hdr; simp only [nL, Nat.reduceAdd, and_true]; refine ⟨?_, ?_, ?_, ?_, ?_, ?_, ?_, ?_⟩ <;> first | omega | rfl
              have HC : own_hdr L 5 (0 : Int32) 6 7 (7 : Int32) (0 : Int32) := by have k0_ : (0 : Int32).toInt = 0 := rfl; have k7_ : (7 : Int32).toInt = 7 := rfl; unfold own_hdr; simp only [nL, Nat.reduceAdd, and_true]; refine ⟨?_, ?_, ?_, ?_, ?_, ?_, ?_, ?_⟩ <;> first | omega | rfl
              refine X.virtual (a := a42) (own_skip3 l Z a0 hw h43 n0 a42 a24 L 0 (7 : Int32) 0 ya 1 2 2 (-1) rL (by rw [nL]; rfl) (by rw [nL]; decide) rfl HA rfl (5 : Int32) 3 4 4 (1 : Int32) HB (by first | omega | decide) (by decide) (5 : Int32) 5 rfl (by decide) 0 6 7 (7 : Int32) 0 HC rfl hsh43 Ba42'h43 Db Dp De AL'h43 gea42 (Nat.ne_of_gt la24_a42)) (hw _ (List.mem_of_getElem? (i := 37) rfl)) (hw _ (List.mem_of_getElem? (i := 38) rfl)) (hw _ (List.mem_of_getElem? (i := 40) rfl)) (hw _ (List.mem_of_getElem? (i := 39) rfl)) (hw _ (List.mem_of_getElem? (i := 3) rfl)) (hw _ (List.mem_of_getElem? (i := 41) rfl)) (by decide) Ba42'h43 own_pd9 (argsL := []) (rest := []) rfl rfl rfl (W := 0) (Nat.le_of_eq rfl) rfl (by decide) (by decide) (k' := 6) (n' := 23) rfl rfl (by decide) (by decide) at_278 (q := 281) rfl ?_
              rintro _ h44 ⟨rfl, Kh44c, Sb, Sp, Se⟩
              have AL'h44 : OwA Z h44 a24 .byte (L.map Value.int) := OwA.keep AL'h43 Kh44c (ninS (Nat.ne_of_lt la24_a42) nin0)
              have Ba42'h44 : Exa Z h44 a42 "com/example/dircred/dircred/credential/DerReader" := Exa.keep Ba42'h43 Kh44c
              have hsh44 : n0 ≤ h44.size := Nat.le_trans hsh43 Kh44c.1
              show X.G h44 6 23 281 #[.val (.int x0), .val (.int x1), .val (.int x2), .val (.int x3), .val (.int x4), .val (.int m), .val (.int (1 : Int32)), .val (.int l2), .val (.ref a24), .val (.int (1 : Int32)), .val (.ref a42), .unset] []
              refine X.iload (q := 283) at_281 rfl rfl ?_
              refine X.iconst (q := 284) (2 : Int32) at_283 (by decide) rfl ?_
              refine X.icmp_ne (a := 1) (b := 2) (q' := 302) (q := 287) at_284 rfl rfl (by decide) rfl (fun c284 => ?_) (fun c284 => ?_)
              · refine X.aload (q := 304) at_302 rfl rfl rfl ?_
                refine X.virtual (a := a42) (own_hm l Z a0 hw h44 n0 a42 (7 : Int32) (7 : Int32) hsh44 Sp Se) (hw _ (List.mem_of_getElem? (i := 19) rfl)) (hw _ (List.mem_of_getElem? (i := 20) rfl)) (hw _ (List.mem_of_getElem? (i := 22) rfl)) (hw _ (List.mem_of_getElem? (i := 21) rfl)) (hw _ (List.mem_of_getElem? (i := 3) rfl)) (hw _ (List.mem_of_getElem? (i := 23) rfl)) (by decide) Ba42'h44 own_pd5 (argsL := []) (rest := []) rfl rfl rfl (W := 0) (Nat.le_of_eq rfl) rfl (by decide) (by decide) (k' := 6) (n' := 23) rfl rfl (by decide) (by decide) at_304 (q := 307) rfl ?_
                rintro _ _ ⟨zb, rfl, hzb, rfl⟩
                show X.G h44 6 23 307 #[.val (.int x0), .val (.int x1), .val (.int x2), .val (.int x3), .val (.int x4), .val (.int m), .val (.int (1 : Int32)), .val (.int l2), .val (.ref a24), .val (.int (1 : Int32)), .val (.ref a42), .unset] [(.int zb)]
                refine X.istore (q := 309) (Ls' := #[.val (.int x0), .val (.int x1), .val (.int x2), .val (.int x3), .val (.int x4), .val (.int m), .val (.int (1 : Int32)), .val (.int l2), .val (.ref a24), .val (.int (1 : Int32)), .val (.ref a42), .val (.int zb)]) at_307 rfl rfl ?_
                refine X.aload (q := 311) at_309 rfl rfl rfl ?_
                refine X.virtual (a := a42) (own_en l Z a0 hw h44 n0 a42 a24 (7 : Int32) (7 : Int32) (by decide) hsh44 Ba42'h44 Sb Sp Se) (hw _ (List.mem_of_getElem? (i := 24) rfl)) (hw _ (List.mem_of_getElem? (i := 25) rfl)) (hw _ (List.mem_of_getElem? (i := 27) rfl)) (hw _ (List.mem_of_getElem? (i := 26) rfl)) (hw _ (List.mem_of_getElem? (i := 3) rfl)) (hw _ (List.mem_of_getElem? (i := 28) rfl)) (by decide) Ba42'h44 own_pd9 (argsL := []) (rest := []) rfl rfl rfl (W := 0) (Nat.le_of_eq rfl) rfl (by decide) (by decide) (k' := 6) (n' := 23) rfl rfl (by decide) (by decide) at_311 (q := 314) rfl ?_
                rintro _ _ ⟨rfl, rfl⟩
                show X.G h44 6 23 314 #[.val (.int x0), .val (.int x1), .val (.int x2), .val (.int x3), .val (.int x4), .val (.int m), .val (.int (1 : Int32)), .val (.int l2), .val (.ref a24), .val (.int (1 : Int32)), .val (.ref a42), .val (.int zb)] []
                refine X.iload (q := 316) at_314 rfl rfl ?_
                refine X.if_ne (q' := 331) (q := 319) at_316 rfl (by decide) rfl (fun c316 => ?_) (fun c316 => ?_)
                · omega
                · refine X.aload (q := 321) at_319 rfl rfl rfl ?_
                  refine X.virtual (a := a42) (own_hm l Z a0 hw h44 n0 a42 (7 : Int32) (7 : Int32) hsh44 Sp Se) (hw _ (List.mem_of_getElem? (i := 19) rfl)) (hw _ (List.mem_of_getElem? (i := 20) rfl)) (hw _ (List.mem_of_getElem? (i := 22) rfl)) (hw _ (List.mem_of_getElem? (i := 21) rfl)) (hw _ (List.mem_of_getElem? (i := 3) rfl)) (hw _ (List.mem_of_getElem? (i := 23) rfl)) (by decide) Ba42'h44 own_pd5 (argsL := []) (rest := []) rfl rfl rfl (W := 0) (Nat.le_of_eq rfl) rfl (by decide) (by decide) (k' := 6) (n' := 23) rfl rfl (by decide) (by decide) at_321 (q := 324) rfl ?_
                  rintro _ _ ⟨zc, rfl, hzc, rfl⟩
                  show X.G h44 6 23 324 #[.val (.int x0), .val (.int x1), .val (.int x2), .val (.int x3), .val (.int x4), .val (.int m), .val (.int (1 : Int32)), .val (.int l2), .val (.ref a24), .val (.int (1 : Int32)), .val (.ref a42), .val (.int zb)] [(.int zc)]
                  refine X.if_ne (q' := 331) (q := 327) at_324 rfl (by decide) rfl (fun c324 => ?_) (fun c324 => ?_)
                  · omega
                  · refine X.iconst (q := 328) (1 : Int32) at_327 (by decide) rfl ?_
                    refine X.goto (q' := 332) at_328 (by decide) ?_
                    refine X.retN (t := .boolean) (z' := (1 : Int32)) at_332 rfl (by simp) (by decide) (by decide) (by decide) ?_
                    rfl
              · omega
        · refine X.bipush (q := 174) (6 : Int32) at_172 (by decide) rfl ?_
          refine X.iload (q := 176) at_174 rfl rfl ?_
          refine X.iadd (q := 177) at_176 rfl ?_
          refine X.foldI (v := (8 : Int32)) (by decide) ?_
          refine X.newP (q := 179) (ty := .byte) (N := 8) (cap := 8) (k' := 1) (n' := 8) (hw _ (List.mem_of_getElem? (i := 0) rfl)) at_177 rfl rfl (Nat.le_refl _) (by decide) rfl rfl (by decide) (by decide) rfl (fun h45 a46 ga46 Eh45 Aa46 => ?_)
          have gea46 : n0 ≤ a46 := by rw [ga46]; exact hn0
          have hsh45 : n0 ≤ h45.size := Nat.le_trans hn0 Eh45.1
          have Aa46 : OwA Z h45 a46 .byte [(.int (0 : Int32)), (.int (0 : Int32)), (.int (0 : Int32)), (.int (0 : Int32)), (.int (0 : Int32)), (.int (0 : Int32)), (.int (0 : Int32)), (.int (0 : Int32))] := Aa46
          refine X.astore (q := 181) (Ls' := #[.val (.int x0), .val (.int x1), .val (.int x2), .val (.int x3), .val (.int x4), .val (.int m), .val (.int (2 : Int32)), .val (.int l2), .val (.ref a46), .unset, .unset, .unset]) at_179 rfl rfl rfl ?_
          refine X.aload (q := 183) at_181 rfl rfl rfl ?_
          refine X.iconst (q := 184) (0 : Int32) at_183 (by decide) rfl ?_
          refine X.bipush (q := 186) (32 : Int32) at_184 (by decide) rfl ?_
          refine X.iloadN (q := 187) at_186 rfl rfl ?_
          refine X.sipush (q := 190) (222 : Int32) at_187 (by decide) rfl ?_
          refine X.iand (q := 191) at_190 rfl ?_
          refine X.ior (q := 192) at_191 rfl ?_
          refine X.nmI (fun ya hya => ?_)
          have hya_ := own_or20 x1
          rw [← hya] at hya_
          clear hya
          refine X.i2b (q := 193) at_192 rfl ?_
          refine X.bastore (q := 194) (j := 0) Aa46 rfl (by simp) gea46 at_193 rfl (fun h47 Wh47 Ah47 => ?_)
          have hsh47 : n0 ≤ h47.size := by rw [Wr.size Wh47]; exact hsh45
          have Ah47_ : OwA Z h47 a46 .byte [(.int (nar .byte ya.toInt8.toInt32)), (.int (0 : Int32)), (.int (0 : Int32)), (.int (0 : Int32)), (.int (0 : Int32)), (.int (0 : Int32)), (.int (0 : Int32)), (.int (0 : Int32))] := Ah47
          refine X.aload (q := 196) at_194 rfl rfl rfl ?_
          refine X.iconst (q := 197) (1 : Int32) at_196 (by decide) rfl ?_
          refine X.bipush (q := 199) (-128 : Int32) at_197 (by decide) rfl ?_
          refine X.bastore (q := 200) (j := 1) Ah47_ rfl (by simp) gea46 at_199 rfl (fun h48 Wh48 Ah48 => ?_)
          have hsh48 : n0 ≤ h48.size := by rw [Wr.size Wh48]; exact hsh47
          have Ah48_ : OwA Z h48 a46 .byte [(.int (nar .byte ya.toInt8.toInt32)), (.int (nar .byte (-128 : Int32))), (.int (0 : Int32)), (.int (0 : Int32)), (.int (0 : Int32)), (.int (0 : Int32)), (.int (0 : Int32)), (.int (0 : Int32))] := Ah48
          refine X.iloadN (q := 201) at_200 rfl rfl ?_
          refine X.iload (q := 203) at_201 rfl rfl ?_
          refine X.callS (own_tag l Z a0 hw h48 n0 x2 (2 : Int32)) (hw _ (List.mem_of_getElem? (i := 30) rfl)) (hw _ (List.mem_of_getElem? (i := 31) rfl)) (hw _ (List.mem_of_getElem? (i := 32) rfl)) (hw _ (List.mem_of_getElem? (i := 33) rfl)) (by decide) own_pd6 (argsL := [(.int x2), (.int (2 : Int32))]) (rest := []) rfl rfl rfl (W := 0) (Nat.le_of_eq rfl) rfl (by decide) (by decide) (k' := 1) (n' := 8) rfl rfl (by decide) (by decide) at_203 (q := 206) rfl ?_
          rintro _ _ ⟨tc, rfl, htc, rfl⟩
          show X.G h48 1 8 206 #[.val (.int x0), .val (.int x1), .val (.int x2), .val (.int x3), .val (.int x4), .val (.int m), .val (.int (2 : Int32)), .val (.int l2), .val (.ref a46), .unset, .unset, .unset] [(.int tc)]
          refine X.istore (q := 208) (Ls' := #[.val (.int x0), .val (.int x1), .val (.int x2), .val (.int x3), .val (.int x4), .val (.int m), .val (.int (2 : Int32)), .val (.int l2), .val (.ref a46), .unset, .val (.int tc), .unset]) at_206 rfl rfl ?_
          refine X.iload (q := 210) at_208 rfl rfl ?_
          refine X.if_ne (q' := 216) (q := 213) at_210 rfl (by decide) rfl (fun c210 => ?_) (fun c210 => ?_)
          · refine X.aload (q := 218) at_216 rfl rfl rfl ?_
            refine X.iconst (q := 219) (2 : Int32) at_218 (by decide) rfl ?_
            refine X.iload (q := 221) at_219 rfl rfl ?_
            refine X.i2b (q := 222) at_221 rfl ?_
            refine X.bastore (q := 223) (j := 2) Ah48_ rfl (by simp) gea46 at_222 rfl (fun h49 Wh49 Ah49 => ?_)
            have hsh49 : n0 ≤ h49.size := by rw [Wr.size Wh49]; exact hsh48
            have Ah49_ : OwA Z h49 a46 .byte [(.int (nar .byte ya.toInt8.toInt32)), (.int (nar .byte (-128 : Int32))), (.int (nar .byte tc.toInt8.toInt32)), (.int (0 : Int32)), (.int (0 : Int32)), (.int (0 : Int32)), (.int (0 : Int32)), (.int (0 : Int32))] := Ah49
            refine X.aload (q := 225) at_223 rfl rfl rfl ?_
            refine X.iconst (q := 226) (3 : Int32) at_225 (by decide) rfl ?_
            refine X.iload (q := 228) at_226 rfl rfl ?_
            refine X.i2b (q := 229) at_228 rfl ?_
            refine X.bastore (q := 230) (j := 3) Ah49_ rfl (by simp) gea46 at_229 rfl (fun h50 Wh50 Ah50 => ?_)
            have hsh50 : n0 ≤ h50.size := by rw [Wr.size Wh50]; exact hsh49
            have Ah50_ : OwA Z h50 a46 .byte [(.int (nar .byte ya.toInt8.toInt32)), (.int (nar .byte (-128 : Int32))), (.int (nar .byte tc.toInt8.toInt32)), (.int (nar .byte (2 : Int32).toInt8.toInt32)), (.int (0 : Int32)), (.int (0 : Int32)), (.int (0 : Int32)), (.int (0 : Int32))] := Ah50
            refine X.aload (q := 232) at_230 rfl rfl rfl ?_
            refine X.iconst (q := 233) (4 : Int32) at_232 (by decide) rfl ?_
            refine X.iload (q := 235) at_233 rfl rfl ?_
            refine X.iload (q := 237) at_235 rfl rfl ?_
            refine X.callS (own_put2 l Z a0 hw h50 n0 a46 (4 : Int32) x4 4 _ rfl (by simp) (by decide) hsh50 Ah50_ gea46) (hw _ (List.mem_of_getElem? (i := 34) rfl)) (hw _ (List.mem_of_getElem? (i := 35) rfl)) (hw _ (List.mem_of_getElem? (i := 32) rfl)) (hw _ (List.mem_of_getElem? (i := 36) rfl)) (by decide) own_pd7 (argsL := [(.ref a46), (.int (4 : Int32)), (.int (2 : Int32)), (.int x4)]) (rest := []) rfl rfl rfl (W := 0) (Nat.le_of_eq rfl) rfl (by decide) (by decide) (k' := 1) (n' := 8) rfl rfl (by decide) (by decide) at_237 (q := 240) rfl ?_
            rintro _ h51 ⟨u0, u1, rfl, Kh51c, Gu⟩
            have hsh51 : n0 ≤ h51.size := Nat.le_trans hsh50 Kh51c.1
            show X.G h51 1 8 240 #[.val (.int x0), .val (.int x1), .val (.int x2), .val (.int x3), .val (.int x4), .val (.int m), .val (.int (2 : Int32)), .val (.int l2), .val (.ref a46), .unset, .val (.int tc), .unset] []
            have Gu : OwA Z h51 a46 .byte [(.int (nar .byte ya.toInt8.toInt32)), (.int (nar .byte (-128 : Int32))), (.int (nar .byte tc.toInt8.toInt32)), (.int (nar .byte (2 : Int32).toInt8.toInt32)), (.int (nar .byte u0.toInt8.toInt32)), (.int (nar .byte u1.toInt8.toInt32)), (.int (0 : Int32)), (.int (0 : Int32))] := Gu
            refine X.aload (q := 242) at_240 rfl rfl rfl ?_
            refine X.iconst (q := 243) (4 : Int32) at_242 (by decide) rfl ?_
            refine X.iload (q := 245) at_243 rfl rfl ?_
            refine X.iadd (q := 246) at_245 rfl ?_
            refine X.foldI (v := (6 : Int32)) (by decide) ?_
            refine X.iconst (q := 247) (0 : Int32) at_246 (by decide) rfl ?_
            refine X.bastore (q := 248) (j := 6) Gu rfl (by simp) gea46 at_247 rfl (fun h52 Wh52 Ah52 => ?_)
            have hsh52 : n0 ≤ h52.size := by rw [Wr.size Wh52]; exact hsh51
            have Ah52_ : OwA Z h52 a46 .byte [(.int (nar .byte ya.toInt8.toInt32)), (.int (nar .byte (-128 : Int32))), (.int (nar .byte tc.toInt8.toInt32)), (.int (nar .byte (2 : Int32).toInt8.toInt32)), (.int (nar .byte u0.toInt8.toInt32)), (.int (nar .byte u1.toInt8.toInt32)), (.int (nar .byte (0 : Int32))), (.int (0 : Int32))] := Ah52
            refine X.aload (q := 250) at_248 rfl rfl rfl ?_
            refine X.iconst (q := 251) (5 : Int32) at_250 (by decide) rfl ?_
            refine X.iload (q := 253) at_251 rfl rfl ?_
            refine X.iadd (q := 254) at_253 rfl ?_
            refine X.foldI (v := (7 : Int32)) (by decide) ?_
            refine X.iconst (q := 255) (0 : Int32) at_254 (by decide) rfl ?_
            refine X.bastore (q := 256) (j := 7) Ah52_ rfl (by simp) gea46 at_255 rfl (fun h53 Wh53 Ah53 => ?_)
            have hsh53 : n0 ≤ h53.size := by rw [Wr.size Wh53]; exact hsh52
            have Ah53_ : OwA Z h53 a46 .byte [(.int (nar .byte ya.toInt8.toInt32)), (.int (nar .byte (-128 : Int32))), (.int (nar .byte tc.toInt8.toInt32)), (.int (nar .byte (2 : Int32).toInt8.toInt32)), (.int (nar .byte u0.toInt8.toInt32)), (.int (nar .byte u1.toInt8.toInt32)), (.int (nar .byte (0 : Int32))), (.int (nar .byte (0 : Int32)))] := Ah53
            refine X.iconst (q := 257) (1 : Int32) at_256 (by decide) rfl ?_
            refine X.istore (q := 259) (Ls' := #[.val (.int x0), .val (.int x1), .val (.int x2), .val (.int x3), .val (.int x4), .val (.int m), .val (.int (2 : Int32)), .val (.int l2), .val (.ref a46), .val (.int (1 : Int32)), .val (.int tc), .unset]) at_257 rfl rfl ?_
            refine X.newO (q := 262) (k' := 2) (n' := 11) (hw _ (List.mem_of_getElem? (i := 1) rfl)) (hw _ (List.mem_of_getElem? (i := 2) rfl)) (hw _ (List.mem_of_getElem? (i := 3) rfl)) at_259 rfl rfl (by decide) (by decide) rfl (fun h54 a55 ga55 Eh54 Ba55 Da55 => ?_)
            have la46_a55 : a46 < a55 := by have := Ah53_.lt; rw [← ga55] at this; exact this
            have Ah53_'h54 : OwA Z h54 a46 .byte [(.int (nar .byte ya.toInt8.toInt32)), (.int (nar .byte (-128 : Int32))), (.int (nar .byte tc.toInt8.toInt32)), (.int (nar .byte (2 : Int32).toInt8.toInt32)), (.int (nar .byte u0.toInt8.toInt32)), (.int (nar .byte u1.toInt8.toInt32)), (.int (nar .byte (0 : Int32))), (.int (nar .byte (0 : Int32)))] := OwA.ext (E := Eh54) Ah53_
            have gea55 : n0 ≤ a55 := by rw [ga55]; exact hsh53
            have hsh54 : n0 ≤ h54.size := Nat.le_trans hsh53 Eh54.1
            have Fa55_bytes : Fld Z h54 a55 "com/example/dircred/dircred/credential/DerReader" "bytes" "[B" .null := Da55 (Or.inr (hw _ (List.mem_of_getElem? (i := 14) rfl))) (ty := (.array .byte)) (by decide)
            have Fa55_position : Fld Z h54 a55 "com/example/dircred/dircred/credential/DerReader" "position" "I" (.int (0 : Int32)) := Da55 (Or.inl (hw _ (List.mem_of_getElem? (i := 16) rfl))) (ty := .int) (by decide)
            have Fa55_end : Fld Z h54 a55 "com/example/dircred/dircred/credential/DerReader" "end" "I" (.int (0 : Int32)) := Da55 (Or.inr (hw _ (List.mem_of_getElem? (i := 18) rfl))) (ty := .int) (by decide)
            refine X.dup (q := 263) at_262 rfl rfl ?_
            refine X.aload (q := 265) at_263 rfl rfl rfl ?_
            obtain ⟨L, hL⟩ : ∃ L_ : List Int32, L_ = [(nar .byte ya.toInt8.toInt32), (nar .byte (-128 : Int32)), (nar .byte tc.toInt8.toInt32), (nar .byte (2 : Int32).toInt8.toInt32), (nar .byte u0.toInt8.toInt32), (nar .byte u1.toInt8.toInt32), (nar .byte (0 : Int32)), (nar .byte (0 : Int32))] := ⟨_, rfl⟩
            have AL : OwA Z h54 a46 .byte (L.map Value.int) := by rw [hL]; exact Ah53_'h54
            have nL : L.length = 8 := by rw [hL]; rfl
            have gL0 : (L.getD 0 0).toInt = (ya.toInt + 128) % 256 - 128 := by rw [hL]; exact own_nbt _
            have gL1 : (L.getD 1 0).toInt = -128 := by rw [hL]; rfl
            have gL2 : (L.getD 2 0).toInt = (tc.toInt + 128) % 256 - 128 := by rw [hL]; exact own_nbt _
            have gL3 : (L.getD 3 0).toInt = ((2 : Int32).toInt + 128) % 256 - 128 := by rw [hL]; exact own_nbt _
            have gL4 : (L.getD 4 0).toInt = (u0.toInt + 128) % 256 - 128 := by rw [hL]; exact own_nbt _
            have gL5 : (L.getD 5 0).toInt = (u1.toInt + 128) % 256 - 128 := by rw [hL]; exact own_nbt _
            have gL6 : (L.getD 6 0).toInt = 0 := by rw [hL]; rfl
            have gL7 : (L.getD 7 0).toInt = 0 := by rw [hL]; rfl
            have rL : ∀ x ∈ L, -128 ≤ x.toInt ∧ x.toInt ≤ 127 := by
              intro x hx; rw [hL] at hx
              simp only [List.mem_cons, List.not_mem_nil, or_false] at hx
              rcases hx with rfl | rfl | rfl | rfl | rfl | rfl | rfl | rfl
              · rw [own_nbt]; omega
              · exact ⟨by decide, by decide⟩
              · rw [own_nbt]; omega
              · rw [own_nbt]; omega
              · rw [own_nbt]; omega
              · rw [own_nbt]; omega
              · exact ⟨by decide, by decide⟩
              · exact ⟨by decide, by decide⟩
            clear hL
            refine X.special (a := a55) (own_i1 l Z a0 hw h54 n0 a55 a46 L (8 : Int32) (by rw [nL]; rfl) hsh54 Ba55 Fa55_bytes Fa55_position Fa55_end AL gea55 (Nat.ne_of_gt la46_a55)) rfl (hw _ (List.mem_of_getElem? (i := 4) rfl)) (hw _ (List.mem_of_getElem? (i := 5) rfl)) (hw _ (List.mem_of_getElem? (i := 3) rfl)) (hw _ (List.mem_of_getElem? (i := 6) rfl)) (by decide) own_pd8 (argsL := [(.ref a46)]) (rest := [(.ref a55)]) rfl rfl rfl (W := 1) (Nat.le_of_eq rfl) rfl (by decide) (by decide) (k' := 2) (n' := 11) rfl rfl (by decide) (by decide) at_265 (q := 268) rfl ?_
            rintro _ h56 ⟨rfl, Kh56c, Db, Dp, De⟩
            have AL'h56 : OwA Z h56 a46 .byte (L.map Value.int) := OwA.keep AL Kh56c (ninS (Nat.ne_of_lt la46_a55) nin0)
            have Ba55'h56 : Exa Z h56 a55 "com/example/dircred/dircred/credential/DerReader" := Exa.keep Ba55 Kh56c
            have hsh56 : n0 ≤ h56.size := Nat.le_trans hsh54 Kh56c.1
            show X.G h56 2 11 268 #[.val (.int x0), .val (.int x1), .val (.int x2), .val (.int x3), .val (.int x4), .val (.int m), .val (.int (2 : Int32)), .val (.int l2), .val (.ref a46), .val (.int (1 : Int32)), .val (.int tc), .unset] [(.ref a55)]
            refine X.astore (q := 270) (Ls' := #[.val (.int x0), .val (.int x1), .val (.int x2), .val (.int x3), .val (.int x4), .val (.int m), .val (.int (2 : Int32)), .val (.int l2), .val (.ref a46), .val (.int (1 : Int32)), .val (.ref a55), .unset]) at_268 rfl rfl rfl ?_
            refine X.iload (q := 272) at_270 rfl rfl ?_
            refine X.iconst (q := 273) (1 : Int32) at_272 (by decide) rfl ?_
            refine X.icmp_lt (a := 1) (b := 1) (q' := 281) (q := 276) at_273 rfl rfl (by decide) rfl (fun c273 => ?_) (fun c273 => ?_)
            · omega
            · refine X.aload (q := 278) at_276 rfl rfl rfl ?_
              have HA : own_hdr L 0 ya 1 2 (2 : Int32) (-1 : Int32) := by have k2_ : (2 : Int32).toInt = 2 := rfl; unfold own_hdr; simp only [nL, Nat.reduceAdd, and_true]; refine ⟨?_, ?_, ?_, ?_, ?_, ?_, ?_, ?_⟩ <;> first | omega | rfl
              have HB : own_hdr L 2 tc 3 4 (4 : Int32) (2 : Int32) := by have k2_ : (2 : Int32).toInt = 2 := rfl; have k4_ : (4 : Int32).toInt = 4 := rfl; have k5_ : (5 : Int32).toInt = 5 := rfl; unfold own_hdr; simp only [nL, Nat.reduceAdd, and_true]; refine ⟨?_, ?_, ?_, ?_, ?_, ?_, ?_, ?_⟩ <;> first | omega | rfl
              have HC : own_hdr L 6 (0 : Int32) 7 8 (8 : Int32) (0 : Int32) := by have k0_ : (0 : Int32).toInt = 0 := rfl; have k8_ : (8 : Int32).toInt = 8 := rfl; unfold own_hdr; simp only [nL, Nat.reduceAdd, and_true]; refine ⟨?_, ?_, ?_, ?_, ?_, ?_, ?_, ?_⟩ <;> first | omega | rfl
              refine X.virtual (a := a55) (own_skip3 l Z a0 hw h56 n0 a55 a46 L 0 (8 : Int32) 0 ya 1 2 2 (-1) rL (by rw [nL]; rfl) (by rw [nL]; decide) rfl HA rfl tc 3 4 4 (2 : Int32) HB (by first | omega | decide) (by decide) (6 : Int32) 6 rfl (by decide) 0 7 8 (8 : Int32) 0 HC rfl hsh56 Ba55'h56 Db Dp De AL'h56 gea55 (Nat.ne_of_gt la46_a55)) (hw _ (List.mem_of_getElem? (i := 37) rfl)) (hw _ (List.mem_of_getElem? (i := 38) rfl)) (hw _ (List.mem_of_getElem? (i := 40) rfl)) (hw _ (List.mem_of_getElem? (i := 39) rfl)) (hw _ (List.mem_of_getElem? (i := 3) rfl)) (hw _ (List.mem_of_getElem? (i := 41) rfl)) (by decide) Ba55'h56 own_pd9 (argsL := []) (rest := []) rfl rfl rfl (W := 0) (Nat.le_of_eq rfl) rfl (by decide) (by decide) (k' := 6) (n' := 24) rfl rfl (by decide) (by decide) at_278 (q := 281) rfl ?_
              rintro _ h57 ⟨rfl, Kh57c, Sb, Sp, Se⟩
              have AL'h57 : OwA Z h57 a46 .byte (L.map Value.int) := OwA.keep AL'h56 Kh57c (ninS (Nat.ne_of_lt la46_a55) nin0)
              have Ba55'h57 : Exa Z h57 a55 "com/example/dircred/dircred/credential/DerReader" := Exa.keep Ba55'h56 Kh57c
              have hsh57 : n0 ≤ h57.size := Nat.le_trans hsh56 Kh57c.1
              show X.G h57 6 24 281 #[.val (.int x0), .val (.int x1), .val (.int x2), .val (.int x3), .val (.int x4), .val (.int m), .val (.int (2 : Int32)), .val (.int l2), .val (.ref a46), .val (.int (1 : Int32)), .val (.ref a55), .unset] []
              refine X.iload (q := 283) at_281 rfl rfl ?_
              refine X.iconst (q := 284) (2 : Int32) at_283 (by decide) rfl ?_
              refine X.icmp_ne (a := 1) (b := 2) (q' := 302) (q := 287) at_284 rfl rfl (by decide) rfl (fun c284 => ?_) (fun c284 => ?_)
              · refine X.aload (q := 304) at_302 rfl rfl rfl ?_
                refine X.virtual (a := a55) (own_hm l Z a0 hw h57 n0 a55 (8 : Int32) (8 : Int32) hsh57 Sp Se) (hw _ (List.mem_of_getElem? (i := 19) rfl)) (hw _ (List.mem_of_getElem? (i := 20) rfl)) (hw _ (List.mem_of_getElem? (i := 22) rfl)) (hw _ (List.mem_of_getElem? (i := 21) rfl)) (hw _ (List.mem_of_getElem? (i := 3) rfl)) (hw _ (List.mem_of_getElem? (i := 23) rfl)) (by decide) Ba55'h57 own_pd5 (argsL := []) (rest := []) rfl rfl rfl (W := 0) (Nat.le_of_eq rfl) rfl (by decide) (by decide) (k' := 6) (n' := 24) rfl rfl (by decide) (by decide) at_304 (q := 307) rfl ?_
                rintro _ _ ⟨zb, rfl, hzb, rfl⟩
                show X.G h57 6 24 307 #[.val (.int x0), .val (.int x1), .val (.int x2), .val (.int x3), .val (.int x4), .val (.int m), .val (.int (2 : Int32)), .val (.int l2), .val (.ref a46), .val (.int (1 : Int32)), .val (.ref a55), .unset] [(.int zb)]
                refine X.istore (q := 309) (Ls' := #[.val (.int x0), .val (.int x1), .val (.int x2), .val (.int x3), .val (.int x4), .val (.int m), .val (.int (2 : Int32)), .val (.int l2), .val (.ref a46), .val (.int (1 : Int32)), .val (.ref a55), .val (.int zb)]) at_307 rfl rfl ?_
                refine X.aload (q := 311) at_309 rfl rfl rfl ?_
                refine X.virtual (a := a55) (own_en l Z a0 hw h57 n0 a55 a46 (8 : Int32) (8 : Int32) (by decide) hsh57 Ba55'h57 Sb Sp Se) (hw _ (List.mem_of_getElem? (i := 24) rfl)) (hw _ (List.mem_of_getElem? (i := 25) rfl)) (hw _ (List.mem_of_getElem? (i := 27) rfl)) (hw _ (List.mem_of_getElem? (i := 26) rfl)) (hw _ (List.mem_of_getElem? (i := 3) rfl)) (hw _ (List.mem_of_getElem? (i := 28) rfl)) (by decide) Ba55'h57 own_pd9 (argsL := []) (rest := []) rfl rfl rfl (W := 0) (Nat.le_of_eq rfl) rfl (by decide) (by decide) (k' := 6) (n' := 24) rfl rfl (by decide) (by decide) at_311 (q := 314) rfl ?_
                rintro _ _ ⟨rfl, rfl⟩
                show X.G h57 6 24 314 #[.val (.int x0), .val (.int x1), .val (.int x2), .val (.int x3), .val (.int x4), .val (.int m), .val (.int (2 : Int32)), .val (.int l2), .val (.ref a46), .val (.int (1 : Int32)), .val (.ref a55), .val (.int zb)] []
                refine X.iload (q := 316) at_314 rfl rfl ?_
                refine X.if_ne (q' := 331) (q := 319) at_316 rfl (by decide) rfl (fun c316 => ?_) (fun c316 => ?_)
                · omega
                · refine X.aload (q := 321) at_319 rfl rfl rfl ?_
                  refine X.virtual (a := a55) (own_hm l Z a0 hw h57 n0 a55 (8 : Int32) (8 : Int32) hsh57 Sp Se) (hw _ (List.mem_of_getElem? (i := 19) rfl)) (hw _ (List.mem_of_getElem? (i := 20) rfl)) (hw _ (List.mem_of_getElem? (i := 22) rfl)) (hw _ (List.mem_of_getElem? (i := 21) rfl)) (hw _ (List.mem_of_getElem? (i := 3) rfl)) (hw _ (List.mem_of_getElem? (i := 23) rfl)) (by decide) Ba55'h57 own_pd5 (argsL := []) (rest := []) rfl rfl rfl (W := 0) (Nat.le_of_eq rfl) rfl (by decide) (by decide) (k' := 6) (n' := 24) rfl rfl (by decide) (by decide) at_321 (q := 324) rfl ?_
                  rintro _ _ ⟨zc, rfl, hzc, rfl⟩
                  show X.G h57 6 24 324 #[.val (.int x0), .val (.int x1), .val (.int x2), .val (.int x3), .val (.int x4), .val (.int m), .val (.int (2 : Int32)), .val (.int l2), .val (.ref a46), .val (.int (1 : Int32)), .val (.ref a55), .val (.int zb)] [(.int zc)]
                  refine X.if_ne (q' := 331) (q := 327) at_324 rfl (by decide) rfl (fun c324 => ?_) (fun c324 => ?_)
                  · omega
                  · refine X.iconst (q := 328) (1 : Int32) at_327 (by decide) rfl ?_
                    refine X.goto (q' := 332) at_328 (by decide) ?_
                    refine X.retN (t := .boolean) (z' := (1 : Int32)) at_332 rfl (by simp) (by decide) (by decide) (by decide) ?_
                    rfl
              · omega
          · refine X.iconst (q := 214) (5 : Int32) at_213 (by decide) rfl ?_
            refine X.istore (q := 216) (Ls' := #[.val (.int x0), .val (.int x1), .val (.int x2), .val (.int x3), .val (.int x4), .val (.int m), .val (.int (2 : Int32)), .val (.int l2), .val (.ref a46), .unset, .val (.int (5 : Int32)), .unset]) at_214 rfl rfl ?_
            refine X.aload (q := 218) at_216 rfl rfl rfl ?_
            refine X.iconst (q := 219) (2 : Int32) at_218 (by decide) rfl ?_
            refine X.iload (q := 221) at_219 rfl rfl ?_
            refine X.i2b (q := 222) at_221 rfl ?_
            refine X.bastore (q := 223) (j := 2) Ah48_ rfl (by simp) gea46 at_222 rfl (fun h58 Wh58 Ah58 => ?_)
            have hsh58 : n0 ≤ h58.size := by rw [Wr.size Wh58]; exact hsh48
            have Ah58_ : OwA Z h58 a46 .byte [(.int (nar .byte ya.toInt8.toInt32)), (.int (nar .byte (-128 : Int32))), (.int (nar .byte (5 : Int32).toInt8.toInt32)), (.int (0 : Int32)), (.int (0 : Int32)), (.int (0 : Int32)), (.int (0 : Int32)), (.int (0 : Int32))] := Ah58
            refine X.aload (q := 225) at_223 rfl rfl rfl ?_
            refine X.iconst (q := 226) (3 : Int32) at_225 (by decide) rfl ?_
            refine X.iload (q := 228) at_226 rfl rfl ?_
            refine X.i2b (q := 229) at_228 rfl ?_
            refine X.bastore (q := 230) (j := 3) Ah58_ rfl (by simp) gea46 at_229 rfl (fun h59 Wh59 Ah59 => ?_)
            have hsh59 : n0 ≤ h59.size := by rw [Wr.size Wh59]; exact hsh58
            have Ah59_ : OwA Z h59 a46 .byte [(.int (nar .byte ya.toInt8.toInt32)), (.int (nar .byte (-128 : Int32))), (.int (nar .byte (5 : Int32).toInt8.toInt32)), (.int (nar .byte (2 : Int32).toInt8.toInt32)), (.int (0 : Int32)), (.int (0 : Int32)), (.int (0 : Int32)), (.int (0 : Int32))] := Ah59
            refine X.aload (q := 232) at_230 rfl rfl rfl ?_
            refine X.iconst (q := 233) (4 : Int32) at_232 (by decide) rfl ?_
            refine X.iload (q := 235) at_233 rfl rfl ?_
            refine X.iload (q := 237) at_235 rfl rfl ?_
            refine X.callS (own_put2 l Z a0 hw h59 n0 a46 (4 : Int32) x4 4 _ rfl (by simp) (by decide) hsh59 Ah59_ gea46) (hw _ (List.mem_of_getElem? (i := 34) rfl)) (hw _ (List.mem_of_getElem? (i := 35) rfl)) (hw _ (List.mem_of_getElem? (i := 32) rfl)) (hw _ (List.mem_of_getElem? (i := 36) rfl)) (by decide) own_pd7 (argsL := [(.ref a46), (.int (4 : Int32)), (.int (2 : Int32)), (.int x4)]) (rest := []) rfl rfl rfl (W := 0) (Nat.le_of_eq rfl) rfl (by decide) (by decide) (k' := 1) (n' := 8) rfl rfl (by decide) (by decide) at_237 (q := 240) rfl ?_
            rintro _ h60 ⟨u0, u1, rfl, Kh60c, Gu⟩
            have hsh60 : n0 ≤ h60.size := Nat.le_trans hsh59 Kh60c.1
            show X.G h60 1 8 240 #[.val (.int x0), .val (.int x1), .val (.int x2), .val (.int x3), .val (.int x4), .val (.int m), .val (.int (2 : Int32)), .val (.int l2), .val (.ref a46), .unset, .val (.int (5 : Int32)), .unset] []
            have Gu : OwA Z h60 a46 .byte [(.int (nar .byte ya.toInt8.toInt32)), (.int (nar .byte (-128 : Int32))), (.int (nar .byte (5 : Int32).toInt8.toInt32)), (.int (nar .byte (2 : Int32).toInt8.toInt32)), (.int (nar .byte u0.toInt8.toInt32)), (.int (nar .byte u1.toInt8.toInt32)), (.int (0 : Int32)), (.int (0 : Int32))] := Gu
            refine X.aload (q := 242) at_240 rfl rfl rfl ?_
            refine X.iconst (q := 243) (4 : Int32) at_242 (by decide) rfl ?_
            refine X.iload (q := 245) at_243 rfl rfl ?_
            refine X.iadd (q := 246) at_245 rfl ?_
            refine X.foldI (v := (6 : Int32)) (by decide) ?_
            refine X.iconst (q := 247) (0 : Int32) at_246 (by decide) rfl ?_
            refine X.bastore (q := 248) (j := 6) Gu rfl (by simp) gea46 at_247 rfl (fun h61 Wh61 Ah61 => ?_)
            have hsh61 : n0 ≤ h61.size := by rw [Wr.size Wh61]; exact hsh60
            have Ah61_ : OwA Z h61 a46 .byte [(.int (nar .byte ya.toInt8.toInt32)), (.int (nar .byte (-128 : Int32))), (.int (nar .byte (5 : Int32).toInt8.toInt32)), (.int (nar .byte (2 : Int32).toInt8.toInt32)), (.int (nar .byte u0.toInt8.toInt32)), (.int (nar .byte u1.toInt8.toInt32)), (.int (nar .byte (0 : Int32))), (.int (0 : Int32))] := Ah61
            refine X.aload (q := 250) at_248 rfl rfl rfl ?_
            refine X.iconst (q := 251) (5 : Int32) at_250 (by decide) rfl ?_
            refine X.iload (q := 253) at_251 rfl rfl ?_
            refine X.iadd (q := 254) at_253 rfl ?_
            refine X.foldI (v := (7 : Int32)) (by decide) ?_
            refine X.iconst (q := 255) (0 : Int32) at_254 (by decide) rfl ?_
            refine X.bastore (q := 256) (j := 7) Ah61_ rfl (by simp) gea46 at_255 rfl (fun h62 Wh62 Ah62 => ?_)
            have hsh62 : n0 ≤ h62.size := by rw [Wr.size Wh62]; exact hsh61
            have Ah62_ : OwA Z h62 a46 .byte [(.int (nar .byte ya.toInt8.toInt32)), (.int (nar .byte (-128 : Int32))), (.int (nar .byte (5 : Int32).toInt8.toInt32)), (.int (nar .byte (2 : Int32).toInt8.toInt32)), (.int (nar .byte u0.toInt8.toInt32)), (.int (nar .byte u1.toInt8.toInt32)), (.int (nar .byte (0 : Int32))), (.int (nar .byte (0 : Int32)))] := Ah62
            refine X.iconst (q := 257) (1 : Int32) at_256 (by decide) rfl ?_
            refine X.istore (q := 259) (Ls' := #[.val (.int x0), .val (.int x1), .val (.int x2), .val (.int x3), .val (.int x4), .val (.int m), .val (.int (2 : Int32)), .val (.int l2), .val (.ref a46), .val (.int (1 : Int32)), .val (.int (5 : Int32)), .unset]) at_257 rfl rfl ?_
            refine X.newO (q := 262) (k' := 2) (n' := 11) (hw _ (List.mem_of_getElem? (i := 1) rfl)) (hw _ (List.mem_of_getElem? (i := 2) rfl)) (hw _ (List.mem_of_getElem? (i := 3) rfl)) at_259 rfl rfl (by decide) (by decide) rfl (fun h63 a64 ga64 Eh63 Ba64 Da64 => ?_)
            have la46_a64 : a46 < a64 := by have := Ah62_.lt; rw [← ga64] at this; exact this
            have Ah62_'h63 : OwA Z h63 a46 .byte [(.int (nar .byte ya.toInt8.toInt32)), (.int (nar .byte (-128 : Int32))), (.int (nar .byte (5 : Int32).toInt8.toInt32)), (.int (nar .byte (2 : Int32).toInt8.toInt32)), (.int (nar .byte u0.toInt8.toInt32)), (.int (nar .byte u1.toInt8.toInt32)), (.int (nar .byte (0 : Int32))), (.int (nar .byte (0 : Int32)))] := OwA.ext (E := Eh63) Ah62_
            have gea64 : n0 ≤ a64 := by rw [ga64]; exact hsh62
            have hsh63 : n0 ≤ h63.size := Nat.le_trans hsh62 Eh63.1
            have Fa64_bytes : Fld Z h63 a64 "com/example/dircred/dircred/credential/DerReader" "bytes" "[B" .null := Da64 (Or.inr (hw _ (List.mem_of_getElem? (i := 14) rfl))) (ty := (.array .byte)) (by decide)
            have Fa64_position : Fld Z h63 a64 "com/example/dircred/dircred/credential/DerReader" "position" "I" (.int (0 : Int32)) := Da64 (Or.inl (hw _ (List.mem_of_getElem? (i := 16) rfl))) (ty := .int) (by decide)
            have Fa64_end : Fld Z h63 a64 "com/example/dircred/dircred/credential/DerReader" "end" "I" (.int (0 : Int32)) := Da64 (Or.inr (hw _ (List.mem_of_getElem? (i := 18) rfl))) (ty := .int) (by decide)
            refine X.dup (q := 263) at_262 rfl rfl ?_
            refine X.aload (q := 265) at_263 rfl rfl rfl ?_
            obtain ⟨L, hL⟩ : ∃ L_ : List Int32, L_ = [(nar .byte ya.toInt8.toInt32), (nar .byte (-128 : Int32)), (nar .byte (5 : Int32).toInt8.toInt32), (nar .byte (2 : Int32).toInt8.toInt32), (nar .byte u0.toInt8.toInt32), (nar .byte u1.toInt8.toInt32), (nar .byte (0 : Int32)), (nar .byte (0 : Int32))] := ⟨_, rfl⟩
            have AL : OwA Z h63 a46 .byte (L.map Value.int) := by rw [hL]; exact Ah62_'h63
            have nL : L.length = 8 := by rw [hL]; rfl
            have gL0 : (L.getD 0 0).toInt = (ya.toInt + 128) % 256 - 128 := by rw [hL]; exact own_nbt _
            have gL1 : (L.getD 1 0).toInt = -128 := by rw [hL]; rfl
            have gL2 : (L.getD 2 0).toInt = ((5 : Int32).toInt + 128) % 256 - 128 := by rw [hL]; exact own_nbt _
            have gL3 : (L.getD 3 0).toInt = ((2 : Int32).toInt + 128) % 256 - 128 := by rw [hL]; exact own_nbt _
            have gL4 : (L.getD 4 0).toInt = (u0.toInt + 128) % 256 - 128 := by rw [hL]; exact own_nbt _
            have gL5 : (L.getD 5 0).toInt = (u1.toInt + 128) % 256 - 128 := by rw [hL]; exact own_nbt _
            have gL6 : (L.getD 6 0).toInt = 0 := by rw [hL]; rfl
            have gL7 : (L.getD 7 0).toInt = 0 := by rw [hL]; rfl
            have rL : ∀ x ∈ L, -128 ≤ x.toInt ∧ x.toInt ≤ 127 := by
              intro x hx; rw [hL] at hx
              simp only [List.mem_cons, List.not_mem_nil, or_false] at hx
              rcases hx with rfl | rfl | rfl | rfl | rfl | rfl | rfl | rfl
              · rw [own_nbt]; omega
              · exact ⟨by decide, by decide⟩
              · rw [own_nbt]; omega
              · rw [own_nbt]; omega
              · rw [own_nbt]; omega
              · rw [own_nbt]; omega
              · exact ⟨by decide, by decide⟩
              · exact ⟨by decide, by decide⟩
            clear hL
            refine X.special (a := a64) (own_i1 l Z a0 hw h63 n0 a64 a46 L (8 : Int32) (by rw [nL]; rfl) hsh63 Ba64 Fa64_bytes Fa64_position Fa64_end AL gea64 (Nat.ne_of_gt la46_a64)) rfl (hw _ (List.mem_of_getElem? (i := 4) rfl)) (hw _ (List.mem_of_getElem? (i := 5) rfl)) (hw _ (List.mem_of_getElem? (i := 3) rfl)) (hw _ (List.mem_of_getElem? (i := 6) rfl)) (by decide) own_pd8 (argsL := [(.ref a46)]) (rest := [(.ref a64)]) rfl rfl rfl (W := 1) (Nat.le_of_eq rfl) rfl (by decide) (by decide) (k' := 2) (n' := 11) rfl rfl (by decide) (by decide) at_265 (q := 268) rfl ?_
            rintro _ h65 ⟨rfl, Kh65c, Db, Dp, De⟩
            have AL'h65 : OwA Z h65 a46 .byte (L.map Value.int) := OwA.keep AL Kh65c (ninS (Nat.ne_of_lt la46_a64) nin0)
            have Ba64'h65 : Exa Z h65 a64 "com/example/dircred/dircred/credential/DerReader" := Exa.keep Ba64 Kh65c
            have hsh65 : n0 ≤ h65.size := Nat.le_trans hsh63 Kh65c.1
            show X.G h65 2 11 268 #[.val (.int x0), .val (.int x1), .val (.int x2), .val (.int x3), .val (.int x4), .val (.int m), .val (.int (2 : Int32)), .val (.int l2), .val (.ref a46), .val (.int (1 : Int32)), .val (.int (5 : Int32)), .unset] [(.ref a64)]
            refine X.astore (q := 270) (Ls' := #[.val (.int x0), .val (.int x1), .val (.int x2), .val (.int x3), .val (.int x4), .val (.int m), .val (.int (2 : Int32)), .val (.int l2), .val (.ref a46), .val (.int (1 : Int32)), .val (.ref a64), .unset]) at_268 rfl rfl rfl ?_
            refine X.iload (q := 272) at_270 rfl rfl ?_
            refine X.iconst (q := 273) (1 : Int32) at_272 (by decide) rfl ?_
            refine X.icmp_lt (a := 1) (b := 1) (q' := 281) (q := 276) at_273 rfl rfl (by decide) rfl (fun c273 => ?_) (fun c273 => ?_)
            · omega
            · refine X.aload (q := 278) at_276 rfl rfl rfl ?_
              have HA : own_hdr L 0 ya 1 2 (2 : Int32) (-1 : Int32) := by have k2_ : (2 : Int32).toInt = 2 := rfl; unfold own_hdr; simp only [nL, Nat.reduceAdd, and_true]; refine ⟨?_, ?_, ?_, ?_, ?_, ?_, ?_, ?_⟩ <;> first | omega | rfl
              have HB : own_hdr L 2 (5 : Int32) 3 4 (4 : Int32) (2 : Int32) := by have k2_ : (2 : Int32).toInt = 2 := rfl; have k4_ : (4 : Int32).toInt = 4 := rfl; have k5_ : (5 : Int32).toInt = 5 := rfl; unfold own_hdr; simp only [nL, Nat.reduceAdd, and_true]; refine ⟨?_, ?_, ?_, ?_, ?_, ?_, ?_, ?_⟩ <;> first | omega | rfl
              have HC : own_hdr L 6 (0 : Int32) 7 8 (8 : Int32) (0 : Int32) := by have k0_ : (0 : Int32).toInt = 0 := rfl; have k8_ : (8 : Int32).toInt = 8 := rfl; unfold own_hdr; simp only [nL, Nat.reduceAdd, and_true]; refine ⟨?_, ?_, ?_, ?_, ?_, ?_, ?_, ?_⟩ <;> first | omega | rfl
              refine X.virtual (a := a64) (own_skip3 l Z a0 hw h65 n0 a64 a46 L 0 (8 : Int32) 0 ya 1 2 2 (-1) rL (by rw [nL]; rfl) (by rw [nL]; decide) rfl HA rfl (5 : Int32) 3 4 4 (2 : Int32) HB (by first | omega | decide) (by decide) (6 : Int32) 6 rfl (by decide) 0 7 8 (8 : Int32) 0 HC rfl hsh65 Ba64'h65 Db Dp De AL'h65 gea64 (Nat.ne_of_gt la46_a64)) (hw _ (List.mem_of_getElem? (i := 37) rfl)) (hw _ (List.mem_of_getElem? (i := 38) rfl)) (hw _ (List.mem_of_getElem? (i := 40) rfl)) (hw _ (List.mem_of_getElem? (i := 39) rfl)) (hw _ (List.mem_of_getElem? (i := 3) rfl)) (hw _ (List.mem_of_getElem? (i := 41) rfl)) (by decide) Ba64'h65 own_pd9 (argsL := []) (rest := []) rfl rfl rfl (W := 0) (Nat.le_of_eq rfl) rfl (by decide) (by decide) (k' := 6) (n' := 24) rfl rfl (by decide) (by decide) at_278 (q := 281) rfl ?_
              rintro _ h66 ⟨rfl, Kh66c, Sb, Sp, Se⟩
              have AL'h66 : OwA Z h66 a46 .byte (L.map Value.int) := OwA.keep AL'h65 Kh66c (ninS (Nat.ne_of_lt la46_a64) nin0)
              have Ba64'h66 : Exa Z h66 a64 "com/example/dircred/dircred/credential/DerReader" := Exa.keep Ba64'h65 Kh66c
              have hsh66 : n0 ≤ h66.size := Nat.le_trans hsh65 Kh66c.1
              show X.G h66 6 24 281 #[.val (.int x0), .val (.int x1), .val (.int x2), .val (.int x3), .val (.int x4), .val (.int m), .val (.int (2 : Int32)), .val (.int l2), .val (.ref a46), .val (.int (1 : Int32)), .val (.ref a64), .unset] []
              refine X.iload (q := 283) at_281 rfl rfl ?_
              refine X.iconst (q := 284) (2 : Int32) at_283 (by decide) rfl ?_
              refine X.icmp_ne (a := 1) (b := 2) (q' := 302) (q := 287) at_284 rfl rfl (by decide) rfl (fun c284 => ?_) (fun c284 => ?_)
              · refine X.aload (q := 304) at_302 rfl rfl rfl ?_
                refine X.virtual (a := a64) (own_hm l Z a0 hw h66 n0 a64 (8 : Int32) (8 : Int32) hsh66 Sp Se) (hw _ (List.mem_of_getElem? (i := 19) rfl)) (hw _ (List.mem_of_getElem? (i := 20) rfl)) (hw _ (List.mem_of_getElem? (i := 22) rfl)) (hw _ (List.mem_of_getElem? (i := 21) rfl)) (hw _ (List.mem_of_getElem? (i := 3) rfl)) (hw _ (List.mem_of_getElem? (i := 23) rfl)) (by decide) Ba64'h66 own_pd5 (argsL := []) (rest := []) rfl rfl rfl (W := 0) (Nat.le_of_eq rfl) rfl (by decide) (by decide) (k' := 6) (n' := 24) rfl rfl (by decide) (by decide) at_304 (q := 307) rfl ?_
                rintro _ _ ⟨zb, rfl, hzb, rfl⟩
                show X.G h66 6 24 307 #[.val (.int x0), .val (.int x1), .val (.int x2), .val (.int x3), .val (.int x4), .val (.int m), .val (.int (2 : Int32)), .val (.int l2), .val (.ref a46), .val (.int (1 : Int32)), .val (.ref a64), .unset] [(.int zb)]
                refine X.istore (q := 309) (Ls' := #[.val (.int x0), .val (.int x1), .val (.int x2), .val (.int x3), .val (.int x4), .val (.int m), .val (.int (2 : Int32)), .val (.int l2), .val (.ref a46), .val (.int (1 : Int32)), .val (.ref a64), .val (.int zb)]) at_307 rfl rfl ?_
                refine X.aload (q := 311) at_309 rfl rfl rfl ?_
                refine X.virtual (a := a64) (own_en l Z a0 hw h66 n0 a64 a46 (8 : Int32) (8 : Int32) (by decide) hsh66 Ba64'h66 Sb Sp Se) (hw _ (List.mem_of_getElem? (i := 24) rfl)) (hw _ (List.mem_of_getElem? (i := 25) rfl)) (hw _ (List.mem_of_getElem? (i := 27) rfl)) (hw _ (List.mem_of_getElem? (i := 26) rfl)) (hw _ (List.mem_of_getElem? (i := 3) rfl)) (hw _ (List.mem_of_getElem? (i := 28) rfl)) (by decide) Ba64'h66 own_pd9 (argsL := []) (rest := []) rfl rfl rfl (W := 0) (Nat.le_of_eq rfl) rfl (by decide) (by decide) (k' := 6) (n' := 24) rfl rfl (by decide) (by decide) at_311 (q := 314) rfl ?_
                rintro _ _ ⟨rfl, rfl⟩
                show X.G h66 6 24 314 #[.val (.int x0), .val (.int x1), .val (.int x2), .val (.int x3), .val (.int x4), .val (.int m), .val (.int (2 : Int32)), .val (.int l2), .val (.ref a46), .val (.int (1 : Int32)), .val (.ref a64), .val (.int zb)] []
                refine X.iload (q := 316) at_314 rfl rfl ?_
                refine X.if_ne (q' := 331) (q := 319) at_316 rfl (by decide) rfl (fun c316 => ?_) (fun c316 => ?_)
                · omega
                · refine X.aload (q := 321) at_319 rfl rfl rfl ?_
                  refine X.virtual (a := a64) (own_hm l Z a0 hw h66 n0 a64 (8 : Int32) (8 : Int32) hsh66 Sp Se) (hw _ (List.mem_of_getElem? (i := 19) rfl)) (hw _ (List.mem_of_getElem? (i := 20) rfl)) (hw _ (List.mem_of_getElem? (i := 22) rfl)) (hw _ (List.mem_of_getElem? (i := 21) rfl)) (hw _ (List.mem_of_getElem? (i := 3) rfl)) (hw _ (List.mem_of_getElem? (i := 23) rfl)) (by decide) Ba64'h66 own_pd5 (argsL := []) (rest := []) rfl rfl rfl (W := 0) (Nat.le_of_eq rfl) rfl (by decide) (by decide) (k' := 6) (n' := 24) rfl rfl (by decide) (by decide) at_321 (q := 324) rfl ?_
                  rintro _ _ ⟨zc, rfl, hzc, rfl⟩
                  show X.G h66 6 24 324 #[.val (.int x0), .val (.int x1), .val (.int x2), .val (.int x3), .val (.int x4), .val (.int m), .val (.int (2 : Int32)), .val (.int l2), .val (.ref a46), .val (.int (1 : Int32)), .val (.ref a64), .val (.int zb)] [(.int zc)]
                  refine X.if_ne (q' := 331) (q := 327) at_324 rfl (by decide) rfl (fun c324 => ?_) (fun c324 => ?_)
                  · omega
                  · refine X.iconst (q := 328) (1 : Int32) at_327 (by decide) rfl ?_
                    refine X.goto (q' := 332) at_328 (by decide) ?_
                    refine X.retN (t := .boolean) (z' := (1 : Int32)) at_332 rfl (by simp) (by decide) (by decide) (by decide) ?_
                    rfl
              · omega
        · refine X.bipush (q := 174) (6 : Int32) at_172 (by decide) rfl ?_
          refine X.iload (q := 176) at_174 rfl rfl ?_
          refine X.iadd (q := 177) at_176 rfl ?_
          refine X.foldI (v := (9 : Int32)) (by decide) ?_
          refine X.newP (q := 179) (ty := .byte) (N := 9) (cap := 9) (k' := 1) (n' := 9) (hw _ (List.mem_of_getElem? (i := 0) rfl)) at_177 rfl rfl (Nat.le_refl _) (by decide) rfl rfl (by decide) (by decide) rfl (fun h67 a68 ga68 Eh67 Aa68 => ?_)
          have gea68 : n0 ≤ a68 := by rw [ga68]; exact hn0
          have hsh67 : n0 ≤ h67.size := Nat.le_trans hn0 Eh67.1
          have Aa68 : OwA Z h67 a68 .byte [(.int (0 : Int32)), (.int (0 : Int32)), (.int (0 : Int32)), (.int (0 : Int32)), (.int (0 : Int32)), (.int (0 : Int32)), (.int (0 : Int32)), (.int (0 : Int32)), (.int (0 : Int32))] := Aa68
          refine X.astore (q := 181) (Ls' := #[.val (.int x0), .val (.int x1), .val (.int x2), .val (.int x3), .val (.int x4), .val (.int m), .val (.int (3 : Int32)), .val (.int l2), .val (.ref a68), .unset, .unset, .unset]) at_179 rfl rfl rfl ?_
          refine X.aload (q := 183) at_181 rfl rfl rfl ?_
          refine X.iconst (q := 184) (0 : Int32) at_183 (by decide) rfl ?_
          refine X.bipush (q := 186) (32 : Int32) at_184 (by decide) rfl ?_
          refine X.iloadN (q := 187) at_186 rfl rfl ?_
          refine X.sipush (q := 190) (222 : Int32) at_187 (by decide) rfl ?_
          refine X.iand (q := 191) at_190 rfl ?_
          refine X.ior (q := 192) at_191 rfl ?_
          refine X.nmI (fun ya hya => ?_)
          have hya_ := own_or20 x1
          rw [← hya] at hya_
          clear hya
          refine X.i2b (q := 193) at_192 rfl ?_
          refine X.bastore (q := 194) (j := 0) Aa68 rfl (by simp) gea68 at_193 rfl (fun h69 Wh69 Ah69 => ?_)
          have hsh69 : n0 ≤ h69.size := by rw [Wr.size Wh69]; exact hsh67
          have Ah69_ : OwA Z h69 a68 .byte [(.int (nar .byte ya.toInt8.toInt32)), (.int (0 : Int32)), (.int (0 : Int32)), (.int (0 : Int32)), (.int (0 : Int32)), (.int (0 : Int32)), (.int (0 : Int32)), (.int (0 : Int32)), (.int (0 : Int32))] := Ah69
          refine X.aload (q := 196) at_194 rfl rfl rfl ?_
          refine X.iconst (q := 197) (1 : Int32) at_196 (by decide) rfl ?_
          refine X.bipush (q := 199) (-128 : Int32) at_197 (by decide) rfl ?_
          refine X.bastore (q := 200) (j := 1) Ah69_ rfl (by simp) gea68 at_199 rfl (fun h70 Wh70 Ah70 => ?_)
          have hsh70 : n0 ≤ h70.size := by rw [Wr.size Wh70]; exact hsh69
          have Ah70_ : OwA Z h70 a68 .byte [(.int (nar .byte ya.toInt8.toInt32)), (.int (nar .byte (-128 : Int32))), (.int (0 : Int32)), (.int (0 : Int32)), (.int (0 : Int32)), (.int (0 : Int32)), (.int (0 : Int32)), (.int (0 : Int32)), (.int (0 : Int32))] := Ah70
          refine X.iloadN (q := 201) at_200 rfl rfl ?_
          refine X.iload (q := 203) at_201 rfl rfl ?_
          refine X.callS (own_tag l Z a0 hw h70 n0 x2 (3 : Int32)) (hw _ (List.mem_of_getElem? (i := 30) rfl)) (hw _ (List.mem_of_getElem? (i := 31) rfl)) (hw _ (List.mem_of_getElem? (i := 32) rfl)) (hw _ (List.mem_of_getElem? (i := 33) rfl)) (by decide) own_pd6 (argsL := [(.int x2), (.int (3 : Int32))]) (rest := []) rfl rfl rfl (W := 0) (Nat.le_of_eq rfl) rfl (by decide) (by decide) (k' := 1) (n' := 9) rfl rfl (by decide) (by decide) at_203 (q := 206) rfl ?_
          rintro _ _ ⟨tc, rfl, htc, rfl⟩
          show X.G h70 1 9 206 #[.val (.int x0), .val (.int x1), .val (.int x2), .val (.int x3), .val (.int x4), .val (.int m), .val (.int (3 : Int32)), .val (.int l2), .val (.ref a68), .unset, .unset, .unset] [(.int tc)]
          refine X.istore (q := 208) (Ls' := #[.val (.int x0), .val (.int x1), .val (.int x2), .val (.int x3), .val (.int x4), .val (.int m), .val (.int (3 : Int32)), .val (.int l2), .val (.ref a68), .unset, .val (.int tc), .unset]) at_206 rfl rfl ?_
          refine X.iload (q := 210) at_208 rfl rfl ?_
          refine X.if_ne (q' := 216) (q := 213) at_210 rfl (by decide) rfl (fun c210 => ?_) (fun c210 => ?_)
          · refine X.aload (q := 218) at_216 rfl rfl rfl ?_
            refine X.iconst (q := 219) (2 : Int32) at_218 (by decide) rfl ?_
            refine X.iload (q := 221) at_219 rfl rfl ?_
            refine X.i2b (q := 222) at_221 rfl ?_
            refine X.bastore (q := 223) (j := 2) Ah70_ rfl (by simp) gea68 at_222 rfl (fun h71 Wh71 Ah71 => ?_)
            have hsh71 : n0 ≤ h71.size := by rw [Wr.size Wh71]; exact hsh70
            have Ah71_ : OwA Z h71 a68 .byte [(.int (nar .byte ya.toInt8.toInt32)), (.int (nar .byte (-128 : Int32))), (.int (nar .byte tc.toInt8.toInt32)), (.int (0 : Int32)), (.int (0 : Int32)), (.int (0 : Int32)), (.int (0 : Int32)), (.int (0 : Int32)), (.int (0 : Int32))] := Ah71
            refine X.aload (q := 225) at_223 rfl rfl rfl ?_
            refine X.iconst (q := 226) (3 : Int32) at_225 (by decide) rfl ?_
            refine X.iload (q := 228) at_226 rfl rfl ?_
            refine X.i2b (q := 229) at_228 rfl ?_
            refine X.bastore (q := 230) (j := 3) Ah71_ rfl (by simp) gea68 at_229 rfl (fun h72 Wh72 Ah72 => ?_)
            have hsh72 : n0 ≤ h72.size := by rw [Wr.size Wh72]; exact hsh71
            have Ah72_ : OwA Z h72 a68 .byte [(.int (nar .byte ya.toInt8.toInt32)), (.int (nar .byte (-128 : Int32))), (.int (nar .byte tc.toInt8.toInt32)), (.int (nar .byte (3 : Int32).toInt8.toInt32)), (.int (0 : Int32)), (.int (0 : Int32)), (.int (0 : Int32)), (.int (0 : Int32)), (.int (0 : Int32))] := Ah72
            refine X.aload (q := 232) at_230 rfl rfl rfl ?_
            refine X.iconst (q := 233) (4 : Int32) at_232 (by decide) rfl ?_
            refine X.iload (q := 235) at_233 rfl rfl ?_
            refine X.iload (q := 237) at_235 rfl rfl ?_
            refine X.callS (own_put3 l Z a0 hw h72 n0 a68 (4 : Int32) x4 4 _ rfl (by simp) (by decide) hsh72 Ah72_ gea68) (hw _ (List.mem_of_getElem? (i := 34) rfl)) (hw _ (List.mem_of_getElem? (i := 35) rfl)) (hw _ (List.mem_of_getElem? (i := 32) rfl)) (hw _ (List.mem_of_getElem? (i := 36) rfl)) (by decide) own_pd7 (argsL := [(.ref a68), (.int (4 : Int32)), (.int (3 : Int32)), (.int x4)]) (rest := []) rfl rfl rfl (W := 0) (Nat.le_of_eq rfl) rfl (by decide) (by decide) (k' := 1) (n' := 9) rfl rfl (by decide) (by decide) at_237 (q := 240) rfl ?_
            rintro _ h73 ⟨u0, u1, u2, rfl, Kh73c, Gu⟩
            have hsh73 : n0 ≤ h73.size := Nat.le_trans hsh72 Kh73c.1
            show X.G h73 1 9 240 #[.val (.int x0), .val (.int x1), .val (.int x2), .val (.int x3), .val (.int x4), .val (.int m), .val (.int (3 : Int32)), .val (.int l2), .val (.ref a68), .unset, .val (.int tc), .unset] []
            have Gu : OwA Z h73 a68 .byte [(.int (nar .byte ya.toInt8.toInt32)), (.int (nar .byte (-128 : Int32))), (.int (nar .byte tc.toInt8.toInt32)), (.int (nar .byte (3 : Int32).toInt8.toInt32)), (.int (nar .byte u0.toInt8.toInt32)), (.int (nar .byte u1.toInt8.toInt32)), (.int (nar .byte u2.toInt8.toInt32)), (.int (0 : Int32)), (.int (0 : Int32))] := Gu
            refine X.aload (q := 242) at_240 rfl rfl rfl ?_
            refine X.iconst (q := 243) (4 : Int32) at_242 (by decide) rfl ?_
            refine X.iload (q := 245) at_243 rfl rfl ?_
            refine X.iadd (q := 246) at_245 rfl ?_
            refine X.foldI (v := (7 : Int32)) (by decide) ?_
            refine X.iconst (q := 247) (0 : Int32) at_246 (by decide) rfl ?_
            refine X.bastore (q := 248) (j := 7) Gu rfl (by simp) gea68 at_247 rfl (fun h74 Wh74 Ah74 => ?_)
            have hsh74 : n0 ≤ h74.size := by rw [Wr.size Wh74]; exact hsh73
            have Ah74_ : OwA Z h74 a68 .byte [(.int (nar .byte ya.toInt8.toInt32)), (.int (nar .byte (-128 : Int32))), (.int (nar .byte tc.toInt8.toInt32)), (.int (nar .byte (3 : Int32).toInt8.toInt32)), (.int (nar .byte u0.toInt8.toInt32)), (.int (nar .byte u1.toInt8.toInt32)), (.int (nar .byte u2.toInt8.toInt32)), (.int (nar .byte (0 : Int32))), (.int (0 : Int32))] := Ah74
            refine X.aload (q := 250) at_248 rfl rfl rfl ?_
            refine X.iconst (q := 251) (5 : Int32) at_250 (by decide) rfl ?_
            refine X.iload (q := 253) at_251 rfl rfl ?_
            refine X.iadd (q := 254) at_253 rfl ?_
            refine X.foldI (v := (8 : Int32)) (by decide) ?_
            refine X.iconst (q := 255) (0 : Int32) at_254 (by decide) rfl ?_
            refine X.bastore (q := 256) (j := 8) Ah74_ rfl (by simp) gea68 at_255 rfl (fun h75 Wh75 Ah75 => ?_)
            have hsh75 : n0 ≤ h75.size := by rw [Wr.size Wh75]; exact hsh74
            have Ah75_ : OwA Z h75 a68 .byte [(.int (nar .byte ya.toInt8.toInt32)), (.int (nar .byte (-128 : Int32))), (.int (nar .byte tc.toInt8.toInt32)), (.int (nar .byte (3 : Int32).toInt8.toInt32)), (.int (nar .byte u0.toInt8.toInt32)), (.int (nar .byte u1.toInt8.toInt32)), (.int (nar .byte u2.toInt8.toInt32)), (.int (nar .byte (0 : Int32))), (.int (nar .byte (0 : Int32)))] := Ah75
            refine X.iconst (q := 257) (1 : Int32) at_256 (by decide) rfl ?_
            refine X.istore (q := 259) (Ls' := #[.val (.int x0), .val (.int x1), .val (.int x2), .val (.int x3), .val (.int x4), .val (.int m), .val (.int (3 : Int32)), .val (.int l2), .val (.ref a68), .val (.int (1 : Int32)), .val (.int tc), .unset]) at_257 rfl rfl ?_
            refine X.newO (q := 262) (k' := 2) (n' := 12) (hw _ (List.mem_of_getElem? (i := 1) rfl)) (hw _ (List.mem_of_getElem? (i := 2) rfl)) (hw _ (List.mem_of_getElem? (i := 3) rfl)) at_259 rfl rfl (by decide) (by decide) rfl (fun h76 a77 ga77 Eh76 Ba77 Da77 => ?_)
            have la68_a77 : a68 < a77 := by have := Ah75_.lt; rw [← ga77] at this; exact this
            have Ah75_'h76 : OwA Z h76 a68 .byte [(.int (nar .byte ya.toInt8.toInt32)), (.int (nar .byte (-128 : Int32))), (.int (nar .byte tc.toInt8.toInt32)), (.int (nar .byte (3 : Int32).toInt8.toInt32)), (.int (nar .byte u0.toInt8.toInt32)), (.int (nar .byte u1.toInt8.toInt32)), (.int (nar .byte u2.toInt8.toInt32)), (.int (nar .byte (0 : Int32))), (.int (nar .byte (0 : Int32)))] := OwA.ext (E := Eh76) Ah75_
            have gea77 : n0 ≤ a77 := by rw [ga77]; exact hsh75
            have hsh76 : n0 ≤ h76.size := Nat.le_trans hsh75 Eh76.1
            have Fa77_bytes : Fld Z h76 a77 "com/example/dircred/dircred/credential/DerReader" "bytes" "[B" .null := Da77 (Or.inr (hw _ (List.mem_of_getElem? (i := 14) rfl))) (ty := (.array .byte)) (by decide)
            have Fa77_position : Fld Z h76 a77 "com/example/dircred/dircred/credential/DerReader" "position" "I" (.int (0 : Int32)) := Da77 (Or.inl (hw _ (List.mem_of_getElem? (i := 16) rfl))) (ty := .int) (by decide)
            have Fa77_end : Fld Z h76 a77 "com/example/dircred/dircred/credential/DerReader" "end" "I" (.int (0 : Int32)) := Da77 (Or.inr (hw _ (List.mem_of_getElem? (i := 18) rfl))) (ty := .int) (by decide)
            refine X.dup (q := 263) at_262 rfl rfl ?_
            refine X.aload (q := 265) at_263 rfl rfl rfl ?_
            obtain ⟨L, hL⟩ : ∃ L_ : List Int32, L_ = [(nar .byte ya.toInt8.toInt32), (nar .byte (-128 : Int32)), (nar .byte tc.toInt8.toInt32), (nar .byte (3 : Int32).toInt8.toInt32), (nar .byte u0.toInt8.toInt32), (nar .byte u1.toInt8.toInt32), (nar .byte u2.toInt8.toInt32), (nar .byte (0 : Int32)), (nar .byte (0 : Int32))] := ⟨_, rfl⟩
            have AL : OwA Z h76 a68 .byte (L.map Value.int) := by rw [hL]; exact Ah75_'h76
            have nL : L.length = 9 := by rw [hL]; rfl
            have gL0 : (L.getD 0 0).toInt = (ya.toInt + 128) % 256 - 128 := by rw [hL]; exact own_nbt _
            have gL1 : (L.getD 1 0).toInt = -128 := by rw [hL]; rfl
            have gL2 : (L.getD 2 0).toInt = (tc.toInt + 128) % 256 - 128 := by rw [hL]; exact own_nbt _
            have gL3 : (L.getD 3 0).toInt = ((3 : Int32).toInt + 128) % 256 - 128 := by rw [hL]; exact own_nbt _
            have gL4 : (L.getD 4 0).toInt = (u0.toInt + 128) % 256 - 128 := by rw [hL]; exact own_nbt _
            have gL5 : (L.getD 5 0).toInt = (u1.toInt + 128) % 256 - 128 := by rw [hL]; exact own_nbt _
            have gL6 : (L.getD 6 0).toInt = (u2.toInt + 128) % 256 - 128 := by rw [hL]; exact own_nbt _
            have gL7 : (L.getD 7 0).toInt = 0 := by rw [hL]; rfl
            have gL8 : (L.getD 8 0).toInt = 0 := by rw [hL]; rfl
            have rL : ∀ x ∈ L, -128 ≤ x.toInt ∧ x.toInt ≤ 127 := by
              intro x hx; rw [hL] at hx
              simp only [List.mem_cons, List.not_mem_nil, or_false] at hx
              rcases hx with rfl | rfl | rfl | rfl | rfl | rfl | rfl | rfl | rfl
              · rw [own_nbt]; omega
              · exact ⟨by decide, by decide⟩
              · rw [own_nbt]; omega
              · rw [own_nbt]; omega
              · rw [own_nbt]; omega
              · rw [own_nbt]; omega
              · rw [own_nbt]; omega
              · exact ⟨by decide, by decide⟩
              · exact ⟨by decide, by decide⟩
            clear hL
            refine X.special (a := a77) (own_i1 l Z a0 hw h76 n0 a77 a68 L (9 : Int32) (by rw [nL]; rfl) hsh76 Ba77 Fa77_bytes Fa77_position Fa77_end AL gea77 (Nat.ne_of_gt la68_a77)) rfl (hw _ (List.mem_of_getElem? (i := 4) rfl)) (hw _ (List.mem_of_getElem? (i := 5) rfl)) (hw _ (List.mem_of_getElem? (i := 3) rfl)) (hw _ (List.mem_of_getElem? (i := 6) rfl)) (by decide) own_pd8 (argsL := [(.ref a68)]) (rest := [(.ref a77)]) rfl rfl rfl (W := 1) (Nat.le_of_eq rfl) rfl (by decide) (by decide) (k' := 2) (n' := 12) rfl rfl (by decide) (by decide) at_265 (q := 268) rfl ?_
            rintro _ h78 ⟨rfl, Kh78c, Db, Dp, De⟩
            have AL'h78 : OwA Z h78 a68 .byte (L.map Value.int) := OwA.keep AL Kh78c (ninS (Nat.ne_of_lt la68_a77) nin0)
            have Ba77'h78 : Exa Z h78 a77 "com/example/dircred/dircred/credential/DerReader" := Exa.keep Ba77 Kh78c
            have hsh78 : n0 ≤ h78.size := Nat.le_trans hsh76 Kh78c.1
            show X.G h78 2 12 268 #[.val (.int x0), .val (.int x1), .val (.int x2), .val (.int x3), .val (.int x4), .val (.int m), .val (.int (3 : Int32)), .val (.int l2), .val (.ref a68), .val (.int (1 : Int32)), .val (.int tc), .unset] [(.ref a77)]
            refine X.astore (q := 270) (Ls' := #[.val (.int x0), .val (.int x1), .val (.int x2), .val (.int x3), .val (.int x4), .val (.int m), .val (.int (3 : Int32)), .val (.int l2), .val (.ref a68), .val (.int (1 : Int32)), .val (.ref a77), .unset]) at_268 rfl rfl rfl ?_
            refine X.iload (q := 272) at_270 rfl rfl ?_
            refine X.iconst (q := 273) (1 : Int32) at_272 (by decide) rfl ?_
            refine X.icmp_lt (a := 1) (b := 1) (q' := 281) (q := 276) at_273 rfl rfl (by decide) rfl (fun c273 => ?_) (fun c273 => ?_)
            · omega
            · refine X.aload (q := 278) at_276 rfl rfl rfl ?_
              have HA : own_hdr L 0 ya 1 2 (2 : Int32) (-1 : Int32) := by have k2_ : (2 : Int32).toInt = 2 := rfl; unfold own_hdr; simp only [nL, Nat.reduceAdd, and_true]; refine ⟨?_, ?_, ?_, ?_, ?_, ?_, ?_, ?_⟩ <;> first | omega | rfl
              have HB : own_hdr L 2 tc 3 4 (4 : Int32) (3 : Int32) := by have k3_ : (3 : Int32).toInt = 3 := rfl; have k4_ : (4 : Int32).toInt = 4 := rfl; have k5_ : (5 : Int32).toInt = 5 := rfl; unfold own_hdr; simp only [nL, Nat.reduceAdd, and_true]; refine ⟨?_, ?_, ?_, ?_, ?_, ?_, ?_, ?_⟩ <;> first | omega | rfl
              have HC : own_hdr L 7 (0 : Int32) 8 9 (9 : Int32) (0 : Int32) := by have k0_ : (0 : Int32).toInt = 0 := rfl; have k9_ : (9 : Int32).toInt = 9 := rfl; unfold own_hdr; simp only [nL, Nat.reduceAdd, and_true]; refine ⟨?_, ?_, ?_, ?_, ?_, ?_, ?_, ?_⟩ <;> first | omega | rfl
              refine X.virtual (a := a77) (own_skip3 l Z a0 hw h78 n0 a77 a68 L 0 (9 : Int32) 0 ya 1 2 2 (-1) rL (by rw [nL]; rfl) (by rw [nL]; decide) rfl HA rfl tc 3 4 4 (3 : Int32) HB (by first | omega | decide) (by decide) (7 : Int32) 7 rfl (by decide) 0 8 9 (9 : Int32) 0 HC rfl hsh78 Ba77'h78 Db Dp De AL'h78 gea77 (Nat.ne_of_gt la68_a77)) (hw _ (List.mem_of_getElem? (i := 37) rfl)) (hw _ (List.mem_of_getElem? (i := 38) rfl)) (hw _ (List.mem_of_getElem? (i := 40) rfl)) (hw _ (List.mem_of_getElem? (i := 39) rfl)) (hw _ (List.mem_of_getElem? (i := 3) rfl)) (hw _ (List.mem_of_getElem? (i := 41) rfl)) (by decide) Ba77'h78 own_pd9 (argsL := []) (rest := []) rfl rfl rfl (W := 0) (Nat.le_of_eq rfl) rfl (by decide) (by decide) (k' := 6) (n' := 25) rfl rfl (by decide) (by decide) at_278 (q := 281) rfl ?_
              rintro _ h79 ⟨rfl, Kh79c, Sb, Sp, Se⟩
              have AL'h79 : OwA Z h79 a68 .byte (L.map Value.int) := OwA.keep AL'h78 Kh79c (ninS (Nat.ne_of_lt la68_a77) nin0)
              have Ba77'h79 : Exa Z h79 a77 "com/example/dircred/dircred/credential/DerReader" := Exa.keep Ba77'h78 Kh79c
              have hsh79 : n0 ≤ h79.size := Nat.le_trans hsh78 Kh79c.1
              show X.G h79 6 25 281 #[.val (.int x0), .val (.int x1), .val (.int x2), .val (.int x3), .val (.int x4), .val (.int m), .val (.int (3 : Int32)), .val (.int l2), .val (.ref a68), .val (.int (1 : Int32)), .val (.ref a77), .unset] []
              refine X.iload (q := 283) at_281 rfl rfl ?_
              refine X.iconst (q := 284) (2 : Int32) at_283 (by decide) rfl ?_
              refine X.icmp_ne (a := 1) (b := 2) (q' := 302) (q := 287) at_284 rfl rfl (by decide) rfl (fun c284 => ?_) (fun c284 => ?_)
              · refine X.aload (q := 304) at_302 rfl rfl rfl ?_
                refine X.virtual (a := a77) (own_hm l Z a0 hw h79 n0 a77 (9 : Int32) (9 : Int32) hsh79 Sp Se) (hw _ (List.mem_of_getElem? (i := 19) rfl)) (hw _ (List.mem_of_getElem? (i := 20) rfl)) (hw _ (List.mem_of_getElem? (i := 22) rfl)) (hw _ (List.mem_of_getElem? (i := 21) rfl)) (hw _ (List.mem_of_getElem? (i := 3) rfl)) (hw _ (List.mem_of_getElem? (i := 23) rfl)) (by decide) Ba77'h79 own_pd5 (argsL := []) (rest := []) rfl rfl rfl (W := 0) (Nat.le_of_eq rfl) rfl (by decide) (by decide) (k' := 6) (n' := 25) rfl rfl (by decide) (by decide) at_304 (q := 307) rfl ?_
                rintro _ _ ⟨zb, rfl, hzb, rfl⟩
                show X.G h79 6 25 307 #[.val (.int x0), .val (.int x1), .val (.int x2), .val (.int x3), .val (.int x4), .val (.int m), .val (.int (3 : Int32)), .val (.int l2), .val (.ref a68), .val (.int (1 : Int32)), .val (.ref a77), .unset] [(.int zb)]
                refine X.istore (q := 309) (Ls' := #[.val (.int x0), .val (.int x1), .val (.int x2), .val (.int x3), .val (.int x4), .val (.int m), .val (.int (3 : Int32)), .val (.int l2), .val (.ref a68), .val (.int (1 : Int32)), .val (.ref a77), .val (.int zb)]) at_307 rfl rfl ?_
                refine X.aload (q := 311) at_309 rfl rfl rfl ?_
                refine X.virtual (a := a77) (own_en l Z a0 hw h79 n0 a77 a68 (9 : Int32) (9 : Int32) (by decide) hsh79 Ba77'h79 Sb Sp Se) (hw _ (List.mem_of_getElem? (i := 24) rfl)) (hw _ (List.mem_of_getElem? (i := 25) rfl)) (hw _ (List.mem_of_getElem? (i := 27) rfl)) (hw _ (List.mem_of_getElem? (i := 26) rfl)) (hw _ (List.mem_of_getElem? (i := 3) rfl)) (hw _ (List.mem_of_getElem? (i := 28) rfl)) (by decide) Ba77'h79 own_pd9 (argsL := []) (rest := []) rfl rfl rfl (W := 0) (Nat.le_of_eq rfl) rfl (by decide) (by decide) (k' := 6) (n' := 25) rfl rfl (by decide) (by decide) at_311 (q := 314) rfl ?_
                rintro _ _ ⟨rfl, rfl⟩
                show X.G h79 6 25 314 #[.val (.int x0), .val (.int x1), .val (.int x2), .val (.int x3), .val (.int x4), .val (.int m), .val (.int (3 : Int32)), .val (.int l2), .val (.ref a68), .val (.int (1 : Int32)), .val (.ref a77), .val (.int zb)] []
                refine X.iload (q := 316) at_314 rfl rfl ?_
                refine X.if_ne (q' := 331) (q := 319) at_316 rfl (by decide) rfl (fun c316 => ?_) (fun c316 => ?_)
                · omega
                · refine X.aload (q := 321) at_319 rfl rfl rfl ?_
                  refine X.virtual (a := a77) (own_hm l Z a0 hw h79 n0 a77 (9 : Int32) (9 : Int32) hsh79 Sp Se) (hw _ (List.mem_of_getElem? (i := 19) rfl)) (hw _ (List.mem_of_getElem? (i := 20) rfl)) (hw _ (List.mem_of_getElem? (i := 22) rfl)) (hw _ (List.mem_of_getElem? (i := 21) rfl)) (hw _ (List.mem_of_getElem? (i := 3) rfl)) (hw _ (List.mem_of_getElem? (i := 23) rfl)) (by decide) Ba77'h79 own_pd5 (argsL := []) (rest := []) rfl rfl rfl (W := 0) (Nat.le_of_eq rfl) rfl (by decide) (by decide) (k' := 6) (n' := 25) rfl rfl (by decide) (by decide) at_321 (q := 324) rfl ?_
                  rintro _ _ ⟨zc, rfl, hzc, rfl⟩
                  show X.G h79 6 25 324 #[.val (.int x0), .val (.int x1), .val (.int x2), .val (.int x3), .val (.int x4), .val (.int m), .val (.int (3 : Int32)), .val (.int l2), .val (.ref a68), .val (.int (1 : Int32)), .val (.ref a77), .val (.int zb)] [(.int zc)]
                  refine X.if_ne (q' := 331) (q := 327) at_324 rfl (by decide) rfl (fun c324 => ?_) (fun c324 => ?_)
                  · omega
                  · refine X.iconst (q := 328) (1 : Int32) at_327 (by decide) rfl ?_
                    refine X.goto (q' := 332) at_328 (by decide) ?_
                    refine X.retN (t := .boolean) (z' := (1 : Int32)) at_332 rfl (by simp) (by decide) (by decide) (by decide) ?_
                    rfl
              · omega
          · refine X.iconst (q := 214) (5 : Int32) at_213 (by decide) rfl ?_
            refine X.istore (q := 216) (Ls' := #[.val (.int x0), .val (.int x1), .val (.int x2), .val (.int x3), .val (.int x4), .val (.int m), .val (.int (3 : Int32)), .val (.int l2), .val (.ref a68), .unset, .val (.int (5 : Int32)), .unset]) at_214 rfl rfl ?_
            refine X.aload (q := 218) at_216 rfl rfl rfl ?_
            refine X.iconst (q := 219) (2 : Int32) at_218 (by decide) rfl ?_
            refine X.iload (q := 221) at_219 rfl rfl ?_
            refine X.i2b (q := 222) at_221 rfl ?_
            refine X.bastore (q := 223) (j := 2) Ah70_ rfl (by simp) gea68 at_222 rfl (fun h80 Wh80 Ah80 => ?_)
            have hsh80 : n0 ≤ h80.size := by rw [Wr.size Wh80]; exact hsh70
            have Ah80_ : OwA Z h80 a68 .byte [(.int (nar .byte ya.toInt8.toInt32)), (.int (nar .byte (-128 : Int32))), (.int (nar .byte (5 : Int32).toInt8.toInt32)), (.int (0 : Int32)), (.int (0 : Int32)), (.int (0 : Int32)), (.int (0 : Int32)), (.int (0 : Int32)), (.int (0 : Int32))] := Ah80
            refine X.aload (q := 225) at_223 rfl rfl rfl ?_
            refine X.iconst (q := 226) (3 : Int32) at_225 (by decide) rfl ?_
            refine X.iload (q := 228) at_226 rfl rfl ?_
            refine X.i2b (q := 229) at_228 rfl ?_
            refine X.bastore (q := 230) (j := 3) Ah80_ rfl (by simp) gea68 at_229 rfl (fun h81 Wh81 Ah81 => ?_)
            have hsh81 : n0 ≤ h81.size := by rw [Wr.size Wh81]; exact hsh80
            have Ah81_ : OwA Z h81 a68 .byte [(.int (nar .byte ya.toInt8.toInt32)), (.int (nar .byte (-128 : Int32))), (.int (nar .byte (5 : Int32).toInt8.toInt32)), (.int (nar .byte (3 : Int32).toInt8.toInt32)), (.int (0 : Int32)), (.int (0 : Int32)), (.int (0 : Int32)), (.int (0 : Int32)), (.int (0 : Int32))] := Ah81
            refine X.aload (q := 232) at_230 rfl rfl rfl ?_
            refine X.iconst (q := 233) (4 : Int32) at_232 (by decide) rfl ?_
            refine X.iload (q := 235) at_233 rfl rfl ?_
            refine X.iload (q := 237) at_235 rfl rfl ?_
            refine X.callS (own_put3 l Z a0 hw h81 n0 a68 (4 : Int32) x4 4 _ rfl (by simp) (by decide) hsh81 Ah81_ gea68) (hw _ (List.mem_of_getElem? (i := 34) rfl)) (hw _ (List.mem_of_getElem? (i := 35) rfl)) (hw _ (List.mem_of_getElem? (i := 32) rfl)) (hw _ (List.mem_of_getElem? (i := 36) rfl)) (by decide) own_pd7 (argsL := [(.ref a68), (.int (4 : Int32)), (.int (3 : Int32)), (.int x4)]) (rest := []) rfl rfl rfl (W := 0) (Nat.le_of_eq rfl) rfl (by decide) (by decide) (k' := 1) (n' := 9) rfl rfl (by decide) (by decide) at_237 (q := 240) rfl ?_
            rintro _ h82 ⟨u0, u1, u2, rfl, Kh82c, Gu⟩
            have hsh82 : n0 ≤ h82.size := Nat.le_trans hsh81 Kh82c.1
            show X.G h82 1 9 240 #[.val (.int x0), .val (.int x1), .val (.int x2), .val (.int x3), .val (.int x4), .val (.int m), .val (.int (3 : Int32)), .val (.int l2), .val (.ref a68), .unset, .val (.int (5 : Int32)), .unset] []
            have Gu : OwA Z h82 a68 .byte [(.int (nar .byte ya.toInt8.toInt32)), (.int (nar .byte (-128 : Int32))), (.int (nar .byte (5 : Int32).toInt8.toInt32)), (.int (nar .byte (3 : Int32).toInt8.toInt32)), (.int (nar .byte u0.toInt8.toInt32)), (.int (nar .byte u1.toInt8.toInt32)), (.int (nar .byte u2.toInt8.toInt32)), (.int (0 : Int32)), (.int (0 : Int32))] := Gu
            refine X.aload (q := 242) at_240 rfl rfl rfl ?_
            refine X.iconst (q := 243) (4 : Int32) at_242 (by decide) rfl ?_
            refine X.iload (q := 245) at_243 rfl rfl ?_
            refine X.iadd (q := 246) at_245 rfl ?_
            refine X.foldI (v := (7 : Int32)) (by decide) ?_
            refine X.iconst (q := 247) (0 : Int32) at_246 (by decide) rfl ?_
            refine X.bastore (q := 248) (j := 7) Gu rfl (by simp) gea68 at_247 rfl (fun h83 Wh83 Ah83 => ?_)
            have hsh83 : n0 ≤ h83.size := by rw [Wr.size Wh83]; exact hsh82
            have Ah83_ : OwA Z h83 a68 .byte [(.int (nar .byte ya.toInt8.toInt32)), (.int (nar .byte (-128 : Int32))), (.int (nar .byte (5 : Int32).toInt8.toInt32)), (.int (nar .byte (3 : Int32).toInt8.toInt32)), (.int (nar .byte u0.toInt8.toInt32)), (.int (nar .byte u1.toInt8.toInt32)), (.int (nar .byte u2.toInt8.toInt32)), (.int (nar .byte (0 : Int32))), (.int (0 : Int32))] := Ah83
            refine X.aload (q := 250) at_248 rfl rfl rfl ?_
            refine X.iconst (q := 251) (5 : Int32) at_250 (by decide) rfl ?_
            refine X.iload (q := 253) at_251 rfl rfl ?_
            refine X.iadd (q := 254) at_253 rfl ?_
            refine X.foldI (v := (8 : Int32)) (by decide) ?_
            refine X.iconst (q := 255) (0 : Int32) at_254 (by decide) rfl ?_
            refine X.bastore (q := 256) (j := 8) Ah83_ rfl (by simp) gea68 at_255 rfl (fun h84 Wh84 Ah84 => ?_)
            have hsh84 : n0 ≤ h84.size := by rw [Wr.size Wh84]; exact hsh83
            have Ah84_ : OwA Z h84 a68 .byte [(.int (nar .byte ya.toInt8.toInt32)), (.int (nar .byte (-128 : Int32))), (.int (nar .byte (5 : Int32).toInt8.toInt32)), (.int (nar .byte (3 : Int32).toInt8.toInt32)), (.int (nar .byte u0.toInt8.toInt32)), (.int (nar .byte u1.toInt8.toInt32)), (.int (nar .byte u2.toInt8.toInt32)), (.int (nar .byte (0 : Int32))), (.int (nar .byte (0 : Int32)))] := Ah84
            refine X.iconst (q := 257) (1 : Int32) at_256 (by decide) rfl ?_
            refine X.istore (q := 259) (Ls' := #[.val (.int x0), .val (.int x1), .val (.int x2), .val (.int x3), .val (.int x4), .val (.int m), .val (.int (3 : Int32)), .val (.int l2), .val (.ref a68), .val (.int (1 : Int32)), .val (.int (5 : Int32)), .unset]) at_257 rfl rfl ?_
            refine X.newO (q := 262) (k' := 2) (n' := 12) (hw _ (List.mem_of_getElem? (i := 1) rfl)) (hw _ (List.mem_of_getElem? (i := 2) rfl)) (hw _ (List.mem_of_getElem? (i := 3) rfl)) at_259 rfl rfl (by decide) (by decide) rfl (fun h85 a86 ga86 Eh85 Ba86 Da86 => ?_)
            have la68_a86 : a68 < a86 := by have := Ah84_.lt; rw [← ga86] at this; exact this
            have Ah84_'h85 : OwA Z h85 a68 .byte [(.int (nar .byte ya.toInt8.toInt32)), (.int (nar .byte (-128 : Int32))), (.int (nar .byte (5 : Int32).toInt8.toInt32)), (.int (nar .byte (3 : Int32).toInt8.toInt32)), (.int (nar .byte u0.toInt8.toInt32)), (.int (nar .byte u1.toInt8.toInt32)), (.int (nar .byte u2.toInt8.toInt32)), (.int (nar .byte (0 : Int32))), (.int (nar .byte (0 : Int32)))] := OwA.ext (E := Eh85) Ah84_
            have gea86 : n0 ≤ a86 := by rw [ga86]; exact hsh84
            have hsh85 : n0 ≤ h85.size := Nat.le_trans hsh84 Eh85.1
            have Fa86_bytes : Fld Z h85 a86 "com/example/dircred/dircred/credential/DerReader" "bytes" "[B" .null := Da86 (Or.inr (hw _ (List.mem_of_getElem? (i := 14) rfl))) (ty := (.array .byte)) (by decide)
            have Fa86_position : Fld Z h85 a86 "com/example/dircred/dircred/credential/DerReader" "position" "I" (.int (0 : Int32)) := Da86 (Or.inl (hw _ (List.mem_of_getElem? (i := 16) rfl))) (ty := .int) (by decide)
            have Fa86_end : Fld Z h85 a86 "com/example/dircred/dircred/credential/DerReader" "end" "I" (.int (0 : Int32)) := Da86 (Or.inr (hw _ (List.mem_of_getElem? (i := 18) rfl))) (ty := .int) (by decide)
            refine X.dup (q := 263) at_262 rfl rfl ?_
            refine X.aload (q := 265) at_263 rfl rfl rfl ?_
            obtain ⟨L, hL⟩ : ∃ L_ : List Int32, L_ = [(nar .byte ya.toInt8.toInt32), (nar .byte (-128 : Int32)), (nar .byte (5 : Int32).toInt8.toInt32), (nar .byte (3 : Int32).toInt8.toInt32), (nar .byte u0.toInt8.toInt32), (nar .byte u1.toInt8.toInt32), (nar .byte u2.toInt8.toInt32), (nar .byte (0 : Int32)), (nar .byte (0 : Int32))] := ⟨_, rfl⟩
            have AL : OwA Z h85 a68 .byte (L.map Value.int) := by rw [hL]; exact Ah84_'h85
            have nL : L.length = 9 := by rw [hL]; rfl
            have gL0 : (L.getD 0 0).toInt = (ya.toInt + 128) % 256 - 128 := by rw [hL]; exact own_nbt _
            have gL1 : (L.getD 1 0).toInt = -128 := by rw [hL]; rfl
            have gL2 : (L.getD 2 0).toInt = ((5 : Int32).toInt + 128) % 256 - 128 := by rw [hL]; exact own_nbt _
            have gL3 : (L.getD 3 0).toInt = ((3 : Int32).toInt + 128) % 256 - 128 := by rw [hL]; exact own_nbt _
            have gL4 : (L.getD 4 0).toInt = (u0.toInt + 128) % 256 - 128 := by rw [hL]; exact own_nbt _
            have gL5 : (L.getD 5 0).toInt = (u1.toInt + 128) % 256 - 128 := by rw [hL]; exact own_nbt _
            have gL6 : (L.getD 6 0).toInt = (u2.toInt + 128) % 256 - 128 := by rw [hL]; exact own_nbt _
            have gL7 : (L.getD 7 0).toInt = 0 := by rw [hL]; rfl
            have gL8 : (L.getD 8 0).toInt = 0 := by rw [hL]; rfl
            have rL : ∀ x ∈ L, -128 ≤ x.toInt ∧ x.toInt ≤ 127 := by
              intro x hx; rw [hL] at hx
              simp only [List.mem_cons, List.not_mem_nil, or_false] at hx
              rcases hx with rfl | rfl | rfl | rfl | rfl | rfl | rfl | rfl | rfl
              · rw [own_nbt]; omega
              · exact ⟨by decide, by decide⟩
              · rw [own_nbt]; omega
              · rw [own_nbt]; omega
              · rw [own_nbt]; omega
              · rw [own_nbt]; omega
              · rw [own_nbt]; omega
              · exact ⟨by decide, by decide⟩
              · exact ⟨by decide, by decide⟩
            clear hL
            refine X.special (a := a86) (own_i1 l Z a0 hw h85 n0 a86 a68 L (9 : Int32) (by rw [nL]; rfl) hsh85 Ba86 Fa86_bytes Fa86_position Fa86_end AL gea86 (Nat.ne_of_gt la68_a86)) rfl (hw _ (List.mem_of_getElem? (i := 4) rfl)) (hw _ (List.mem_of_getElem? (i := 5) rfl)) (hw _ (List.mem_of_getElem? (i := 3) rfl)) (hw _ (List.mem_of_getElem? (i := 6) rfl)) (by decide) own_pd8 (argsL := [(.ref a68)]) (rest := [(.ref a86)]) rfl rfl rfl (W := 1) (Nat.le_of_eq rfl) rfl (by decide) (by decide) (k' := 2) (n' := 12) rfl rfl (by decide) (by decide) at_265 (q := 268) rfl ?_
            rintro _ h87 ⟨rfl, Kh87c, Db, Dp, De⟩
            have AL'h87 : OwA Z h87 a68 .byte (L.map Value.int) := OwA.keep AL Kh87c (ninS (Nat.ne_of_lt la68_a86) nin0)
            have Ba86'h87 : Exa Z h87 a86 "com/example/dircred/dircred/credential/DerReader" := Exa.keep Ba86 Kh87c
            have hsh87 : n0 ≤ h87.size := Nat.le_trans hsh85 Kh87c.1
            show X.G h87 2 12 268 #[.val (.int x0), .val (.int x1), .val (.int x2), .val (.int x3), .val (.int x4), .val (.int m), .val (.int (3 : Int32)), .val (.int l2), .val (.ref a68), .val (.int (1 : Int32)), .val (.int (5 : Int32)), .unset] [(.ref a86)]
            refine X.astore (q := 270) (Ls' := #[.val (.int x0), .val (.int x1), .val (.int x2), .val (.int x3), .val (.int x4), .val (.int m), .val (.int (3 : Int32)), .val (.int l2), .val (.ref a68), .val (.int (1 : Int32)), .val (.ref a86), .unset]) at_268 rfl rfl rfl ?_
            refine X.iload (q := 272) at_270 rfl rfl ?_
            refine X.iconst (q := 273) (1 : Int32) at_272 (by decide) rfl ?_
            refine X.icmp_lt (a := 1) (b := 1) (q' := 281) (q := 276) at_273 rfl rfl (by decide) rfl (fun c273 => ?_) (fun c273 => ?_)
            · omega
            · refine X.aload (q := 278) at_276 rfl rfl rfl ?_
              have HA : own_hdr L 0 ya 1 2 (2 : Int32) (-1 : Int32) := by have k2_ : (2 : Int32).toInt = 2 := rfl; unfold own_hdr; simp only [nL, Nat.reduceAdd, and_true]; refine ⟨?_, ?_, ?_, ?_, ?_, ?_, ?_, ?_⟩ <;> first | omega | rfl
              have HB : own_hdr L 2 (5 : Int32) 3 4 (4 : Int32) (3 : Int32) := by have k3_ : (3 : Int32).toInt = 3 := rfl; have k4_ : (4 : Int32).toInt = 4 := rfl; have k5_ : (5 : Int32).toInt = 5 := rfl; unfold own_hdr; simp only [nL, Nat.reduceAdd, and_true]; refine ⟨?_, ?_, ?_, ?_, ?_, ?_, ?_, ?_⟩ <;> first | omega | rfl
              have HC : own_hdr L 7 (0 : Int32) 8 9 (9 : Int32) (0 : Int32) := by have k0_ : (0 : Int32).toInt = 0 := rfl; have k9_ : (9 : Int32).toInt = 9 := rfl; unfold own_hdr; simp only [nL, Nat.reduceAdd, and_true]; refine ⟨?_, ?_, ?_, ?_, ?_, ?_, ?_, ?_⟩ <;> first | omega | rfl
              refine X.virtual (a := a86) (own_skip3 l Z a0 hw h87 n0 a86 a68 L 0 (9 : Int32) 0 ya 1 2 2 (-1) rL (by rw [nL]; rfl) (by rw [nL]; decide) rfl HA rfl (5 : Int32) 3 4 4 (3 : Int32) HB (by first | omega | decide) (by decide) (7 : Int32) 7 rfl (by decide) 0 8 9 (9 : Int32) 0 HC rfl hsh87 Ba86'h87 Db Dp De AL'h87 gea86 (Nat.ne_of_gt la68_a86)) (hw _ (List.mem_of_getElem? (i := 37) rfl)) (hw _ (List.mem_of_getElem? (i := 38) rfl)) (hw _ (List.mem_of_getElem? (i := 40) rfl)) (hw _ (List.mem_of_getElem? (i := 39) rfl)) (hw _ (List.mem_of_getElem? (i := 3) rfl)) (hw _ (List.mem_of_getElem? (i := 41) rfl)) (by decide) Ba86'h87 own_pd9 (argsL := []) (rest := []) rfl rfl rfl (W := 0) (Nat.le_of_eq rfl) rfl (by decide) (by decide) (k' := 6) (n' := 25) rfl rfl (by decide) (by decide) at_278 (q := 281) rfl ?_
              rintro _ h88 ⟨rfl, Kh88c, Sb, Sp, Se⟩
              have AL'h88 : OwA Z h88 a68 .byte (L.map Value.int) := OwA.keep AL'h87 Kh88c (ninS (Nat.ne_of_lt la68_a86) nin0)
              have Ba86'h88 : Exa Z h88 a86 "com/example/dircred/dircred/credential/DerReader" := Exa.keep Ba86'h87 Kh88c
              have hsh88 : n0 ≤ h88.size := Nat.le_trans hsh87 Kh88c.1
              show X.G h88 6 25 281 #[.val (.int x0), .val (.int x1), .val (.int x2), .val (.int x3), .val (.int x4), .val (.int m), .val (.int (3 : Int32)), .val (.int l2), .val (.ref a68), .val (.int (1 : Int32)), .val (.ref a86), .unset] []
              refine X.iload (q := 283) at_281 rfl rfl ?_
              refine X.iconst (q := 284) (2 : Int32) at_283 (by decide) rfl ?_
              refine X.icmp_ne (a := 1) (b := 2) (q' := 302) (q := 287) at_284 rfl rfl (by decide) rfl (fun c284 => ?_) (fun c284 => ?_)
              · refine X.aload (q := 304) at_302 rfl rfl rfl ?_
                refine X.virtual (a := a86) (own_hm l Z a0 hw h88 n0 a86 (9 : Int32) (9 : Int32) hsh88 Sp Se) (hw _ (List.mem_of_getElem? (i := 19) rfl)) (hw _ (List.mem_of_getElem? (i := 20) rfl)) (hw _ (List.mem_of_getElem? (i := 22) rfl)) (hw _ (List.mem_of_getElem? (i := 21) rfl)) (hw _ (List.mem_of_getElem? (i := 3) rfl)) (hw _ (List.mem_of_getElem? (i := 23) rfl)) (by decide) Ba86'h88 own_pd5 (argsL := []) (rest := []) rfl rfl rfl (W := 0) (Nat.le_of_eq rfl) rfl (by decide) (by decide) (k' := 6) (n' := 25) rfl rfl (by decide) (by decide) at_304 (q := 307) rfl ?_
                rintro _ _ ⟨zb, rfl, hzb, rfl⟩
                show X.G h88 6 25 307 #[.val (.int x0), .val (.int x1), .val (.int x2), .val (.int x3), .val (.int x4), .val (.int m), .val (.int (3 : Int32)), .val (.int l2), .val (.ref a68), .val (.int (1 : Int32)), .val (.ref a86), .unset] [(.int zb)]
                refine X.istore (q := 309) (Ls' := #[.val (.int x0), .val (.int x1), .val (.int x2), .val (.int x3), .val (.int x4), .val (.int m), .val (.int (3 : Int32)), .val (.int l2), .val (.ref a68), .val (.int (1 : Int32)), .val (.ref a86), .val (.int zb)]) at_307 rfl rfl ?_
                refine X.aload (q := 311) at_309 rfl rfl rfl ?_
                refine X.virtual (a := a86) (own_en l Z a0 hw h88 n0 a86 a68 (9 : Int32) (9 : Int32) (by decide) hsh88 Ba86'h88 Sb Sp Se) (hw _ (List.mem_of_getElem? (i := 24) rfl)) (hw _ (List.mem_of_getElem? (i := 25) rfl)) (hw _ (List.mem_of_getElem? (i := 27) rfl)) (hw _ (List.mem_of_getElem? (i := 26) rfl)) (hw _ (List.mem_of_getElem? (i := 3) rfl)) (hw _ (List.mem_of_getElem? (i := 28) rfl)) (by decide) Ba86'h88 own_pd9 (argsL := []) (rest := []) rfl rfl rfl (W := 0) (Nat.le_of_eq rfl) rfl (by decide) (by decide) (k' := 6) (n' := 25) rfl rfl (by decide) (by decide) at_311 (q := 314) rfl ?_
                rintro _ _ ⟨rfl, rfl⟩
                show X.G h88 6 25 314 #[.val (.int x0), .val (.int x1), .val (.int x2), .val (.int x3), .val (.int x4), .val (.int m), .val (.int (3 : Int32)), .val (.int l2), .val (.ref a68), .val (.int (1 : Int32)), .val (.ref a86), .val (.int zb)] []
                refine X.iload (q := 316) at_314 rfl rfl ?_
                refine X.if_ne (q' := 331) (q := 319) at_316 rfl (by decide) rfl (fun c316 => ?_) (fun c316 => ?_)
                · omega
                · refine X.aload (q := 321) at_319 rfl rfl rfl ?_
                  refine X.virtual (a := a86) (own_hm l Z a0 hw h88 n0 a86 (9 : Int32) (9 : Int32) hsh88 Sp Se) (hw _ (List.mem_of_getElem? (i := 19) rfl)) (hw _ (List.mem_of_getElem? (i := 20) rfl)) (hw _ (List.mem_of_getElem? (i := 22) rfl)) (hw _ (List.mem_of_getElem? (i := 21) rfl)) (hw _ (List.mem_of_getElem? (i := 3) rfl)) (hw _ (List.mem_of_getElem? (i := 23) rfl)) (by decide) Ba86'h88 own_pd5 (argsL := []) (rest := []) rfl rfl rfl (W := 0) (Nat.le_of_eq rfl) rfl (by decide) (by decide) (k' := 6) (n' := 25) rfl rfl (by decide) (by decide) at_321 (q := 324) rfl ?_
                  rintro _ _ ⟨zc, rfl, hzc, rfl⟩
                  show X.G h88 6 25 324 #[.val (.int x0), .val (.int x1), .val (.int x2), .val (.int x3), .val (.int x4), .val (.int m), .val (.int (3 : Int32)), .val (.int l2), .val (.ref a68), .val (.int (1 : Int32)), .val (.ref a86), .val (.int zb)] [(.int zc)]
                  refine X.if_ne (q' := 331) (q := 327) at_324 rfl (by decide) rfl (fun c324 => ?_) (fun c324 => ?_)
                  · omega
                  · refine X.iconst (q := 328) (1 : Int32) at_327 (by decide) rfl ?_
                    refine X.goto (q' := 332) at_328 (by decide) ?_
                    refine X.retN (t := .boolean) (z' := (1 : Int32)) at_332 rfl (by simp) (by decide) (by decide) (by decide) ?_
                    rfl
              · omega
      · have hsp : l1 = (0 : Int32) ∨ l1 = (1 : Int32) ∨ l1 = (2 : Int32) ∨ l1 = (3 : Int32) := (by have q_ : l1.toInt = 0 ∨ l1.toInt = 1 ∨ l1.toInt = 2 ∨ l1.toInt = 3 := (by omega); exact (Or.imp (fun e_ => Int32.toInt_inj.mp e_) (Or.imp (fun e_ => Int32.toInt_inj.mp e_) (Or.imp (fun e_ => Int32.toInt_inj.mp e_) (fun e_ => Int32.toInt_inj.mp e_)))) q_)
        rcases hsp with rfl | rfl | rfl | rfl
        · refine X.iconst (q := 88) (4 : Int32) at_87 (by decide) rfl ?_
          have hsp : l2 = (0 : Int32) ∨ l2 = (1 : Int32) ∨ l2 = (2 : Int32) ∨ l2 = (3 : Int32) := (by have q_ : l2.toInt = 0 ∨ l2.toInt = 1 ∨ l2.toInt = 2 ∨ l2.toInt = 3 := (by omega); exact (Or.imp (fun e_ => Int32.toInt_inj.mp e_) (Or.imp (fun e_ => Int32.toInt_inj.mp e_) (Or.imp (fun e_ => Int32.toInt_inj.mp e_) (fun e_ => Int32.toInt_inj.mp e_)))) q_)
          rcases hsp with rfl | rfl | rfl | rfl
          · refine X.iload (q := 90) at_88 rfl rfl ?_
            refine X.iadd (q := 91) at_90 rfl ?_
            refine X.foldI (v := (4 : Int32)) (by decide) ?_
            refine X.iload (q := 93) at_91 rfl rfl ?_
            refine X.iadd (q := 94) at_93 rfl ?_
            refine X.foldI (v := (4 : Int32)) (by decide) ?_
            refine X.newP (q := 96) (ty := .byte) (N := 4) (cap := 4) (k' := 1) (n' := 4) (hw _ (List.mem_of_getElem? (i := 0) rfl)) at_94 rfl rfl (Nat.le_refl _) (by decide) rfl rfl (by decide) (by decide) rfl (fun h89 a90 ga90 Eh89 Aa90 => ?_)
            have gea90 : n0 ≤ a90 := by rw [ga90]; exact hn0
            have hsh89 : n0 ≤ h89.size := Nat.le_trans hn0 Eh89.1
            have Aa90 : OwA Z h89 a90 .byte [(.int (0 : Int32)), (.int (0 : Int32)), (.int (0 : Int32)), (.int (0 : Int32))] := Aa90
            refine X.astore (q := 98) (Ls' := #[.val (.int x0), .val (.int x1), .val (.int x2), .val (.int x3), .val (.int x4), .val (.int m), .val (.int (0 : Int32)), .val (.int (0 : Int32)), .val (.ref a90), .unset, .unset, .unset]) at_96 rfl rfl rfl ?_
            refine X.aload (q := 100) at_98 rfl rfl rfl ?_
            refine X.iconst (q := 101) (0 : Int32) at_100 (by decide) rfl ?_
            refine X.iloadN (q := 102) at_101 rfl rfl ?_
            refine X.iload (q := 104) at_102 rfl rfl ?_
            refine X.callS (own_tag l Z a0 hw h89 n0 x1 (0 : Int32)) (hw _ (List.mem_of_getElem? (i := 30) rfl)) (hw _ (List.mem_of_getElem? (i := 31) rfl)) (hw _ (List.mem_of_getElem? (i := 32) rfl)) (hw _ (List.mem_of_getElem? (i := 33) rfl)) (by decide) own_pd6 (argsL := [(.int x1), (.int (0 : Int32))]) (rest := [(.int (0 : Int32)), (.ref a90)]) rfl rfl rfl (W := 2) (Nat.le_of_eq rfl) rfl (by decide) (by decide) (k' := 1) (n' := 4) rfl rfl (by decide) (by decide) at_104 (q := 107) rfl ?_
            rintro _ _ ⟨ta, rfl, hta, rfl⟩
            show X.G h89 1 4 107 #[.val (.int x0), .val (.int x1), .val (.int x2), .val (.int x3), .val (.int x4), .val (.int m), .val (.int (0 : Int32)), .val (.int (0 : Int32)), .val (.ref a90), .unset, .unset, .unset] [(.int ta), (.int (0 : Int32)), (.ref a90)]
            refine X.i2b (q := 108) at_107 rfl ?_
            refine X.bastore (q := 109) (j := 0) Aa90 rfl (by simp) gea90 at_108 rfl (fun h91 Wh91 Ah91 => ?_)
            have hsh91 : n0 ≤ h91.size := by rw [Wr.size Wh91]; exact hsh89
            have Ah91_ : OwA Z h91 a90 .byte [(.int (nar .byte ta.toInt8.toInt32)), (.int (0 : Int32)), (.int (0 : Int32)), (.int (0 : Int32))] := Ah91
            refine X.aload (q := 111) at_109 rfl rfl rfl ?_
            refine X.iconst (q := 112) (1 : Int32) at_111 (by decide) rfl ?_
            refine X.iload (q := 114) at_112 rfl rfl ?_
            refine X.i2b (q := 115) at_114 rfl ?_
            refine X.bastore (q := 116) (j := 1) Ah91_ rfl (by simp) gea90 at_115 rfl (fun h92 Wh92 Ah92 => ?_)
            have hsh92 : n0 ≤ h92.size := by rw [Wr.size Wh92]; exact hsh91
            have Ah92_ : OwA Z h92 a90 .byte [(.int (nar .byte ta.toInt8.toInt32)), (.int (nar .byte (0 : Int32).toInt8.toInt32)), (.int (0 : Int32)), (.int (0 : Int32))] := Ah92
            refine X.aload (q := 118) at_116 rfl rfl rfl ?_
            refine X.iconst (q := 119) (2 : Int32) at_118 (by decide) rfl ?_
            refine X.iload (q := 121) at_119 rfl rfl ?_
            refine X.iload (q := 123) at_121 rfl rfl ?_
            refine X.callS (own_put0 l Z a0 hw h92 n0 a90 (2 : Int32) x4 2 _ rfl (by simp) (by decide) hsh92 Ah92_ gea90) (hw _ (List.mem_of_getElem? (i := 34) rfl)) (hw _ (List.mem_of_getElem? (i := 35) rfl)) (hw _ (List.mem_of_getElem? (i := 32) rfl)) (hw _ (List.mem_of_getElem? (i := 36) rfl)) (by decide) own_pd7 (argsL := [(.ref a90), (.int (2 : Int32)), (.int (0 : Int32)), (.int x4)]) (rest := []) rfl rfl rfl (W := 0) (Nat.le_of_eq rfl) rfl (by decide) (by decide) (k' := 1) (n' := 4) rfl rfl (by decide) (by decide) at_123 (q := 126) rfl ?_
            rintro _ h93 ⟨rfl, Kh93c, Gu⟩
            have hsh93 : n0 ≤ h93.size := Nat.le_trans hsh92 Kh93c.1
            show X.G h93 1 4 126 #[.val (.int x0), .val (.int x1), .val (.int x2), .val (.int x3), .val (.int x4), .val (.int m), .val (.int (0 : Int32)), .val (.int (0 : Int32)), .val (.ref a90), .unset, .unset, .unset] []
            have Gu : OwA Z h93 a90 .byte [(.int (nar .byte ta.toInt8.toInt32)), (.int (nar .byte (0 : Int32).toInt8.toInt32)), (.int (0 : Int32)), (.int (0 : Int32))] := Gu
            refine X.aload (q := 128) at_126 rfl rfl rfl ?_
            refine X.iconst (q := 129) (2 : Int32) at_128 (by decide) rfl ?_
            refine X.iload (q := 131) at_129 rfl rfl ?_
            refine X.iadd (q := 132) at_131 rfl ?_
            refine X.foldI (v := (2 : Int32)) (by decide) ?_
            refine X.iloadN (q := 133) at_132 rfl rfl ?_
            refine X.iload (q := 135) at_133 rfl rfl ?_
            refine X.callS (own_tag l Z a0 hw h93 n0 x2 (0 : Int32)) (hw _ (List.mem_of_getElem? (i := 30) rfl)) (hw _ (List.mem_of_getElem? (i := 31) rfl)) (hw _ (List.mem_of_getElem? (i := 32) rfl)) (hw _ (List.mem_of_getElem? (i := 33) rfl)) (by decide) own_pd6 (argsL := [(.int x2), (.int (0 : Int32))]) (rest := [(.int (2 : Int32)), (.ref a90)]) rfl rfl rfl (W := 2) (Nat.le_of_eq rfl) rfl (by decide) (by decide) (k' := 1) (n' := 4) rfl rfl (by decide) (by decide) at_135 (q := 138) rfl ?_
            rintro _ _ ⟨tb, rfl, htb, rfl⟩
            show X.G h93 1 4 138 #[.val (.int x0), .val (.int x1), .val (.int x2), .val (.int x3), .val (.int x4), .val (.int m), .val (.int (0 : Int32)), .val (.int (0 : Int32)), .val (.ref a90), .unset, .unset, .unset] [(.int tb), (.int (2 : Int32)), (.ref a90)]
            refine X.i2b (q := 139) at_138 rfl ?_
            refine X.bastore (q := 140) (j := 2) Gu rfl (by simp) gea90 at_139 rfl (fun h94 Wh94 Ah94 => ?_)
            have hsh94 : n0 ≤ h94.size := by rw [Wr.size Wh94]; exact hsh93
            have Ah94_ : OwA Z h94 a90 .byte [(.int (nar .byte ta.toInt8.toInt32)), (.int (nar .byte (0 : Int32).toInt8.toInt32)), (.int (nar .byte tb.toInt8.toInt32)), (.int (0 : Int32))] := Ah94
            refine X.aload (q := 142) at_140 rfl rfl rfl ?_
            refine X.iconst (q := 143) (3 : Int32) at_142 (by decide) rfl ?_
            refine X.iload (q := 145) at_143 rfl rfl ?_
            refine X.iadd (q := 146) at_145 rfl ?_
            refine X.foldI (v := (3 : Int32)) (by decide) ?_
            refine X.iload (q := 148) at_146 rfl rfl ?_
            refine X.i2b (q := 149) at_148 rfl ?_
            refine X.bastore (q := 150) (j := 3) Ah94_ rfl (by simp) gea90 at_149 rfl (fun h95 Wh95 Ah95 => ?_)
            have hsh95 : n0 ≤ h95.size := by rw [Wr.size Wh95]; exact hsh94
            have Ah95_ : OwA Z h95 a90 .byte [(.int (nar .byte ta.toInt8.toInt32)), (.int (nar .byte (0 : Int32).toInt8.toInt32)), (.int (nar .byte tb.toInt8.toInt32)), (.int (nar .byte (0 : Int32).toInt8.toInt32))] := Ah95
            refine X.aload (q := 152) at_150 rfl rfl rfl ?_
            refine X.iconst (q := 153) (4 : Int32) at_152 (by decide) rfl ?_
            refine X.iload (q := 155) at_153 rfl rfl ?_
            refine X.iadd (q := 156) at_155 rfl ?_
            refine X.foldI (v := (4 : Int32)) (by decide) ?_
            refine X.iload (q := 158) at_156 rfl rfl ?_
            refine X.iload (q := 160) at_158 rfl rfl ?_
            refine X.bipush (q := 162) (8 : Int32) at_160 (by decide) rfl ?_
            refine X.iushr (q := 163) at_162 rfl ?_
            refine X.callS (own_put0 l Z a0 hw h95 n0 a90 (4 : Int32) (XT.ushr x4 (8 : Int32)) 4 _ rfl (by simp) (by decide) hsh95 Ah95_ gea90) (hw _ (List.mem_of_getElem? (i := 34) rfl)) (hw _ (List.mem_of_getElem? (i := 35) rfl)) (hw _ (List.mem_of_getElem? (i := 32) rfl)) (hw _ (List.mem_of_getElem? (i := 36) rfl)) (by decide) own_pd7 (argsL := [(.ref a90), (.int (4 : Int32)), (.int (0 : Int32)), (.int (XT.ushr x4 (8 : Int32)))]) (rest := []) rfl rfl rfl (W := 0) (Nat.le_of_eq rfl) rfl (by decide) (by decide) (k' := 1) (n' := 4) rfl rfl (by decide) (by decide) at_163 (q := 166) rfl ?_
            rintro _ h96 ⟨rfl, Kh96c, Gv⟩
            have hsh96 : n0 ≤ h96.size := Nat.le_trans hsh95 Kh96c.1
            show X.G h96 1 4 166 #[.val (.int x0), .val (.int x1), .val (.int x2), .val (.int x3), .val (.int x4), .val (.int m), .val (.int (0 : Int32)), .val (.int (0 : Int32)), .val (.ref a90), .unset, .unset, .unset] []
            have Gv : OwA Z h96 a90 .byte [(.int (nar .byte ta.toInt8.toInt32)), (.int (nar .byte (0 : Int32).toInt8.toInt32)), (.int (nar .byte tb.toInt8.toInt32)), (.int (nar .byte (0 : Int32).toInt8.toInt32))] := Gv
            refine X.iconst (q := 167) (2 : Int32) at_166 (by decide) rfl ?_
            refine X.istore (q := 169) (Ls' := #[.val (.int x0), .val (.int x1), .val (.int x2), .val (.int x3), .val (.int x4), .val (.int m), .val (.int (0 : Int32)), .val (.int (0 : Int32)), .val (.ref a90), .val (.int (2 : Int32)), .unset, .unset]) at_167 rfl rfl ?_
            refine X.goto (q' := 259) at_169 (by decide) ?_
            refine X.newO (q := 262) (k' := 2) (n' := 7) (hw _ (List.mem_of_getElem? (i := 1) rfl)) (hw _ (List.mem_of_getElem? (i := 2) rfl)) (hw _ (List.mem_of_getElem? (i := 3) rfl)) at_259 rfl rfl (by decide) (by decide) rfl (fun h97 a98 ga98 Eh97 Ba98 Da98 => ?_)
            have la90_a98 : a90 < a98 := by have := Gv.lt; rw [← ga98] at this; exact this
            have Gv'h97 : OwA Z h97 a90 .byte [(.int (nar .byte ta.toInt8.toInt32)), (.int (nar .byte (0 : Int32).toInt8.toInt32)), (.int (nar .byte tb.toInt8.toInt32)), (.int (nar .byte (0 : Int32).toInt8.toInt32))] := OwA.ext (E := Eh97) Gv
            have gea98 : n0 ≤ a98 := by rw [ga98]; exact hsh96
            have hsh97 : n0 ≤ h97.size := Nat.le_trans hsh96 Eh97.1
            have Fa98_bytes : Fld Z h97 a98 "com/example/dircred/dircred/credential/DerReader" "bytes" "[B" .null := Da98 (Or.inr (hw _ (List.mem_of_getElem? (i := 14) rfl))) (ty := (.array .byte)) (by decide)
            have Fa98_position : Fld Z h97 a98 "com/example/dircred/dircred/credential/DerReader" "position" "I" (.int (0 : Int32)) := Da98 (Or.inl (hw _ (List.mem_of_getElem? (i := 16) rfl))) (ty := .int) (by decide)
            have Fa98_end : Fld Z h97 a98 "com/example/dircred/dircred/credential/DerReader" "end" "I" (.int (0 : Int32)) := Da98 (Or.inr (hw _ (List.mem_of_getElem? (i := 18) rfl))) (ty := .int) (by decide)
            refine X.dup (q := 263) at_262 rfl rfl ?_
            refine X.aload (q := 265) at_263 rfl rfl rfl ?_
            obtain ⟨L, hL⟩ : ∃ L_ : List Int32, L_ = [(nar .byte ta.toInt8.toInt32), (nar .byte (0 : Int32).toInt8.toInt32), (nar .byte tb.toInt8.toInt32), (nar .byte (0 : Int32).toInt8.toInt32)] := ⟨_, rfl⟩
            have AL : OwA Z h97 a90 .byte (L.map Value.int) := by rw [hL]; exact Gv'h97
            have nL : L.length = 4 := by rw [hL]; rfl
            have gL0 : (L.getD 0 0).toInt = (ta.toInt + 128) % 256 - 128 := by rw [hL]; exact own_nbt _
            have gL1 : (L.getD 1 0).toInt = ((0 : Int32).toInt + 128) % 256 - 128 := by rw [hL]; exact own_nbt _
            have gL2 : (L.getD 2 0).toInt = (tb.toInt + 128) % 256 - 128 := by rw [hL]; exact own_nbt _
            have gL3 : (L.getD 3 0).toInt = ((0 : Int32).toInt + 128) % 256 - 128 := by rw [hL]; exact own_nbt _
            have rL : ∀ x ∈ L, -128 ≤ x.toInt ∧ x.toInt ≤ 127 := by
              intro x hx; rw [hL] at hx
              simp only [List.mem_cons, List.not_mem_nil, or_false] at hx
              rcases hx with rfl | rfl | rfl | rfl
              · rw [own_nbt]; omega
              · rw [own_nbt]; omega
              · rw [own_nbt]; omega
              · rw [own_nbt]; omega
            clear hL
            refine X.special (a := a98) (own_i1 l Z a0 hw h97 n0 a98 a90 L (4 : Int32) (by rw [nL]; rfl) hsh97 Ba98 Fa98_bytes Fa98_position Fa98_end AL gea98 (Nat.ne_of_gt la90_a98)) rfl (hw _ (List.mem_of_getElem? (i := 4) rfl)) (hw _ (List.mem_of_getElem? (i := 5) rfl)) (hw _ (List.mem_of_getElem? (i := 3) rfl)) (hw _ (List.mem_of_getElem? (i := 6) rfl)) (by decide) own_pd8 (argsL := [(.ref a90)]) (rest := [(.ref a98)]) rfl rfl rfl (W := 1) (Nat.le_of_eq rfl) rfl (by decide) (by decide) (k' := 2) (n' := 7) rfl rfl (by decide) (by decide) at_265 (q := 268) rfl ?_
            rintro _ h99 ⟨rfl, Kh99c, Db, Dp, De⟩
            have AL'h99 : OwA Z h99 a90 .byte (L.map Value.int) := OwA.keep AL Kh99c (ninS (Nat.ne_of_lt la90_a98) nin0)
            have Ba98'h99 : Exa Z h99 a98 "com/example/dircred/dircred/credential/DerReader" := Exa.keep Ba98 Kh99c
            have hsh99 : n0 ≤ h99.size := Nat.le_trans hsh97 Kh99c.1
            show X.G h99 2 7 268 #[.val (.int x0), .val (.int x1), .val (.int x2), .val (.int x3), .val (.int x4), .val (.int m), .val (.int (0 : Int32)), .val (.int (0 : Int32)), .val (.ref a90), .val (.int (2 : Int32)), .unset, .unset] [(.ref a98)]
            refine X.astore (q := 270) (Ls' := #[.val (.int x0), .val (.int x1), .val (.int x2), .val (.int x3), .val (.int x4), .val (.int m), .val (.int (0 : Int32)), .val (.int (0 : Int32)), .val (.ref a90), .val (.int (2 : Int32)), .val (.ref a98), .unset]) at_268 rfl rfl rfl ?_
            refine X.iload (q := 272) at_270 rfl rfl ?_
            refine X.iconst (q := 273) (1 : Int32) at_272 (by decide) rfl ?_
            refine X.icmp_lt (a := 2) (b := 1) (q' := 281) (q := 276) at_273 rfl rfl (by decide) rfl (fun c273 => ?_) (fun c273 => ?_)
            · omega
            · refine X.aload (q := 278) at_276 rfl rfl rfl ?_
              have H1 : own_hdr L 0 ta 1 2 (2 : Int32) (0 : Int32) := by have k0_ : (0 : Int32).toInt = 0 := rfl; have k2_ : (2 : Int32).toInt = 2 := rfl; unfold own_hdr; simp only [nL, Nat.reduceAdd, and_true]; refine ⟨?_, ?_, ?_, ?_, ?_, ?_, ?_, ?_⟩ <;> first | omega | rfl
              refine X.virtual (a := a98) (own_skip l Z a0 hw h99 n0 a98 a90 L (0 : Int32) (4 : Int32) 0 ta 1 2 (2 : Int32) (0 : Int32) rL (by rw [nL]; rfl) (by rw [nL]; decide) rfl H1 (2 : Int32) rfl (by decide) hsh99 Ba98'h99 Db Dp De AL'h99 gea98 (Nat.ne_of_gt la90_a98)) (hw _ (List.mem_of_getElem? (i := 37) rfl)) (hw _ (List.mem_of_getElem? (i := 38) rfl)) (hw _ (List.mem_of_getElem? (i := 40) rfl)) (hw _ (List.mem_of_getElem? (i := 39) rfl)) (hw _ (List.mem_of_getElem? (i := 3) rfl)) (hw _ (List.mem_of_getElem? (i := 41) rfl)) (by decide) Ba98'h99 own_pd9 (argsL := []) (rest := []) rfl rfl rfl (W := 0) (Nat.le_of_eq rfl) rfl (by decide) (by decide) (k' := 4) (n' := 14) rfl rfl (by decide) (by decide) at_278 (q := 281) rfl ?_
              rintro _ h100 ⟨rfl, Kh100c, S1b, S1p, S1e⟩
              have AL'h100 : OwA Z h100 a90 .byte (L.map Value.int) := OwA.keep AL'h99 Kh100c (ninS (Nat.ne_of_lt la90_a98) nin0)
              have Ba98'h100 : Exa Z h100 a98 "com/example/dircred/dircred/credential/DerReader" := Exa.keep Ba98'h99 Kh100c
              have hsh100 : n0 ≤ h100.size := Nat.le_trans hsh99 Kh100c.1
              show X.G h100 4 14 281 #[.val (.int x0), .val (.int x1), .val (.int x2), .val (.int x3), .val (.int x4), .val (.int m), .val (.int (0 : Int32)), .val (.int (0 : Int32)), .val (.ref a90), .val (.int (2 : Int32)), .val (.ref a98), .unset] []
              refine X.iload (q := 283) at_281 rfl rfl ?_
              refine X.iconst (q := 284) (2 : Int32) at_283 (by decide) rfl ?_
              refine X.icmp_ne (a := 2) (b := 2) (q' := 302) (q := 287) at_284 rfl rfl (by decide) rfl (fun c284 => ?_) (fun c284 => ?_)
              · omega
              · refine X.aload (q := 289) at_287 rfl rfl rfl ?_
                refine X.virtual (a := a98) (own_hm l Z a0 hw h100 n0 a98 (2 : Int32) (4 : Int32) hsh100 S1p S1e) (hw _ (List.mem_of_getElem? (i := 19) rfl)) (hw _ (List.mem_of_getElem? (i := 20) rfl)) (hw _ (List.mem_of_getElem? (i := 22) rfl)) (hw _ (List.mem_of_getElem? (i := 21) rfl)) (hw _ (List.mem_of_getElem? (i := 3) rfl)) (hw _ (List.mem_of_getElem? (i := 23) rfl)) (by decide) Ba98'h100 own_pd5 (argsL := []) (rest := []) rfl rfl rfl (W := 0) (Nat.le_of_eq rfl) rfl (by decide) (by decide) (k' := 4) (n' := 14) rfl rfl (by decide) (by decide) at_289 (q := 292) rfl ?_
                rintro _ _ ⟨zm, rfl, hzm, rfl⟩
                show X.G h100 4 14 292 #[.val (.int x0), .val (.int x1), .val (.int x2), .val (.int x3), .val (.int x4), .val (.int m), .val (.int (0 : Int32)), .val (.int (0 : Int32)), .val (.ref a90), .val (.int (2 : Int32)), .val (.ref a98), .unset] [(.int zm)]
                refine X.if_ne (q' := 297) (q := 295) at_292 rfl (by decide) rfl (fun c292 => ?_) (fun c292 => ?_)
                · refine X.aload (q := 299) at_297 rfl rfl rfl ?_
                  have H2 : own_hdr L 2 tb 3 4 (4 : Int32) (0 : Int32) := by have k0_ : (0 : Int32).toInt = 0 := rfl; have k4_ : (4 : Int32).toInt = 4 := rfl; unfold own_hdr; simp only [nL, Nat.reduceAdd, and_true]; refine ⟨?_, ?_, ?_, ?_, ?_, ?_, ?_, ?_⟩ <;> first | omega | rfl
                  refine X.virtual (a := a98) (own_skip l Z a0 hw h100 n0 a98 a90 L (2 : Int32) (4 : Int32) 2 tb 3 4 (4 : Int32) (0 : Int32) rL (by rw [nL]; rfl) (by rw [nL]; decide) rfl H2 (4 : Int32) rfl (by decide) hsh100 Ba98'h100 S1b S1p S1e AL'h100 gea98 (Nat.ne_of_gt la90_a98)) (hw _ (List.mem_of_getElem? (i := 37) rfl)) (hw _ (List.mem_of_getElem? (i := 38) rfl)) (hw _ (List.mem_of_getElem? (i := 40) rfl)) (hw _ (List.mem_of_getElem? (i := 39) rfl)) (hw _ (List.mem_of_getElem? (i := 3) rfl)) (hw _ (List.mem_of_getElem? (i := 41) rfl)) (by decide) Ba98'h100 own_pd9 (argsL := []) (rest := []) rfl rfl rfl (W := 0) (Nat.le_of_eq rfl) rfl (by decide) (by decide) (k' := 6) (n' := 21) rfl rfl (by decide) (by decide) at_299 (q := 302) rfl ?_
                  rintro _ h101 ⟨rfl, Kh101c, S2b, S2p, S2e⟩
                  have AL'h101 : OwA Z h101 a90 .byte (L.map Value.int) := OwA.keep AL'h100 Kh101c (ninS (Nat.ne_of_lt la90_a98) nin0)
                  have Ba98'h101 : Exa Z h101 a98 "com/example/dircred/dircred/credential/DerReader" := Exa.keep Ba98'h100 Kh101c
                  have hsh101 : n0 ≤ h101.size := Nat.le_trans hsh100 Kh101c.1
                  show X.G h101 6 21 302 #[.val (.int x0), .val (.int x1), .val (.int x2), .val (.int x3), .val (.int x4), .val (.int m), .val (.int (0 : Int32)), .val (.int (0 : Int32)), .val (.ref a90), .val (.int (2 : Int32)), .val (.ref a98), .unset] []
                  refine X.aload (q := 304) at_302 rfl rfl rfl ?_
                  refine X.virtual (a := a98) (own_hm l Z a0 hw h101 n0 a98 (4 : Int32) (4 : Int32) hsh101 S2p S2e) (hw _ (List.mem_of_getElem? (i := 19) rfl)) (hw _ (List.mem_of_getElem? (i := 20) rfl)) (hw _ (List.mem_of_getElem? (i := 22) rfl)) (hw _ (List.mem_of_getElem? (i := 21) rfl)) (hw _ (List.mem_of_getElem? (i := 3) rfl)) (hw _ (List.mem_of_getElem? (i := 23) rfl)) (by decide) Ba98'h101 own_pd5 (argsL := []) (rest := []) rfl rfl rfl (W := 0) (Nat.le_of_eq rfl) rfl (by decide) (by decide) (k' := 6) (n' := 21) rfl rfl (by decide) (by decide) at_304 (q := 307) rfl ?_
                  rintro _ _ ⟨zb, rfl, hzb, rfl⟩
                  show X.G h101 6 21 307 #[.val (.int x0), .val (.int x1), .val (.int x2), .val (.int x3), .val (.int x4), .val (.int m), .val (.int (0 : Int32)), .val (.int (0 : Int32)), .val (.ref a90), .val (.int (2 : Int32)), .val (.ref a98), .unset] [(.int zb)]
                  refine X.istore (q := 309) (Ls' := #[.val (.int x0), .val (.int x1), .val (.int x2), .val (.int x3), .val (.int x4), .val (.int m), .val (.int (0 : Int32)), .val (.int (0 : Int32)), .val (.ref a90), .val (.int (2 : Int32)), .val (.ref a98), .val (.int zb)]) at_307 rfl rfl ?_
                  refine X.aload (q := 311) at_309 rfl rfl rfl ?_
                  refine X.virtual (a := a98) (own_en l Z a0 hw h101 n0 a98 a90 (4 : Int32) (4 : Int32) (by decide) hsh101 Ba98'h101 S2b S2p S2e) (hw _ (List.mem_of_getElem? (i := 24) rfl)) (hw _ (List.mem_of_getElem? (i := 25) rfl)) (hw _ (List.mem_of_getElem? (i := 27) rfl)) (hw _ (List.mem_of_getElem? (i := 26) rfl)) (hw _ (List.mem_of_getElem? (i := 3) rfl)) (hw _ (List.mem_of_getElem? (i := 28) rfl)) (by decide) Ba98'h101 own_pd9 (argsL := []) (rest := []) rfl rfl rfl (W := 0) (Nat.le_of_eq rfl) rfl (by decide) (by decide) (k' := 6) (n' := 21) rfl rfl (by decide) (by decide) at_311 (q := 314) rfl ?_
                  rintro _ _ ⟨rfl, rfl⟩
                  show X.G h101 6 21 314 #[.val (.int x0), .val (.int x1), .val (.int x2), .val (.int x3), .val (.int x4), .val (.int m), .val (.int (0 : Int32)), .val (.int (0 : Int32)), .val (.ref a90), .val (.int (2 : Int32)), .val (.ref a98), .val (.int zb)] []
                  refine X.iload (q := 316) at_314 rfl rfl ?_
                  refine X.if_ne (q' := 331) (q := 319) at_316 rfl (by decide) rfl (fun c316 => ?_) (fun c316 => ?_)
                  · omega
                  · refine X.aload (q := 321) at_319 rfl rfl rfl ?_
                    refine X.virtual (a := a98) (own_hm l Z a0 hw h101 n0 a98 (4 : Int32) (4 : Int32) hsh101 S2p S2e) (hw _ (List.mem_of_getElem? (i := 19) rfl)) (hw _ (List.mem_of_getElem? (i := 20) rfl)) (hw _ (List.mem_of_getElem? (i := 22) rfl)) (hw _ (List.mem_of_getElem? (i := 21) rfl)) (hw _ (List.mem_of_getElem? (i := 3) rfl)) (hw _ (List.mem_of_getElem? (i := 23) rfl)) (by decide) Ba98'h101 own_pd5 (argsL := []) (rest := []) rfl rfl rfl (W := 0) (Nat.le_of_eq rfl) rfl (by decide) (by decide) (k' := 6) (n' := 21) rfl rfl (by decide) (by decide) at_321 (q := 324) rfl ?_
                    rintro _ _ ⟨zc, rfl, hzc, rfl⟩
                    show X.G h101 6 21 324 #[.val (.int x0), .val (.int x1), .val (.int x2), .val (.int x3), .val (.int x4), .val (.int m), .val (.int (0 : Int32)), .val (.int (0 : Int32)), .val (.ref a90), .val (.int (2 : Int32)), .val (.ref a98), .val (.int zb)] [(.int zc)]
                    refine X.if_ne (q' := 331) (q := 327) at_324 rfl (by decide) rfl (fun c324 => ?_) (fun c324 => ?_)
                    · omega
                    · refine X.iconst (q := 328) (1 : Int32) at_327 (by decide) rfl ?_
                      refine X.goto (q' := 332) at_328 (by decide) ?_
                      refine X.retN (t := .boolean) (z' := (1 : Int32)) at_332 rfl (by simp) (by decide) (by decide) (by decide) ?_
                      rfl
                · omega
          · refine X.iload (q := 90) at_88 rfl rfl ?_
            refine X.iadd (q := 91) at_90 rfl ?_
            refine X.foldI (v := (4 : Int32)) (by decide) ?_
            refine X.iload (q := 93) at_91 rfl rfl ?_
            refine X.iadd (q := 94) at_93 rfl ?_
            refine X.foldI (v := (5 : Int32)) (by decide) ?_
            refine X.newP (q := 96) (ty := .byte) (N := 5) (cap := 5) (k' := 1) (n' := 5) (hw _ (List.mem_of_getElem? (i := 0) rfl)) at_94 rfl rfl (Nat.le_refl _) (by decide) rfl rfl (by decide) (by decide) rfl (fun h102 a103 ga103 Eh102 Aa103 => ?_)
            have gea103 : n0 ≤ a103 := by rw [ga103]; exact hn0
            have hsh102 : n0 ≤ h102.size := Nat.le_trans hn0 Eh102.1
            have Aa103 : OwA Z h102 a103 .byte [(.int (0 : Int32)), (.int (0 : Int32)), (.int (0 : Int32)), (.int (0 : Int32)), (.int (0 : Int32))] := Aa103
            refine X.astore (q := 98) (Ls' := #[.val (.int x0), .val (.int x1), .val (.int x2), .val (.int x3), .val (.int x4), .val (.int m), .val (.int (0 : Int32)), .val (.int (1 : Int32)), .val (.ref a103), .unset, .unset, .unset]) at_96 rfl rfl rfl ?_
            refine X.aload (q := 100) at_98 rfl rfl rfl ?_
            refine X.iconst (q := 101) (0 : Int32) at_100 (by decide) rfl ?_
            refine X.iloadN (q := 102) at_101 rfl rfl ?_
            refine X.iload (q := 104) at_102 rfl rfl ?_
            refine X.callS (own_tag l Z a0 hw h102 n0 x1 (0 : Int32)) (hw _ (List.mem_of_getElem? (i := 30) rfl)) (hw _ (List.mem_of_getElem? (i := 31) rfl)) (hw _ (List.mem_of_getElem? (i := 32) rfl)) (hw _ (List.mem_of_getElem? (i := 33) rfl)) (by decide) own_pd6 (argsL := [(.int x1), (.int (0 : Int32))]) (rest := [(.int (0 : Int32)), (.ref a103)]) rfl rfl rfl (W := 2) (Nat.le_of_eq rfl) rfl (by decide) (by decide) (k' := 1) (n' := 5) rfl rfl (by decide) (by decide) at_104 (q := 107) rfl ?_
            rintro _ _ ⟨ta, rfl, hta, rfl⟩
            show X.G h102 1 5 107 #[.val (.int x0), .val (.int x1), .val (.int x2), .val (.int x3), .val (.int x4), .val (.int m), .val (.int (0 : Int32)), .val (.int (1 : Int32)), .val (.ref a103), .unset, .unset, .unset] [(.int ta), (.int (0 : Int32)), (.ref a103)]
            refine X.i2b (q := 108) at_107 rfl ?_
            refine X.bastore (q := 109) (j := 0) Aa103 rfl (by simp) gea103 at_108 rfl (fun h104 Wh104 Ah104 => ?_)
            have hsh104 : n0 ≤ h104.size := by rw [Wr.size Wh104]; exact hsh102
            have Ah104_ : OwA Z h104 a103 .byte [(.int (nar .byte ta.toInt8.toInt32)), (.int (0 : Int32)), (.int (0 : Int32)), (.int (0 : Int32)), (.int (0 : Int32))] := Ah104
            refine X.aload (q := 111) at_109 rfl rfl rfl ?_
            refine X.iconst (q := 112) (1 : Int32) at_111 (by decide) rfl ?_
            refine X.iload (q := 114) at_112 rfl rfl ?_
            refine X.i2b (q := 115) at_114 rfl ?_
            refine X.bastore (q := 116) (j := 1) Ah104_ rfl (by simp) gea103 at_115 rfl (fun h105 Wh105 Ah105 => ?_)
            have hsh105 : n0 ≤ h105.size := by rw [Wr.size Wh105]; exact hsh104
            have Ah105_ : OwA Z h105 a103 .byte [(.int (nar .byte ta.toInt8.toInt32)), (.int (nar .byte (0 : Int32).toInt8.toInt32)), (.int (0 : Int32)), (.int (0 : Int32)), (.int (0 : Int32))] := Ah105
            refine X.aload (q := 118) at_116 rfl rfl rfl ?_
            refine X.iconst (q := 119) (2 : Int32) at_118 (by decide) rfl ?_
            refine X.iload (q := 121) at_119 rfl rfl ?_
            refine X.iload (q := 123) at_121 rfl rfl ?_
            refine X.callS (own_put0 l Z a0 hw h105 n0 a103 (2 : Int32) x4 2 _ rfl (by simp) (by decide) hsh105 Ah105_ gea103) (hw _ (List.mem_of_getElem? (i := 34) rfl)) (hw _ (List.mem_of_getElem? (i := 35) rfl)) (hw _ (List.mem_of_getElem? (i := 32) rfl)) (hw _ (List.mem_of_getElem? (i := 36) rfl)) (by decide) own_pd7 (argsL := [(.ref a103), (.int (2 : Int32)), (.int (0 : Int32)), (.int x4)]) (rest := []) rfl rfl rfl (W := 0) (Nat.le_of_eq rfl) rfl (by decide) (by decide) (k' := 1) (n' := 5) rfl rfl (by decide) (by decide) at_123 (q := 126) rfl ?_
            rintro _ h106 ⟨rfl, Kh106c, Gu⟩
            have hsh106 : n0 ≤ h106.size := Nat.le_trans hsh105 Kh106c.1
            show X.G h106 1 5 126 #[.val (.int x0), .val (.int x1), .val (.int x2), .val (.int x3), .val (.int x4), .val (.int m), .val (.int (0 : Int32)), .val (.int (1 : Int32)), .val (.ref a103), .unset, .unset, .unset] []
            have Gu : OwA Z h106 a103 .byte [(.int (nar .byte ta.toInt8.toInt32)), (.int (nar .byte (0 : Int32).toInt8.toInt32)), (.int (0 : Int32)), (.int (0 : Int32)), (.int (0 : Int32))] := Gu
            refine X.aload (q := 128) at_126 rfl rfl rfl ?_
            refine X.iconst (q := 129) (2 : Int32) at_128 (by decide) rfl ?_
            refine X.iload (q := 131) at_129 rfl rfl ?_
            refine X.iadd (q := 132) at_131 rfl ?_
            refine X.foldI (v := (2 : Int32)) (by decide) ?_
            refine X.iloadN (q := 133) at_132 rfl rfl ?_
            refine X.iload (q := 135) at_133 rfl rfl ?_
            refine X.callS (own_tag l Z a0 hw h106 n0 x2 (1 : Int32)) (hw _ (List.mem_of_getElem? (i := 30) rfl)) (hw _ (List.mem_of_getElem? (i := 31) rfl)) (hw _ (List.mem_of_getElem? (i := 32) rfl)) (hw _ (List.mem_of_getElem? (i := 33) rfl)) (by decide) own_pd6 (argsL := [(.int x2), (.int (1 : Int32))]) (rest := [(.int (2 : Int32)), (.ref a103)]) rfl rfl rfl (W := 2) (Nat.le_of_eq rfl) rfl (by decide) (by decide) (k' := 1) (n' := 5) rfl rfl (by decide) (by decide) at_135 (q := 138) rfl ?_
            rintro _ _ ⟨tb, rfl, htb, rfl⟩
            show X.G h106 1 5 138 #[.val (.int x0), .val (.int x1), .val (.int x2), .val (.int x3), .val (.int x4), .val (.int m), .val (.int (0 : Int32)), .val (.int (1 : Int32)), .val (.ref a103), .unset, .unset, .unset] [(.int tb), (.int (2 : Int32)), (.ref a103)]
            refine X.i2b (q := 139) at_138 rfl ?_
            refine X.bastore (q := 140) (j := 2) Gu rfl (by simp) gea103 at_139 rfl (fun h107 Wh107 Ah107 => ?_)
            have hsh107 : n0 ≤ h107.size := by rw [Wr.size Wh107]; exact hsh106
            have Ah107_ : OwA Z h107 a103 .byte [(.int (nar .byte ta.toInt8.toInt32)), (.int (nar .byte (0 : Int32).toInt8.toInt32)), (.int (nar .byte tb.toInt8.toInt32)), (.int (0 : Int32)), (.int (0 : Int32))] := Ah107
            refine X.aload (q := 142) at_140 rfl rfl rfl ?_
            refine X.iconst (q := 143) (3 : Int32) at_142 (by decide) rfl ?_
            refine X.iload (q := 145) at_143 rfl rfl ?_
            refine X.iadd (q := 146) at_145 rfl ?_
            refine X.foldI (v := (3 : Int32)) (by decide) ?_
            refine X.iload (q := 148) at_146 rfl rfl ?_
            refine X.i2b (q := 149) at_148 rfl ?_
            refine X.bastore (q := 150) (j := 3) Ah107_ rfl (by simp) gea103 at_149 rfl (fun h108 Wh108 Ah108 => ?_)
            have hsh108 : n0 ≤ h108.size := by rw [Wr.size Wh108]; exact hsh107
            have Ah108_ : OwA Z h108 a103 .byte [(.int (nar .byte ta.toInt8.toInt32)), (.int (nar .byte (0 : Int32).toInt8.toInt32)), (.int (nar .byte tb.toInt8.toInt32)), (.int (nar .byte (1 : Int32).toInt8.toInt32)), (.int (0 : Int32))] := Ah108
            refine X.aload (q := 152) at_150 rfl rfl rfl ?_
            refine X.iconst (q := 153) (4 : Int32) at_152 (by decide) rfl ?_
            refine X.iload (q := 155) at_153 rfl rfl ?_
            refine X.iadd (q := 156) at_155 rfl ?_
            refine X.foldI (v := (4 : Int32)) (by decide) ?_
            refine X.iload (q := 158) at_156 rfl rfl ?_
            refine X.iload (q := 160) at_158 rfl rfl ?_
            refine X.bipush (q := 162) (8 : Int32) at_160 (by decide) rfl ?_
            refine X.iushr (q := 163) at_162 rfl ?_
            refine X.callS (own_put1 l Z a0 hw h108 n0 a103 (4 : Int32) (XT.ushr x4 (8 : Int32)) 4 _ rfl (by simp) (by decide) hsh108 Ah108_ gea103) (hw _ (List.mem_of_getElem? (i := 34) rfl)) (hw _ (List.mem_of_getElem? (i := 35) rfl)) (hw _ (List.mem_of_getElem? (i := 32) rfl)) (hw _ (List.mem_of_getElem? (i := 36) rfl)) (by decide) own_pd7 (argsL := [(.ref a103), (.int (4 : Int32)), (.int (1 : Int32)), (.int (XT.ushr x4 (8 : Int32)))]) (rest := []) rfl rfl rfl (W := 0) (Nat.le_of_eq rfl) rfl (by decide) (by decide) (k' := 1) (n' := 5) rfl rfl (by decide) (by decide) at_163 (q := 166) rfl ?_
            rintro _ h109 ⟨v0, rfl, Kh109c, Gv⟩
            have hsh109 : n0 ≤ h109.size := Nat.le_trans hsh108 Kh109c.1
            show X.G h109 1 5 166 #[.val (.int x0), .val (.int x1), .val (.int x2), .val (.int x3), .val (.int x4), .val (.int m), .val (.int (0 : Int32)), .val (.int (1 : Int32)), .val (.ref a103), .unset, .unset, .unset] []
            have Gv : OwA Z h109 a103 .byte [(.int (nar .byte ta.toInt8.toInt32)), (.int (nar .byte (0 : Int32).toInt8.toInt32)), (.int (nar .byte tb.toInt8.toInt32)), (.int (nar .byte (1 : Int32).toInt8.toInt32)), (.int (nar .byte v0.toInt8.toInt32))] := Gv
            refine X.iconst (q := 167) (2 : Int32) at_166 (by decide) rfl ?_
            refine X.istore (q := 169) (Ls' := #[.val (.int x0), .val (.int x1), .val (.int x2), .val (.int x3), .val (.int x4), .val (.int m), .val (.int (0 : Int32)), .val (.int (1 : Int32)), .val (.ref a103), .val (.int (2 : Int32)), .unset, .unset]) at_167 rfl rfl ?_
            refine X.goto (q' := 259) at_169 (by decide) ?_
            refine X.newO (q := 262) (k' := 2) (n' := 8) (hw _ (List.mem_of_getElem? (i := 1) rfl)) (hw _ (List.mem_of_getElem? (i := 2) rfl)) (hw _ (List.mem_of_getElem? (i := 3) rfl)) at_259 rfl rfl (by decide) (by decide) rfl (fun h110 a111 ga111 Eh110 Ba111 Da111 => ?_)
            have la103_a111 : a103 < a111 := by have := Gv.lt; rw [← ga111] at this; exact this
            have Gv'h110 : OwA Z h110 a103 .byte [(.int (nar .byte ta.toInt8.toInt32)), (.int (nar .byte (0 : Int32).toInt8.toInt32)), (.int (nar .byte tb.toInt8.toInt32)), (.int (nar .byte (1 : Int32).toInt8.toInt32)), (.int (nar .byte v0.toInt8.toInt32))] := OwA.ext (E := Eh110) Gv
            have gea111 : n0 ≤ a111 := by rw [ga111]; exact hsh109
            have hsh110 : n0 ≤ h110.size := Nat.le_trans hsh109 Eh110.1
            have Fa111_bytes : Fld Z h110 a111 "com/example/dircred/dircred/credential/DerReader" "bytes" "[B" .null := Da111 (Or.inr (hw _ (List.mem_of_getElem? (i := 14) rfl))) (ty := (.array .byte)) (by decide)
            have Fa111_position : Fld Z h110 a111 "com/example/dircred/dircred/credential/DerReader" "position" "I" (.int (0 : Int32)) := Da111 (Or.inl (hw _ (List.mem_of_getElem? (i := 16) rfl))) (ty := .int) (by decide)
            have Fa111_end : Fld Z h110 a111 "com/example/dircred/dircred/credential/DerReader" "end" "I" (.int (0 : Int32)) := Da111 (Or.inr (hw _ (List.mem_of_getElem? (i := 18) rfl))) (ty := .int) (by decide)
            refine X.dup (q := 263) at_262 rfl rfl ?_
            refine X.aload (q := 265) at_263 rfl rfl rfl ?_
            obtain ⟨L, hL⟩ : ∃ L_ : List Int32, L_ = [(nar .byte ta.toInt8.toInt32), (nar .byte (0 : Int32).toInt8.toInt32), (nar .byte tb.toInt8.toInt32), (nar .byte (1 : Int32).toInt8.toInt32), (nar .byte v0.toInt8.toInt32)] := ⟨_, rfl⟩
            have AL : OwA Z h110 a103 .byte (L.map Value.int) := by rw [hL]; exact Gv'h110
            have nL : L.length = 5 := by rw [hL]; rfl
            have gL0 : (L.getD 0 0).toInt = (ta.toInt + 128) % 256 - 128 := by rw [hL]; exact own_nbt _
            have gL1 : (L.getD 1 0).toInt = ((0 : Int32).toInt + 128) % 256 - 128 := by rw [hL]; exact own_nbt _
            have gL2 : (L.getD 2 0).toInt = (tb.toInt + 128) % 256 - 128 := by rw [hL]; exact own_nbt _
            have gL3 : (L.getD 3 0).toInt = ((1 : Int32).toInt + 128) % 256 - 128 := by rw [hL]; exact own_nbt _
            have gL4 : (L.getD 4 0).toInt = (v0.toInt + 128) % 256 - 128 := by rw [hL]; exact own_nbt _
            have rL : ∀ x ∈ L, -128 ≤ x.toInt ∧ x.toInt ≤ 127 := by
              intro x hx; rw [hL] at hx
              simp only [List.mem_cons, List.not_mem_nil, or_false] at hx
              rcases hx with rfl | rfl | rfl | rfl | rfl
              · rw [own_nbt]; omega
              · rw [own_nbt]; omega
              · rw [own_nbt]; omega
              · rw [own_nbt]; omega
              · rw [own_nbt]; omega
            clear hL
            refine X.special (a := a111) (own_i1 l Z a0 hw h110 n0 a111 a103 L (5 : Int32) (by rw [nL]; rfl) hsh110 Ba111 Fa111_bytes Fa111_position Fa111_end AL gea111 (Nat.ne_of_gt la103_a111)) rfl (hw _ (List.mem_of_getElem? (i := 4) rfl)) (hw _ (List.mem_of_getElem? (i := 5) rfl)) (hw _ (List.mem_of_getElem? (i := 3) rfl)) (hw _ (List.mem_of_getElem? (i := 6) rfl)) (by decide) own_pd8 (argsL := [(.ref a103)]) (rest := [(.ref a111)]) rfl rfl rfl (W := 1) (Nat.le_of_eq rfl) rfl (by decide) (by decide) (k' := 2) (n' := 8) rfl rfl (by decide) (by decide) at_265 (q := 268) rfl ?_
            rintro _ h112 ⟨rfl, Kh112c, Db, Dp, De⟩
            have AL'h112 : OwA Z h112 a103 .byte (L.map Value.int) := OwA.keep AL Kh112c (ninS (Nat.ne_of_lt la103_a111) nin0)
            have Ba111'h112 : Exa Z h112 a111 "com/example/dircred/dircred/credential/DerReader" := Exa.keep Ba111 Kh112c
            have hsh112 : n0 ≤ h112.size := Nat.le_trans hsh110 Kh112c.1
            show X.G h112 2 8 268 #[.val (.int x0), .val (.int x1), .val (.int x2), .val (.int x3), .val (.int x4), .val (.int m), .val (.int (0 : Int32)), .val (.int (1 : Int32)), .val (.ref a103), .val (.int (2 : Int32)), .unset, .unset] [(.ref a111)]
            refine X.astore (q := 270) (Ls' := #[.val (.int x0), .val (.int x1), .val (.int x2), .val (.int x3), .val (.int x4), .val (.int m), .val (.int (0 : Int32)), .val (.int (1 : Int32)), .val (.ref a103), .val (.int (2 : Int32)), .val (.ref a111), .unset]) at_268 rfl rfl rfl ?_
            refine X.iload (q := 272) at_270 rfl rfl ?_
            refine X.iconst (q := 273) (1 : Int32) at_272 (by decide) rfl ?_
            refine X.icmp_lt (a := 2) (b := 1) (q' := 281) (q := 276) at_273 rfl rfl (by decide) rfl (fun c273 => ?_) (fun c273 => ?_)
            · omega
            · refine X.aload (q := 278) at_276 rfl rfl rfl ?_
              have H1 : own_hdr L 0 ta 1 2 (2 : Int32) (0 : Int32) := by have k0_ : (0 : Int32).toInt = 0 := rfl; have k2_ : (2 : Int32).toInt = 2 := rfl; unfold own_hdr; simp only [nL, Nat.reduceAdd, and_true]; refine ⟨?_, ?_, ?_, ?_, ?_, ?_, ?_, ?_⟩ <;> first | omega | rfl
              refine X.virtual (a := a111) (own_skip l Z a0 hw h112 n0 a111 a103 L (0 : Int32) (5 : Int32) 0 ta 1 2 (2 : Int32) (0 : Int32) rL (by rw [nL]; rfl) (by rw [nL]; decide) rfl H1 (2 : Int32) rfl (by decide) hsh112 Ba111'h112 Db Dp De AL'h112 gea111 (Nat.ne_of_gt la103_a111)) (hw _ (List.mem_of_getElem? (i := 37) rfl)) (hw _ (List.mem_of_getElem? (i := 38) rfl)) (hw _ (List.mem_of_getElem? (i := 40) rfl)) (hw _ (List.mem_of_getElem? (i := 39) rfl)) (hw _ (List.mem_of_getElem? (i := 3) rfl)) (hw _ (List.mem_of_getElem? (i := 41) rfl)) (by decide) Ba111'h112 own_pd9 (argsL := []) (rest := []) rfl rfl rfl (W := 0) (Nat.le_of_eq rfl) rfl (by decide) (by decide) (k' := 4) (n' := 15) rfl rfl (by decide) (by decide) at_278 (q := 281) rfl ?_
              rintro _ h113 ⟨rfl, Kh113c, S1b, S1p, S1e⟩
              have AL'h113 : OwA Z h113 a103 .byte (L.map Value.int) := OwA.keep AL'h112 Kh113c (ninS (Nat.ne_of_lt la103_a111) nin0)
              have Ba111'h113 : Exa Z h113 a111 "com/example/dircred/dircred/credential/DerReader" := Exa.keep Ba111'h112 Kh113c
              have hsh113 : n0 ≤ h113.size := Nat.le_trans hsh112 Kh113c.1
              show X.G h113 4 15 281 #[.val (.int x0), .val (.int x1), .val (.int x2), .val (.int x3), .val (.int x4), .val (.int m), .val (.int (0 : Int32)), .val (.int (1 : Int32)), .val (.ref a103), .val (.int (2 : Int32)), .val (.ref a111), .unset] []
              refine X.iload (q := 283) at_281 rfl rfl ?_
              refine X.iconst (q := 284) (2 : Int32) at_283 (by decide) rfl ?_
              refine X.icmp_ne (a := 2) (b := 2) (q' := 302) (q := 287) at_284 rfl rfl (by decide) rfl (fun c284 => ?_) (fun c284 => ?_)
              · omega
              · refine X.aload (q := 289) at_287 rfl rfl rfl ?_
                refine X.virtual (a := a111) (own_hm l Z a0 hw h113 n0 a111 (2 : Int32) (5 : Int32) hsh113 S1p S1e) (hw _ (List.mem_of_getElem? (i := 19) rfl)) (hw _ (List.mem_of_getElem? (i := 20) rfl)) (hw _ (List.mem_of_getElem? (i := 22) rfl)) (hw _ (List.mem_of_getElem? (i := 21) rfl)) (hw _ (List.mem_of_getElem? (i := 3) rfl)) (hw _ (List.mem_of_getElem? (i := 23) rfl)) (by decide) Ba111'h113 own_pd5 (argsL := []) (rest := []) rfl rfl rfl (W := 0) (Nat.le_of_eq rfl) rfl (by decide) (by decide) (k' := 4) (n' := 15) rfl rfl (by decide) (by decide) at_289 (q := 292) rfl ?_
                rintro _ _ ⟨zm, rfl, hzm, rfl⟩
                show X.G h113 4 15 292 #[.val (.int x0), .val (.int x1), .val (.int x2), .val (.int x3), .val (.int x4), .val (.int m), .val (.int (0 : Int32)), .val (.int (1 : Int32)), .val (.ref a103), .val (.int (2 : Int32)), .val (.ref a111), .unset] [(.int zm)]
                refine X.if_ne (q' := 297) (q := 295) at_292 rfl (by decide) rfl (fun c292 => ?_) (fun c292 => ?_)
                · refine X.aload (q := 299) at_297 rfl rfl rfl ?_
                  have H2 : own_hdr L 2 tb 3 4 (4 : Int32) (1 : Int32) := by have k1_ : (1 : Int32).toInt = 1 := rfl; have k4_ : (4 : Int32).toInt = 4 := rfl; unfold own_hdr; simp only [nL, Nat.reduceAdd, and_true]; refine ⟨?_, ?_, ?_, ?_, ?_, ?_, ?_, ?_⟩ <;> first | omega | rfl
                  refine X.virtual (a := a111) (own_skip l Z a0 hw h113 n0 a111 a103 L (2 : Int32) (5 : Int32) 2 tb 3 4 (4 : Int32) (1 : Int32) rL (by rw [nL]; rfl) (by rw [nL]; decide) rfl H2 (5 : Int32) rfl (by decide) hsh113 Ba111'h113 S1b S1p S1e AL'h113 gea111 (Nat.ne_of_gt la103_a111)) (hw _ (List.mem_of_getElem? (i := 37) rfl)) (hw _ (List.mem_of_getElem? (i := 38) rfl)) (hw _ (List.mem_of_getElem? (i := 40) rfl)) (hw _ (List.mem_of_getElem? (i := 39) rfl)) (hw _ (List.mem_of_getElem? (i := 3) rfl)) (hw _ (List.mem_of_getElem? (i := 41) rfl)) (by decide) Ba111'h113 own_pd9 (argsL := []) (rest := []) rfl rfl rfl (W := 0) (Nat.le_of_eq rfl) rfl (by decide) (by decide) (k' := 6) (n' := 22) rfl rfl (by decide) (by decide) at_299 (q := 302) rfl ?_
                  rintro _ h114 ⟨rfl, Kh114c, S2b, S2p, S2e⟩
                  have AL'h114 : OwA Z h114 a103 .byte (L.map Value.int) := OwA.keep AL'h113 Kh114c (ninS (Nat.ne_of_lt la103_a111) nin0)
                  have Ba111'h114 : Exa Z h114 a111 "com/example/dircred/dircred/credential/DerReader" := Exa.keep Ba111'h113 Kh114c
                  have hsh114 : n0 ≤ h114.size := Nat.le_trans hsh113 Kh114c.1
                  show X.G h114 6 22 302 #[.val (.int x0), .val (.int x1), .val (.int x2), .val (.int x3), .val (.int x4), .val (.int m), .val (.int (0 : Int32)), .val (.int (1 : Int32)), .val (.ref a103), .val (.int (2 : Int32)), .val (.ref a111), .unset] []
                  refine X.aload (q := 304) at_302 rfl rfl rfl ?_
                  refine X.virtual (a := a111) (own_hm l Z a0 hw h114 n0 a111 (5 : Int32) (5 : Int32) hsh114 S2p S2e) (hw _ (List.mem_of_getElem? (i := 19) rfl)) (hw _ (List.mem_of_getElem? (i := 20) rfl)) (hw _ (List.mem_of_getElem? (i := 22) rfl)) (hw _ (List.mem_of_getElem? (i := 21) rfl)) (hw _ (List.mem_of_getElem? (i := 3) rfl)) (hw _ (List.mem_of_getElem? (i := 23) rfl)) (by decide) Ba111'h114 own_pd5 (argsL := []) (rest := []) rfl rfl rfl (W := 0) (Nat.le_of_eq rfl) rfl (by decide) (by decide) (k' := 6) (n' := 22) rfl rfl (by decide) (by decide) at_304 (q := 307) rfl ?_
                  rintro _ _ ⟨zb, rfl, hzb, rfl⟩
                  show X.G h114 6 22 307 #[.val (.int x0), .val (.int x1), .val (.int x2), .val (.int x3), .val (.int x4), .val (.int m), .val (.int (0 : Int32)), .val (.int (1 : Int32)), .val (.ref a103), .val (.int (2 : Int32)), .val (.ref a111), .unset] [(.int zb)]
                  refine X.istore (q := 309) (Ls' := #[.val (.int x0), .val (.int x1), .val (.int x2), .val (.int x3), .val (.int x4), .val (.int m), .val (.int (0 : Int32)), .val (.int (1 : Int32)), .val (.ref a103), .val (.int (2 : Int32)), .val (.ref a111), .val (.int zb)]) at_307 rfl rfl ?_
                  refine X.aload (q := 311) at_309 rfl rfl rfl ?_
                  refine X.virtual (a := a111) (own_en l Z a0 hw h114 n0 a111 a103 (5 : Int32) (5 : Int32) (by decide) hsh114 Ba111'h114 S2b S2p S2e) (hw _ (List.mem_of_getElem? (i := 24) rfl)) (hw _ (List.mem_of_getElem? (i := 25) rfl)) (hw _ (List.mem_of_getElem? (i := 27) rfl)) (hw _ (List.mem_of_getElem? (i := 26) rfl)) (hw _ (List.mem_of_getElem? (i := 3) rfl)) (hw _ (List.mem_of_getElem? (i := 28) rfl)) (by decide) Ba111'h114 own_pd9 (argsL := []) (rest := []) rfl rfl rfl (W := 0) (Nat.le_of_eq rfl) rfl (by decide) (by decide) (k' := 6) (n' := 22) rfl rfl (by decide) (by decide) at_311 (q := 314) rfl ?_
                  rintro _ _ ⟨rfl, rfl⟩
                  show X.G h114 6 22 314 #[.val (.int x0), .val (.int x1), .val (.int x2), .val (.int x3), .val (.int x4), .val (.int m), .val (.int (0 : Int32)), .val (.int (1 : Int32)), .val (.ref a103), .val (.int (2 : Int32)), .val (.ref a111), .val (.int zb)] []
                  refine X.iload (q := 316) at_314 rfl rfl ?_
                  refine X.if_ne (q' := 331) (q := 319) at_316 rfl (by decide) rfl (fun c316 => ?_) (fun c316 => ?_)
                  · omega
                  · refine X.aload (q := 321) at_319 rfl rfl rfl ?_
                    refine X.virtual (a := a111) (own_hm l Z a0 hw h114 n0 a111 (5 : Int32) (5 : Int32) hsh114 S2p S2e) (hw _ (List.mem_of_getElem? (i := 19) rfl)) (hw _ (List.mem_of_getElem? (i := 20) rfl)) (hw _ (List.mem_of_getElem? (i := 22) rfl)) (hw _ (List.mem_of_getElem? (i := 21) rfl)) (hw _ (List.mem_of_getElem? (i := 3) rfl)) (hw _ (List.mem_of_getElem? (i := 23) rfl)) (by decide) Ba111'h114 own_pd5 (argsL := []) (rest := []) rfl rfl rfl (W := 0) (Nat.le_of_eq rfl) rfl (by decide) (by decide) (k' := 6) (n' := 22) rfl rfl (by decide) (by decide) at_321 (q := 324) rfl ?_
                    rintro _ _ ⟨zc, rfl, hzc, rfl⟩
                    show X.G h114 6 22 324 #[.val (.int x0), .val (.int x1), .val (.int x2), .val (.int x3), .val (.int x4), .val (.int m), .val (.int (0 : Int32)), .val (.int (1 : Int32)), .val (.ref a103), .val (.int (2 : Int32)), .val (.ref a111), .val (.int zb)] [(.int zc)]
                    refine X.if_ne (q' := 331) (q := 327) at_324 rfl (by decide) rfl (fun c324 => ?_) (fun c324 => ?_)
                    · omega
                    · refine X.iconst (q := 328) (1 : Int32) at_327 (by decide) rfl ?_
                      refine X.goto (q' := 332) at_328 (by decide) ?_
                      refine X.retN (t := .boolean) (z' := (1 : Int32)) at_332 rfl (by simp) (by decide) (by decide) (by decide) ?_
                      rfl
                · omega
          · refine X.iload (q := 90) at_88 rfl rfl ?_
            refine X.iadd (q := 91) at_90 rfl ?_
            refine X.foldI (v := (4 : Int32)) (by decide) ?_
            refine X.iload (q := 93) at_91 rfl rfl ?_
            refine X.iadd (q := 94) at_93 rfl ?_
            refine X.foldI (v := (6 : Int32)) (by decide) ?_
            refine X.newP (q := 96) (ty := .byte) (N := 6) (cap := 6) (k' := 1) (n' := 6) (hw _ (List.mem_of_getElem? (i := 0) rfl)) at_94 rfl rfl (Nat.le_refl _) (by decide) rfl rfl (by decide) (by decide) rfl (fun h115 a116 ga116 Eh115 Aa116 => ?_)
            have gea116 : n0 ≤ a116 := by rw [ga116]; exact hn0
            have hsh115 : n0 ≤ h115.size := Nat.le_trans hn0 Eh115.1
            have Aa116 : OwA Z h115 a116 .byte [(.int (0 : Int32)), (.int (0 : Int32)), (.int (0 : Int32)), (.int (0 : Int32)), (.int (0 : Int32)), (.int (0 : Int32))] := Aa116
            refine X.astore (q := 98) (Ls' := #[.val (.int x0), .val (.int x1), .val (.int x2), .val (.int x3), .val (.int x4), .val (.int m), .val (.int (0 : Int32)), .val (.int (2 : Int32)), .val (.ref a116), .unset, .unset, .unset]) at_96 rfl rfl rfl ?_
            refine X.aload (q := 100) at_98 rfl rfl rfl ?_
            refine X.iconst (q := 101) (0 : Int32) at_100 (by decide) rfl ?_
            refine X.iloadN (q := 102) at_101 rfl rfl ?_
            refine X.iload (q := 104) at_102 rfl rfl ?_
            refine X.callS (own_tag l Z a0 hw h115 n0 x1 (0 : Int32)) (hw _ (List.mem_of_getElem? (i := 30) rfl)) (hw _ (List.mem_of_getElem? (i := 31) rfl)) (hw _ (List.mem_of_getElem? (i := 32) rfl)) (hw _ (List.mem_of_getElem? (i := 33) rfl)) (by decide) own_pd6 (argsL := [(.int x1), (.int (0 : Int32))]) (rest := [(.int (0 : Int32)), (.ref a116)]) rfl rfl rfl (W := 2) (Nat.le_of_eq rfl) rfl (by decide) (by decide) (k' := 1) (n' := 6) rfl rfl (by decide) (by decide) at_104 (q := 107) rfl ?_
            rintro _ _ ⟨ta, rfl, hta, rfl⟩
            show X.G h115 1 6 107 #[.val (.int x0), .val (.int x1), .val (.int x2), .val (.int x3), .val (.int x4), .val (.int m), .val (.int (0 : Int32)), .val (.int (2 : Int32)), .val (.ref a116), .unset, .unset, .unset] [(.int ta), (.int (0 : Int32)), (.ref a116)]
            refine X.i2b (q := 108) at_107 rfl ?_
            refine X.bastore (q := 109) (j := 0) Aa116 rfl (by simp) gea116 at_108 rfl (fun h117 Wh117 Ah117 => ?_)
            have hsh117 : n0 ≤ h117.size := by rw [Wr.size Wh117]; exact hsh115
            have Ah117_ : OwA Z h117 a116 .byte [(.int (nar .byte ta.toInt8.toInt32)), (.int (0 : Int32)), (.int (0 : Int32)), (.int (0 : Int32)), (.int (0 : Int32)), (.int (0 : Int32))] := Ah117
            refine X.aload (q := 111) at_109 rfl rfl rfl ?_
            refine X.iconst (q := 112) (1 : Int32) at_111 (by decide) rfl ?_
            refine X.iload (q := 114) at_112 rfl rfl ?_
            refine X.i2b (q := 115) at_114 rfl ?_
            refine X.bastore (q := 116) (j := 1) Ah117_ rfl (by simp) gea116 at_115 rfl (fun h118 Wh118 Ah118 => ?_)
            have hsh118 : n0 ≤ h118.size := by rw [Wr.size Wh118]; exact hsh117
            have Ah118_ : OwA Z h118 a116 .byte [(.int (nar .byte ta.toInt8.toInt32)), (.int (nar .byte (0 : Int32).toInt8.toInt32)), (.int (0 : Int32)), (.int (0 : Int32)), (.int (0 : Int32)), (.int (0 : Int32))] := Ah118
            refine X.aload (q := 118) at_116 rfl rfl rfl ?_
            refine X.iconst (q := 119) (2 : Int32) at_118 (by decide) rfl ?_
            refine X.iload (q := 121) at_119 rfl rfl ?_
            refine X.iload (q := 123) at_121 rfl rfl ?_
            refine X.callS (own_put0 l Z a0 hw h118 n0 a116 (2 : Int32) x4 2 _ rfl (by simp) (by decide) hsh118 Ah118_ gea116) (hw _ (List.mem_of_getElem? (i := 34) rfl)) (hw _ (List.mem_of_getElem? (i := 35) rfl)) (hw _ (List.mem_of_getElem? (i := 32) rfl)) (hw _ (List.mem_of_getElem? (i := 36) rfl)) (by decide) own_pd7 (argsL := [(.ref a116), (.int (2 : Int32)), (.int (0 : Int32)), (.int x4)]) (rest := []) rfl rfl rfl (W := 0) (Nat.le_of_eq rfl) rfl (by decide) (by decide) (k' := 1) (n' := 6) rfl rfl (by decide) (by decide) at_123 (q := 126) rfl ?_
            rintro _ h119 ⟨rfl, Kh119c, Gu⟩
            have hsh119 : n0 ≤ h119.size := Nat.le_trans hsh118 Kh119c.1
            show X.G h119 1 6 126 #[.val (.int x0), .val (.int x1), .val (.int x2), .val (.int x3), .val (.int x4), .val (.int m), .val (.int (0 : Int32)), .val (.int (2 : Int32)), .val (.ref a116), .unset, .unset, .unset] []
            have Gu : OwA Z h119 a116 .byte [(.int (nar .byte ta.toInt8.toInt32)), (.int (nar .byte (0 : Int32).toInt8.toInt32)), (.int (0 : Int32)), (.int (0 : Int32)), (.int (0 : Int32)), (.int (0 : Int32))] := Gu
            refine X.aload (q := 128) at_126 rfl rfl rfl ?_
            refine X.iconst (q := 129) (2 : Int32) at_128 (by decide) rfl ?_
            refine X.iload (q := 131) at_129 rfl rfl ?_
            refine X.iadd (q := 132) at_131 rfl ?_
            refine X.foldI (v := (2 : Int32)) (by decide) ?_
            refine X.iloadN (q := 133) at_132 rfl rfl ?_
            refine X.iload (q := 135) at_133 rfl rfl ?_
            refine X.callS (own_tag l Z a0 hw h119 n0 x2 (2 : Int32)) (hw _ (List.mem_of_getElem? (i := 30) rfl)) (hw _ (List.mem_of_getElem? (i := 31) rfl)) (hw _ (List.mem_of_getElem? (i := 32) rfl)) (hw _ (List.mem_of_getElem? (i := 33) rfl)) (by decide) own_pd6 (argsL := [(.int x2), (.int (2 : Int32))]) (rest := [(.int (2 : Int32)), (.ref a116)]) rfl rfl rfl (W := 2) (Nat.le_of_eq rfl) rfl (by decide) (by decide) (k' := 1) (n' := 6) rfl rfl (by decide) (by decide) at_135 (q := 138) rfl ?_
            rintro _ _ ⟨tb, rfl, htb, rfl⟩
            show X.G h119 1 6 138 #[.val (.int x0), .val (.int x1), .val (.int x2), .val (.int x3), .val (.int x4), .val (.int m), .val (.int (0 : Int32)), .val (.int (2 : Int32)), .val (.ref a116), .unset, .unset, .unset] [(.int tb), (.int (2 : Int32)), (.ref a116)]
            refine X.i2b (q := 139) at_138 rfl ?_
            refine X.bastore (q := 140) (j := 2) Gu rfl (by simp) gea116 at_139 rfl (fun h120 Wh120 Ah120 => ?_)
            have hsh120 : n0 ≤ h120.size := by rw [Wr.size Wh120]; exact hsh119
            have Ah120_ : OwA Z h120 a116 .byte [(.int (nar .byte ta.toInt8.toInt32)), (.int (nar .byte (0 : Int32).toInt8.toInt32)), (.int (nar .byte tb.toInt8.toInt32)), (.int (0 : Int32)), (.int (0 : Int32)), (.int (0 : Int32))] := Ah120
            refine X.aload (q := 142) at_140 rfl rfl rfl ?_
            refine X.iconst (q := 143) (3 : Int32) at_142 (by decide) rfl ?_
            refine X.iload (q := 145) at_143 rfl rfl ?_
            refine X.iadd (q := 146) at_145 rfl ?_
            refine X.foldI (v := (3 : Int32)) (by decide) ?_
            refine X.iload (q := 148) at_146 rfl rfl ?_
            refine X.i2b (q := 149) at_148 rfl ?_
            refine X.bastore (q := 150) (j := 3) Ah120_ rfl (by simp) gea116 at_149 rfl (fun h121 Wh121 Ah121 => ?_)
            have hsh121 : n0 ≤ h121.size := by rw [Wr.size Wh121]; exact hsh120
            have Ah121_ : OwA Z h121 a116 .byte [(.int (nar .byte ta.toInt8.toInt32)), (.int (nar .byte (0 : Int32).toInt8.toInt32)), (.int (nar .byte tb.toInt8.toInt32)), (.int (nar .byte (2 : Int32).toInt8.toInt32)), (.int (0 : Int32)), (.int (0 : Int32))] := Ah121
            refine X.aload (q := 152) at_150 rfl rfl rfl ?_
            refine X.iconst (q := 153) (4 : Int32) at_152 (by decide) rfl ?_
            refine X.iload (q := 155) at_153 rfl rfl ?_
            refine X.iadd (q := 156) at_155 rfl ?_
            refine X.foldI (v := (4 : Int32)) (by decide) ?_
            refine X.iload (q := 158) at_156 rfl rfl ?_
            refine X.iload (q := 160) at_158 rfl rfl ?_
            refine X.bipush (q := 162) (8 : Int32) at_160 (by decide) rfl ?_
            refine X.iushr (q := 163) at_162 rfl ?_
            refine X.callS (own_put2 l Z a0 hw h121 n0 a116 (4 : Int32) (XT.ushr x4 (8 : Int32)) 4 _ rfl (by simp) (by decide) hsh121 Ah121_ gea116) (hw _ (List.mem_of_getElem? (i := 34) rfl)) (hw _ (List.mem_of_getElem? (i := 35) rfl)) (hw _ (List.mem_of_getElem? (i := 32) rfl)) (hw _ (List.mem_of_getElem? (i := 36) rfl)) (by decide) own_pd7 (argsL := [(.ref a116), (.int (4 : Int32)), (.int (2 : Int32)), (.int (XT.ushr x4 (8 : Int32)))]) (rest := []) rfl rfl rfl (W := 0) (Nat.le_of_eq rfl) rfl (by decide) (by decide) (k' := 1) (n' := 6) rfl rfl (by decide) (by decide) at_163 (q := 166) rfl ?_
            rintro _ h122 ⟨v0, v1, rfl, Kh122c, Gv⟩
            have hsh122 : n0 ≤ h122.size := Nat.le_trans hsh121 Kh122c.1
            show X.G h122 1 6 166 #[.val (.int x0), .val (.int x1), .val (.int x2), .val (.int x3), .val (.int x4), .val (.int m), .val (.int (0 : Int32)), .val (.int (2 : Int32)), .val (.ref a116), .unset, .unset, .unset] []
            have Gv : OwA Z h122 a116 .byte [(.int (nar .byte ta.toInt8.toInt32)), (.int (nar .byte (0 : Int32).toInt8.toInt32)), (.int (nar .byte tb.toInt8.toInt32)), (.int (nar .byte (2 : Int32).toInt8.toInt32)), (.int (nar .byte v0.toInt8.toInt32)), (.int (nar .byte v1.toInt8.toInt32))] := Gv
            refine X.iconst (q := 167) (2 : Int32) at_166 (by decide) rfl ?_
            refine X.istore (q := 169) (Ls' := #[.val (.int x0), .val (.int x1), .val (.int x2), .val (.int x3), .val (.int x4), .val (.int m), .val (.int (0 : Int32)), .val (.int (2 : Int32)), .val (.ref a116), .val (.int (2 : Int32)), .unset, .unset]) at_167 rfl rfl ?_
            refine X.goto (q' := 259) at_169 (by decide) ?_
            refine X.newO (q := 262) (k' := 2) (n' := 9) (hw _ (List.mem_of_getElem? (i := 1) rfl)) (hw _ (List.mem_of_getElem? (i := 2) rfl)) (hw _ (List.mem_of_getElem? (i := 3) rfl)) at_259 rfl rfl (by decide) (by decide) rfl (fun h123 a124 ga124 Eh123 Ba124 Da124 => ?_)
            have la116_a124 : a116 < a124 := by have := Gv.lt; rw [← ga124] at this; exact this
            have Gv'h123 : OwA Z h123 a116 .byte [(.int (nar .byte ta.toInt8.toInt32)), (.int (nar .byte (0 : Int32).toInt8.toInt32)), (.int (nar .byte tb.toInt8.toInt32)), (.int (nar .byte (2 : Int32).toInt8.toInt32)), (.int (nar .byte v0.toInt8.toInt32)), (.int (nar .byte v1.toInt8.toInt32))] := OwA.ext (E := Eh123) Gv
            have gea124 : n0 ≤ a124 := by rw [ga124]; exact hsh122
            have hsh123 : n0 ≤ h123.size := Nat.le_trans hsh122 Eh123.1
            have Fa124_bytes : Fld Z h123 a124 "com/example/dircred/dircred/credential/DerReader" "bytes" "[B" .null := Da124 (Or.inr (hw _ (List.mem_of_getElem? (i := 14) rfl))) (ty := (.array .byte)) (by decide)
            have Fa124_position : Fld Z h123 a124 "com/example/dircred/dircred/credential/DerReader" "position" "I" (.int (0 : Int32)) := Da124 (Or.inl (hw _ (List.mem_of_getElem? (i := 16) rfl))) (ty := .int) (by decide)
            have Fa124_end : Fld Z h123 a124 "com/example/dircred/dircred/credential/DerReader" "end" "I" (.int (0 : Int32)) := Da124 (Or.inr (hw _ (List.mem_of_getElem? (i := 18) rfl))) (ty := .int) (by decide)
            refine X.dup (q := 263) at_262 rfl rfl ?_
            refine X.aload (q := 265) at_263 rfl rfl rfl ?_
            obtain ⟨L, hL⟩ : ∃ L_ : List Int32, L_ = [(nar .byte ta.toInt8.toInt32), (nar .byte (0 : Int32).toInt8.toInt32), (nar .byte tb.toInt8.toInt32), (nar .byte (2 : Int32).toInt8.toInt32), (nar .byte v0.toInt8.toInt32), (nar .byte v1.toInt8.toInt32)] := ⟨_, rfl⟩
            have AL : OwA Z h123 a116 .byte (L.map Value.int) := by rw [hL]; exact Gv'h123
            have nL : L.length = 6 := by rw [hL]; rfl
            have gL0 : (L.getD 0 0).toInt = (ta.toInt + 128) % 256 - 128 := by rw [hL]; exact own_nbt _
            have gL1 : (L.getD 1 0).toInt = ((0 : Int32).toInt + 128) % 256 - 128 := by rw [hL]; exact own_nbt _
            have gL2 : (L.getD 2 0).toInt = (tb.toInt + 128) % 256 - 128 := by rw [hL]; exact own_nbt _
            have gL3 : (L.getD 3 0).toInt = ((2 : Int32).toInt + 128) % 256 - 128 := by rw [hL]; exact own_nbt _
            have gL4 : (L.getD 4 0).toInt = (v0.toInt + 128) % 256 - 128 := by rw [hL]; exact own_nbt _
            have gL5 : (L.getD 5 0).toInt = (v1.toInt + 128) % 256 - 128 := by rw [hL]; exact own_nbt _
            have rL : ∀ x ∈ L, -128 ≤ x.toInt ∧ x.toInt ≤ 127 := by
              intro x hx; rw [hL] at hx
              simp only [List.mem_cons, List.not_mem_nil, or_false] at hx
              rcases hx with rfl | rfl | rfl | rfl | rfl | rfl
              · rw [own_nbt]; omega
              · rw [own_nbt]; omega
              · rw [own_nbt]; omega
              · rw [own_nbt]; omega
              · rw [own_nbt]; omega
              · rw [own_nbt]; omega
            clear hL
            refine X.special (a := a124) (own_i1 l Z a0 hw h123 n0 a124 a116 L (6 : Int32) (by rw [nL]; rfl) hsh123 Ba124 Fa124_bytes Fa124_position Fa124_end AL gea124 (Nat.ne_of_gt la116_a124)) rfl (hw _ (List.mem_of_getElem? (i := 4) rfl)) (hw _ (List.mem_of_getElem? (i := 5) rfl)) (hw _ (List.mem_of_getElem? (i := 3) rfl)) (hw _ (List.mem_of_getElem? (i := 6) rfl)) (by decide) own_pd8 (argsL := [(.ref a116)]) (rest := [(.ref a124)]) rfl rfl rfl (W := 1) (Nat.le_of_eq rfl) rfl (by decide) (by decide) (k' := 2) (n' := 9) rfl rfl (by decide) (by decide) at_265 (q := 268) rfl ?_
            rintro _ h125 ⟨rfl, Kh125c, Db, Dp, De⟩
            have AL'h125 : OwA Z h125 a116 .byte (L.map Value.int) := OwA.keep AL Kh125c (ninS (Nat.ne_of_lt la116_a124) nin0)
            have Ba124'h125 : Exa Z h125 a124 "com/example/dircred/dircred/credential/DerReader" := Exa.keep Ba124 Kh125c
            have hsh125 : n0 ≤ h125.size := Nat.le_trans hsh123 Kh125c.1
            show X.G h125 2 9 268 #[.val (.int x0), .val (.int x1), .val (.int x2), .val (.int x3), .val (.int x4), .val (.int m), .val (.int (0 : Int32)), .val (.int (2 : Int32)), .val (.ref a116), .val (.int (2 : Int32)), .unset, .unset] [(.ref a124)]
            refine X.astore (q := 270) (Ls' := #[.val (.int x0), .val (.int x1), .val (.int x2), .val (.int x3), .val (.int x4), .val (.int m), .val (.int (0 : Int32)), .val (.int (2 : Int32)), .val (.ref a116), .val (.int (2 : Int32)), .val (.ref a124), .unset]) at_268 rfl rfl rfl ?_
            refine X.iload (q := 272) at_270 rfl rfl ?_
            refine X.iconst (q := 273) (1 : Int32) at_272 (by decide) rfl ?_
            refine X.icmp_lt (a := 2) (b := 1) (q' := 281) (q := 276) at_273 rfl rfl (by decide) rfl (fun c273 => ?_) (fun c273 => ?_)
            · omega
            · refine X.aload (q := 278) at_276 rfl rfl rfl ?_
              have H1 : own_hdr L 0 ta 1 2 (2 : Int32) (0 : Int32) := by have k0_ : (0 : Int32).toInt = 0 := rfl; have k2_ : (2 : Int32).toInt = 2 := rfl; unfold own_hdr; simp only [nL, Nat.reduceAdd, and_true]; refine ⟨?_, ?_, ?_, ?_, ?_, ?_, ?_, ?_⟩ <;> first | omega | rfl
              refine X.virtual (a := a124) (own_skip l Z a0 hw h125 n0 a124 a116 L (0 : Int32) (6 : Int32) 0 ta 1 2 (2 : Int32) (0 : Int32) rL (by rw [nL]; rfl) (by rw [nL]; decide) rfl H1 (2 : Int32) rfl (by decide) hsh125 Ba124'h125 Db Dp De AL'h125 gea124 (Nat.ne_of_gt la116_a124)) (hw _ (List.mem_of_getElem? (i := 37) rfl)) (hw _ (List.mem_of_getElem? (i := 38) rfl)) (hw _ (List.mem_of_getElem? (i := 40) rfl)) (hw _ (List.mem_of_getElem? (i := 39) rfl)) (hw _ (List.mem_of_getElem? (i := 3) rfl)) (hw _ (List.mem_of_getElem? (i := 41) rfl)) (by decide) Ba124'h125 own_pd9 (argsL := []) (rest := []) rfl rfl rfl (W := 0) (Nat.le_of_eq rfl) rfl (by decide) (by decide) (k' := 4) (n' := 16) rfl rfl (by decide) (by decide) at_278 (q := 281) rfl ?_
              rintro _ h126 ⟨rfl, Kh126c, S1b, S1p, S1e⟩
              have AL'h126 : OwA Z h126 a116 .byte (L.map Value.int) := OwA.keep AL'h125 Kh126c (ninS (Nat.ne_of_lt la116_a124) nin0)
              have Ba124'h126 : Exa Z h126 a124 "com/example/dircred/dircred/credential/DerReader" := Exa.keep Ba124'h125 Kh126c
              have hsh126 : n0 ≤ h126.size := Nat.le_trans hsh125 Kh126c.1
              show X.G h126 4 16 281 #[.val (.int x0), .val (.int x1), .val (.int x2), .val (.int x3), .val (.int x4), .val (.int m), .val (.int (0 : Int32)), .val (.int (2 : Int32)), .val (.ref a116), .val (.int (2 : Int32)), .val (.ref a124), .unset] []
              refine X.iload (q := 283) at_281 rfl rfl ?_
              refine X.iconst (q := 284) (2 : Int32) at_283 (by decide) rfl ?_
              refine X.icmp_ne (a := 2) (b := 2) (q' := 302) (q := 287) at_284 rfl rfl (by decide) rfl (fun c284 => ?_) (fun c284 => ?_)
              · omega
              · refine X.aload (q := 289) at_287 rfl rfl rfl ?_
                refine X.virtual (a := a124) (own_hm l Z a0 hw h126 n0 a124 (2 : Int32) (6 : Int32) hsh126 S1p S1e) (hw _ (List.mem_of_getElem? (i := 19) rfl)) (hw _ (List.mem_of_getElem? (i := 20) rfl)) (hw _ (List.mem_of_getElem? (i := 22) rfl)) (hw _ (List.mem_of_getElem? (i := 21) rfl)) (hw _ (List.mem_of_getElem? (i := 3) rfl)) (hw _ (List.mem_of_getElem? (i := 23) rfl)) (by decide) Ba124'h126 own_pd5 (argsL := []) (rest := []) rfl rfl rfl (W := 0) (Nat.le_of_eq rfl) rfl (by decide) (by decide) (k' := 4) (n' := 16) rfl rfl (by decide) (by decide) at_289 (q := 292) rfl ?_
                rintro _ _ ⟨zm, rfl, hzm, rfl⟩
                show X.G h126 4 16 292 #[.val (.int x0), .val (.int x1), .val (.int x2), .val (.int x3), .val (.int x4), .val (.int m), .val (.int (0 : Int32)), .val (.int (2 : Int32)), .val (.ref a116), .val (.int (2 : Int32)), .val (.ref a124), .unset] [(.int zm)]
                refine X.if_ne (q' := 297) (q := 295) at_292 rfl (by decide) rfl (fun c292 => ?_) (fun c292 => ?_)
                · refine X.aload (q := 299) at_297 rfl rfl rfl ?_
                  have H2 : own_hdr L 2 tb 3 4 (4 : Int32) (2 : Int32) := by have k2_ : (2 : Int32).toInt = 2 := rfl; have k4_ : (4 : Int32).toInt = 4 := rfl; unfold own_hdr; simp only [nL, Nat.reduceAdd, and_true]; refine ⟨?_, ?_, ?_, ?_, ?_, ?_, ?_, ?_⟩ <;> first | omega | rfl
                  refine X.virtual (a := a124) (own_skip l Z a0 hw h126 n0 a124 a116 L (2 : Int32) (6 : Int32) 2 tb 3 4 (4 : Int32) (2 : Int32) rL (by rw [nL]; rfl) (by rw [nL]; decide) rfl H2 (6 : Int32) rfl (by decide) hsh126 Ba124'h126 S1b S1p S1e AL'h126 gea124 (Nat.ne_of_gt la116_a124)) (hw _ (List.mem_of_getElem? (i := 37) rfl)) (hw _ (List.mem_of_getElem? (i := 38) rfl)) (hw _ (List.mem_of_getElem? (i := 40) rfl)) (hw _ (List.mem_of_getElem? (i := 39) rfl)) (hw _ (List.mem_of_getElem? (i := 3) rfl)) (hw _ (List.mem_of_getElem? (i := 41) rfl)) (by decide) Ba124'h126 own_pd9 (argsL := []) (rest := []) rfl rfl rfl (W := 0) (Nat.le_of_eq rfl) rfl (by decide) (by decide) (k' := 6) (n' := 23) rfl rfl (by decide) (by decide) at_299 (q := 302) rfl ?_
                  rintro _ h127 ⟨rfl, Kh127c, S2b, S2p, S2e⟩
                  have AL'h127 : OwA Z h127 a116 .byte (L.map Value.int) := OwA.keep AL'h126 Kh127c (ninS (Nat.ne_of_lt la116_a124) nin0)
                  have Ba124'h127 : Exa Z h127 a124 "com/example/dircred/dircred/credential/DerReader" := Exa.keep Ba124'h126 Kh127c
                  have hsh127 : n0 ≤ h127.size := Nat.le_trans hsh126 Kh127c.1
                  show X.G h127 6 23 302 #[.val (.int x0), .val (.int x1), .val (.int x2), .val (.int x3), .val (.int x4), .val (.int m), .val (.int (0 : Int32)), .val (.int (2 : Int32)), .val (.ref a116), .val (.int (2 : Int32)), .val (.ref a124), .unset] []
                  refine X.aload (q := 304) at_302 rfl rfl rfl ?_
                  refine X.virtual (a := a124) (own_hm l Z a0 hw h127 n0 a124 (6 : Int32) (6 : Int32) hsh127 S2p S2e) (hw _ (List.mem_of_getElem? (i := 19) rfl)) (hw _ (List.mem_of_getElem? (i := 20) rfl)) (hw _ (List.mem_of_getElem? (i := 22) rfl)) (hw _ (List.mem_of_getElem? (i := 21) rfl)) (hw _ (List.mem_of_getElem? (i := 3) rfl)) (hw _ (List.mem_of_getElem? (i := 23) rfl)) (by decide) Ba124'h127 own_pd5 (argsL := []) (rest := []) rfl rfl rfl (W := 0) (Nat.le_of_eq rfl) rfl (by decide) (by decide) (k' := 6) (n' := 23) rfl rfl (by decide) (by decide) at_304 (q := 307) rfl ?_
                  rintro _ _ ⟨zb, rfl, hzb, rfl⟩
                  show X.G h127 6 23 307 #[.val (.int x0), .val (.int x1), .val (.int x2), .val (.int x3), .val (.int x4), .val (.int m), .val (.int (0 : Int32)), .val (.int (2 : Int32)), .val (.ref a116), .val (.int (2 : Int32)), .val (.ref a124), .unset] [(.int zb)]
                  refine X.istore (q := 309) (Ls' := #[.val (.int x0), .val (.int x1), .val (.int x2), .val (.int x3), .val (.int x4), .val (.int m), .val (.int (0 : Int32)), .val (.int (2 : Int32)), .val (.ref a116), .val (.int (2 : Int32)), .val (.ref a124), .val (.int zb)]) at_307 rfl rfl ?_
                  refine X.aload (q := 311) at_309 rfl rfl rfl ?_
                  refine X.virtual (a := a124) (own_en l Z a0 hw h127 n0 a124 a116 (6 : Int32) (6 : Int32) (by decide) hsh127 Ba124'h127 S2b S2p S2e) (hw _ (List.mem_of_getElem? (i := 24) rfl)) (hw _ (List.mem_of_getElem? (i := 25) rfl)) (hw _ (List.mem_of_getElem? (i := 27) rfl)) (hw _ (List.mem_of_getElem? (i := 26) rfl)) (hw _ (List.mem_of_getElem? (i := 3) rfl)) (hw _ (List.mem_of_getElem? (i := 28) rfl)) (by decide) Ba124'h127 own_pd9 (argsL := []) (rest := []) rfl rfl rfl (W := 0) (Nat.le_of_eq rfl) rfl (by decide) (by decide) (k' := 6) (n' := 23) rfl rfl (by decide) (by decide) at_311 (q := 314) rfl ?_
                  rintro _ _ ⟨rfl, rfl⟩
                  show X.G h127 6 23 314 #[.val (.int x0), .val (.int x1), .val (.int x2), .val (.int x3), .val (.int x4), .val (.int m), .val (.int (0 : Int32)), .val (.int (2 : Int32)), .val (.ref a116), .val (.int (2 : Int32)), .val (.ref a124), .val (.int zb)] []
                  refine X.iload (q := 316) at_314 rfl rfl ?_
                  refine X.if_ne (q' := 331) (q := 319) at_316 rfl (by decide) rfl (fun c316 => ?_) (fun c316 => ?_)
                  · omega
                  · refine X.aload (q := 321) at_319 rfl rfl rfl ?_
                    refine X.virtual (a := a124) (own_hm l Z a0 hw h127 n0 a124 (6 : Int32) (6 : Int32) hsh127 S2p S2e) (hw _ (List.mem_of_getElem? (i := 19) rfl)) (hw _ (List.mem_of_getElem? (i := 20) rfl)) (hw _ (List.mem_of_getElem? (i := 22) rfl)) (hw _ (List.mem_of_getElem? (i := 21) rfl)) (hw _ (List.mem_of_getElem? (i := 3) rfl)) (hw _ (List.mem_of_getElem? (i := 23) rfl)) (by decide) Ba124'h127 own_pd5 (argsL := []) (rest := []) rfl rfl rfl (W := 0) (Nat.le_of_eq rfl) rfl (by decide) (by decide) (k' := 6) (n' := 23) rfl rfl (by decide) (by decide) at_321 (q := 324) rfl ?_
                    rintro _ _ ⟨zc, rfl, hzc, rfl⟩
                    show X.G h127 6 23 324 #[.val (.int x0), .val (.int x1), .val (.int x2), .val (.int x3), .val (.int x4), .val (.int m), .val (.int (0 : Int32)), .val (.int (2 : Int32)), .val (.ref a116), .val (.int (2 : Int32)), .val (.ref a124), .val (.int zb)] [(.int zc)]
                    refine X.if_ne (q' := 331) (q := 327) at_324 rfl (by decide) rfl (fun c324 => ?_) (fun c324 => ?_)
                    · omega
                    · refine X.iconst (q := 328) (1 : Int32) at_327 (by decide) rfl ?_
                      refine X.goto (q' := 332) at_328 (by decide) ?_
                      refine X.retN (t := .boolean) (z' := (1 : Int32)) at_332 rfl (by simp) (by decide) (by decide) (by decide) ?_
                      rfl
                · omega
          · refine X.iload (q := 90) at_88 rfl rfl ?_
            refine X.iadd (q := 91) at_90 rfl ?_
            refine X.foldI (v := (4 : Int32)) (by decide) ?_
            refine X.iload (q := 93) at_91 rfl rfl ?_
            refine X.iadd (q := 94) at_93 rfl ?_
            refine X.foldI (v := (7 : Int32)) (by decide) ?_
            refine X.newP (q := 96) (ty := .byte) (N := 7) (cap := 7) (k' := 1) (n' := 7) (hw _ (List.mem_of_getElem? (i := 0) rfl)) at_94 rfl rfl (Nat.le_refl _) (by decide) rfl rfl (by decide) (by decide) rfl (fun h128 a129 ga129 Eh128 Aa129 => ?_)
            have gea129 : n0 ≤ a129 := by rw [ga129]; exact hn0
            have hsh128 : n0 ≤ h128.size := Nat.le_trans hn0 Eh128.1
            have Aa129 : OwA Z h128 a129 .byte [(.int (0 : Int32)), (.int (0 : Int32)), (.int (0 : Int32)), (.int (0 : Int32)), (.int (0 : Int32)), (.int (0 : Int32)), (.int (0 : Int32))] := Aa129
            refine X.astore (q := 98) (Ls' := #[.val (.int x0), .val (.int x1), .val (.int x2), .val (.int x3), .val (.int x4), .val (.int m), .val (.int (0 : Int32)), .val (.int (3 : Int32)), .val (.ref a129), .unset, .unset, .unset]) at_96 rfl rfl rfl ?_
            refine X.aload (q := 100) at_98 rfl rfl rfl ?_
            refine X.iconst (q := 101) (0 : Int32) at_100 (by decide) rfl ?_
            refine X.iloadN (q := 102) at_101 rfl rfl ?_
            refine X.iload (q := 104) at_102 rfl rfl ?_
            refine X.callS (own_tag l Z a0 hw h128 n0 x1 (0 : Int32)) (hw _ (List.mem_of_getElem? (i := 30) rfl)) (hw _ (List.mem_of_getElem? (i := 31) rfl)) (hw _ (List.mem_of_getElem? (i := 32) rfl)) (hw _ (List.mem_of_getElem? (i := 33) rfl)) (by decide) own_pd6 (argsL := [(.int x1), (.int (0 : Int32))]) (rest := [(.int (0 : Int32)), (.ref a129)]) rfl rfl rfl (W := 2) (Nat.le_of_eq rfl) rfl (by decide) (by decide) (k' := 1) (n' := 7) rfl rfl (by decide) (by decide) at_104 (q := 107) rfl ?_
            rintro _ _ ⟨ta, rfl, hta, rfl⟩
            show X.G h128 1 7 107 #[.val (.int x0), .val (.int x1), .val (.int x2), .val (.int x3), .val (.int x4), .val (.int m), .val (.int (0 : Int32)), .val (.int (3 : Int32)), .val (.ref a129), .unset, .unset, .unset] [(.int ta), (.int (0 : Int32)), (.ref a129)]
            refine X.i2b (q := 108) at_107 rfl ?_
            refine X.bastore (q := 109) (j := 0) Aa129 rfl (by simp) gea129 at_108 rfl (fun h130 Wh130 Ah130 => ?_)
            have hsh130 : n0 ≤ h130.size := by rw [Wr.size Wh130]; exact hsh128
            have Ah130_ : OwA Z h130 a129 .byte [(.int (nar .byte ta.toInt8.toInt32)), (.int (0 : Int32)), (.int (0 : Int32)), (.int (0 : Int32)), (.int (0 : Int32)), (.int (0 : Int32)), (.int (0 : Int32))] := Ah130
            refine X.aload (q := 111) at_109 rfl rfl rfl ?_
            refine X.iconst (q := 112) (1 : Int32) at_111 (by decide) rfl ?_
            refine X.iload (q := 114) at_112 rfl rfl ?_
            refine X.i2b (q := 115) at_114 rfl ?_
            refine X.bastore (q := 116) (j := 1) Ah130_ rfl (by simp) gea129 at_115 rfl (fun h131 Wh131 Ah131 => ?_)
            have hsh131 : n0 ≤ h131.size := by rw [Wr.size Wh131]; exact hsh130
            have Ah131_ : OwA Z h131 a129 .byte [(.int (nar .byte ta.toInt8.toInt32)), (.int (nar .byte (0 : Int32).toInt8.toInt32)), (.int (0 : Int32)), (.int (0 : Int32)), (.int (0 : Int32)), (.int (0 : Int32)), (.int (0 : Int32))] := Ah131
            refine X.aload (q := 118) at_116 rfl rfl rfl ?_
            refine X.iconst (q := 119) (2 : Int32) at_118 (by decide) rfl ?_
            refine X.iload (q := 121) at_119 rfl rfl ?_
            refine X.iload (q := 123) at_121 rfl rfl ?_
            refine X.callS (own_put0 l Z a0 hw h131 n0 a129 (2 : Int32) x4 2 _ rfl (by simp) (by decide) hsh131 Ah131_ gea129) (hw _ (List.mem_of_getElem? (i := 34) rfl)) (hw _ (List.mem_of_getElem? (i := 35) rfl)) (hw _ (List.mem_of_getElem? (i := 32) rfl)) (hw _ (List.mem_of_getElem? (i := 36) rfl)) (by decide) own_pd7 (argsL := [(.ref a129), (.int (2 : Int32)), (.int (0 : Int32)), (.int x4)]) (rest := []) rfl rfl rfl (W := 0) (Nat.le_of_eq rfl) rfl (by decide) (by decide) (k' := 1) (n' := 7) rfl rfl (by decide) (by decide) at_123 (q := 126) rfl ?_
            rintro _ h132 ⟨rfl, Kh132c, Gu⟩
            have hsh132 : n0 ≤ h132.size := Nat.le_trans hsh131 Kh132c.1
            show X.G h132 1 7 126 #[.val (.int x0), .val (.int x1), .val (.int x2), .val (.int x3), .val (.int x4), .val (.int m), .val (.int (0 : Int32)), .val (.int (3 : Int32)), .val (.ref a129), .unset, .unset, .unset] []
            have Gu : OwA Z h132 a129 .byte [(.int (nar .byte ta.toInt8.toInt32)), (.int (nar .byte (0 : Int32).toInt8.toInt32)), (.int (0 : Int32)), (.int (0 : Int32)), (.int (0 : Int32)), (.int (0 : Int32)), (.int (0 : Int32))] := Gu
            refine X.aload (q := 128) at_126 rfl rfl rfl ?_
            refine X.iconst (q := 129) (2 : Int32) at_128 (by decide) rfl ?_
            refine X.iload (q := 131) at_129 rfl rfl ?_
            refine X.iadd (q := 132) at_131 rfl ?_
            refine X.foldI (v := (2 : Int32)) (by decide) ?_
            refine X.iloadN (q := 133) at_132 rfl rfl ?_
            refine X.iload (q := 135) at_133 rfl rfl ?_
            refine X.callS (own_tag l Z a0 hw h132 n0 x2 (3 : Int32)) (hw _ (List.mem_of_getElem? (i := 30) rfl)) (hw _ (List.mem_of_getElem? (i := 31) rfl)) (hw _ (List.mem_of_getElem? (i := 32) rfl)) (hw _ (List.mem_of_getElem? (i := 33) rfl)) (by decide) own_pd6 (argsL := [(.int x2), (.int (3 : Int32))]) (rest := [(.int (2 : Int32)), (.ref a129)]) rfl rfl rfl (W := 2) (Nat.le_of_eq rfl) rfl (by decide) (by decide) (k' := 1) (n' := 7) rfl rfl (by decide) (by decide) at_135 (q := 138) rfl ?_
            rintro _ _ ⟨tb, rfl, htb, rfl⟩
            show X.G h132 1 7 138 #[.val (.int x0), .val (.int x1), .val (.int x2), .val (.int x3), .val (.int x4), .val (.int m), .val (.int (0 : Int32)), .val (.int (3 : Int32)), .val (.ref a129), .unset, .unset, .unset] [(.int tb), (.int (2 : Int32)), (.ref a129)]
            refine X.i2b (q := 139) at_138 rfl ?_
            refine X.bastore (q := 140) (j := 2) Gu rfl (by simp) gea129 at_139 rfl (fun h133 Wh133 Ah133 => ?_)
            have hsh133 : n0 ≤ h133.size := by rw [Wr.size Wh133]; exact hsh132
            have Ah133_ : OwA Z h133 a129 .byte [(.int (nar .byte ta.toInt8.toInt32)), (.int (nar .byte (0 : Int32).toInt8.toInt32)), (.int (nar .byte tb.toInt8.toInt32)), (.int (0 : Int32)), (.int (0 : Int32)), (.int (0 : Int32)), (.int (0 : Int32))] := Ah133
            refine X.aload (q := 142) at_140 rfl rfl rfl ?_
            refine X.iconst (q := 143) (3 : Int32) at_142 (by decide) rfl ?_
            refine X.iload (q := 145) at_143 rfl rfl ?_
            refine X.iadd (q := 146) at_145 rfl ?_
            refine X.foldI (v := (3 : Int32)) (by decide) ?_
            refine X.iload (q := 148) at_146 rfl rfl ?_
            refine X.i2b (q := 149) at_148 rfl ?_
            refine X.bastore (q := 150) (j := 3) Ah133_ rfl (by simp) gea129 at_149 rfl (fun h134 Wh134 Ah134 => ?_)
            have hsh134 : n0 ≤ h134.size := by rw [Wr.size Wh134]; exact hsh133
            have Ah134_ : OwA Z h134 a129 .byte [(.int (nar .byte ta.toInt8.toInt32)), (.int (nar .byte (0 : Int32).toInt8.toInt32)), (.int (nar .byte tb.toInt8.toInt32)), (.int (nar .byte (3 : Int32).toInt8.toInt32)), (.int (0 : Int32)), (.int (0 : Int32)), (.int (0 : Int32))] := Ah134
            refine X.aload (q := 152) at_150 rfl rfl rfl ?_
            refine X.iconst (q := 153) (4 : Int32) at_152 (by decide) rfl ?_
            refine X.iload (q := 155) at_153 rfl rfl ?_
            refine X.iadd (q := 156) at_155 rfl ?_
            refine X.foldI (v := (4 : Int32)) (by decide) ?_
            refine X.iload (q := 158) at_156 rfl rfl ?_
            refine X.iload (q := 160) at_158 rfl rfl ?_
            refine X.bipush (q := 162) (8 : Int32) at_160 (by decide) rfl ?_
            refine X.iushr (q := 163) at_162 rfl ?_
            refine X.callS (own_put3 l Z a0 hw h134 n0 a129 (4 : Int32) (XT.ushr x4 (8 : Int32)) 4 _ rfl (by simp) (by decide) hsh134 Ah134_ gea129) (hw _ (List.mem_of_getElem? (i := 34) rfl)) (hw _ (List.mem_of_getElem? (i := 35) rfl)) (hw _ (List.mem_of_getElem? (i := 32) rfl)) (hw _ (List.mem_of_getElem? (i := 36) rfl)) (by decide) own_pd7 (argsL := [(.ref a129), (.int (4 : Int32)), (.int (3 : Int32)), (.int (XT.ushr x4 (8 : Int32)))]) (rest := []) rfl rfl rfl (W := 0) (Nat.le_of_eq rfl) rfl (by decide) (by decide) (k' := 1) (n' := 7) rfl rfl (by decide) (by decide) at_163 (q := 166) rfl ?_
            rintro _ h135 ⟨v0, v1, v2, rfl, Kh135c, Gv⟩
            have hsh135 : n0 ≤ h135.size := Nat.le_trans hsh134 Kh135c.1
            show X.G h135 1 7 166 #[.val (.int x0), .val (.int x1), .val (.int x2), .val (.int x3), .val (.int x4), .val (.int m), .val (.int (0 : Int32)), .val (.int (3 : Int32)), .val (.ref a129), .unset, .unset, .unset] []
            have Gv : OwA Z h135 a129 .byte [(.int (nar .byte ta.toInt8.toInt32)), (.int (nar .byte (0 : Int32).toInt8.toInt32)), (.int (nar .byte tb.toInt8.toInt32)), (.int (nar .byte (3 : Int32).toInt8.toInt32)), (.int (nar .byte v0.toInt8.toInt32)), (.int (nar .byte v1.toInt8.toInt32)), (.int (nar .byte v2.toInt8.toInt32))] := Gv
            refine X.iconst (q := 167) (2 : Int32) at_166 (by decide) rfl ?_
            refine X.istore (q := 169) (Ls' := #[.val (.int x0), .val (.int x1), .val (.int x2), .val (.int x3), .val (.int x4), .val (.int m), .val (.int (0 : Int32)), .val (.int (3 : Int32)), .val (.ref a129), .val (.int (2 : Int32)), .unset, .unset]) at_167 rfl rfl ?_
            refine X.goto (q' := 259) at_169 (by decide) ?_
            refine X.newO (q := 262) (k' := 2) (n' := 10) (hw _ (List.mem_of_getElem? (i := 1) rfl)) (hw _ (List.mem_of_getElem? (i := 2) rfl)) (hw _ (List.mem_of_getElem? (i := 3) rfl)) at_259 rfl rfl (by decide) (by decide) rfl (fun h136 a137 ga137 Eh136 Ba137 Da137 => ?_)
            have la129_a137 : a129 < a137 := by have := Gv.lt; rw [← ga137] at this; exact this
            have Gv'h136 : OwA Z h136 a129 .byte [(.int (nar .byte ta.toInt8.toInt32)), (.int (nar .byte (0 : Int32).toInt8.toInt32)), (.int (nar .byte tb.toInt8.toInt32)), (.int (nar .byte (3 : Int32).toInt8.toInt32)), (.int (nar .byte v0.toInt8.toInt32)), (.int (nar .byte v1.toInt8.toInt32)), (.int (nar .byte v2.toInt8.toInt32))] := OwA.ext (E := Eh136) Gv
            have gea137 : n0 ≤ a137 := by rw [ga137]; exact hsh135
            have hsh136 : n0 ≤ h136.size := Nat.le_trans hsh135 Eh136.1
            have Fa137_bytes : Fld Z h136 a137 "com/example/dircred/dircred/credential/DerReader" "bytes" "[B" .null := Da137 (Or.inr (hw _ (List.mem_of_getElem? (i := 14) rfl))) (ty := (.array .byte)) (by decide)
            have Fa137_position : Fld Z h136 a137 "com/example/dircred/dircred/credential/DerReader" "position" "I" (.int (0 : Int32)) := Da137 (Or.inl (hw _ (List.mem_of_getElem? (i := 16) rfl))) (ty := .int) (by decide)
            have Fa137_end : Fld Z h136 a137 "com/example/dircred/dircred/credential/DerReader" "end" "I" (.int (0 : Int32)) := Da137 (Or.inr (hw _ (List.mem_of_getElem? (i := 18) rfl))) (ty := .int) (by decide)
            refine X.dup (q := 263) at_262 rfl rfl ?_
            refine X.aload (q := 265) at_263 rfl rfl rfl ?_
            obtain ⟨L, hL⟩ : ∃ L_ : List Int32, L_ = [(nar .byte ta.toInt8.toInt32), (nar .byte (0 : Int32).toInt8.toInt32), (nar .byte tb.toInt8.toInt32), (nar .byte (3 : Int32).toInt8.toInt32), (nar .byte v0.toInt8.toInt32), (nar .byte v1.toInt8.toInt32), (nar .byte v2.toInt8.toInt32)] := ⟨_, rfl⟩
            have AL : OwA Z h136 a129 .byte (L.map Value.int) := by rw [hL]; exact Gv'h136
            have nL : L.length = 7 := by rw [hL]; rfl
            have gL0 : (L.getD 0 0).toInt = (ta.toInt + 128) % 256 - 128 := by rw [hL]; exact own_nbt _
            have gL1 : (L.getD 1 0).toInt = ((0 : Int32).toInt + 128) % 256 - 128 := by rw [hL]; exact own_nbt _
            have gL2 : (L.getD 2 0).toInt = (tb.toInt + 128) % 256 - 128 := by rw [hL]; exact own_nbt _
            have gL3 : (L.getD 3 0).toInt = ((3 : Int32).toInt + 128) % 256 - 128 := by rw [hL]; exact own_nbt _
            have gL4 : (L.getD 4 0).toInt = (v0.toInt + 128) % 256 - 128 := by rw [hL]; exact own_nbt _
            have gL5 : (L.getD 5 0).toInt = (v1.toInt + 128) % 256 - 128 := by rw [hL]; exact own_nbt _
            have gL6 : (L.getD 6 0).toInt = (v2.toInt + 128) % 256 - 128 := by rw [hL]; exact own_nbt _
            have rL : ∀ x ∈ L, -128 ≤ x.toInt ∧ x.toInt ≤ 127 := by
              intro x hx; rw [hL] at hx
              simp only [List.mem_cons, List.not_mem_nil, or_false] at hx
              rcases hx with rfl | rfl | rfl | rfl | rfl | rfl | rfl
              · rw [own_nbt]; omega
              · rw [own_nbt]; omega
              · rw [own_nbt]; omega
              · rw [own_nbt]; omega
              · rw [own_nbt]; omega
              · rw [own_nbt]; omega
              · rw [own_nbt]; omega
            clear hL
            refine X.special (a := a137) (own_i1 l Z a0 hw h136 n0 a137 a129 L (7 : Int32) (by rw [nL]; rfl) hsh136 Ba137 Fa137_bytes Fa137_position Fa137_end AL gea137 (Nat.ne_of_gt la129_a137)) rfl (hw _ (List.mem_of_getElem? (i := 4) rfl)) (hw _ (List.mem_of_getElem? (i := 5) rfl)) (hw _ (List.mem_of_getElem? (i := 3) rfl)) (hw _ (List.mem_of_getElem? (i := 6) rfl)) (by decide) own_pd8 (argsL := [(.ref a129)]) (rest := [(.ref a137)]) rfl rfl rfl (W := 1) (Nat.le_of_eq rfl) rfl (by decide) (by decide) (k' := 2) (n' := 10) rfl rfl (by decide) (by decide) at_265 (q := 268) rfl ?_
            rintro _ h138 ⟨rfl, Kh138c, Db, Dp, De⟩
            have AL'h138 : OwA Z h138 a129 .byte (L.map Value.int) := OwA.keep AL Kh138c (ninS (Nat.ne_of_lt la129_a137) nin0)
            have Ba137'h138 : Exa Z h138 a137 "com/example/dircred/dircred/credential/DerReader" := Exa.keep Ba137 Kh138c
            have hsh138 : n0 ≤ h138.size := Nat.le_trans hsh136 Kh138c.1
            show X.G h138 2 10 268 #[.val (.int x0), .val (.int x1), .val (.int x2), .val (.int x3), .val (.int x4), .val (.int m), .val (.int (0 : Int32)), .val (.int (3 : Int32)), .val (.ref a129), .val (.int (2 : Int32)), .unset, .unset] [(.ref a137)]
            refine X.astore (q := 270) (Ls' := #[.val (.int x0), .val (.int x1), .val (.int x2), .val (.int x3), .val (.int x4), .val (.int m), .val (.int (0 : Int32)), .val (.int (3 : Int32)), .val (.ref a129), .val (.int (2 : Int32)), .val (.ref a137), .unset]) at_268 rfl rfl rfl ?_
            refine X.iload (q := 272) at_270 rfl rfl ?_
            refine X.iconst (q := 273) (1 : Int32) at_272 (by decide) rfl ?_
            refine X.icmp_lt (a := 2) (b := 1) (q' := 281) (q := 276) at_273 rfl rfl (by decide) rfl (fun c273 => ?_) (fun c273 => ?_)
            · omega
            · refine X.aload (q := 278) at_276 rfl rfl rfl ?_
              have H1 : own_hdr L 0 ta 1 2 (2 : Int32) (0 : Int32) := by have k0_ : (0 : Int32).toInt = 0 := rfl; have k2_ : (2 : Int32).toInt = 2 := rfl; unfold own_hdr; simp only [nL, Nat.reduceAdd, and_true]; refine ⟨?_, ?_, ?_, ?_, ?_, ?_, ?_, ?_⟩ <;> first | omega | rfl
              refine X.virtual (a := a137) (own_skip l Z a0 hw h138 n0 a137 a129 L (0 : Int32) (7 : Int32) 0 ta 1 2 (2 : Int32) (0 : Int32) rL (by rw [nL]; rfl) (by rw [nL]; decide) rfl H1 (2 : Int32) rfl (by decide) hsh138 Ba137'h138 Db Dp De AL'h138 gea137 (Nat.ne_of_gt la129_a137)) (hw _ (List.mem_of_getElem? (i := 37) rfl)) (hw _ (List.mem_of_getElem? (i := 38) rfl)) (hw _ (List.mem_of_getElem? (i := 40) rfl)) (hw _ (List.mem_of_getElem? (i := 39) rfl)) (hw _ (List.mem_of_getElem? (i := 3) rfl)) (hw _ (List.mem_of_getElem? (i := 41) rfl)) (by decide) Ba137'h138 own_pd9 (argsL := []) (rest := []) rfl rfl rfl (W := 0) (Nat.le_of_eq rfl) rfl (by decide) (by decide) (k' := 4) (n' := 17) rfl rfl (by decide) (by decide) at_278 (q := 281) rfl ?_
              rintro _ h139 ⟨rfl, Kh139c, S1b, S1p, S1e⟩
              have AL'h139 : OwA Z h139 a129 .byte (L.map Value.int) := OwA.keep AL'h138 Kh139c (ninS (Nat.ne_of_lt la129_a137) nin0)
              have Ba137'h139 : Exa Z h139 a137 "com/example/dircred/dircred/credential/DerReader" := Exa.keep Ba137'h138 Kh139c
              have hsh139 : n0 ≤ h139.size := Nat.le_trans hsh138 Kh139c.1
              show X.G h139 4 17 281 #[.val (.int x0), .val (.int x1), .val (.int x2), .val (.int x3), .val (.int x4), .val (.int m), .val (.int (0 : Int32)), .val (.int (3 : Int32)), .val (.ref a129), .val (.int (2 : Int32)), .val (.ref a137), .unset] []
              refine X.iload (q := 283) at_281 rfl rfl ?_
              refine X.iconst (q := 284) (2 : Int32) at_283 (by decide) rfl ?_
              refine X.icmp_ne (a := 2) (b := 2) (q' := 302) (q := 287) at_284 rfl rfl (by decide) rfl (fun c284 => ?_) (fun c284 => ?_)
              · omega
              · refine X.aload (q := 289) at_287 rfl rfl rfl ?_
                refine X.virtual (a := a137) (own_hm l Z a0 hw h139 n0 a137 (2 : Int32) (7 : Int32) hsh139 S1p S1e) (hw _ (List.mem_of_getElem? (i := 19) rfl)) (hw _ (List.mem_of_getElem? (i := 20) rfl)) (hw _ (List.mem_of_getElem? (i := 22) rfl)) (hw _ (List.mem_of_getElem? (i := 21) rfl)) (hw _ (List.mem_of_getElem? (i := 3) rfl)) (hw _ (List.mem_of_getElem? (i := 23) rfl)) (by decide) Ba137'h139 own_pd5 (argsL := []) (rest := []) rfl rfl rfl (W := 0) (Nat.le_of_eq rfl) rfl (by decide) (by decide) (k' := 4) (n' := 17) rfl rfl (by decide) (by decide) at_289 (q := 292) rfl ?_
                rintro _ _ ⟨zm, rfl, hzm, rfl⟩
                show X.G h139 4 17 292 #[.val (.int x0), .val (.int x1), .val (.int x2), .val (.int x3), .val (.int x4), .val (.int m), .val (.int (0 : Int32)), .val (.int (3 : Int32)), .val (.ref a129), .val (.int (2 : Int32)), .val (.ref a137), .unset] [(.int zm)]
                refine X.if_ne (q' := 297) (q := 295) at_292 rfl (by decide) rfl (fun c292 => ?_) (fun c292 => ?_)
                · refine X.aload (q := 299) at_297 rfl rfl rfl ?_
                  have H2 : own_hdr L 2 tb 3 4 (4 : Int32) (3 : Int32) := by have k3_ : (3 : Int32).toInt = 3 := rfl; have k4_ : (4 : Int32).toInt = 4 := rfl; unfold own_hdr; simp only [nL, Nat.reduceAdd, and_true]; refine ⟨?_, ?_, ?_, ?_, ?_, ?_, ?_, ?_⟩ <;> first | omega | rfl
                  refine X.virtual (a := a137) (own_skip l Z a0 hw h139 n0 a137 a129 L (2 : Int32) (7 : Int32) 2 tb 3 4 (4 : Int32) (3 : Int32) rL (by rw [nL]; rfl) (by rw [nL]; decide) rfl H2 (7 : Int32) rfl (by decide) hsh139 Ba137'h139 S1b S1p S1e AL'h139 gea137 (Nat.ne_of_gt la129_a137)) (hw _ (List.mem_of_getElem? (i := 37) rfl)) (hw _ (List.mem_of_getElem? (i := 38) rfl)) (hw _ (List.mem_of_getElem? (i := 40) rfl)) (hw _ (List.mem_of_getElem? (i := 39) rfl)) (hw _ (List.mem_of_getElem? (i := 3) rfl)) (hw _ (List.mem_of_getElem? (i := 41) rfl)) (by decide) Ba137'h139 own_pd9 (argsL := []) (rest := []) rfl rfl rfl (W := 0) (Nat.le_of_eq rfl) rfl (by decide) (by decide) (k' := 6) (n' := 24) rfl rfl (by decide) (by decide) at_299 (q := 302) rfl ?_
                  rintro _ h140 ⟨rfl, Kh140c, S2b, S2p, S2e⟩
                  have AL'h140 : OwA Z h140 a129 .byte (L.map Value.int) := OwA.keep AL'h139 Kh140c (ninS (Nat.ne_of_lt la129_a137) nin0)
                  have Ba137'h140 : Exa Z h140 a137 "com/example/dircred/dircred/credential/DerReader" := Exa.keep Ba137'h139 Kh140c
                  have hsh140 : n0 ≤ h140.size := Nat.le_trans hsh139 Kh140c.1
                  show X.G h140 6 24 302 #[.val (.int x0), .val (.int x1), .val (.int x2), .val (.int x3), .val (.int x4), .val (.int m), .val (.int (0 : Int32)), .val (.int (3 : Int32)), .val (.ref a129), .val (.int (2 : Int32)), .val (.ref a137), .unset] []
                  refine X.aload (q := 304) at_302 rfl rfl rfl ?_
                  refine X.virtual (a := a137) (own_hm l Z a0 hw h140 n0 a137 (7 : Int32) (7 : Int32) hsh140 S2p S2e) (hw _ (List.mem_of_getElem? (i := 19) rfl)) (hw _ (List.mem_of_getElem? (i := 20) rfl)) (hw _ (List.mem_of_getElem? (i := 22) rfl)) (hw _ (List.mem_of_getElem? (i := 21) rfl)) (hw _ (List.mem_of_getElem? (i := 3) rfl)) (hw _ (List.mem_of_getElem? (i := 23) rfl)) (by decide) Ba137'h140 own_pd5 (argsL := []) (rest := []) rfl rfl rfl (W := 0) (Nat.le_of_eq rfl) rfl (by decide) (by decide) (k' := 6) (n' := 24) rfl rfl (by decide) (by decide) at_304 (q := 307) rfl ?_
                  rintro _ _ ⟨zb, rfl, hzb, rfl⟩
                  show X.G h140 6 24 307 #[.val (.int x0), .val (.int x1), .val (.int x2), .val (.int x3), .val (.int x4), .val (.int m), .val (.int (0 : Int32)), .val (.int (3 : Int32)), .val (.ref a129), .val (.int (2 : Int32)), .val (.ref a137), .unset] [(.int zb)]
                  refine X.istore (q := 309) (Ls' := #[.val (.int x0), .val (.int x1), .val (.int x2), .val (.int x3), .val (.int x4), .val (.int m), .val (.int (0 : Int32)), .val (.int (3 : Int32)), .val (.ref a129), .val (.int (2 : Int32)), .val (.ref a137), .val (.int zb)]) at_307 rfl rfl ?_
                  refine X.aload (q := 311) at_309 rfl rfl rfl ?_
                  refine X.virtual (a := a137) (own_en l Z a0 hw h140 n0 a137 a129 (7 : Int32) (7 : Int32) (by decide) hsh140 Ba137'h140 S2b S2p S2e) (hw _ (List.mem_of_getElem? (i := 24) rfl)) (hw _ (List.mem_of_getElem? (i := 25) rfl)) (hw _ (List.mem_of_getElem? (i := 27) rfl)) (hw _ (List.mem_of_getElem? (i := 26) rfl)) (hw _ (List.mem_of_getElem? (i := 3) rfl)) (hw _ (List.mem_of_getElem? (i := 28) rfl)) (by decide) Ba137'h140 own_pd9 (argsL := []) (rest := []) rfl rfl rfl (W := 0) (Nat.le_of_eq rfl) rfl (by decide) (by decide) (k' := 6) (n' := 24) rfl rfl (by decide) (by decide) at_311 (q := 314) rfl ?_
                  rintro _ _ ⟨rfl, rfl⟩
                  show X.G h140 6 24 314 #[.val (.int x0), .val (.int x1), .val (.int x2), .val (.int x3), .val (.int x4), .val (.int m), .val (.int (0 : Int32)), .val (.int (3 : Int32)), .val (.ref a129), .val (.int (2 : Int32)), .val (.ref a137), .val (.int zb)] []
                  refine X.iload (q := 316) at_314 rfl rfl ?_
                  refine X.if_ne (q' := 331) (q := 319) at_316 rfl (by decide) rfl (fun c316 => ?_) (fun c316 => ?_)
                  · omega
                  · refine X.aload (q := 321) at_319 rfl rfl rfl ?_
                    refine X.virtual (a := a137) (own_hm l Z a0 hw h140 n0 a137 (7 : Int32) (7 : Int32) hsh140 S2p S2e) (hw _ (List.mem_of_getElem? (i := 19) rfl)) (hw _ (List.mem_of_getElem? (i := 20) rfl)) (hw _ (List.mem_of_getElem? (i := 22) rfl)) (hw _ (List.mem_of_getElem? (i := 21) rfl)) (hw _ (List.mem_of_getElem? (i := 3) rfl)) (hw _ (List.mem_of_getElem? (i := 23) rfl)) (by decide) Ba137'h140 own_pd5 (argsL := []) (rest := []) rfl rfl rfl (W := 0) (Nat.le_of_eq rfl) rfl (by decide) (by decide) (k' := 6) (n' := 24) rfl rfl (by decide) (by decide) at_321 (q := 324) rfl ?_
                    rintro _ _ ⟨zc, rfl, hzc, rfl⟩
                    show X.G h140 6 24 324 #[.val (.int x0), .val (.int x1), .val (.int x2), .val (.int x3), .val (.int x4), .val (.int m), .val (.int (0 : Int32)), .val (.int (3 : Int32)), .val (.ref a129), .val (.int (2 : Int32)), .val (.ref a137), .val (.int zb)] [(.int zc)]
                    refine X.if_ne (q' := 331) (q := 327) at_324 rfl (by decide) rfl (fun c324 => ?_) (fun c324 => ?_)
                    · omega
                    · refine X.iconst (q := 328) (1 : Int32) at_327 (by decide) rfl ?_
                      refine X.goto (q' := 332) at_328 (by decide) ?_
                      refine X.retN (t := .boolean) (z' := (1 : Int32)) at_332 rfl (by simp) (by decide) (by decide) (by decide) ?_
                      rfl
                · omega
        · refine X.iconst (q := 88) (4 : Int32) at_87 (by decide) rfl ?_
          have hsp : l2 = (0 : Int32) ∨ l2 = (1 : Int32) ∨ l2 = (2 : Int32) ∨ l2 = (3 : Int32) := (by have q_ : l2.toInt = 0 ∨ l2.toInt = 1 ∨ l2.toInt = 2 ∨ l2.toInt = 3 := (by omega); exact (Or.imp (fun e_ => Int32.toInt_inj.mp e_) (Or.imp (fun e_ => Int32.toInt_inj.mp e_) (Or.imp (fun e_ => Int32.toInt_inj.mp e_) (fun e_ => Int32.toInt_inj.mp e_)))) q_)
          rcases hsp with rfl | rfl | rfl | rfl
          · refine X.iload (q := 90) at_88 rfl rfl ?_
            refine X.iadd (q := 91) at_90 rfl ?_
            refine X.foldI (v := (5 : Int32)) (by decide) ?_
            refine X.iload (q := 93) at_91 rfl rfl ?_
            refine X.iadd (q := 94) at_93 rfl ?_
            refine X.foldI (v := (5 : Int32)) (by decide) ?_
            refine X.newP (q := 96) (ty := .byte) (N := 5) (cap := 5) (k' := 1) (n' := 5) (hw _ (List.mem_of_getElem? (i := 0) rfl)) at_94 rfl rfl (Nat.le_refl _) (by decide) rfl rfl (by decide) (by decide) rfl (fun h141 a142 ga142 Eh141 Aa142 => ?_)
            have gea142 : n0 ≤ a142 := by rw [ga142]; exact hn0
            have hsh141 : n0 ≤ h141.size := Nat.le_trans hn0 Eh141.1
            have Aa142 : OwA Z h141 a142 .byte [(.int (0 : Int32)), (.int (0 : Int32)), (.int (0 : Int32)), (.int (0 : Int32)), (.int (0 : Int32))] := Aa142
            refine X.astore (q := 98) (Ls' := #[.val (.int x0), .val (.int x1), .val (.int x2), .val (.int x3), .val (.int x4), .val (.int m), .val (.int (1 : Int32)), .val (.int (0 : Int32)), .val (.ref a142), .unset, .unset, .unset]) at_96 rfl rfl rfl ?_
            refine X.aload (q := 100) at_98 rfl rfl rfl ?_
            refine X.iconst (q := 101) (0 : Int32) at_100 (by decide) rfl ?_
            refine X.iloadN (q := 102) at_101 rfl rfl ?_
            refine X.iload (q := 104) at_102 rfl rfl ?_
            refine X.callS (own_tag l Z a0 hw h141 n0 x1 (1 : Int32)) (hw _ (List.mem_of_getElem? (i := 30) rfl)) (hw _ (List.mem_of_getElem? (i := 31) rfl)) (hw _ (List.mem_of_getElem? (i := 32) rfl)) (hw _ (List.mem_of_getElem? (i := 33) rfl)) (by decide) own_pd6 (argsL := [(.int x1), (.int (1 : Int32))]) (rest := [(.int (0 : Int32)), (.ref a142)]) rfl rfl rfl (W := 2) (Nat.le_of_eq rfl) rfl (by decide) (by decide) (k' := 1) (n' := 5) rfl rfl (by decide) (by decide) at_104 (q := 107) rfl ?_
            rintro _ _ ⟨ta, rfl, hta, rfl⟩
            show X.G h141 1 5 107 #[.val (.int x0), .val (.int x1), .val (.int x2), .val (.int x3), .val (.int x4), .val (.int m), .val (.int (1 : Int32)), .val (.int (0 : Int32)), .val (.ref a142), .unset, .unset, .unset] [(.int ta), (.int (0 : Int32)), (.ref a142)]
            refine X.i2b (q := 108) at_107 rfl ?_
            refine X.bastore (q := 109) (j := 0) Aa142 rfl (by simp) gea142 at_108 rfl (fun h143 Wh143 Ah143 => ?_)
            have hsh143 : n0 ≤ h143.size := by rw [Wr.size Wh143]; exact hsh141
            have Ah143_ : OwA Z h143 a142 .byte [(.int (nar .byte ta.toInt8.toInt32)), (.int (0 : Int32)), (.int (0 : Int32)), (.int (0 : Int32)), (.int (0 : Int32))] := Ah143
            refine X.aload (q := 111) at_109 rfl rfl rfl ?_
            refine X.iconst (q := 112) (1 : Int32) at_111 (by decide) rfl ?_
            refine X.iload (q := 114) at_112 rfl rfl ?_
            refine X.i2b (q := 115) at_114 rfl ?_
            refine X.bastore (q := 116) (j := 1) Ah143_ rfl (by simp) gea142 at_115 rfl (fun h144 Wh144 Ah144 => ?_)
            have hsh144 : n0 ≤ h144.size := by rw [Wr.size Wh144]; exact hsh143
            have Ah144_ : OwA Z h144 a142 .byte [(.int (nar .byte ta.toInt8.toInt32)), (.int (nar .byte (1 : Int32).toInt8.toInt32)), (.int (0 : Int32)), (.int (0 : Int32)), (.int (0 : Int32))] := Ah144
            refine X.aload (q := 118) at_116 rfl rfl rfl ?_
            refine X.iconst (q := 119) (2 : Int32) at_118 (by decide) rfl ?_
            refine X.iload (q := 121) at_119 rfl rfl ?_
            refine X.iload (q := 123) at_121 rfl rfl ?_
            refine X.callS (own_put1 l Z a0 hw h144 n0 a142 (2 : Int32) x4 2 _ rfl (by simp) (by decide) hsh144 Ah144_ gea142) (hw _ (List.mem_of_getElem? (i := 34) rfl)) (hw _ (List.mem_of_getElem? (i := 35) rfl)) (hw _ (List.mem_of_getElem? (i := 32) rfl)) (hw _ (List.mem_of_getElem? (i := 36) rfl)) (by decide) own_pd7 (argsL := [(.ref a142), (.int (2 : Int32)), (.int (1 : Int32)), (.int x4)]) (rest := []) rfl rfl rfl (W := 0) (Nat.le_of_eq rfl) rfl (by decide) (by decide) (k' := 1) (n' := 5) rfl rfl (by decide) (by decide) at_123 (q := 126) rfl ?_
            rintro _ h145 ⟨u0, rfl, Kh145c, Gu⟩
            have hsh145 : n0 ≤ h145.size := Nat.le_trans hsh144 Kh145c.1
            show X.G h145 1 5 126 #[.val (.int x0), .val (.int x1), .val (.int x2), .val (.int x3), .val (.int x4), .val (.int m), .val (.int (1 : Int32)), .val (.int (0 : Int32)), .val (.ref a142), .unset, .unset, .unset] []
            have Gu : OwA Z h145 a142 .byte [(.int (nar .byte ta.toInt8.toInt32)), (.int (nar .byte (1 : Int32).toInt8.toInt32)), (.int (nar .byte u0.toInt8.toInt32)), (.int (0 : Int32)), (.int (0 : Int32))] := Gu
            refine X.aload (q := 128) at_126 rfl rfl rfl ?_
            refine X.iconst (q := 129) (2 : Int32) at_128 (by decide) rfl ?_
            refine X.iload (q := 131) at_129 rfl rfl ?_
            refine X.iadd (q := 132) at_131 rfl ?_
            refine X.foldI (v := (3 : Int32)) (by decide) ?_
            refine X.iloadN (q := 133) at_132 rfl rfl ?_
            refine X.iload (q := 135) at_133 rfl rfl ?_
            refine X.callS (own_tag l Z a0 hw h145 n0 x2 (0 : Int32)) (hw _ (List.mem_of_getElem? (i := 30) rfl)) (hw _ (List.mem_of_getElem? (i := 31) rfl)) (hw _ (List.mem_of_getElem? (i := 32) rfl)) (hw _ (List.mem_of_getElem? (i := 33) rfl)) (by decide) own_pd6 (argsL := [(.int x2), (.int (0 : Int32))]) (rest := [(.int (3 : Int32)), (.ref a142)]) rfl rfl rfl (W := 2) (Nat.le_of_eq rfl) rfl (by decide) (by decide) (k' := 1) (n' := 5) rfl rfl (by decide) (by decide) at_135 (q := 138) rfl ?_
            rintro _ _ ⟨tb, rfl, htb, rfl⟩
            show X.G h145 1 5 138 #[.val (.int x0), .val (.int x1), .val (.int x2), .val (.int x3), .val (.int x4), .val (.int m), .val (.int (1 : Int32)), .val (.int (0 : Int32)), .val (.ref a142), .unset, .unset, .unset] [(.int tb), (.int (3 : Int32)), (.ref a142)]
            refine X.i2b (q := 139) at_138 rfl ?_
            refine X.bastore (q := 140) (j := 3) Gu rfl (by simp) gea142 at_139 rfl (fun h146 Wh146 Ah146 => ?_)
            have hsh146 : n0 ≤ h146.size := by rw [Wr.size Wh146]; exact hsh145
            have Ah146_ : OwA Z h146 a142 .byte [(.int (nar .byte ta.toInt8.toInt32)), (.int (nar .byte (1 : Int32).toInt8.toInt32)), (.int (nar .byte u0.toInt8.toInt32)), (.int (nar .byte tb.toInt8.toInt32)), (.int (0 : Int32))] := Ah146
            refine X.aload (q := 142) at_140 rfl rfl rfl ?_
            refine X.iconst (q := 143) (3 : Int32) at_142 (by decide) rfl ?_
            refine X.iload (q := 145) at_143 rfl rfl ?_
            refine X.iadd (q := 146) at_145 rfl ?_
            refine X.foldI (v := (4 : Int32)) (by decide) ?_
            refine X.iload (q := 148) at_146 rfl rfl ?_
            refine X.i2b (q := 149) at_148 rfl ?_
            refine X.bastore (q := 150) (j := 4) Ah146_ rfl (by simp) gea142 at_149 rfl (fun h147 Wh147 Ah147 => ?_)
            have hsh147 : n0 ≤ h147.size := by rw [Wr.size Wh147]; exact hsh146
            have Ah147_ : OwA Z h147 a142 .byte [(.int (nar .byte ta.toInt8.toInt32)), (.int (nar .byte (1 : Int32).toInt8.toInt32)), (.int (nar .byte u0.toInt8.toInt32)), (.int (nar .byte tb.toInt8.toInt32)), (.int (nar .byte (0 : Int32).toInt8.toInt32))] := Ah147
            refine X.aload (q := 152) at_150 rfl rfl rfl ?_
            refine X.iconst (q := 153) (4 : Int32) at_152 (by decide) rfl ?_
            refine X.iload (q := 155) at_153 rfl rfl ?_
            refine X.iadd (q := 156) at_155 rfl ?_
            refine X.foldI (v := (5 : Int32)) (by decide) ?_
            refine X.iload (q := 158) at_156 rfl rfl ?_
            refine X.iload (q := 160) at_158 rfl rfl ?_
            refine X.bipush (q := 162) (8 : Int32) at_160 (by decide) rfl ?_
            refine X.iushr (q := 163) at_162 rfl ?_
            refine X.callS (own_put0 l Z a0 hw h147 n0 a142 (5 : Int32) (XT.ushr x4 (8 : Int32)) 5 _ rfl (by simp) (by decide) hsh147 Ah147_ gea142) (hw _ (List.mem_of_getElem? (i := 34) rfl)) (hw _ (List.mem_of_getElem? (i := 35) rfl)) (hw _ (List.mem_of_getElem? (i := 32) rfl)) (hw _ (List.mem_of_getElem? (i := 36) rfl)) (by decide) own_pd7 (argsL := [(.ref a142), (.int (5 : Int32)), (.int (0 : Int32)), (.int (XT.ushr x4 (8 : Int32)))]) (rest := []) rfl rfl rfl (W := 0) (Nat.le_of_eq rfl) rfl (by decide) (by decide) (k' := 1) (n' := 5) rfl rfl (by decide) (by decide) at_163 (q := 166) rfl ?_
            rintro _ h148 ⟨rfl, Kh148c, Gv⟩
            have hsh148 : n0 ≤ h148.size := Nat.le_trans hsh147 Kh148c.1
            show X.G h148 1 5 166 #[.val (.int x0), .val (.int x1), .val (.int x2), .val (.int x3), .val (.int x4), .val (.int m), .val (.int (1 : Int32)), .val (.int (0 : Int32)), .val (.ref a142), .unset, .unset, .unset] []
            have Gv : OwA Z h148 a142 .byte [(.int (nar .byte ta.toInt8.toInt32)), (.int (nar .byte (1 : Int32).toInt8.toInt32)), (.int (nar .byte u0.toInt8.toInt32)), (.int (nar .byte tb.toInt8.toInt32)), (.int (nar .byte (0 : Int32).toInt8.toInt32))] := Gv
            refine X.iconst (q := 167) (2 : Int32) at_166 (by decide) rfl ?_
            refine X.istore (q := 169) (Ls' := #[.val (.int x0), .val (.int x1), .val (.int x2), .val (.int x3), .val (.int x4), .val (.int m), .val (.int (1 : Int32)), .val (.int (0 : Int32)), .val (.ref a142), .val (.int (2 : Int32)), .unset, .unset]) at_167 rfl rfl ?_
            refine X.goto (q' := 259) at_169 (by decide) ?_
            refine X.newO (q := 262) (k' := 2) (n' := 8) (hw _ (List.mem_of_getElem? (i := 1) rfl)) (hw _ (List.mem_of_getElem? (i := 2) rfl)) (hw _ (List.mem_of_getElem? (i := 3) rfl)) at_259 rfl rfl (by decide) (by decide) rfl (fun h149 a150 ga150 Eh149 Ba150 Da150 => ?_)
            have la142_a150 : a142 < a150 := by have := Gv.lt; rw [← ga150] at this; exact this
            have Gv'h149 : OwA Z h149 a142 .byte [(.int (nar .byte ta.toInt8.toInt32)), (.int (nar .byte (1 : Int32).toInt8.toInt32)), (.int (nar .byte u0.toInt8.toInt32)), (.int (nar .byte tb.toInt8.toInt32)), (.int (nar .byte (0 : Int32).toInt8.toInt32))] := OwA.ext (E := Eh149) Gv
            have gea150 : n0 ≤ a150 := by rw [ga150]; exact hsh148
            have hsh149 : n0 ≤ h149.size := Nat.le_trans hsh148 Eh149.1
            have Fa150_bytes : Fld Z h149 a150 "com/example/dircred/dircred/credential/DerReader" "bytes" "[B" .null := Da150 (Or.inr (hw _ (List.mem_of_getElem? (i := 14) rfl))) (ty := (.array .byte)) (by decide)
            have Fa150_position : Fld Z h149 a150 "com/example/dircred/dircred/credential/DerReader" "position" "I" (.int (0 : Int32)) := Da150 (Or.inl (hw _ (List.mem_of_getElem? (i := 16) rfl))) (ty := .int) (by decide)
            have Fa150_end : Fld Z h149 a150 "com/example/dircred/dircred/credential/DerReader" "end" "I" (.int (0 : Int32)) := Da150 (Or.inr (hw _ (List.mem_of_getElem? (i := 18) rfl))) (ty := .int) (by decide)
            refine X.dup (q := 263) at_262 rfl rfl ?_
            refine X.aload (q := 265) at_263 rfl rfl rfl ?_
            obtain ⟨L, hL⟩ : ∃ L_ : List Int32, L_ = [(nar .byte ta.toInt8.toInt32), (nar .byte (1 : Int32).toInt8.toInt32), (nar .byte u0.toInt8.toInt32), (nar .byte tb.toInt8.toInt32), (nar .byte (0 : Int32).toInt8.toInt32)] := ⟨_, rfl⟩
            have AL : OwA Z h149 a142 .byte (L.map Value.int) := by rw [hL]; exact Gv'h149
            have nL : L.length = 5 := by rw [hL]; rfl
            have gL0 : (L.getD 0 0).toInt = (ta.toInt + 128) % 256 - 128 := by rw [hL]; exact own_nbt _
            have gL1 : (L.getD 1 0).toInt = ((1 : Int32).toInt + 128) % 256 - 128 := by rw [hL]; exact own_nbt _
            have gL2 : (L.getD 2 0).toInt = (u0.toInt + 128) % 256 - 128 := by rw [hL]; exact own_nbt _
            have gL3 : (L.getD 3 0).toInt = (tb.toInt + 128) % 256 - 128 := by rw [hL]; exact own_nbt _
            have gL4 : (L.getD 4 0).toInt = ((0 : Int32).toInt + 128) % 256 - 128 := by rw [hL]; exact own_nbt _
            have rL : ∀ x ∈ L, -128 ≤ x.toInt ∧ x.toInt ≤ 127 := by
              intro x hx; rw [hL] at hx
              simp only [List.mem_cons, List.not_mem_nil, or_false] at hx
              rcases hx with rfl | rfl | rfl | rfl | rfl
              · rw [own_nbt]; omega
              · rw [own_nbt]; omega
              · rw [own_nbt]; omega
              · rw [own_nbt]; omega
              · rw [own_nbt]; omega
            clear hL
            refine X.special (a := a150) (own_i1 l Z a0 hw h149 n0 a150 a142 L (5 : Int32) (by rw [nL]; rfl) hsh149 Ba150 Fa150_bytes Fa150_position Fa150_end AL gea150 (Nat.ne_of_gt la142_a150)) rfl (hw _ (List.mem_of_getElem? (i := 4) rfl)) (hw _ (List.mem_of_getElem? (i := 5) rfl)) (hw _ (List.mem_of_getElem? (i := 3) rfl)) (hw _ (List.mem_of_getElem? (i := 6) rfl)) (by decide) own_pd8 (argsL := [(.ref a142)]) (rest := [(.ref a150)]) rfl rfl rfl (W := 1) (Nat.le_of_eq rfl) rfl (by decide) (by decide) (k' := 2) (n' := 8) rfl rfl (by decide) (by decide) at_265 (q := 268) rfl ?_
            rintro _ h151 ⟨rfl, Kh151c, Db, Dp, De⟩
            have AL'h151 : OwA Z h151 a142 .byte (L.map Value.int) := OwA.keep AL Kh151c (ninS (Nat.ne_of_lt la142_a150) nin0)
            have Ba150'h151 : Exa Z h151 a150 "com/example/dircred/dircred/credential/DerReader" := Exa.keep Ba150 Kh151c
            have hsh151 : n0 ≤ h151.size := Nat.le_trans hsh149 Kh151c.1
            show X.G h151 2 8 268 #[.val (.int x0), .val (.int x1), .val (.int x2), .val (.int x3), .val (.int x4), .val (.int m), .val (.int (1 : Int32)), .val (.int (0 : Int32)), .val (.ref a142), .val (.int (2 : Int32)), .unset, .unset] [(.ref a150)]
            refine X.astore (q := 270) (Ls' := #[.val (.int x0), .val (.int x1), .val (.int x2), .val (.int x3), .val (.int x4), .val (.int m), .val (.int (1 : Int32)), .val (.int (0 : Int32)), .val (.ref a142), .val (.int (2 : Int32)), .val (.ref a150), .unset]) at_268 rfl rfl rfl ?_
            refine X.iload (q := 272) at_270 rfl rfl ?_
            refine X.iconst (q := 273) (1 : Int32) at_272 (by decide) rfl ?_
            refine X.icmp_lt (a := 2) (b := 1) (q' := 281) (q := 276) at_273 rfl rfl (by decide) rfl (fun c273 => ?_) (fun c273 => ?_)
            · omega
            · refine X.aload (q := 278) at_276 rfl rfl rfl ?_
              have H1 : own_hdr L 0 ta 1 2 (2 : Int32) (1 : Int32) := by have k1_ : (1 : Int32).toInt = 1 := rfl; have k2_ : (2 : Int32).toInt = 2 := rfl; unfold own_hdr; simp only [nL, Nat.reduceAdd, and_true]; refine ⟨?_, ?_, ?_, ?_, ?_, ?_, ?_, ?_⟩ <;> first | omega | rfl
              refine X.virtual (a := a150) (own_skip l Z a0 hw h151 n0 a150 a142 L (0 : Int32) (5 : Int32) 0 ta 1 2 (2 : Int32) (1 : Int32) rL (by rw [nL]; rfl) (by rw [nL]; decide) rfl H1 (3 : Int32) rfl (by decide) hsh151 Ba150'h151 Db Dp De AL'h151 gea150 (Nat.ne_of_gt la142_a150)) (hw _ (List.mem_of_getElem? (i := 37) rfl)) (hw _ (List.mem_of_getElem? (i := 38) rfl)) (hw _ (List.mem_of_getElem? (i := 40) rfl)) (hw _ (List.mem_of_getElem? (i := 39) rfl)) (hw _ (List.mem_of_getElem? (i := 3) rfl)) (hw _ (List.mem_of_getElem? (i := 41) rfl)) (by decide) Ba150'h151 own_pd9 (argsL := []) (rest := []) rfl rfl rfl (W := 0) (Nat.le_of_eq rfl) rfl (by decide) (by decide) (k' := 4) (n' := 15) rfl rfl (by decide) (by decide) at_278 (q := 281) rfl ?_
              rintro _ h152 ⟨rfl, Kh152c, S1b, S1p, S1e⟩
              have AL'h152 : OwA Z h152 a142 .byte (L.map Value.int) := OwA.keep AL'h151 Kh152c (ninS (Nat.ne_of_lt la142_a150) nin0)
              have Ba150'h152 : Exa Z h152 a150 "com/example/dircred/dircred/credential/DerReader" := Exa.keep Ba150'h151 Kh152c
              have hsh152 : n0 ≤ h152.size := Nat.le_trans hsh151 Kh152c.1
              show X.G h152 4 15 281 #[.val (.int x0), .val (.int x1), .val (.int x2), .val (.int x3), .val (.int x4), .val (.int m), .val (.int (1 : Int32)), .val (.int (0 : Int32)), .val (.ref a142), .val (.int (2 : Int32)), .val (.ref a150), .unset] []
              refine X.iload (q := 283) at_281 rfl rfl ?_
              refine X.iconst (q := 284) (2 : Int32) at_283 (by decide) rfl ?_
              refine X.icmp_ne (a := 2) (b := 2) (q' := 302) (q := 287) at_284 rfl rfl (by decide) rfl (fun c284 => ?_) (fun c284 => ?_)
              · omega
              · refine X.aload (q := 289) at_287 rfl rfl rfl ?_
                refine X.virtual (a := a150) (own_hm l Z a0 hw h152 n0 a150 (3 : Int32) (5 : Int32) hsh152 S1p S1e) (hw _ (List.mem_of_getElem? (i := 19) rfl)) (hw _ (List.mem_of_getElem? (i := 20) rfl)) (hw _ (List.mem_of_getElem? (i := 22) rfl)) (hw _ (List.mem_of_getElem? (i := 21) rfl)) (hw _ (List.mem_of_getElem? (i := 3) rfl)) (hw _ (List.mem_of_getElem? (i := 23) rfl)) (by decide) Ba150'h152 own_pd5 (argsL := []) (rest := []) rfl rfl rfl (W := 0) (Nat.le_of_eq rfl) rfl (by decide) (by decide) (k' := 4) (n' := 15) rfl rfl (by decide) (by decide) at_289 (q := 292) rfl ?_
                rintro _ _ ⟨zm, rfl, hzm, rfl⟩
                show X.G h152 4 15 292 #[.val (.int x0), .val (.int x1), .val (.int x2), .val (.int x3), .val (.int x4), .val (.int m), .val (.int (1 : Int32)), .val (.int (0 : Int32)), .val (.ref a142), .val (.int (2 : Int32)), .val (.ref a150), .unset] [(.int zm)]
                refine X.if_ne (q' := 297) (q := 295) at_292 rfl (by decide) rfl (fun c292 => ?_) (fun c292 => ?_)
                · refine X.aload (q := 299) at_297 rfl rfl rfl ?_
                  have H2 : own_hdr L 3 tb 4 5 (5 : Int32) (0 : Int32) := by have k0_ : (0 : Int32).toInt = 0 := rfl; have k5_ : (5 : Int32).toInt = 5 := rfl; unfold own_hdr; simp only [nL, Nat.reduceAdd, and_true]; refine ⟨?_, ?_, ?_, ?_, ?_, ?_, ?_, ?_⟩ <;> first | omega | rfl
                  refine X.virtual (a := a150) (own_skip l Z a0 hw h152 n0 a150 a142 L (3 : Int32) (5 : Int32) 3 tb 4 5 (5 : Int32) (0 : Int32) rL (by rw [nL]; rfl) (by rw [nL]; decide) rfl H2 (5 : Int32) rfl (by decide) hsh152 Ba150'h152 S1b S1p S1e AL'h152 gea150 (Nat.ne_of_gt la142_a150)) (hw _ (List.mem_of_getElem? (i := 37) rfl)) (hw _ (List.mem_of_getElem? (i := 38) rfl)) (hw _ (List.mem_of_getElem? (i := 40) rfl)) (hw _ (List.mem_of_getElem? (i := 39) rfl)) (hw _ (List.mem_of_getElem? (i := 3) rfl)) (hw _ (List.mem_of_getElem? (i := 41) rfl)) (by decide) Ba150'h152 own_pd9 (argsL := []) (rest := []) rfl rfl rfl (W := 0) (Nat.le_of_eq rfl) rfl (by decide) (by decide) (k' := 6) (n' := 22) rfl rfl (by decide) (by decide) at_299 (q := 302) rfl ?_
                  rintro _ h153 ⟨rfl, Kh153c, S2b, S2p, S2e⟩
                  have AL'h153 : OwA Z h153 a142 .byte (L.map Value.int) := OwA.keep AL'h152 Kh153c (ninS (Nat.ne_of_lt la142_a150) nin0)
                  have Ba150'h153 : Exa Z h153 a150 "com/example/dircred/dircred/credential/DerReader" := Exa.keep Ba150'h152 Kh153c
                  have hsh153 : n0 ≤ h153.size := Nat.le_trans hsh152 Kh153c.1
                  show X.G h153 6 22 302 #[.val (.int x0), .val (.int x1), .val (.int x2), .val (.int x3), .val (.int x4), .val (.int m), .val (.int (1 : Int32)), .val (.int (0 : Int32)), .val (.ref a142), .val (.int (2 : Int32)), .val (.ref a150), .unset] []
                  refine X.aload (q := 304) at_302 rfl rfl rfl ?_
                  refine X.virtual (a := a150) (own_hm l Z a0 hw h153 n0 a150 (5 : Int32) (5 : Int32) hsh153 S2p S2e) (hw _ (List.mem_of_getElem? (i := 19) rfl)) (hw _ (List.mem_of_getElem? (i := 20) rfl)) (hw _ (List.mem_of_getElem? (i := 22) rfl)) (hw _ (List.mem_of_getElem? (i := 21) rfl)) (hw _ (List.mem_of_getElem? (i := 3) rfl)) (hw _ (List.mem_of_getElem? (i := 23) rfl)) (by decide) Ba150'h153 own_pd5 (argsL := []) (rest := []) rfl rfl rfl (W := 0) (Nat.le_of_eq rfl) rfl (by decide) (by decide) (k' := 6) (n' := 22) rfl rfl (by decide) (by decide) at_304 (q := 307) rfl ?_
                  rintro _ _ ⟨zb, rfl, hzb, rfl⟩
                  show X.G h153 6 22 307 #[.val (.int x0), .val (.int x1), .val (.int x2), .val (.int x3), .val (.int x4), .val (.int m), .val (.int (1 : Int32)), .val (.int (0 : Int32)), .val (.ref a142), .val (.int (2 : Int32)), .val (.ref a150), .unset] [(.int zb)]
                  refine X.istore (q := 309) (Ls' := #[.val (.int x0), .val (.int x1), .val (.int x2), .val (.int x3), .val (.int x4), .val (.int m), .val (.int (1 : Int32)), .val (.int (0 : Int32)), .val (.ref a142), .val (.int (2 : Int32)), .val (.ref a150), .val (.int zb)]) at_307 rfl rfl ?_
                  refine X.aload (q := 311) at_309 rfl rfl rfl ?_
                  refine X.virtual (a := a150) (own_en l Z a0 hw h153 n0 a150 a142 (5 : Int32) (5 : Int32) (by decide) hsh153 Ba150'h153 S2b S2p S2e) (hw _ (List.mem_of_getElem? (i := 24) rfl)) (hw _ (List.mem_of_getElem? (i := 25) rfl)) (hw _ (List.mem_of_getElem? (i := 27) rfl)) (hw _ (List.mem_of_getElem? (i := 26) rfl)) (hw _ (List.mem_of_getElem? (i := 3) rfl)) (hw _ (List.mem_of_getElem? (i := 28) rfl)) (by decide) Ba150'h153 own_pd9 (argsL := []) (rest := []) rfl rfl rfl (W := 0) (Nat.le_of_eq rfl) rfl (by decide) (by decide) (k' := 6) (n' := 22) rfl rfl (by decide) (by decide) at_311 (q := 314) rfl ?_
                  rintro _ _ ⟨rfl, rfl⟩
                  show X.G h153 6 22 314 #[.val (.int x0), .val (.int x1), .val (.int x2), .val (.int x3), .val (.int x4), .val (.int m), .val (.int (1 : Int32)), .val (.int (0 : Int32)), .val (.ref a142), .val (.int (2 : Int32)), .val (.ref a150), .val (.int zb)] []
                  refine X.iload (q := 316) at_314 rfl rfl ?_
                  refine X.if_ne (q' := 331) (q := 319) at_316 rfl (by decide) rfl (fun c316 => ?_) (fun c316 => ?_)
                  · omega
                  · refine X.aload (q := 321) at_319 rfl rfl rfl ?_
                    refine X.virtual (a := a150) (own_hm l Z a0 hw h153 n0 a150 (5 : Int32) (5 : Int32) hsh153 S2p S2e) (hw _ (List.mem_of_getElem? (i := 19) rfl)) (hw _ (List.mem_of_getElem? (i := 20) rfl)) (hw _ (List.mem_of_getElem? (i := 22) rfl)) (hw _ (List.mem_of_getElem? (i := 21) rfl)) (hw _ (List.mem_of_getElem? (i := 3) rfl)) (hw _ (List.mem_of_getElem? (i := 23) rfl)) (by decide) Ba150'h153 own_pd5 (argsL := []) (rest := []) rfl rfl rfl (W := 0) (Nat.le_of_eq rfl) rfl (by decide) (by decide) (k' := 6) (n' := 22) rfl rfl (by decide) (by decide) at_321 (q := 324) rfl ?_
                    rintro _ _ ⟨zc, rfl, hzc, rfl⟩
                    show X.G h153 6 22 324 #[.val (.int x0), .val (.int x1), .val (.int x2), .val (.int x3), .val (.int x4), .val (.int m), .val (.int (1 : Int32)), .val (.int (0 : Int32)), .val (.ref a142), .val (.int (2 : Int32)), .val (.ref a150), .val (.int zb)] [(.int zc)]
                    refine X.if_ne (q' := 331) (q := 327) at_324 rfl (by decide) rfl (fun c324 => ?_) (fun c324 => ?_)
                    · omega
                    · refine X.iconst (q := 328) (1 : Int32) at_327 (by decide) rfl ?_
                      refine X.goto (q' := 332) at_328 (by decide) ?_
                      refine X.retN (t := .boolean) (z' := (1 : Int32)) at_332 rfl (by simp) (by decide) (by decide) (by decide) ?_
                      rfl
                · omega
          · refine X.iload (q := 90) at_88 rfl rfl ?_
            refine X.iadd (q := 91) at_90 rfl ?_
            refine X.foldI (v := (5 : Int32)) (by decide) ?_
            refine X.iload (q := 93) at_91 rfl rfl ?_
            refine X.iadd (q := 94) at_93 rfl ?_
            refine X.foldI (v := (6 : Int32)) (by decide) ?_
            refine X.newP (q := 96) (ty := .byte) (N := 6) (cap := 6) (k' := 1) (n' := 6) (hw _ (List.mem_of_getElem? (i := 0) rfl)) at_94 rfl rfl (Nat.le_refl _) (by decide) rfl rfl (by decide) (by decide) rfl (fun h154 a155 ga155 Eh154 Aa155 => ?_)
            have gea155 : n0 ≤ a155 := by rw [ga155]; exact hn0
            have hsh154 : n0 ≤ h154.size := Nat.le_trans hn0 Eh154.1
            have Aa155 : OwA Z h154 a155 .byte [(.int (0 : Int32)), (.int (0 : Int32)), (.int (0 : Int32)), (.int (0 : Int32)), (.int (0 : Int32)), (.int (0 : Int32))] := Aa155
            refine X.astore (q := 98) (Ls' := #[.val (.int x0), .val (.int x1), .val (.int x2), .val (.int x3), .val (.int x4), .val (.int m), .val (.int (1 : Int32)), .val (.int (1 : Int32)), .val (.ref a155), .unset, .unset, .unset]) at_96 rfl rfl rfl ?_
            refine X.aload (q := 100) at_98 rfl rfl rfl ?_
            refine X.iconst (q := 101) (0 : Int32) at_100 (by decide) rfl ?_
            refine X.iloadN (q := 102) at_101 rfl rfl ?_
            refine X.iload (q := 104) at_102 rfl rfl ?_
            refine X.callS (own_tag l Z a0 hw h154 n0 x1 (1 : Int32)) (hw _ (List.mem_of_getElem? (i := 30) rfl)) (hw _ (List.mem_of_getElem? (i := 31) rfl)) (hw _ (List.mem_of_getElem? (i := 32) rfl)) (hw _ (List.mem_of_getElem? (i := 33) rfl)) (by decide) own_pd6 (argsL := [(.int x1), (.int (1 : Int32))]) (rest := [(.int (0 : Int32)), (.ref a155)]) rfl rfl rfl (W := 2) (Nat.le_of_eq rfl) rfl (by decide) (by decide) (k' := 1) (n' := 6) rfl rfl (by decide) (by decide) at_104 (q := 107) rfl ?_
            rintro _ _ ⟨ta, rfl, hta, rfl⟩
            show X.G h154 1 6 107 #[.val (.int x0), .val (.int x1), .val (.int x2), .val (.int x3), .val (.int x4), .val (.int m), .val (.int (1 : Int32)), .val (.int (1 : Int32)), .val (.ref a155), .unset, .unset, .unset] [(.int ta), (.int (0 : Int32)), (.ref a155)]
            refine X.i2b (q := 108) at_107 rfl ?_
            refine X.bastore (q := 109) (j := 0) Aa155 rfl (by simp) gea155 at_108 rfl (fun h156 Wh156 Ah156 => ?_)
            have hsh156 : n0 ≤ h156.size := by rw [Wr.size Wh156]; exact hsh154
            have Ah156_ : OwA Z h156 a155 .byte [(.int (nar .byte ta.toInt8.toInt32)), (.int (0 : Int32)), (.int (0 : Int32)), (.int (0 : Int32)), (.int (0 : Int32)), (.int (0 : Int32))] := Ah156
            refine X.aload (q := 111) at_109 rfl rfl rfl ?_
            refine X.iconst (q := 112) (1 : Int32) at_111 (by decide) rfl ?_
            refine X.iload (q := 114) at_112 rfl rfl ?_
            refine X.i2b (q := 115) at_114 rfl ?_
            refine X.bastore (q := 116) (j := 1) Ah156_ rfl (by simp) gea155 at_115 rfl (fun h157 Wh157 Ah157 => ?_)
            have hsh157 : n0 ≤ h157.size := by rw [Wr.size Wh157]; exact hsh156
            have Ah157_ : OwA Z h157 a155 .byte [(.int (nar .byte ta.toInt8.toInt32)), (.int (nar .byte (1 : Int32).toInt8.toInt32)), (.int (0 : Int32)), (.int (0 : Int32)), (.int (0 : Int32)), (.int (0 : Int32))] := Ah157
            refine X.aload (q := 118) at_116 rfl rfl rfl ?_
            refine X.iconst (q := 119) (2 : Int32) at_118 (by decide) rfl ?_
            refine X.iload (q := 121) at_119 rfl rfl ?_
            refine X.iload (q := 123) at_121 rfl rfl ?_
            refine X.callS (own_put1 l Z a0 hw h157 n0 a155 (2 : Int32) x4 2 _ rfl (by simp) (by decide) hsh157 Ah157_ gea155) (hw _ (List.mem_of_getElem? (i := 34) rfl)) (hw _ (List.mem_of_getElem? (i := 35) rfl)) (hw _ (List.mem_of_getElem? (i := 32) rfl)) (hw _ (List.mem_of_getElem? (i := 36) rfl)) (by decide) own_pd7 (argsL := [(.ref a155), (.int (2 : Int32)), (.int (1 : Int32)), (.int x4)]) (rest := []) rfl rfl rfl (W := 0) (Nat.le_of_eq rfl) rfl (by decide) (by decide) (k' := 1) (n' := 6) rfl rfl (by decide) (by decide) at_123 (q := 126) rfl ?_
            rintro _ h158 ⟨u0, rfl, Kh158c, Gu⟩
            have hsh158 : n0 ≤ h158.size := Nat.le_trans hsh157 Kh158c.1
            show X.G h158 1 6 126 #[.val (.int x0), .val (.int x1), .val (.int x2), .val (.int x3), .val (.int x4), .val (.int m), .val (.int (1 : Int32)), .val (.int (1 : Int32)), .val (.ref a155), .unset, .unset, .unset] []
            have Gu : OwA Z h158 a155 .byte [(.int (nar .byte ta.toInt8.toInt32)), (.int (nar .byte (1 : Int32).toInt8.toInt32)), (.int (nar .byte u0.toInt8.toInt32)), (.int (0 : Int32)), (.int (0 : Int32)), (.int (0 : Int32))] := Gu
            refine X.aload (q := 128) at_126 rfl rfl rfl ?_
            refine X.iconst (q := 129) (2 : Int32) at_128 (by decide) rfl ?_
            refine X.iload (q := 131) at_129 rfl rfl ?_
            refine X.iadd (q := 132) at_131 rfl ?_
            refine X.foldI (v := (3 : Int32)) (by decide) ?_
            refine X.iloadN (q := 133) at_132 rfl rfl ?_
            refine X.iload (q := 135) at_133 rfl rfl ?_
            refine X.callS (own_tag l Z a0 hw h158 n0 x2 (1 : Int32)) (hw _ (List.mem_of_getElem? (i := 30) rfl)) (hw _ (List.mem_of_getElem? (i := 31) rfl)) (hw _ (List.mem_of_getElem? (i := 32) rfl)) (hw _ (List.mem_of_getElem? (i := 33) rfl)) (by decide) own_pd6 (argsL := [(.int x2), (.int (1 : Int32))]) (rest := [(.int (3 : Int32)), (.ref a155)]) rfl rfl rfl (W := 2) (Nat.le_of_eq rfl) rfl (by decide) (by decide) (k' := 1) (n' := 6) rfl rfl (by decide) (by decide) at_135 (q := 138) rfl ?_
            rintro _ _ ⟨tb, rfl, htb, rfl⟩
            show X.G h158 1 6 138 #[.val (.int x0), .val (.int x1), .val (.int x2), .val (.int x3), .val (.int x4), .val (.int m), .val (.int (1 : Int32)), .val (.int (1 : Int32)), .val (.ref a155), .unset, .unset, .unset] [(.int tb), (.int (3 : Int32)), (.ref a155)]
            refine X.i2b (q := 139) at_138 rfl ?_
            refine X.bastore (q := 140) (j := 3) Gu rfl (by simp) gea155 at_139 rfl (fun h159 Wh159 Ah159 => ?_)
            have hsh159 : n0 ≤ h159.size := by rw [Wr.size Wh159]; exact hsh158
            have Ah159_ : OwA Z h159 a155 .byte [(.int (nar .byte ta.toInt8.toInt32)), (.int (nar .byte (1 : Int32).toInt8.toInt32)), (.int (nar .byte u0.toInt8.toInt32)), (.int (nar .byte tb.toInt8.toInt32)), (.int (0 : Int32)), (.int (0 : Int32))] := Ah159
            refine X.aload (q := 142) at_140 rfl rfl rfl ?_
            refine X.iconst (q := 143) (3 : Int32) at_142 (by decide) rfl ?_
            refine X.iload (q := 145) at_143 rfl rfl ?_
            refine X.iadd (q := 146) at_145 rfl ?_
            refine X.foldI (v := (4 : Int32)) (by decide) ?_
            refine X.iload (q := 148) at_146 rfl rfl ?_
            refine X.i2b (q := 149) at_148 rfl ?_
            refine X.bastore (q := 150) (j := 4) Ah159_ rfl (by simp) gea155 at_149 rfl (fun h160 Wh160 Ah160 => ?_)
            have hsh160 : n0 ≤ h160.size := by rw [Wr.size Wh160]; exact hsh159
            have Ah160_ : OwA Z h160 a155 .byte [(.int (nar .byte ta.toInt8.toInt32)), (.int (nar .byte (1 : Int32).toInt8.toInt32)), (.int (nar .byte u0.toInt8.toInt32)), (.int (nar .byte tb.toInt8.toInt32)), (.int (nar .byte (1 : Int32).toInt8.toInt32)), (.int (0 : Int32))] := Ah160
            refine X.aload (q := 152) at_150 rfl rfl rfl ?_
            refine X.iconst (q := 153) (4 : Int32) at_152 (by decide) rfl ?_
            refine X.iload (q := 155) at_153 rfl rfl ?_
            refine X.iadd (q := 156) at_155 rfl ?_
            refine X.foldI (v := (5 : Int32)) (by decide) ?_
            refine X.iload (q := 158) at_156 rfl rfl ?_
            refine X.iload (q := 160) at_158 rfl rfl ?_
            refine X.bipush (q := 162) (8 : Int32) at_160 (by decide) rfl ?_
            refine X.iushr (q := 163) at_162 rfl ?_
            refine X.callS (own_put1 l Z a0 hw h160 n0 a155 (5 : Int32) (XT.ushr x4 (8 : Int32)) 5 _ rfl (by simp) (by decide) hsh160 Ah160_ gea155) (hw _ (List.mem_of_getElem? (i := 34) rfl)) (hw _ (List.mem_of_getElem? (i := 35) rfl)) (hw _ (List.mem_of_getElem? (i := 32) rfl)) (hw _ (List.mem_of_getElem? (i := 36) rfl)) (by decide) own_pd7 (argsL := [(.ref a155), (.int (5 : Int32)), (.int (1 : Int32)), (.int (XT.ushr x4 (8 : Int32)))]) (rest := []) rfl rfl rfl (W := 0) (Nat.le_of_eq rfl) rfl (by decide) (by decide) (k' := 1) (n' := 6) rfl rfl (by decide) (by decide) at_163 (q := 166) rfl ?_
            rintro _ h161 ⟨v0, rfl, Kh161c, Gv⟩
            have hsh161 : n0 ≤ h161.size := Nat.le_trans hsh160 Kh161c.1
            show X.G h161 1 6 166 #[.val (.int x0), .val (.int x1), .val (.int x2), .val (.int x3), .val (.int x4), .val (.int m), .val (.int (1 : Int32)), .val (.int (1 : Int32)), .val (.ref a155), .unset, .unset, .unset] []
            have Gv : OwA Z h161 a155 .byte [(.int (nar .byte ta.toInt8.toInt32)), (.int (nar .byte (1 : Int32).toInt8.toInt32)), (.int (nar .byte u0.toInt8.toInt32)), (.int (nar .byte tb.toInt8.toInt32)), (.int (nar .byte (1 : Int32).toInt8.toInt32)), (.int (nar .byte v0.toInt8.toInt32))] := Gv
            refine X.iconst (q := 167) (2 : Int32) at_166 (by decide) rfl ?_
            refine X.istore (q := 169) (Ls' := #[.val (.int x0), .val (.int x1), .val (.int x2), .val (.int x3), .val (.int x4), .val (.int m), .val (.int (1 : Int32)), .val (.int (1 : Int32)), .val (.ref a155), .val (.int (2 : Int32)), .unset, .unset]) at_167 rfl rfl ?_
            refine X.goto (q' := 259) at_169 (by decide) ?_
            refine X.newO (q := 262) (k' := 2) (n' := 9) (hw _ (List.mem_of_getElem? (i := 1) rfl)) (hw _ (List.mem_of_getElem? (i := 2) rfl)) (hw _ (List.mem_of_getElem? (i := 3) rfl)) at_259 rfl rfl (by decide) (by decide) rfl (fun h162 a163 ga163 Eh162 Ba163 Da163 => ?_)
            have la155_a163 : a155 < a163 := by have := Gv.lt; rw [← ga163] at this; exact this
            have Gv'h162 : OwA Z h162 a155 .byte [(.int (nar .byte ta.toInt8.toInt32)), (.int (nar .byte (1 : Int32).toInt8.toInt32)), (.int (nar .byte u0.toInt8.toInt32)), (.int (nar .byte tb.toInt8.toInt32)), (.int (nar .byte (1 : Int32).toInt8.toInt32)), (.int (nar .byte v0.toInt8.toInt32))] := OwA.ext (E := Eh162) Gv
            have gea163 : n0 ≤ a163 := by rw [ga163]; exact hsh161
            have hsh162 : n0 ≤ h162.size := Nat.le_trans hsh161 Eh162.1
            have Fa163_bytes : Fld Z h162 a163 "com/example/dircred/dircred/credential/DerReader" "bytes" "[B" .null := Da163 (Or.inr (hw _ (List.mem_of_getElem? (i := 14) rfl))) (ty := (.array .byte)) (by decide)
            have Fa163_position : Fld Z h162 a163 "com/example/dircred/dircred/credential/DerReader" "position" "I" (.int (0 : Int32)) := Da163 (Or.inl (hw _ (List.mem_of_getElem? (i := 16) rfl))) (ty := .int) (by decide)
            have Fa163_end : Fld Z h162 a163 "com/example/dircred/dircred/credential/DerReader" "end" "I" (.int (0 : Int32)) := Da163 (Or.inr (hw _ (List.mem_of_getElem? (i := 18) rfl))) (ty := .int) (by decide)
            refine X.dup (q := 263) at_262 rfl rfl ?_
            refine X.aload (q := 265) at_263 rfl rfl rfl ?_
            obtain ⟨L, hL⟩ : ∃ L_ : List Int32, L_ = [(nar .byte ta.toInt8.toInt32), (nar .byte (1 : Int32).toInt8.toInt32), (nar .byte u0.toInt8.toInt32), (nar .byte tb.toInt8.toInt32), (nar .byte (1 : Int32).toInt8.toInt32), (nar .byte v0.toInt8.toInt32)] := ⟨_, rfl⟩
            have AL : OwA Z h162 a155 .byte (L.map Value.int) := by rw [hL]; exact Gv'h162
            have nL : L.length = 6 := by rw [hL]; rfl
            have gL0 : (L.getD 0 0).toInt = (ta.toInt + 128) % 256 - 128 := by rw [hL]; exact own_nbt _
            have gL1 : (L.getD 1 0).toInt = ((1 : Int32).toInt + 128) % 256 - 128 := by rw [hL]; exact own_nbt _
            have gL2 : (L.getD 2 0).toInt = (u0.toInt + 128) % 256 - 128 := by rw [hL]; exact own_nbt _
            have gL3 : (L.getD 3 0).toInt = (tb.toInt + 128) % 256 - 128 := by rw [hL]; exact own_nbt _
            have gL4 : (L.getD 4 0).toInt = ((1 : Int32).toInt + 128) % 256 - 128 := by rw [hL]; exact own_nbt _
            have gL5 : (L.getD 5 0).toInt = (v0.toInt + 128) % 256 - 128 := by rw [hL]; exact own_nbt _
            have rL : ∀ x ∈ L, -128 ≤ x.toInt ∧ x.toInt ≤ 127 := by
              intro x hx; rw [hL] at hx
              simp only [List.mem_cons, List.not_mem_nil, or_false] at hx
              rcases hx with rfl | rfl | rfl | rfl | rfl | rfl
              · rw [own_nbt]; omega
              · rw [own_nbt]; omega
              · rw [own_nbt]; omega
              · rw [own_nbt]; omega
              · rw [own_nbt]; omega
              · rw [own_nbt]; omega
            clear hL
            refine X.special (a := a163) (own_i1 l Z a0 hw h162 n0 a163 a155 L (6 : Int32) (by rw [nL]; rfl) hsh162 Ba163 Fa163_bytes Fa163_position Fa163_end AL gea163 (Nat.ne_of_gt la155_a163)) rfl (hw _ (List.mem_of_getElem? (i := 4) rfl)) (hw _ (List.mem_of_getElem? (i := 5) rfl)) (hw _ (List.mem_of_getElem? (i := 3) rfl)) (hw _ (List.mem_of_getElem? (i := 6) rfl)) (by decide) own_pd8 (argsL := [(.ref a155)]) (rest := [(.ref a163)]) rfl rfl rfl (W := 1) (Nat.le_of_eq rfl) rfl (by decide) (by decide) (k' := 2) (n' := 9) rfl rfl (by decide) (by decide) at_265 (q := 268) rfl ?_
            rintro _ h164 ⟨rfl, Kh164c, Db, Dp, De⟩
            have AL'h164 : OwA Z h164 a155 .byte (L.map Value.int) := OwA.keep AL Kh164c (ninS (Nat.ne_of_lt la155_a163) nin0)
            have Ba163'h164 : Exa Z h164 a163 "com/example/dircred/dircred/credential/DerReader" := Exa.keep Ba163 Kh164c
            have hsh164 : n0 ≤ h164.size := Nat.le_trans hsh162 Kh164c.1
            show X.G h164 2 9 268 #[.val (.int x0), .val (.int x1), .val (.int x2), .val (.int x3), .val (.int x4), .val (.int m), .val (.int (1 : Int32)), .val (.int (1 : Int32)), .val (.ref a155), .val (.int (2 : Int32)), .unset, .unset] [(.ref a163)]
            refine X.astore (q := 270) (Ls' := #[.val (.int x0), .val (.int x1), .val (.int x2), .val (.int x3), .val (.int x4), .val (.int m), .val (.int (1 : Int32)), .val (.int (1 : Int32)), .val (.ref a155), .val (.int (2 : Int32)), .val (.ref a163), .unset]) at_268 rfl rfl rfl ?_
            refine X.iload (q := 272) at_270 rfl rfl ?_
            refine X.iconst (q := 273) (1 : Int32) at_272 (by decide) rfl ?_
            refine X.icmp_lt (a := 2) (b := 1) (q' := 281) (q := 276) at_273 rfl rfl (by decide) rfl (fun c273 => ?_) (fun c273 => ?_)
            · omega
            · refine X.aload (q := 278) at_276 rfl rfl rfl ?_
              have H1 : own_hdr L 0 ta 1 2 (2 : Int32) (1 : Int32) := by have k1_ : (1 : Int32).toInt = 1 := rfl; have k2_ : (2 : Int32).toInt = 2 := rfl; unfold own_hdr; simp only [nL, Nat.reduceAdd, and_true]; refine ⟨?_, ?_, ?_, ?_, ?_, ?_, ?_, ?_⟩ <;> first | omega | rfl
              refine X.virtual (a := a163) (own_skip l Z a0 hw h164 n0 a163 a155 L (0 : Int32) (6 : Int32) 0 ta 1 2 (2 : Int32) (1 : Int32) rL (by rw [nL]; rfl) (by rw [nL]; decide) rfl H1 (3 : Int32) rfl (by decide) hsh164 Ba163'h164 Db Dp De AL'h164 gea163 (Nat.ne_of_gt la155_a163)) (hw _ (List.mem_of_getElem? (i := 37) rfl)) (hw _ (List.mem_of_getElem? (i := 38) rfl)) (hw _ (List.mem_of_getElem? (i := 40) rfl)) (hw _ (List.mem_of_getElem? (i := 39) rfl)) (hw _ (List.mem_of_getElem? (i := 3) rfl)) (hw _ (List.mem_of_getElem? (i := 41) rfl)) (by decide) Ba163'h164 own_pd9 (argsL := []) (rest := []) rfl rfl rfl (W := 0) (Nat.le_of_eq rfl) rfl (by decide) (by decide) (k' := 4) (n' := 16) rfl rfl (by decide) (by decide) at_278 (q := 281) rfl ?_
              rintro _ h165 ⟨rfl, Kh165c, S1b, S1p, S1e⟩
              have AL'h165 : OwA Z h165 a155 .byte (L.map Value.int) := OwA.keep AL'h164 Kh165c (ninS (Nat.ne_of_lt la155_a163) nin0)
              have Ba163'h165 : Exa Z h165 a163 "com/example/dircred/dircred/credential/DerReader" := Exa.keep Ba163'h164 Kh165c
              have hsh165 : n0 ≤ h165.size := Nat.le_trans hsh164 Kh165c.1
              show X.G h165 4 16 281 #[.val (.int x0), .val (.int x1), .val (.int x2), .val (.int x3), .val (.int x4), .val (.int m), .val (.int (1 : Int32)), .val (.int (1 : Int32)), .val (.ref a155), .val (.int (2 : Int32)), .val (.ref a163), .unset] []
              refine X.iload (q := 283) at_281 rfl rfl ?_
              refine X.iconst (q := 284) (2 : Int32) at_283 (by decide) rfl ?_
              refine X.icmp_ne (a := 2) (b := 2) (q' := 302) (q := 287) at_284 rfl rfl (by decide) rfl (fun c284 => ?_) (fun c284 => ?_)
              · omega
              · refine X.aload (q := 289) at_287 rfl rfl rfl ?_
                refine X.virtual (a := a163) (own_hm l Z a0 hw h165 n0 a163 (3 : Int32) (6 : Int32) hsh165 S1p S1e) (hw _ (List.mem_of_getElem? (i := 19) rfl)) (hw _ (List.mem_of_getElem? (i := 20) rfl)) (hw _ (List.mem_of_getElem? (i := 22) rfl)) (hw _ (List.mem_of_getElem? (i := 21) rfl)) (hw _ (List.mem_of_getElem? (i := 3) rfl)) (hw _ (List.mem_of_getElem? (i := 23) rfl)) (by decide) Ba163'h165 own_pd5 (argsL := []) (rest := []) rfl rfl rfl (W := 0) (Nat.le_of_eq rfl) rfl (by decide) (by decide) (k' := 4) (n' := 16) rfl rfl (by decide) (by decide) at_289 (q := 292) rfl ?_
                rintro _ _ ⟨zm, rfl, hzm, rfl⟩
                show X.G h165 4 16 292 #[.val (.int x0), .val (.int x1), .val (.int x2), .val (.int x3), .val (.int x4), .val (.int m), .val (.int (1 : Int32)), .val (.int (1 : Int32)), .val (.ref a155), .val (.int (2 : Int32)), .val (.ref a163), .unset] [(.int zm)]
                refine X.if_ne (q' := 297) (q := 295) at_292 rfl (by decide) rfl (fun c292 => ?_) (fun c292 => ?_)
                · refine X.aload (q := 299) at_297 rfl rfl rfl ?_
                  have H2 : own_hdr L 3 tb 4 5 (5 : Int32) (1 : Int32) := by have k1_ : (1 : Int32).toInt = 1 := rfl; have k5_ : (5 : Int32).toInt = 5 := rfl; unfold own_hdr; simp only [nL, Nat.reduceAdd, and_true]; refine ⟨?_, ?_, ?_, ?_, ?_, ?_, ?_, ?_⟩ <;> first | omega | rfl
                  refine X.virtual (a := a163) (own_skip l Z a0 hw h165 n0 a163 a155 L (3 : Int32) (6 : Int32) 3 tb 4 5 (5 : Int32) (1 : Int32) rL (by rw [nL]; rfl) (by rw [nL]; decide) rfl H2 (6 : Int32) rfl (by decide) hsh165 Ba163'h165 S1b S1p S1e AL'h165 gea163 (Nat.ne_of_gt la155_a163)) (hw _ (List.mem_of_getElem? (i := 37) rfl)) (hw _ (List.mem_of_getElem? (i := 38) rfl)) (hw _ (List.mem_of_getElem? (i := 40) rfl)) (hw _ (List.mem_of_getElem? (i := 39) rfl)) (hw _ (List.mem_of_getElem? (i := 3) rfl)) (hw _ (List.mem_of_getElem? (i := 41) rfl)) (by decide) Ba163'h165 own_pd9 (argsL := []) (rest := []) rfl rfl rfl (W := 0) (Nat.le_of_eq rfl) rfl (by decide) (by decide) (k' := 6) (n' := 23) rfl rfl (by decide) (by decide) at_299 (q := 302) rfl ?_
                  rintro _ h166 ⟨rfl, Kh166c, S2b, S2p, S2e⟩
                  have AL'h166 : OwA Z h166 a155 .byte (L.map Value.int) := OwA.keep AL'h165 Kh166c (ninS (Nat.ne_of_lt la155_a163) nin0)
                  have Ba163'h166 : Exa Z h166 a163 "com/example/dircred/dircred/credential/DerReader" := Exa.keep Ba163'h165 Kh166c
                  have hsh166 : n0 ≤ h166.size := Nat.le_trans hsh165 Kh166c.1
                  show X.G h166 6 23 302 #[.val (.int x0), .val (.int x1), .val (.int x2), .val (.int x3), .val (.int x4), .val (.int m), .val (.int (1 : Int32)), .val (.int (1 : Int32)), .val (.ref a155), .val (.int (2 : Int32)), .val (.ref a163), .unset] []
                  refine X.aload (q := 304) at_302 rfl rfl rfl ?_
                  refine X.virtual (a := a163) (own_hm l Z a0 hw h166 n0 a163 (6 : Int32) (6 : Int32) hsh166 S2p S2e) (hw _ (List.mem_of_getElem? (i := 19) rfl)) (hw _ (List.mem_of_getElem? (i := 20) rfl)) (hw _ (List.mem_of_getElem? (i := 22) rfl)) (hw _ (List.mem_of_getElem? (i := 21) rfl)) (hw _ (List.mem_of_getElem? (i := 3) rfl)) (hw _ (List.mem_of_getElem? (i := 23) rfl)) (by decide) Ba163'h166 own_pd5 (argsL := []) (rest := []) rfl rfl rfl (W := 0) (Nat.le_of_eq rfl) rfl (by decide) (by decide) (k' := 6) (n' := 23) rfl rfl (by decide) (by decide) at_304 (q := 307) rfl ?_
                  rintro _ _ ⟨zb, rfl, hzb, rfl⟩
                  show X.G h166 6 23 307 #[.val (.int x0), .val (.int x1), .val (.int x2), .val (.int x3), .val (.int x4), .val (.int m), .val (.int (1 : Int32)), .val (.int (1 : Int32)), .val (.ref a155), .val (.int (2 : Int32)), .val (.ref a163), .unset] [(.int zb)]
                  refine X.istore (q := 309) (Ls' := #[.val (.int x0), .val (.int x1), .val (.int x2), .val (.int x3), .val (.int x4), .val (.int m), .val (.int (1 : Int32)), .val (.int (1 : Int32)), .val (.ref a155), .val (.int (2 : Int32)), .val (.ref a163), .val (.int zb)]) at_307 rfl rfl ?_
                  refine X.aload (q := 311) at_309 rfl rfl rfl ?_
                  refine X.virtual (a := a163) (own_en l Z a0 hw h166 n0 a163 a155 (6 : Int32) (6 : Int32) (by decide) hsh166 Ba163'h166 S2b S2p S2e) (hw _ (List.mem_of_getElem? (i := 24) rfl)) (hw _ (List.mem_of_getElem? (i := 25) rfl)) (hw _ (List.mem_of_getElem? (i := 27) rfl)) (hw _ (List.mem_of_getElem? (i := 26) rfl)) (hw _ (List.mem_of_getElem? (i := 3) rfl)) (hw _ (List.mem_of_getElem? (i := 28) rfl)) (by decide) Ba163'h166 own_pd9 (argsL := []) (rest := []) rfl rfl rfl (W := 0) (Nat.le_of_eq rfl) rfl (by decide) (by decide) (k' := 6) (n' := 23) rfl rfl (by decide) (by decide) at_311 (q := 314) rfl ?_
                  rintro _ _ ⟨rfl, rfl⟩
                  show X.G h166 6 23 314 #[.val (.int x0), .val (.int x1), .val (.int x2), .val (.int x3), .val (.int x4), .val (.int m), .val (.int (1 : Int32)), .val (.int (1 : Int32)), .val (.ref a155), .val (.int (2 : Int32)), .val (.ref a163), .val (.int zb)] []
                  refine X.iload (q := 316) at_314 rfl rfl ?_
                  refine X.if_ne (q' := 331) (q := 319) at_316 rfl (by decide) rfl (fun c316 => ?_) (fun c316 => ?_)
                  · omega
                  · refine X.aload (q := 321) at_319 rfl rfl rfl ?_
                    refine X.virtual (a := a163) (own_hm l Z a0 hw h166 n0 a163 (6 : Int32) (6 : Int32) hsh166 S2p S2e) (hw _ (List.mem_of_getElem? (i := 19) rfl)) (hw _ (List.mem_of_getElem? (i := 20) rfl)) (hw _ (List.mem_of_getElem? (i := 22) rfl)) (hw _ (List.mem_of_getElem? (i := 21) rfl)) (hw _ (List.mem_of_getElem? (i := 3) rfl)) (hw _ (List.mem_of_getElem? (i := 23) rfl)) (by decide) Ba163'h166 own_pd5 (argsL := []) (rest := []) rfl rfl rfl (W := 0) (Nat.le_of_eq rfl) rfl (by decide) (by decide) (k' := 6) (n' := 23) rfl rfl (by decide) (by decide) at_321 (q := 324) rfl ?_
                    rintro _ _ ⟨zc, rfl, hzc, rfl⟩
                    show X.G h166 6 23 324 #[.val (.int x0), .val (.int x1), .val (.int x2), .val (.int x3), .val (.int x4), .val (.int m), .val (.int (1 : Int32)), .val (.int (1 : Int32)), .val (.ref a155), .val (.int (2 : Int32)), .val (.ref a163), .val (.int zb)] [(.int zc)]
                    refine X.if_ne (q' := 331) (q := 327) at_324 rfl (by decide) rfl (fun c324 => ?_) (fun c324 => ?_)
                    · omega
                    · refine X.iconst (q := 328) (1 : Int32) at_327 (by decide) rfl ?_
                      refine X.goto (q' := 332) at_328 (by decide) ?_
                      refine X.retN (t := .boolean) (z' := (1 : Int32)) at_332 rfl (by simp) (by decide) (by decide) (by decide) ?_
                      rfl
                · omega
          · refine X.iload (q := 90) at_88 rfl rfl ?_
            refine X.iadd (q := 91) at_90 rfl ?_
            refine X.foldI (v := (5 : Int32)) (by decide) ?_
            refine X.iload (q := 93) at_91 rfl rfl ?_
            refine X.iadd (q := 94) at_93 rfl ?_
            refine X.foldI (v := (7 : Int32)) (by decide) ?_
            refine X.newP (q := 96) (ty := .byte) (N := 7) (cap := 7) (k' := 1) (n' := 7) (hw _ (List.mem_of_getElem? (i := 0) rfl)) at_94 rfl rfl (Nat.le_refl _) (by decide) rfl rfl (by decide) (by decide) rfl (fun h167 a168 ga168 Eh167 Aa168 => ?_)
            have gea168 : n0 ≤ a168 := by rw [ga168]; exact hn0
            have hsh167 : n0 ≤ h167.size := Nat.le_trans hn0 Eh167.1
            have Aa168 : OwA Z h167 a168 .byte [(.int (0 : Int32)), (.int (0 : Int32)), (.int (0 : Int32)), (.int (0 : Int32)), (.int (0 : Int32)), (.int (0 : Int32)), (.int (0 : Int32))] := Aa168
            refine X.astore (q := 98) (Ls' := #[.val (.int x0), .val (.int x1), .val (.int x2), .val (.int x3), .val (.int x4), .val (.int m), .val (.int (1 : Int32)), .val (.int (2 : Int32)), .val (.ref a168), .unset, .unset, .unset]) at_96 rfl rfl rfl ?_
            refine X.aload (q := 100) at_98 rfl rfl rfl ?_
            refine X.iconst (q := 101) (0 : Int32) at_100 (by decide) rfl ?_
            refine X.iloadN (q := 102) at_101 rfl rfl ?_
            refine X.iload (q := 104) at_102 rfl rfl ?_
            refine X.callS (own_tag l Z a0 hw h167 n0 x1 (1 : Int32)) (hw _ (List.mem_of_getElem? (i := 30) rfl)) (hw _ (List.mem_of_getElem? (i := 31) rfl)) (hw _ (List.mem_of_getElem? (i := 32) rfl)) (hw _ (List.mem_of_getElem? (i := 33) rfl)) (by decide) own_pd6 (argsL := [(.int x1), (.int (1 : Int32))]) (rest := [(.int (0 : Int32)), (.ref a168)]) rfl rfl rfl (W := 2) (Nat.le_of_eq rfl) rfl (by decide) (by decide) (k' := 1) (n' := 7) rfl rfl (by decide) (by decide) at_104 (q := 107) rfl ?_
            rintro _ _ ⟨ta, rfl, hta, rfl⟩
            show X.G h167 1 7 107 #[.val (.int x0), .val (.int x1), .val (.int x2), .val (.int x3), .val (.int x4), .val (.int m), .val (.int (1 : Int32)), .val (.int (2 : Int32)), .val (.ref a168), .unset, .unset, .unset] [(.int ta), (.int (0 : Int32)), (.ref a168)]
            refine X.i2b (q := 108) at_107 rfl ?_
            refine X.bastore (q := 109) (j := 0) Aa168 rfl (by simp) gea168 at_108 rfl (fun h169 Wh169 Ah169 => ?_)
            have hsh169 : n0 ≤ h169.size := by rw [Wr.size Wh169]; exact hsh167
            have Ah169_ : OwA Z h169 a168 .byte [(.int (nar .byte ta.toInt8.toInt32)), (.int (0 : Int32)), (.int (0 : Int32)), (.int (0 : Int32)), (.int (0 : Int32)), (.int (0 : Int32)), (.int (0 : Int32))] := Ah169
            refine X.aload (q := 111) at_109 rfl rfl rfl ?_
            refine X.iconst (q := 112) (1 : Int32) at_111 (by decide) rfl ?_
            refine X.iload (q := 114) at_112 rfl rfl ?_
            refine X.i2b (q := 115) at_114 rfl ?_
            refine X.bastore (q := 116) (j := 1) Ah169_ rfl (by simp) gea168 at_115 rfl (fun h170 Wh170 Ah170 => ?_)
            have hsh170 : n0 ≤ h170.size := by rw [Wr.size Wh170]; exact hsh169
            have Ah170_ : OwA Z h170 a168 .byte [(.int (nar .byte ta.toInt8.toInt32)), (.int (nar .byte (1 : Int32).toInt8.toInt32)), (.int (0 : Int32)), (.int (0 : Int32)), (.int (0 : Int32)), (.int (0 : Int32)), (.int (0 : Int32))] := Ah170
            refine X.aload (q := 118) at_116 rfl rfl rfl ?_
            refine X.iconst (q := 119) (2 : Int32) at_118 (by decide) rfl ?_
            refine X.iload (q := 121) at_119 rfl rfl ?_
            refine X.iload (q := 123) at_121 rfl rfl ?_
            refine X.callS (own_put1 l Z a0 hw h170 n0 a168 (2 : Int32) x4 2 _ rfl (by simp) (by decide) hsh170 Ah170_ gea168) (hw _ (List.mem_of_getElem? (i := 34) rfl)) (hw _ (List.mem_of_getElem? (i := 35) rfl)) (hw _ (List.mem_of_getElem? (i := 32) rfl)) (hw _ (List.mem_of_getElem? (i := 36) rfl)) (by decide) own_pd7 (argsL := [(.ref a168), (.int (2 : Int32)), (.int (1 : Int32)), (.int x4)]) (rest := []) rfl rfl rfl (W := 0) (Nat.le_of_eq rfl) rfl (by decide) (by decide) (k' := 1) (n' := 7) rfl rfl (by decide) (by decide) at_123 (q := 126) rfl ?_
            rintro _ h171 ⟨u0, rfl, Kh171c, Gu⟩
            have hsh171 : n0 ≤ h171.size := Nat.le_trans hsh170 Kh171c.1
            show X.G h171 1 7 126 #[.val (.int x0), .val (.int x1), .val (.int x2), .val (.int x3), .val (.int x4), .val (.int m), .val (.int (1 : Int32)), .val (.int (2 : Int32)), .val (.ref a168), .unset, .unset, .unset] []
            have Gu : OwA Z h171 a168 .byte [(.int (nar .byte ta.toInt8.toInt32)), (.int (nar .byte (1 : Int32).toInt8.toInt32)), (.int (nar .byte u0.toInt8.toInt32)), (.int (0 : Int32)), (.int (0 : Int32)), (.int (0 : Int32)), (.int (0 : Int32))] := Gu
            refine X.aload (q := 128) at_126 rfl rfl rfl ?_
            refine X.iconst (q := 129) (2 : Int32) at_128 (by decide) rfl ?_
            refine X.iload (q := 131) at_129 rfl rfl ?_
            refine X.iadd (q := 132) at_131 rfl ?_
            refine X.foldI (v := (3 : Int32)) (by decide) ?_
            refine X.iloadN (q := 133) at_132 rfl rfl ?_
            refine X.iload (q := 135) at_133 rfl rfl ?_
            refine X.callS (own_tag l Z a0 hw h171 n0 x2 (2 : Int32)) (hw _ (List.mem_of_getElem? (i := 30) rfl)) (hw _ (List.mem_of_getElem? (i := 31) rfl)) (hw _ (List.mem_of_getElem? (i := 32) rfl)) (hw _ (List.mem_of_getElem? (i := 33) rfl)) (by decide) own_pd6 (argsL := [(.int x2), (.int (2 : Int32))]) (rest := [(.int (3 : Int32)), (.ref a168)]) rfl rfl rfl (W := 2) (Nat.le_of_eq rfl) rfl (by decide) (by decide) (k' := 1) (n' := 7) rfl rfl (by decide) (by decide) at_135 (q := 138) rfl ?_
            rintro _ _ ⟨tb, rfl, htb, rfl⟩
            show X.G h171 1 7 138 #[.val (.int x0), .val (.int x1), .val (.int x2), .val (.int x3), .val (.int x4), .val (.int m), .val (.int (1 : Int32)), .val (.int (2 : Int32)), .val (.ref a168), .unset, .unset, .unset] [(.int tb), (.int (3 : Int32)), (.ref a168)]
            refine X.i2b (q := 139) at_138 rfl ?_
            refine X.bastore (q := 140) (j := 3) Gu rfl (by simp) gea168 at_139 rfl (fun h172 Wh172 Ah172 => ?_)
            have hsh172 : n0 ≤ h172.size := by rw [Wr.size Wh172]; exact hsh171
            have Ah172_ : OwA Z h172 a168 .byte [(.int (nar .byte ta.toInt8.toInt32)), (.int (nar .byte (1 : Int32).toInt8.toInt32)), (.int (nar .byte u0.toInt8.toInt32)), (.int (nar .byte tb.toInt8.toInt32)), (.int (0 : Int32)), (.int (0 : Int32)), (.int (0 : Int32))] := Ah172
            refine X.aload (q := 142) at_140 rfl rfl rfl ?_
            refine X.iconst (q := 143) (3 : Int32) at_142 (by decide) rfl ?_
            refine X.iload (q := 145) at_143 rfl rfl ?_
            refine X.iadd (q := 146) at_145 rfl ?_
            refine X.foldI (v := (4 : Int32)) (by decide) ?_
            refine X.iload (q := 148) at_146 rfl rfl ?_
            refine X.i2b (q := 149) at_148 rfl ?_
            refine X.bastore (q := 150) (j := 4) Ah172_ rfl (by simp) gea168 at_149 rfl (fun h173 Wh173 Ah173 => ?_)
            have hsh173 : n0 ≤ h173.size := by rw [Wr.size Wh173]; exact hsh172
            have Ah173_ : OwA Z h173 a168 .byte [(.int (nar .byte ta.toInt8.toInt32)), (.int (nar .byte (1 : Int32).toInt8.toInt32)), (.int (nar .byte u0.toInt8.toInt32)), (.int (nar .byte tb.toInt8.toInt32)), (.int (nar .byte (2 : Int32).toInt8.toInt32)), (.int (0 : Int32)), (.int (0 : Int32))] := Ah173
            refine X.aload (q := 152) at_150 rfl rfl rfl ?_
            refine X.iconst (q := 153) (4 : Int32) at_152 (by decide) rfl ?_
            refine X.iload (q := 155) at_153 rfl rfl ?_
            refine X.iadd (q := 156) at_155 rfl ?_
            refine X.foldI (v := (5 : Int32)) (by decide) ?_
            refine X.iload (q := 158) at_156 rfl rfl ?_
            refine X.iload (q := 160) at_158 rfl rfl ?_
            refine X.bipush (q := 162) (8 : Int32) at_160 (by decide) rfl ?_
            refine X.iushr (q := 163) at_162 rfl ?_
            refine X.callS (own_put2 l Z a0 hw h173 n0 a168 (5 : Int32) (XT.ushr x4 (8 : Int32)) 5 _ rfl (by simp) (by decide) hsh173 Ah173_ gea168) (hw _ (List.mem_of_getElem? (i := 34) rfl)) (hw _ (List.mem_of_getElem? (i := 35) rfl)) (hw _ (List.mem_of_getElem? (i := 32) rfl)) (hw _ (List.mem_of_getElem? (i := 36) rfl)) (by decide) own_pd7 (argsL := [(.ref a168), (.int (5 : Int32)), (.int (2 : Int32)), (.int (XT.ushr x4 (8 : Int32)))]) (rest := []) rfl rfl rfl (W := 0) (Nat.le_of_eq rfl) rfl (by decide) (by decide) (k' := 1) (n' := 7) rfl rfl (by decide) (by decide) at_163 (q := 166) rfl ?_
            rintro _ h174 ⟨v0, v1, rfl, Kh174c, Gv⟩
            have hsh174 : n0 ≤ h174.size := Nat.le_trans hsh173 Kh174c.1
            show X.G h174 1 7 166 #[.val (.int x0), .val (.int x1), .val (.int x2), .val (.int x3), .val (.int x4), .val (.int m), .val (.int (1 : Int32)), .val (.int (2 : Int32)), .val (.ref a168), .unset, .unset, .unset] []
            have Gv : OwA Z h174 a168 .byte [(.int (nar .byte ta.toInt8.toInt32)), (.int (nar .byte (1 : Int32).toInt8.toInt32)), (.int (nar .byte u0.toInt8.toInt32)), (.int (nar .byte tb.toInt8.toInt32)), (.int (nar .byte (2 : Int32).toInt8.toInt32)), (.int (nar .byte v0.toInt8.toInt32)), (.int (nar .byte v1.toInt8.toInt32))] := Gv
            refine X.iconst (q := 167) (2 : Int32) at_166 (by decide) rfl ?_
            refine X.istore (q := 169) (Ls' := #[.val (.int x0), .val (.int x1), .val (.int x2), .val (.int x3), .val (.int x4), .val (.int m), .val (.int (1 : Int32)), .val (.int (2 : Int32)), .val (.ref a168), .val (.int (2 : Int32)), .unset, .unset]) at_167 rfl rfl ?_
            refine X.goto (q' := 259) at_169 (by decide) ?_
            refine X.newO (q := 262) (k' := 2) (n' := 10) (hw _ (List.mem_of_getElem? (i := 1) rfl)) (hw _ (List.mem_of_getElem? (i := 2) rfl)) (hw _ (List.mem_of_getElem? (i := 3) rfl)) at_259 rfl rfl (by decide) (by decide) rfl (fun h175 a176 ga176 Eh175 Ba176 Da176 => ?_)
            have la168_a176 : a168 < a176 := by have := Gv.lt; rw [← ga176] at this; exact this
            have Gv'h175 : OwA Z h175 a168 .byte [(.int (nar .byte ta.toInt8.toInt32)), (.int (nar .byte (1 : Int32).toInt8.toInt32)), (.int (nar .byte u0.toInt8.toInt32)), (.int (nar .byte tb.toInt8.toInt32)), (.int (nar .byte (2 : Int32).toInt8.toInt32)), (.int (nar .byte v0.toInt8.toInt32)), (.int (nar .byte v1.toInt8.toInt32))] := OwA.ext (E := Eh175) Gv
            have gea176 : n0 ≤ a176 := by rw [ga176]; exact hsh174
            have hsh175 : n0 ≤ h175.size := Nat.le_trans hsh174 Eh175.1
            have Fa176_bytes : Fld Z h175 a176 "com/example/dircred/dircred/credential/DerReader" "bytes" "[B" .null := Da176 (Or.inr (hw _ (List.mem_of_getElem? (i := 14) rfl))) (ty := (.array .byte)) (by decide)
            have Fa176_position : Fld Z h175 a176 "com/example/dircred/dircred/credential/DerReader" "position" "I" (.int (0 : Int32)) := Da176 (Or.inl (hw _ (List.mem_of_getElem? (i := 16) rfl))) (ty := .int) (by decide)
            have Fa176_end : Fld Z h175 a176 "com/example/dircred/dircred/credential/DerReader" "end" "I" (.int (0 : Int32)) := Da176 (Or.inr (hw _ (List.mem_of_getElem? (i := 18) rfl))) (ty := .int) (by decide)
            refine X.dup (q := 263) at_262 rfl rfl ?_
            refine X.aload (q := 265) at_263 rfl rfl rfl ?_
            obtain ⟨L, hL⟩ : ∃ L_ : List Int32, L_ = [(nar .byte ta.toInt8.toInt32), (nar .byte (1 : Int32).toInt8.toInt32), (nar .byte u0.toInt8.toInt32), (nar .byte tb.toInt8.toInt32), (nar .byte (2 : Int32).toInt8.toInt32), (nar .byte v0.toInt8.toInt32), (nar .byte v1.toInt8.toInt32)] := ⟨_, rfl⟩
            have AL : OwA Z h175 a168 .byte (L.map Value.int) := by rw [hL]; exact Gv'h175
            have nL : L.length = 7 := by rw [hL]; rfl
            have gL0 : (L.getD 0 0).toInt = (ta.toInt + 128) % 256 - 128 := by rw [hL]; exact own_nbt _
            have gL1 : (L.getD 1 0).toInt = ((1 : Int32).toInt + 128) % 256 - 128 := by rw [hL]; exact own_nbt _
            have gL2 : (L.getD 2 0).toInt = (u0.toInt + 128) % 256 - 128 := by rw [hL]; exact own_nbt _
            have gL3 : (L.getD 3 0).toInt = (tb.toInt + 128) % 256 - 128 := by rw [hL]; exact own_nbt _
            have gL4 : (L.getD 4 0).toInt = ((2 : Int32).toInt + 128) % 256 - 128 := by rw [hL]; exact own_nbt _
            have gL5 : (L.getD 5 0).toInt = (v0.toInt + 128) % 256 - 128 := by rw [hL]; exact own_nbt _
            have gL6 : (L.getD 6 0).toInt = (v1.toInt + 128) % 256 - 128 := by rw [hL]; exact own_nbt _
            have rL : ∀ x ∈ L, -128 ≤ x.toInt ∧ x.toInt ≤ 127 := by
              intro x hx; rw [hL] at hx
              simp only [List.mem_cons, List.not_mem_nil, or_false] at hx
              rcases hx with rfl | rfl | rfl | rfl | rfl | rfl | rfl
              · rw [own_nbt]; omega
              · rw [own_nbt]; omega
              · rw [own_nbt]; omega
              · rw [own_nbt]; omega
              · rw [own_nbt]; omega
              · rw [own_nbt]; omega
              · rw [own_nbt]; omega
            clear hL
            refine X.special (a := a176) (own_i1 l Z a0 hw h175 n0 a176 a168 L (7 : Int32) (by rw [nL]; rfl) hsh175 Ba176 Fa176_bytes Fa176_position Fa176_end AL gea176 (Nat.ne_of_gt la168_a176)) rfl (hw _ (List.mem_of_getElem? (i := 4) rfl)) (hw _ (List.mem_of_getElem? (i := 5) rfl)) (hw _ (List.mem_of_getElem? (i := 3) rfl)) (hw _ (List.mem_of_getElem? (i := 6) rfl)) (by decide) own_pd8 (argsL := [(.ref a168)]) (rest := [(.ref a176)]) rfl rfl rfl (W := 1) (Nat.le_of_eq rfl) rfl (by decide) (by decide) (k' := 2) (n' := 10) rfl rfl (by decide) (by decide) at_265 (q := 268) rfl ?_
            rintro _ h177 ⟨rfl, Kh177c, Db, Dp, De⟩
            have AL'h177 : OwA Z h177 a168 .byte (L.map Value.int) := OwA.keep AL Kh177c (ninS (Nat.ne_of_lt la168_a176) nin0)
            have Ba176'h177 : Exa Z h177 a176 "com/example/dircred/dircred/credential/DerReader" := Exa.keep Ba176 Kh177c
            have hsh177 : n0 ≤ h177.size := Nat.le_trans hsh175 Kh177c.1
            show X.G h177 2 10 268 #[.val (.int x0), .val (.int x1), .val (.int x2), .val (.int x3), .val (.int x4), .val (.int m), .val (.int (1 : Int32)), .val (.int (2 : Int32)), .val (.ref a168), .val (.int (2 : Int32)), .unset, .unset] [(.ref a176)]
            refine X.astore (q := 270) (Ls' := #[.val (.int x0), .val (.int x1), .val (.int x2), .val (.int x3), .val (.int x4), .val (.int m), .val (.int (1 : Int32)), .val (.int (2 : Int32)), .val (.ref a168), .val (.int (2 : Int32)), .val (.ref a176), .unset]) at_268 rfl rfl rfl ?_
            refine X.iload (q := 272) at_270 rfl rfl ?_
            refine X.iconst (q := 273) (1 : Int32) at_272 (by decide) rfl ?_
            refine X.icmp_lt (a := 2) (b := 1) (q' := 281) (q := 276) at_273 rfl rfl (by decide) rfl (fun c273 => ?_) (fun c273 => ?_)
            · omega
            · refine X.aload (q := 278) at_276 rfl rfl rfl ?_
              have H1 : own_hdr L 0 ta 1 2 (2 : Int32) (1 : Int32) := by have k1_ : (1 : Int32).toInt = 1 := rfl; have k2_ : (2 : Int32).toInt = 2 := rfl; unfold own_hdr; simp only [nL, Nat.reduceAdd, and_true]; refine ⟨?_, ?_, ?_, ?_, ?_, ?_, ?_, ?_⟩ <;> first | omega | rfl
              refine X.virtual (a := a176) (own_skip l Z a0 hw h177 n0 a176 a168 L (0 : Int32) (7 : Int32) 0 ta 1 2 (2 : Int32) (1 : Int32) rL (by rw [nL]; rfl) (by rw [nL]; decide) rfl H1 (3 : Int32) rfl (by decide) hsh177 Ba176'h177 Db Dp De AL'h177 gea176 (Nat.ne_of_gt la168_a176)) (hw _ (List.mem_of_getElem? (i := 37) rfl)) (hw _ (List.mem_of_getElem? (i := 38) rfl)) (hw _ (List.mem_of_getElem? (i := 40) rfl)) (hw _ (List.mem_of_getElem? (i := 39) rfl)) (hw _ (List.mem_of_getElem? (i := 3) rfl)) (hw _ (List.mem_of_getElem? (i := 41) rfl)) (by decide) Ba176'h177 own_pd9 (argsL := []) (rest := []) rfl rfl rfl (W := 0) (Nat.le_of_eq rfl) rfl (by decide) (by decide) (k' := 4) (n' := 17) rfl rfl (by decide) (by decide) at_278 (q := 281) rfl ?_
              rintro _ h178 ⟨rfl, Kh178c, S1b, S1p, S1e⟩
              have AL'h178 : OwA Z h178 a168 .byte (L.map Value.int) := OwA.keep AL'h177 Kh178c (ninS (Nat.ne_of_lt la168_a176) nin0)
              have Ba176'h178 : Exa Z h178 a176 "com/example/dircred/dircred/credential/DerReader" := Exa.keep Ba176'h177 Kh178c
              have hsh178 : n0 ≤ h178.size := Nat.le_trans hsh177 Kh178c.1
              show X.G h178 4 17 281 #[.val (.int x0), .val (.int x1), .val (.int x2), .val (.int x3), .val (.int x4), .val (.int m), .val (.int (1 : Int32)), .val (.int (2 : Int32)), .val (.ref a168), .val (.int (2 : Int32)), .val (.ref a176), .unset] []
              refine X.iload (q := 283) at_281 rfl rfl ?_
              refine X.iconst (q := 284) (2 : Int32) at_283 (by decide) rfl ?_
              refine X.icmp_ne (a := 2) (b := 2) (q' := 302) (q := 287) at_284 rfl rfl (by decide) rfl (fun c284 => ?_) (fun c284 => ?_)
              · omega
              · refine X.aload (q := 289) at_287 rfl rfl rfl ?_
                refine X.virtual (a := a176) (own_hm l Z a0 hw h178 n0 a176 (3 : Int32) (7 : Int32) hsh178 S1p S1e) (hw _ (List.mem_of_getElem? (i := 19) rfl)) (hw _ (List.mem_of_getElem? (i := 20) rfl)) (hw _ (List.mem_of_getElem? (i := 22) rfl)) (hw _ (List.mem_of_getElem? (i := 21) rfl)) (hw _ (List.mem_of_getElem? (i := 3) rfl)) (hw _ (List.mem_of_getElem? (i := 23) rfl)) (by decide) Ba176'h178 own_pd5 (argsL := []) (rest := []) rfl rfl rfl (W := 0) (Nat.le_of_eq rfl) rfl (by decide) (by decide) (k' := 4) (n' := 17) rfl rfl (by decide) (by decide) at_289 (q := 292) rfl ?_
                rintro _ _ ⟨zm, rfl, hzm, rfl⟩
                show X.G h178 4 17 292 #[.val (.int x0), .val (.int x1), .val (.int x2), .val (.int x3), .val (.int x4), .val (.int m), .val (.int (1 : Int32)), .val (.int (2 : Int32)), .val (.ref a168), .val (.int (2 : Int32)), .val (.ref a176), .unset] [(.int zm)]
                refine X.if_ne (q' := 297) (q := 295) at_292 rfl (by decide) rfl (fun c292 => ?_) (fun c292 => ?_)
                · refine X.aload (q := 299) at_297 rfl rfl rfl ?_
                  have H2 : own_hdr L 3 tb 4 5 (5 : Int32) (2 : Int32) := by have k2_ : (2 : Int32).toInt = 2 := rfl; have k5_ : (5 : Int32).toInt = 5 := rfl; unfold own_hdr; simp only [nL, Nat.reduceAdd, and_true]; refine ⟨?_, ?_, ?_, ?_, ?_, ?_, ?_, ?_⟩ <;> first | omega | rfl
                  refine X.virtual (a := a176) (own_skip l Z a0 hw h178 n0 a176 a168 L (3 : Int32) (7 : Int32) 3 tb 4 5 (5 : Int32) (2 : Int32) rL (by rw [nL]; rfl) (by rw [nL]; decide) rfl H2 (7 : Int32) rfl (by decide) hsh178 Ba176'h178 S1b S1p S1e AL'h178 gea176 (Nat.ne_of_gt la168_a176)) (hw _ (List.mem_of_getElem? (i := 37) rfl)) (hw _ (List.mem_of_getElem? (i := 38) rfl)) (hw _ (List.mem_of_getElem? (i := 40) rfl)) (hw _ (List.mem_of_getElem? (i := 39) rfl)) (hw _ (List.mem_of_getElem? (i := 3) rfl)) (hw _ (List.mem_of_getElem? (i := 41) rfl)) (by decide) Ba176'h178 own_pd9 (argsL := []) (rest := []) rfl rfl rfl (W := 0) (Nat.le_of_eq rfl) rfl (by decide) (by decide) (k' := 6) (n' := 24) rfl rfl (by decide) (by decide) at_299 (q := 302) rfl ?_
                  rintro _ h179 ⟨rfl, Kh179c, S2b, S2p, S2e⟩
                  have AL'h179 : OwA Z h179 a168 .byte (L.map Value.int) := OwA.keep AL'h178 Kh179c (ninS (Nat.ne_of_lt la168_a176) nin0)
                  have Ba176'h179 : Exa Z h179 a176 "com/example/dircred/dircred/credential/DerReader" := Exa.keep Ba176'h178 Kh179c
                  have hsh179 : n0 ≤ h179.size := Nat.le_trans hsh178 Kh179c.1
                  show X.G h179 6 24 302 #[.val (.int x0), .val (.int x1), .val (.int x2), .val (.int x3), .val (.int x4), .val (.int m), .val (.int (1 : Int32)), .val (.int (2 : Int32)), .val (.ref a168), .val (.int (2 : Int32)), .val (.ref a176), .unset] []
                  refine X.aload (q := 304) at_302 rfl rfl rfl ?_
                  refine X.virtual (a := a176) (own_hm l Z a0 hw h179 n0 a176 (7 : Int32) (7 : Int32) hsh179 S2p S2e) (hw _ (List.mem_of_getElem? (i := 19) rfl)) (hw _ (List.mem_of_getElem? (i := 20) rfl)) (hw _ (List.mem_of_getElem? (i := 22) rfl)) (hw _ (List.mem_of_getElem? (i := 21) rfl)) (hw _ (List.mem_of_getElem? (i := 3) rfl)) (hw _ (List.mem_of_getElem? (i := 23) rfl)) (by decide) Ba176'h179 own_pd5 (argsL := []) (rest := []) rfl rfl rfl (W := 0) (Nat.le_of_eq rfl) rfl (by decide) (by decide) (k' := 6) (n' := 24) rfl rfl (by decide) (by decide) at_304 (q := 307) rfl ?_
                  rintro _ _ ⟨zb, rfl, hzb, rfl⟩
                  show X.G h179 6 24 307 #[.val (.int x0), .val (.int x1), .val (.int x2), .val (.int x3), .val (.int x4), .val (.int m), .val (.int (1 : Int32)), .val (.int (2 : Int32)), .val (.ref a168), .val (.int (2 : Int32)), .val (.ref a176), .unset] [(.int zb)]
                  refine X.istore (q := 309) (Ls' := #[.val (.int x0), .val (.int x1), .val (.int x2), .val (.int x3), .val (.int x4), .val (.int m), .val (.int (1 : Int32)), .val (.int (2 : Int32)), .val (.ref a168), .val (.int (2 : Int32)), .val (.ref a176), .val (.int zb)]) at_307 rfl rfl ?_
                  refine X.aload (q := 311) at_309 rfl rfl rfl ?_
                  refine X.virtual (a := a176) (own_en l Z a0 hw h179 n0 a176 a168 (7 : Int32) (7 : Int32) (by decide) hsh179 Ba176'h179 S2b S2p S2e) (hw _ (List.mem_of_getElem? (i := 24) rfl)) (hw _ (List.mem_of_getElem? (i := 25) rfl)) (hw _ (List.mem_of_getElem? (i := 27) rfl)) (hw _ (List.mem_of_getElem? (i := 26) rfl)) (hw _ (List.mem_of_getElem? (i := 3) rfl)) (hw _ (List.mem_of_getElem? (i := 28) rfl)) (by decide) Ba176'h179 own_pd9 (argsL := []) (rest := []) rfl rfl rfl (W := 0) (Nat.le_of_eq rfl) rfl (by decide) (by decide) (k' := 6) (n' := 24) rfl rfl (by decide) (by decide) at_311 (q := 314) rfl ?_
                  rintro _ _ ⟨rfl, rfl⟩
                  show X.G h179 6 24 314 #[.val (.int x0), .val (.int x1), .val (.int x2), .val (.int x3), .val (.int x4), .val (.int m), .val (.int (1 : Int32)), .val (.int (2 : Int32)), .val (.ref a168), .val (.int (2 : Int32)), .val (.ref a176), .val (.int zb)] []
                  refine X.iload (q := 316) at_314 rfl rfl ?_
                  refine X.if_ne (q' := 331) (q := 319) at_316 rfl (by decide) rfl (fun c316 => ?_) (fun c316 => ?_)
                  · omega
                  · refine X.aload (q := 321) at_319 rfl rfl rfl ?_
                    refine X.virtual (a := a176) (own_hm l Z a0 hw h179 n0 a176 (7 : Int32) (7 : Int32) hsh179 S2p S2e) (hw _ (List.mem_of_getElem? (i := 19) rfl)) (hw _ (List.mem_of_getElem? (i := 20) rfl)) (hw _ (List.mem_of_getElem? (i := 22) rfl)) (hw _ (List.mem_of_getElem? (i := 21) rfl)) (hw _ (List.mem_of_getElem? (i := 3) rfl)) (hw _ (List.mem_of_getElem? (i := 23) rfl)) (by decide) Ba176'h179 own_pd5 (argsL := []) (rest := []) rfl rfl rfl (W := 0) (Nat.le_of_eq rfl) rfl (by decide) (by decide) (k' := 6) (n' := 24) rfl rfl (by decide) (by decide) at_321 (q := 324) rfl ?_
                    rintro _ _ ⟨zc, rfl, hzc, rfl⟩
                    show X.G h179 6 24 324 #[.val (.int x0), .val (.int x1), .val (.int x2), .val (.int x3), .val (.int x4), .val (.int m), .val (.int (1 : Int32)), .val (.int (2 : Int32)), .val (.ref a168), .val (.int (2 : Int32)), .val (.ref a176), .val (.int zb)] [(.int zc)]
                    refine X.if_ne (q' := 331) (q := 327) at_324 rfl (by decide) rfl (fun c324 => ?_) (fun c324 => ?_)
                    · omega
                    · refine X.iconst (q := 328) (1 : Int32) at_327 (by decide) rfl ?_
                      refine X.goto (q' := 332) at_328 (by decide) ?_
                      refine X.retN (t := .boolean) (z' := (1 : Int32)) at_332 rfl (by simp) (by decide) (by decide) (by decide) ?_
                      rfl
                · omega
          · refine X.iload (q := 90) at_88 rfl rfl ?_
            refine X.iadd (q := 91) at_90 rfl ?_
            refine X.foldI (v := (5 : Int32)) (by decide) ?_
            refine X.iload (q := 93) at_91 rfl rfl ?_
            refine X.iadd (q := 94) at_93 rfl ?_
            refine X.foldI (v := (8 : Int32)) (by decide) ?_
            refine X.newP (q := 96) (ty := .byte) (N := 8) (cap := 8) (k' := 1) (n' := 8) (hw _ (List.mem_of_getElem? (i := 0) rfl)) at_94 rfl rfl (Nat.le_refl _) (by decide) rfl rfl (by decide) (by decide) rfl (fun h180 a181 ga181 Eh180 Aa181 => ?_)
            have gea181 : n0 ≤ a181 := by rw [ga181]; exact hn0
            have hsh180 : n0 ≤ h180.size := Nat.le_trans hn0 Eh180.1
            have Aa181 : OwA Z h180 a181 .byte [(.int (0 : Int32)), (.int (0 : Int32)), (.int (0 : Int32)), (.int (0 : Int32)), (.int (0 : Int32)), (.int (0 : Int32)), (.int (0 : Int32)), (.int (0 : Int32))] := Aa181
            refine X.astore (q := 98) (Ls' := #[.val (.int x0), .val (.int x1), .val (.int x2), .val (.int x3), .val (.int x4), .val (.int m), .val (.int (1 : Int32)), .val (.int (3 : Int32)), .val (.ref a181), .unset, .unset, .unset]) at_96 rfl rfl rfl ?_
            refine X.aload (q := 100) at_98 rfl rfl rfl ?_
            refine X.iconst (q := 101) (0 : Int32) at_100 (by decide) rfl ?_
            refine X.iloadN (q := 102) at_101 rfl rfl ?_
            refine X.iload (q := 104) at_102 rfl rfl ?_
            refine X.callS (own_tag l Z a0 hw h180 n0 x1 (1 : Int32)) (hw _ (List.mem_of_getElem? (i := 30) rfl)) (hw _ (List.mem_of_getElem? (i := 31) rfl)) (hw _ (List.mem_of_getElem? (i := 32) rfl)) (hw _ (List.mem_of_getElem? (i := 33) rfl)) (by decide) own_pd6 (argsL := [(.int x1), (.int (1 : Int32))]) (rest := [(.int (0 : Int32)), (.ref a181)]) rfl rfl rfl (W := 2) (Nat.le_of_eq rfl) rfl (by decide) (by decide) (k' := 1) (n' := 8) rfl rfl (by decide) (by decide) at_104 (q := 107) rfl ?_
            rintro _ _ ⟨ta, rfl, hta, rfl⟩
            show X.G h180 1 8 107 #[.val (.int x0), .val (.int x1), .val (.int x2), .val (.int x3), .val (.int x4), .val (.int m), .val (.int (1 : Int32)), .val (.int (3 : Int32)), .val (.ref a181), .unset, .unset, .unset] [(.int ta), (.int (0 : Int32)), (.ref a181)]
            refine X.i2b (q := 108) at_107 rfl ?_
            refine X.bastore (q := 109) (j := 0) Aa181 rfl (by simp) gea181 at_108 rfl (fun h182 Wh182 Ah182 => ?_)
            have hsh182 : n0 ≤ h182.size := by rw [Wr.size Wh182]; exact hsh180
            have Ah182_ : OwA Z h182 a181 .byte [(.int (nar .byte ta.toInt8.toInt32)), (.int (0 : Int32)), (.int (0 : Int32)), (.int (0 : Int32)), (.int (0 : Int32)), (.int (0 : Int32)), (.int (0 : Int32)), (.int (0 : Int32))] := Ah182
            refine X.aload (q := 111) at_109 rfl rfl rfl ?_
            refine X.iconst (q := 112) (1 : Int32) at_111 (by decide) rfl ?_
            refine X.iload (q := 114) at_112 rfl rfl ?_
            refine X.i2b (q := 115) at_114 rfl ?_
            refine X.bastore (q := 116) (j := 1) Ah182_ rfl (by simp) gea181 at_115 rfl (fun h183 Wh183 Ah183 => ?_)
            have hsh183 : n0 ≤ h183.size := by rw [Wr.size Wh183]; exact hsh182
            have Ah183_ : OwA Z h183 a181 .byte [(.int (nar .byte ta.toInt8.toInt32)), (.int (nar .byte (1 : Int32).toInt8.toInt32)), (.int (0 : Int32)), (.int (0 : Int32)), (.int (0 : Int32)), (.int (0 : Int32)), (.int (0 : Int32)), (.int (0 : Int32))] := Ah183
            refine X.aload (q := 118) at_116 rfl rfl rfl ?_
            refine X.iconst (q := 119) (2 : Int32) at_118 (by decide) rfl ?_
            refine X.iload (q := 121) at_119 rfl rfl ?_
            refine X.iload (q := 123) at_121 rfl rfl ?_
            refine X.callS (own_put1 l Z a0 hw h183 n0 a181 (2 : Int32) x4 2 _ rfl (by simp) (by decide) hsh183 Ah183_ gea181) (hw _ (List.mem_of_getElem? (i := 34) rfl)) (hw _ (List.mem_of_getElem? (i := 35) rfl)) (hw _ (List.mem_of_getElem? (i := 32) rfl)) (hw _ (List.mem_of_getElem? (i := 36) rfl)) (by decide) own_pd7 (argsL := [(.ref a181), (.int (2 : Int32)), (.int (1 : Int32)), (.int x4)]) (rest := []) rfl rfl rfl (W := 0) (Nat.le_of_eq rfl) rfl (by decide) (by decide) (k' := 1) (n' := 8) rfl rfl (by decide) (by decide) at_123 (q := 126) rfl ?_
            rintro _ h184 ⟨u0, rfl, Kh184c, Gu⟩
            have hsh184 : n0 ≤ h184.size := Nat.le_trans hsh183 Kh184c.1
            show X.G h184 1 8 126 #[.val (.int x0), .val (.int x1), .val (.int x2), .val (.int x3), .val (.int x4), .val (.int m), .val (.int (1 : Int32)), .val (.int (3 : Int32)), .val (.ref a181), .unset, .unset, .unset] []
            have Gu : OwA Z h184 a181 .byte [(.int (nar .byte ta.toInt8.toInt32)), (.int (nar .byte (1 : Int32).toInt8.toInt32)), (.int (nar .byte u0.toInt8.toInt32)), (.int (0 : Int32)), (.int (0 : Int32)), (.int (0 : Int32)), (.int (0 : Int32)), (.int (0 : Int32))] := Gu
            refine X.aload (q := 128) at_126 rfl rfl rfl ?_
            refine X.iconst (q := 129) (2 : Int32) at_128 (by decide) rfl ?_
            refine X.iload (q := 131) at_129 rfl rfl ?_
            refine X.iadd (q := 132) at_131 rfl ?_
            refine X.foldI (v := (3 : Int32)) (by decide) ?_
            refine X.iloadN (q := 133) at_132 rfl rfl ?_
            refine X.iload (q := 135) at_133 rfl rfl ?_
            refine X.callS (own_tag l Z a0 hw h184 n0 x2 (3 : Int32)) (hw _ (List.mem_of_getElem? (i := 30) rfl)) (hw _ (List.mem_of_getElem? (i := 31) rfl)) (hw _ (List.mem_of_getElem? (i := 32) rfl)) (hw _ (List.mem_of_getElem? (i := 33) rfl)) (by decide) own_pd6 (argsL := [(.int x2), (.int (3 : Int32))]) (rest := [(.int (3 : Int32)), (.ref a181)]) rfl rfl rfl (W := 2) (Nat.le_of_eq rfl) rfl (by decide) (by decide) (k' := 1) (n' := 8) rfl rfl (by decide) (by decide) at_135 (q := 138) rfl ?_
            rintro _ _ ⟨tb, rfl, htb, rfl⟩
            show X.G h184 1 8 138 #[.val (.int x0), .val (.int x1), .val (.int x2), .val (.int x3), .val (.int x4), .val (.int m), .val (.int (1 : Int32)), .val (.int (3 : Int32)), .val (.ref a181), .unset, .unset, .unset] [(.int tb), (.int (3 : Int32)), (.ref a181)]
            refine X.i2b (q := 139) at_138 rfl ?_
            refine X.bastore (q := 140) (j := 3) Gu rfl (by simp) gea181 at_139 rfl (fun h185 Wh185 Ah185 => ?_)
            have hsh185 : n0 ≤ h185.size := by rw [Wr.size Wh185]; exact hsh184
            have Ah185_ : OwA Z h185 a181 .byte [(.int (nar .byte ta.toInt8.toInt32)), (.int (nar .byte (1 : Int32).toInt8.toInt32)), (.int (nar .byte u0.toInt8.toInt32)), (.int (nar .byte tb.toInt8.toInt32)), (.int (0 : Int32)), (.int (0 : Int32)), (.int (0 : Int32)), (.int (0 : Int32))] := Ah185
            refine X.aload (q := 142) at_140 rfl rfl rfl ?_
            refine X.iconst (q := 143) (3 : Int32) at_142 (by decide) rfl ?_
            refine X.iload (q := 145) at_143 rfl rfl ?_
            refine X.iadd (q := 146) at_145 rfl ?_
            refine X.foldI (v := (4 : Int32)) (by decide) ?_
            refine X.iload (q := 148) at_146 rfl rfl ?_
            refine X.i2b (q := 149) at_148 rfl ?_
            refine X.bastore (q := 150) (j := 4) Ah185_ rfl (by simp) gea181 at_149 rfl (fun h186 Wh186 Ah186 => ?_)
            have hsh186 : n0 ≤ h186.size := by rw [Wr.size Wh186]; exact hsh185
            have Ah186_ : OwA Z h186 a181 .byte [(.int (nar .byte ta.toInt8.toInt32)), (.int (nar .byte (1 : Int32).toInt8.toInt32)), (.int (nar .byte u0.toInt8.toInt32)), (.int (nar .byte tb.toInt8.toInt32)), (.int (nar .byte (3 : Int32).toInt8.toInt32)), (.int (0 : Int32)), (.int (0 : Int32)), (.int (0 : Int32))] := Ah186
            refine X.aload (q := 152) at_150 rfl rfl rfl ?_
            refine X.iconst (q := 153) (4 : Int32) at_152 (by decide) rfl ?_
            refine X.iload (q := 155) at_153 rfl rfl ?_
            refine X.iadd (q := 156) at_155 rfl ?_
            refine X.foldI (v := (5 : Int32)) (by decide) ?_
            refine X.iload (q := 158) at_156 rfl rfl ?_
            refine X.iload (q := 160) at_158 rfl rfl ?_
            refine X.bipush (q := 162) (8 : Int32) at_160 (by decide) rfl ?_
            refine X.iushr (q := 163) at_162 rfl ?_
            refine X.callS (own_put3 l Z a0 hw h186 n0 a181 (5 : Int32) (XT.ushr x4 (8 : Int32)) 5 _ rfl (by simp) (by decide) hsh186 Ah186_ gea181) (hw _ (List.mem_of_getElem? (i := 34) rfl)) (hw _ (List.mem_of_getElem? (i := 35) rfl)) (hw _ (List.mem_of_getElem? (i := 32) rfl)) (hw _ (List.mem_of_getElem? (i := 36) rfl)) (by decide) own_pd7 (argsL := [(.ref a181), (.int (5 : Int32)), (.int (3 : Int32)), (.int (XT.ushr x4 (8 : Int32)))]) (rest := []) rfl rfl rfl (W := 0) (Nat.le_of_eq rfl) rfl (by decide) (by decide) (k' := 1) (n' := 8) rfl rfl (by decide) (by decide) at_163 (q := 166) rfl ?_
            rintro _ h187 ⟨v0, v1, v2, rfl, Kh187c, Gv⟩
            have hsh187 : n0 ≤ h187.size := Nat.le_trans hsh186 Kh187c.1
            show X.G h187 1 8 166 #[.val (.int x0), .val (.int x1), .val (.int x2), .val (.int x3), .val (.int x4), .val (.int m), .val (.int (1 : Int32)), .val (.int (3 : Int32)), .val (.ref a181), .unset, .unset, .unset] []
            have Gv : OwA Z h187 a181 .byte [(.int (nar .byte ta.toInt8.toInt32)), (.int (nar .byte (1 : Int32).toInt8.toInt32)), (.int (nar .byte u0.toInt8.toInt32)), (.int (nar .byte tb.toInt8.toInt32)), (.int (nar .byte (3 : Int32).toInt8.toInt32)), (.int (nar .byte v0.toInt8.toInt32)), (.int (nar .byte v1.toInt8.toInt32)), (.int (nar .byte v2.toInt8.toInt32))] := Gv
            refine X.iconst (q := 167) (2 : Int32) at_166 (by decide) rfl ?_
            refine X.istore (q := 169) (Ls' := #[.val (.int x0), .val (.int x1), .val (.int x2), .val (.int x3), .val (.int x4), .val (.int m), .val (.int (1 : Int32)), .val (.int (3 : Int32)), .val (.ref a181), .val (.int (2 : Int32)), .unset, .unset]) at_167 rfl rfl ?_
            refine X.goto (q' := 259) at_169 (by decide) ?_
            refine X.newO (q := 262) (k' := 2) (n' := 11) (hw _ (List.mem_of_getElem? (i := 1) rfl)) (hw _ (List.mem_of_getElem? (i := 2) rfl)) (hw _ (List.mem_of_getElem? (i := 3) rfl)) at_259 rfl rfl (by decide) (by decide) rfl (fun h188 a189 ga189 Eh188 Ba189 Da189 => ?_)
            have la181_a189 : a181 < a189 := by have := Gv.lt; rw [← ga189] at this; exact this
            have Gv'h188 : OwA Z h188 a181 .byte [(.int (nar .byte ta.toInt8.toInt32)), (.int (nar .byte (1 : Int32).toInt8.toInt32)), (.int (nar .byte u0.toInt8.toInt32)), (.int (nar .byte tb.toInt8.toInt32)), (.int (nar .byte (3 : Int32).toInt8.toInt32)), (.int (nar .byte v0.toInt8.toInt32)), (.int (nar .byte v1.toInt8.toInt32)), (.int (nar .byte v2.toInt8.toInt32))] := OwA.ext (E := Eh188) Gv
            have gea189 : n0 ≤ a189 := by rw [ga189]; exact hsh187
            have hsh188 : n0 ≤ h188.size := Nat.le_trans hsh187 Eh188.1
            have Fa189_bytes : Fld Z h188 a189 "com/example/dircred/dircred/credential/DerReader" "bytes" "[B" .null := Da189 (Or.inr (hw _ (List.mem_of_getElem? (i := 14) rfl))) (ty := (.array .byte)) (by decide)
            have Fa189_position : Fld Z h188 a189 "com/example/dircred/dircred/credential/DerReader" "position" "I" (.int (0 : Int32)) := Da189 (Or.inl (hw _ (List.mem_of_getElem? (i := 16) rfl))) (ty := .int) (by decide)
            have Fa189_end : Fld Z h188 a189 "com/example/dircred/dircred/credential/DerReader" "end" "I" (.int (0 : Int32)) := Da189 (Or.inr (hw _ (List.mem_of_getElem? (i := 18) rfl))) (ty := .int) (by decide)
            refine X.dup (q := 263) at_262 rfl rfl ?_
            refine X.aload (q := 265) at_263 rfl rfl rfl ?_
            obtain ⟨L, hL⟩ : ∃ L_ : List Int32, L_ = [(nar .byte ta.toInt8.toInt32), (nar .byte (1 : Int32).toInt8.toInt32), (nar .byte u0.toInt8.toInt32), (nar .byte tb.toInt8.toInt32), (nar .byte (3 : Int32).toInt8.toInt32), (nar .byte v0.toInt8.toInt32), (nar .byte v1.toInt8.toInt32), (nar .byte v2.toInt8.toInt32)] := ⟨_, rfl⟩
            have AL : OwA Z h188 a181 .byte (L.map Value.int) := by rw [hL]; exact Gv'h188
            have nL : L.length = 8 := by rw [hL]; rfl
            have gL0 : (L.getD 0 0).toInt = (ta.toInt + 128) % 256 - 128 := by rw [hL]; exact own_nbt _
            have gL1 : (L.getD 1 0).toInt = ((1 : Int32).toInt + 128) % 256 - 128 := by rw [hL]; exact own_nbt _
            have gL2 : (L.getD 2 0).toInt = (u0.toInt + 128) % 256 - 128 := by rw [hL]; exact own_nbt _
            have gL3 : (L.getD 3 0).toInt = (tb.toInt + 128) % 256 - 128 := by rw [hL]; exact own_nbt _
            have gL4 : (L.getD 4 0).toInt = ((3 : Int32).toInt + 128) % 256 - 128 := by rw [hL]; exact own_nbt _
            have gL5 : (L.getD 5 0).toInt = (v0.toInt + 128) % 256 - 128 := by rw [hL]; exact own_nbt _
            have gL6 : (L.getD 6 0).toInt = (v1.toInt + 128) % 256 - 128 := by rw [hL]; exact own_nbt _
            have gL7 : (L.getD 7 0).toInt = (v2.toInt + 128) % 256 - 128 := by rw [hL]; exact own_nbt _
            have rL : ∀ x ∈ L, -128 ≤ x.toInt ∧ x.toInt ≤ 127 := by
              intro x hx; rw [hL] at hx
              simp only [List.mem_cons, List.not_mem_nil, or_false] at hx
              rcases hx with rfl | rfl | rfl | rfl | rfl | rfl | rfl | rfl
              · rw [own_nbt]; omega
              · rw [own_nbt]; omega
              · rw [own_nbt]; omega
              · rw [own_nbt]; omega
              · rw [own_nbt]; omega
              · rw [own_nbt]; omega
              · rw [own_nbt]; omega
              · rw [own_nbt]; omega
            clear hL
            refine X.special (a := a189) (own_i1 l Z a0 hw h188 n0 a189 a181 L (8 : Int32) (by rw [nL]; rfl) hsh188 Ba189 Fa189_bytes Fa189_position Fa189_end AL gea189 (Nat.ne_of_gt la181_a189)) rfl (hw _ (List.mem_of_getElem? (i := 4) rfl)) (hw _ (List.mem_of_getElem? (i := 5) rfl)) (hw _ (List.mem_of_getElem? (i := 3) rfl)) (hw _ (List.mem_of_getElem? (i := 6) rfl)) (by decide) own_pd8 (argsL := [(.ref a181)]) (rest := [(.ref a189)]) rfl rfl rfl (W := 1) (Nat.le_of_eq rfl) rfl (by decide) (by decide) (k' := 2) (n' := 11) rfl rfl (by decide) (by decide) at_265 (q := 268) rfl ?_
            rintro _ h190 ⟨rfl, Kh190c, Db, Dp, De⟩
            have AL'h190 : OwA Z h190 a181 .byte (L.map Value.int) := OwA.keep AL Kh190c (ninS (Nat.ne_of_lt la181_a189) nin0)
            have Ba189'h190 : Exa Z h190 a189 "com/example/dircred/dircred/credential/DerReader" := Exa.keep Ba189 Kh190c
            have hsh190 : n0 ≤ h190.size := Nat.le_trans hsh188 Kh190c.1
            show X.G h190 2 11 268 #[.val (.int x0), .val (.int x1), .val (.int x2), .val (.int x3), .val (.int x4), .val (.int m), .val (.int (1 : Int32)), .val (.int (3 : Int32)), .val (.ref a181), .val (.int (2 : Int32)), .unset, .unset] [(.ref a189)]
            refine X.astore (q := 270) (Ls' := #[.val (.int x0), .val (.int x1), .val (.int x2), .val (.int x3), .val (.int x4), .val (.int m), .val (.int (1 : Int32)), .val (.int (3 : Int32)), .val (.ref a181), .val (.int (2 : Int32)), .val (.ref a189), .unset]) at_268 rfl rfl rfl ?_
            refine X.iload (q := 272) at_270 rfl rfl ?_
            refine X.iconst (q := 273) (1 : Int32) at_272 (by decide) rfl ?_
            refine X.icmp_lt (a := 2) (b := 1) (q' := 281) (q := 276) at_273 rfl rfl (by decide) rfl (fun c273 => ?_) (fun c273 => ?_)
            · omega
            · refine X.aload (q := 278) at_276 rfl rfl rfl ?_
              have H1 : own_hdr L 0 ta 1 2 (2 : Int32) (1 : Int32) := by have k1_ : (1 : Int32).toInt = 1 := rfl; have k2_ : (2 : Int32).toInt = 2 := rfl; unfold own_hdr; simp only [nL, Nat.reduceAdd, and_true]; refine ⟨?_, ?_, ?_, ?_, ?_, ?_, ?_, ?_⟩ <;> first | omega | rfl
              refine X.virtual (a := a189) (own_skip l Z a0 hw h190 n0 a189 a181 L (0 : Int32) (8 : Int32) 0 ta 1 2 (2 : Int32) (1 : Int32) rL (by rw [nL]; rfl) (by rw [nL]; decide) rfl H1 (3 : Int32) rfl (by decide) hsh190 Ba189'h190 Db Dp De AL'h190 gea189 (Nat.ne_of_gt la181_a189)) (hw _ (List.mem_of_getElem? (i := 37) rfl)) (hw _ (List.mem_of_getElem? (i := 38) rfl)) (hw _ (List.mem_of_getElem? (i := 40) rfl)) (hw _ (List.mem_of_getElem? (i := 39) rfl)) (hw _ (List.mem_of_getElem? (i := 3) rfl)) (hw _ (List.mem_of_getElem? (i := 41) rfl)) (by decide) Ba189'h190 own_pd9 (argsL := []) (rest := []) rfl rfl rfl (W := 0) (Nat.le_of_eq rfl) rfl (by decide) (by decide) (k' := 4) (n' := 18) rfl rfl (by decide) (by decide) at_278 (q := 281) rfl ?_
              rintro _ h191 ⟨rfl, Kh191c, S1b, S1p, S1e⟩
              have AL'h191 : OwA Z h191 a181 .byte (L.map Value.int) := OwA.keep AL'h190 Kh191c (ninS (Nat.ne_of_lt la181_a189) nin0)
              have Ba189'h191 : Exa Z h191 a189 "com/example/dircred/dircred/credential/DerReader" := Exa.keep Ba189'h190 Kh191c
              have hsh191 : n0 ≤ h191.size := Nat.le_trans hsh190 Kh191c.1
              show X.G h191 4 18 281 #[.val (.int x0), .val (.int x1), .val (.int x2), .val (.int x3), .val (.int x4), .val (.int m), .val (.int (1 : Int32)), .val (.int (3 : Int32)), .val (.ref a181), .val (.int (2 : Int32)), .val (.ref a189), .unset] []
              refine X.iload (q := 283) at_281 rfl rfl ?_
              refine X.iconst (q := 284) (2 : Int32) at_283 (by decide) rfl ?_
              refine X.icmp_ne (a := 2) (b := 2) (q' := 302) (q := 287) at_284 rfl rfl (by decide) rfl (fun c284 => ?_) (fun c284 => ?_)
              · omega
              · refine X.aload (q := 289) at_287 rfl rfl rfl ?_
                refine X.virtual (a := a189) (own_hm l Z a0 hw h191 n0 a189 (3 : Int32) (8 : Int32) hsh191 S1p S1e) (hw _ (List.mem_of_getElem? (i := 19) rfl)) (hw _ (List.mem_of_getElem? (i := 20) rfl)) (hw _ (List.mem_of_getElem? (i := 22) rfl)) (hw _ (List.mem_of_getElem? (i := 21) rfl)) (hw _ (List.mem_of_getElem? (i := 3) rfl)) (hw _ (List.mem_of_getElem? (i := 23) rfl)) (by decide) Ba189'h191 own_pd5 (argsL := []) (rest := []) rfl rfl rfl (W := 0) (Nat.le_of_eq rfl) rfl (by decide) (by decide) (k' := 4) (n' := 18) rfl rfl (by decide) (by decide) at_289 (q := 292) rfl ?_
                rintro _ _ ⟨zm, rfl, hzm, rfl⟩
                show X.G h191 4 18 292 #[.val (.int x0), .val (.int x1), .val (.int x2), .val (.int x3), .val (.int x4), .val (.int m), .val (.int (1 : Int32)), .val (.int (3 : Int32)), .val (.ref a181), .val (.int (2 : Int32)), .val (.ref a189), .unset] [(.int zm)]
                refine X.if_ne (q' := 297) (q := 295) at_292 rfl (by decide) rfl (fun c292 => ?_) (fun c292 => ?_)
                · refine X.aload (q := 299) at_297 rfl rfl rfl ?_
                  have H2 : own_hdr L 3 tb 4 5 (5 : Int32) (3 : Int32) := by have k3_ : (3 : Int32).toInt = 3 := rfl; have k5_ : (5 : Int32).toInt = 5 := rfl; unfold own_hdr; simp only [nL, Nat.reduceAdd, and_true]; refine ⟨?_, ?_, ?_, ?_, ?_, ?_, ?_, ?_⟩ <;> first | omega | rfl
                  refine X.virtual (a := a189) (own_skip l Z a0 hw h191 n0 a189 a181 L (3 : Int32) (8 : Int32) 3 tb 4 5 (5 : Int32) (3 : Int32) rL (by rw [nL]; rfl) (by rw [nL]; decide) rfl H2 (8 : Int32) rfl (by decide) hsh191 Ba189'h191 S1b S1p S1e AL'h191 gea189 (Nat.ne_of_gt la181_a189)) (hw _ (List.mem_of_getElem? (i := 37) rfl)) (hw _ (List.mem_of_getElem? (i := 38) rfl)) (hw _ (List.mem_of_getElem? (i := 40) rfl)) (hw _ (List.mem_of_getElem? (i := 39) rfl)) (hw _ (List.mem_of_getElem? (i := 3) rfl)) (hw _ (List.mem_of_getElem? (i := 41) rfl)) (by decide) Ba189'h191 own_pd9 (argsL := []) (rest := []) rfl rfl rfl (W := 0) (Nat.le_of_eq rfl) rfl (by decide) (by decide) (k' := 6) (n' := 25) rfl rfl (by decide) (by decide) at_299 (q := 302) rfl ?_
                  rintro _ h192 ⟨rfl, Kh192c, S2b, S2p, S2e⟩
                  have AL'h192 : OwA Z h192 a181 .byte (L.map Value.int) := OwA.keep AL'h191 Kh192c (ninS (Nat.ne_of_lt la181_a189) nin0)
                  have Ba189'h192 : Exa Z h192 a189 "com/example/dircred/dircred/credential/DerReader" := Exa.keep Ba189'h191 Kh192c
                  have hsh192 : n0 ≤ h192.size := Nat.le_trans hsh191 Kh192c.1
                  show X.G h192 6 25 302 #[.val (.int x0), .val (.int x1), .val (.int x2), .val (.int x3), .val (.int x4), .val (.int m), .val (.int (1 : Int32)), .val (.int (3 : Int32)), .val (.ref a181), .val (.int (2 : Int32)), .val (.ref a189), .unset] []
                  refine X.aload (q := 304) at_302 rfl rfl rfl ?_
                  refine X.virtual (a := a189) (own_hm l Z a0 hw h192 n0 a189 (8 : Int32) (8 : Int32) hsh192 S2p S2e) (hw _ (List.mem_of_getElem? (i := 19) rfl)) (hw _ (List.mem_of_getElem? (i := 20) rfl)) (hw _ (List.mem_of_getElem? (i := 22) rfl)) (hw _ (List.mem_of_getElem? (i := 21) rfl)) (hw _ (List.mem_of_getElem? (i := 3) rfl)) (hw _ (List.mem_of_getElem? (i := 23) rfl)) (by decide) Ba189'h192 own_pd5 (argsL := []) (rest := []) rfl rfl rfl (W := 0) (Nat.le_of_eq rfl) rfl (by decide) (by decide) (k' := 6) (n' := 25) rfl rfl (by decide) (by decide) at_304 (q := 307) rfl ?_
                  rintro _ _ ⟨zb, rfl, hzb, rfl⟩
                  show X.G h192 6 25 307 #[.val (.int x0), .val (.int x1), .val (.int x2), .val (.int x3), .val (.int x4), .val (.int m), .val (.int (1 : Int32)), .val (.int (3 : Int32)), .val (.ref a181), .val (.int (2 : Int32)), .val (.ref a189), .unset] [(.int zb)]
                  refine X.istore (q := 309) (Ls' := #[.val (.int x0), .val (.int x1), .val (.int x2), .val (.int x3), .val (.int x4), .val (.int m), .val (.int (1 : Int32)), .val (.int (3 : Int32)), .val (.ref a181), .val (.int (2 : Int32)), .val (.ref a189), .val (.int zb)]) at_307 rfl rfl ?_
                  refine X.aload (q := 311) at_309 rfl rfl rfl ?_
                  refine X.virtual (a := a189) (own_en l Z a0 hw h192 n0 a189 a181 (8 : Int32) (8 : Int32) (by decide) hsh192 Ba189'h192 S2b S2p S2e) (hw _ (List.mem_of_getElem? (i := 24) rfl)) (hw _ (List.mem_of_getElem? (i := 25) rfl)) (hw _ (List.mem_of_getElem? (i := 27) rfl)) (hw _ (List.mem_of_getElem? (i := 26) rfl)) (hw _ (List.mem_of_getElem? (i := 3) rfl)) (hw _ (List.mem_of_getElem? (i := 28) rfl)) (by decide) Ba189'h192 own_pd9 (argsL := []) (rest := []) rfl rfl rfl (W := 0) (Nat.le_of_eq rfl) rfl (by decide) (by decide) (k' := 6) (n' := 25) rfl rfl (by decide) (by decide) at_311 (q := 314) rfl ?_
                  rintro _ _ ⟨rfl, rfl⟩
                  show X.G h192 6 25 314 #[.val (.int x0), .val (.int x1), .val (.int x2), .val (.int x3), .val (.int x4), .val (.int m), .val (.int (1 : Int32)), .val (.int (3 : Int32)), .val (.ref a181), .val (.int (2 : Int32)), .val (.ref a189), .val (.int zb)] []
                  refine X.iload (q := 316) at_314 rfl rfl ?_
                  refine X.if_ne (q' := 331) (q := 319) at_316 rfl (by decide) rfl (fun c316 => ?_) (fun c316 => ?_)
                  · omega
                  · refine X.aload (q := 321) at_319 rfl rfl rfl ?_
                    refine X.virtual (a := a189) (own_hm l Z a0 hw h192 n0 a189 (8 : Int32) (8 : Int32) hsh192 S2p S2e) (hw _ (List.mem_of_getElem? (i := 19) rfl)) (hw _ (List.mem_of_getElem? (i := 20) rfl)) (hw _ (List.mem_of_getElem? (i := 22) rfl)) (hw _ (List.mem_of_getElem? (i := 21) rfl)) (hw _ (List.mem_of_getElem? (i := 3) rfl)) (hw _ (List.mem_of_getElem? (i := 23) rfl)) (by decide) Ba189'h192 own_pd5 (argsL := []) (rest := []) rfl rfl rfl (W := 0) (Nat.le_of_eq rfl) rfl (by decide) (by decide) (k' := 6) (n' := 25) rfl rfl (by decide) (by decide) at_321 (q := 324) rfl ?_
                    rintro _ _ ⟨zc, rfl, hzc, rfl⟩
                    show X.G h192 6 25 324 #[.val (.int x0), .val (.int x1), .val (.int x2), .val (.int x3), .val (.int x4), .val (.int m), .val (.int (1 : Int32)), .val (.int (3 : Int32)), .val (.ref a181), .val (.int (2 : Int32)), .val (.ref a189), .val (.int zb)] [(.int zc)]
                    refine X.if_ne (q' := 331) (q := 327) at_324 rfl (by decide) rfl (fun c324 => ?_) (fun c324 => ?_)
                    · omega
                    · refine X.iconst (q := 328) (1 : Int32) at_327 (by decide) rfl ?_
                      refine X.goto (q' := 332) at_328 (by decide) ?_
                      refine X.retN (t := .boolean) (z' := (1 : Int32)) at_332 rfl (by simp) (by decide) (by decide) (by decide) ?_
                      rfl
                · omega
        · refine X.iconst (q := 88) (4 : Int32) at_87 (by decide) rfl ?_
          have hsp : l2 = (0 : Int32) ∨ l2 = (1 : Int32) ∨ l2 = (2 : Int32) ∨ l2 = (3 : Int32) := (by have q_ : l2.toInt = 0 ∨ l2.toInt = 1 ∨ l2.toInt = 2 ∨ l2.toInt = 3 := (by omega); exact (Or.imp (fun e_ => Int32.toInt_inj.mp e_) (Or.imp (fun e_ => Int32.toInt_inj.mp e_) (Or.imp (fun e_ => Int32.toInt_inj.mp e_) (fun e_ => Int32.toInt_inj.mp e_)))) q_)
          rcases hsp with rfl | rfl | rfl | rfl
          · refine X.iload (q := 90) at_88 rfl rfl ?_
            refine X.iadd (q := 91) at_90 rfl ?_
            refine X.foldI (v := (6 : Int32)) (by decide) ?_
            refine X.iload (q := 93) at_91 rfl rfl ?_
            refine X.iadd (q := 94) at_93 rfl ?_
            refine X.foldI (v := (6 : Int32)) (by decide) ?_
            refine X.newP (q := 96) (ty := .byte) (N := 6) (cap := 6) (k' := 1) (n' := 6) (hw _ (List.mem_of_getElem? (i := 0) rfl)) at_94 rfl rfl (Nat.le_refl _) (by decide) rfl rfl (by decide) (by decide) rfl (fun h193 a194 ga194 Eh193 Aa194 => ?_)
            have gea194 : n0 ≤ a194 := by rw [ga194]; exact hn0
            have hsh193 : n0 ≤ h193.size := Nat.le_trans hn0 Eh193.1
            have Aa194 : OwA Z h193 a194 .byte [(.int (0 : Int32)), (.int (0 : Int32)), (.int (0 : Int32)), (.int (0 : Int32)), (.int (0 : Int32)), (.int (0 : Int32))] := Aa194
            refine X.astore (q := 98) (Ls' := #[.val (.int x0), .val (.int x1), .val (.int x2), .val (.int x3), .val (.int x4), .val (.int m), .val (.int (2 : Int32)), .val (.int (0 : Int32)), .val (.ref a194), .unset, .unset, .unset]) at_96 rfl rfl rfl ?_
            refine X.aload (q := 100) at_98 rfl rfl rfl ?_
            refine X.iconst (q := 101) (0 : Int32) at_100 (by decide) rfl ?_
            refine X.iloadN (q := 102) at_101 rfl rfl ?_
            refine X.iload (q := 104) at_102 rfl rfl ?_
            refine X.callS (own_tag l Z a0 hw h193 n0 x1 (2 : Int32)) (hw _ (List.mem_of_getElem? (i := 30) rfl)) (hw _ (List.mem_of_getElem? (i := 31) rfl)) (hw _ (List.mem_of_getElem? (i := 32) rfl)) (hw _ (List.mem_of_getElem? (i := 33) rfl)) (by decide) own_pd6 (argsL := [(.int x1), (.int (2 : Int32))]) (rest := [(.int (0 : Int32)), (.ref a194)]) rfl rfl rfl (W := 2) (Nat.le_of_eq rfl) rfl (by decide) (by decide) (k' := 1) (n' := 6) rfl rfl (by decide) (by decide) at_104 (q := 107) rfl ?_
            rintro _ _ ⟨ta, rfl, hta, rfl⟩
            show X.G h193 1 6 107 #[.val (.int x0), .val (.int x1), .val (.int x2), .val (.int x3), .val (.int x4), .val (.int m), .val (.int (2 : Int32)), .val (.int (0 : Int32)), .val (.ref a194), .unset, .unset, .unset] [(.int ta), (.int (0 : Int32)), (.ref a194)]
            refine X.i2b (q := 108) at_107 rfl ?_
            refine X.bastore (q := 109) (j := 0) Aa194 rfl (by simp) gea194 at_108 rfl (fun h195 Wh195 Ah195 => ?_)
            have hsh195 : n0 ≤ h195.size := by rw [Wr.size Wh195]; exact hsh193
            have Ah195_ : OwA Z h195 a194 .byte [(.int (nar .byte ta.toInt8.toInt32)), (.int (0 : Int32)), (.int (0 : Int32)), (.int (0 : Int32)), (.int (0 : Int32)), (.int (0 : Int32))] := Ah195
            refine X.aload (q := 111) at_109 rfl rfl rfl ?_
            refine X.iconst (q := 112) (1 : Int32) at_111 (by decide) rfl ?_
            refine X.iload (q := 114) at_112 rfl rfl ?_
            refine X.i2b (q := 115) at_114 rfl ?_
            refine X.bastore (q := 116) (j := 1) Ah195_ rfl (by simp) gea194 at_115 rfl (fun h196 Wh196 Ah196 => ?_)
            have hsh196 : n0 ≤ h196.size := by rw [Wr.size Wh196]; exact hsh195
            have Ah196_ : OwA Z h196 a194 .byte [(.int (nar .byte ta.toInt8.toInt32)), (.int (nar .byte (2 : Int32).toInt8.toInt32)), (.int (0 : Int32)), (.int (0 : Int32)), (.int (0 : Int32)), (.int (0 : Int32))] := Ah196
            refine X.aload (q := 118) at_116 rfl rfl rfl ?_
            refine X.iconst (q := 119) (2 : Int32) at_118 (by decide) rfl ?_
            refine X.iload (q := 121) at_119 rfl rfl ?_
            refine X.iload (q := 123) at_121 rfl rfl ?_
            refine X.callS (own_put2 l Z a0 hw h196 n0 a194 (2 : Int32) x4 2 _ rfl (by simp) (by decide) hsh196 Ah196_ gea194) (hw _ (List.mem_of_getElem? (i := 34) rfl)) (hw _ (List.mem_of_getElem? (i := 35) rfl)) (hw _ (List.mem_of_getElem? (i := 32) rfl)) (hw _ (List.mem_of_getElem? (i := 36) rfl)) (by decide) own_pd7 (argsL := [(.ref a194), (.int (2 : Int32)), (.int (2 : Int32)), (.int x4)]) (rest := []) rfl rfl rfl (W := 0) (Nat.le_of_eq rfl) rfl (by decide) (by decide) (k' := 1) (n' := 6) rfl rfl (by decide) (by decide) at_123 (q := 126) rfl ?_
            rintro _ h197 ⟨u0, u1, rfl, Kh197c, Gu⟩
            have hsh197 : n0 ≤ h197.size := Nat.le_trans hsh196 Kh197c.1
            show X.G h197 1 6 126 #[.val (.int x0), .val (.int x1), .val (.int x2), .val (.int x3), .val (.int x4), .val (.int m), .val (.int (2 : Int32)), .val (.int (0 : Int32)), .val (.ref a194), .unset, .unset, .unset] []
            have Gu : OwA Z h197 a194 .byte [(.int (nar .byte ta.toInt8.toInt32)), (.int (nar .byte (2 : Int32).toInt8.toInt32)), (.int (nar .byte u0.toInt8.toInt32)), (.int (nar .byte u1.toInt8.toInt32)), (.int (0 : Int32)), (.int (0 : Int32))] := Gu
            refine X.aload (q := 128) at_126 rfl rfl rfl ?_
            refine X.iconst (q := 129) (2 : Int32) at_128 (by decide) rfl ?_
            refine X.iload (q := 131) at_129 rfl rfl ?_
            refine X.iadd (q := 132) at_131 rfl ?_
            refine X.foldI (v := (4 : Int32)) (by decide) ?_
            refine X.iloadN (q := 133) at_132 rfl rfl ?_
            refine X.iload (q := 135) at_133 rfl rfl ?_
            refine X.callS (own_tag l Z a0 hw h197 n0 x2 (0 : Int32)) (hw _ (List.mem_of_getElem? (i := 30) rfl)) (hw _ (List.mem_of_getElem? (i := 31) rfl)) (hw _ (List.mem_of_getElem? (i := 32) rfl)) (hw _ (List.mem_of_getElem? (i := 33) rfl)) (by decide) own_pd6 (argsL := [(.int x2), (.int (0 : Int32))]) (rest := [(.int (4 : Int32)), (.ref a194)]) rfl rfl rfl (W := 2) (Nat.le_of_eq rfl) rfl (by decide) (by decide) (k' := 1) (n' := 6) rfl rfl (by decide) (by decide) at_135 (q := 138) rfl ?_
            rintro _ _ ⟨tb, rfl, htb, rfl⟩
            show X.G h197 1 6 138 #[.val (.int x0), .val (.int x1), .val (.int x2), .val (.int x3), .val (.int x4), .val (.int m), .val (.int (2 : Int32)), .val (.int (0 : Int32)), .val (.ref a194), .unset, .unset, .unset] [(.int tb), (.int (4 : Int32)), (.ref a194)]
            refine X.i2b (q := 139) at_138 rfl ?_
            refine X.bastore (q := 140) (j := 4) Gu rfl (by simp) gea194 at_139 rfl (fun h198 Wh198 Ah198 => ?_)
            have hsh198 : n0 ≤ h198.size := by rw [Wr.size Wh198]; exact hsh197
            have Ah198_ : OwA Z h198 a194 .byte [(.int (nar .byte ta.toInt8.toInt32)), (.int (nar .byte (2 : Int32).toInt8.toInt32)), (.int (nar .byte u0.toInt8.toInt32)), (.int (nar .byte u1.toInt8.toInt32)), (.int (nar .byte tb.toInt8.toInt32)), (.int (0 : Int32))] := Ah198
            refine X.aload (q := 142) at_140 rfl rfl rfl ?_
            refine X.iconst (q := 143) (3 : Int32) at_142 (by decide) rfl ?_
            refine X.iload (q := 145) at_143 rfl rfl ?_
            refine X.iadd (q := 146) at_145 rfl ?_
            refine X.foldI (v := (5 : Int32)) (by decide) ?_
            refine X.iload (q := 148) at_146 rfl rfl ?_
            refine X.i2b (q := 149) at_148 rfl ?_
            refine X.bastore (q := 150) (j := 5) Ah198_ rfl (by simp) gea194 at_149 rfl (fun h199 Wh199 Ah199 => ?_)
            have hsh199 : n0 ≤ h199.size := by rw [Wr.size Wh199]; exact hsh198
            have Ah199_ : OwA Z h199 a194 .byte [(.int (nar .byte ta.toInt8.toInt32)), (.int (nar .byte (2 : Int32).toInt8.toInt32)), (.int (nar .byte u0.toInt8.toInt32)), (.int (nar .byte u1.toInt8.toInt32)), (.int (nar .byte tb.toInt8.toInt32)), (.int (nar .byte (0 : Int32).toInt8.toInt32))] := Ah199
            refine X.aload (q := 152) at_150 rfl rfl rfl ?_
            refine X.iconst (q := 153) (4 : Int32) at_152 (by decide) rfl ?_
            refine X.iload (q := 155) at_153 rfl rfl ?_
            refine X.iadd (q := 156) at_155 rfl ?_
            refine X.foldI (v := (6 : Int32)) (by decide) ?_
            refine X.iload (q := 158) at_156 rfl rfl ?_
            refine X.iload (q := 160) at_158 rfl rfl ?_
            refine X.bipush (q := 162) (8 : Int32) at_160 (by decide) rfl ?_
            refine X.iushr (q := 163) at_162 rfl ?_
            refine X.callS (own_put0 l Z a0 hw h199 n0 a194 (6 : Int32) (XT.ushr x4 (8 : Int32)) 6 _ rfl (by simp) (by decide) hsh199 Ah199_ gea194) (hw _ (List.mem_of_getElem? (i := 34) rfl)) (hw _ (List.mem_of_getElem? (i := 35) rfl)) (hw _ (List.mem_of_getElem? (i := 32) rfl)) (hw _ (List.mem_of_getElem? (i := 36) rfl)) (by decide) own_pd7 (argsL := [(.ref a194), (.int (6 : Int32)), (.int (0 : Int32)), (.int (XT.ushr x4 (8 : Int32)))]) (rest := []) rfl rfl rfl (W := 0) (Nat.le_of_eq rfl) rfl (by decide) (by decide) (k' := 1) (n' := 6) rfl rfl (by decide) (by decide) at_163 (q := 166) rfl ?_
            rintro _ h200 ⟨rfl, Kh200c, Gv⟩
            have hsh200 : n0 ≤ h200.size := Nat.le_trans hsh199 Kh200c.1
            show X.G h200 1 6 166 #[.val (.int x0), .val (.int x1), .val (.int x2), .val (.int x3), .val (.int x4), .val (.int m), .val (.int (2 : Int32)), .val (.int (0 : Int32)), .val (.ref a194), .unset, .unset, .unset] []
            have Gv : OwA Z h200 a194 .byte [(.int (nar .byte ta.toInt8.toInt32)), (.int (nar .byte (2 : Int32).toInt8.toInt32)), (.int (nar .byte u0.toInt8.toInt32)), (.int (nar .byte u1.toInt8.toInt32)), (.int (nar .byte tb.toInt8.toInt32)), (.int (nar .byte (0 : Int32).toInt8.toInt32))] := Gv
            refine X.iconst (q := 167) (2 : Int32) at_166 (by decide) rfl ?_
            refine X.istore (q := 169) (Ls' := #[.val (.int x0), .val (.int x1), .val (.int x2), .val (.int x3), .val (.int x4), .val (.int m), .val (.int (2 : Int32)), .val (.int (0 : Int32)), .val (.ref a194), .val (.int (2 : Int32)), .unset, .unset]) at_167 rfl rfl ?_
            refine X.goto (q' := 259) at_169 (by decide) ?_
            refine X.newO (q := 262) (k' := 2) (n' := 9) (hw _ (List.mem_of_getElem? (i := 1) rfl)) (hw _ (List.mem_of_getElem? (i := 2) rfl)) (hw _ (List.mem_of_getElem? (i := 3) rfl)) at_259 rfl rfl (by decide) (by decide) rfl (fun h201 a202 ga202 Eh201 Ba202 Da202 => ?_)
            have la194_a202 : a194 < a202 := by have := Gv.lt; rw [← ga202] at this; exact this
            have Gv'h201 : OwA Z h201 a194 .byte [(.int (nar .byte ta.toInt8.toInt32)), (.int (nar .byte (2 : Int32).toInt8.toInt32)), (.int (nar .byte u0.toInt8.toInt32)), (.int (nar .byte u1.toInt8.toInt32)), (.int (nar .byte tb.toInt8.toInt32)), (.int (nar .byte (0 : Int32).toInt8.toInt32))] := OwA.ext (E := Eh201) Gv
            have gea202 : n0 ≤ a202 := by rw [ga202]; exact hsh200
            have hsh201 : n0 ≤ h201.size := Nat.le_trans hsh200 Eh201.1
            have Fa202_bytes : Fld Z h201 a202 "com/example/dircred/dircred/credential/DerReader" "bytes" "[B" .null := Da202 (Or.inr (hw _ (List.mem_of_getElem? (i := 14) rfl))) (ty := (.array .byte)) (by decide)
            have Fa202_position : Fld Z h201 a202 "com/example/dircred/dircred/credential/DerReader" "position" "I" (.int (0 : Int32)) := Da202 (Or.inl (hw _ (List.mem_of_getElem? (i := 16) rfl))) (ty := .int) (by decide)
            have Fa202_end : Fld Z h201 a202 "com/example/dircred/dircred/credential/DerReader" "end" "I" (.int (0 : Int32)) := Da202 (Or.inr (hw _ (List.mem_of_getElem? (i := 18) rfl))) (ty := .int) (by decide)
            refine X.dup (q := 263) at_262 rfl rfl ?_
            refine X.aload (q := 265) at_263 rfl rfl rfl ?_
            obtain ⟨L, hL⟩ : ∃ L_ : List Int32, L_ = [(nar .byte ta.toInt8.toInt32), (nar .byte (2 : Int32).toInt8.toInt32), (nar .byte u0.toInt8.toInt32), (nar .byte u1.toInt8.toInt32), (nar .byte tb.toInt8.toInt32), (nar .byte (0 : Int32).toInt8.toInt32)] := ⟨_, rfl⟩
            have AL : OwA Z h201 a194 .byte (L.map Value.int) := by rw [hL]; exact Gv'h201
            have nL : L.length = 6 := by rw [hL]; rfl
            have gL0 : (L.getD 0 0).toInt = (ta.toInt + 128) % 256 - 128 := by rw [hL]; exact own_nbt _
            have gL1 : (L.getD 1 0).toInt = ((2 : Int32).toInt + 128) % 256 - 128 := by rw [hL]; exact own_nbt _
            have gL2 : (L.getD 2 0).toInt = (u0.toInt + 128) % 256 - 128 := by rw [hL]; exact own_nbt _
            have gL3 : (L.getD 3 0).toInt = (u1.toInt + 128) % 256 - 128 := by rw [hL]; exact own_nbt _
            have gL4 : (L.getD 4 0).toInt = (tb.toInt + 128) % 256 - 128 := by rw [hL]; exact own_nbt _
            have gL5 : (L.getD 5 0).toInt = ((0 : Int32).toInt + 128) % 256 - 128 := by rw [hL]; exact own_nbt _
            have rL : ∀ x ∈ L, -128 ≤ x.toInt ∧ x.toInt ≤ 127 := by
              intro x hx; rw [hL] at hx
              simp only [List.mem_cons, List.not_mem_nil, or_false] at hx
              rcases hx with rfl | rfl | rfl | rfl | rfl | rfl
              · rw [own_nbt]; omega
              · rw [own_nbt]; omega
              · rw [own_nbt]; omega
              · rw [own_nbt]; omega
              · rw [own_nbt]; omega
              · rw [own_nbt]; omega
            clear hL
            refine X.special (a := a202) (own_i1 l Z a0 hw h201 n0 a202 a194 L (6 : Int32) (by rw [nL]; rfl) hsh201 Ba202 Fa202_bytes Fa202_position Fa202_end AL gea202 (Nat.ne_of_gt la194_a202)) rfl (hw _ (List.mem_of_getElem? (i := 4) rfl)) (hw _ (List.mem_of_getElem? (i := 5) rfl)) (hw _ (List.mem_of_getElem? (i := 3) rfl)) (hw _ (List.mem_of_getElem? (i := 6) rfl)) (by decide) own_pd8 (argsL := [(.ref a194)]) (rest := [(.ref a202)]) rfl rfl rfl (W := 1) (Nat.le_of_eq rfl) rfl (by decide) (by decide) (k' := 2) (n' := 9) rfl rfl (by decide) (by decide) at_265 (q := 268) rfl ?_
            rintro _ h203 ⟨rfl, Kh203c, Db, Dp, De⟩
            have AL'h203 : OwA Z h203 a194 .byte (L.map Value.int) := OwA.keep AL Kh203c (ninS (Nat.ne_of_lt la194_a202) nin0)
            have Ba202'h203 : Exa Z h203 a202 "com/example/dircred/dircred/credential/DerReader" := Exa.keep Ba202 Kh203c
            have hsh203 : n0 ≤ h203.size := Nat.le_trans hsh201 Kh203c.1
            show X.G h203 2 9 268 #[.val (.int x0), .val (.int x1), .val (.int x2), .val (.int x3), .val (.int x4), .val (.int m), .val (.int (2 : Int32)), .val (.int (0 : Int32)), .val (.ref a194), .val (.int (2 : Int32)), .unset, .unset] [(.ref a202)]
            refine X.astore (q := 270) (Ls' := #[.val (.int x0), .val (.int x1), .val (.int x2), .val (.int x3), .val (.int x4), .val (.int m), .val (.int (2 : Int32)), .val (.int (0 : Int32)), .val (.ref a194), .val (.int (2 : Int32)), .val (.ref a202), .unset]) at_268 rfl rfl rfl ?_
            refine X.iload (q := 272) at_270 rfl rfl ?_
            refine X.iconst (q := 273) (1 : Int32) at_272 (by decide) rfl ?_
            refine X.icmp_lt (a := 2) (b := 1) (q' := 281) (q := 276) at_273 rfl rfl (by decide) rfl (fun c273 => ?_) (fun c273 => ?_)
            · omega
            · refine X.aload (q := 278) at_276 rfl rfl rfl ?_
              have H1 : own_hdr L 0 ta 1 2 (2 : Int32) (2 : Int32) := by have k2_ : (2 : Int32).toInt = 2 := rfl; unfold own_hdr; simp only [nL, Nat.reduceAdd, and_true]; refine ⟨?_, ?_, ?_, ?_, ?_, ?_, ?_, ?_⟩ <;> first | omega | rfl
              refine X.virtual (a := a202) (own_skip l Z a0 hw h203 n0 a202 a194 L (0 : Int32) (6 : Int32) 0 ta 1 2 (2 : Int32) (2 : Int32) rL (by rw [nL]; rfl) (by rw [nL]; decide) rfl H1 (4 : Int32) rfl (by decide) hsh203 Ba202'h203 Db Dp De AL'h203 gea202 (Nat.ne_of_gt la194_a202)) (hw _ (List.mem_of_getElem? (i := 37) rfl)) (hw _ (List.mem_of_getElem? (i := 38) rfl)) (hw _ (List.mem_of_getElem? (i := 40) rfl)) (hw _ (List.mem_of_getElem? (i := 39) rfl)) (hw _ (List.mem_of_getElem? (i := 3) rfl)) (hw _ (List.mem_of_getElem? (i := 41) rfl)) (by decide) Ba202'h203 own_pd9 (argsL := []) (rest := []) rfl rfl rfl (W := 0) (Nat.le_of_eq rfl) rfl (by decide) (by decide) (k' := 4) (n' := 16) rfl rfl (by decide) (by decide) at_278 (q := 281) rfl ?_
              rintro _ h204 ⟨rfl, Kh204c, S1b, S1p, S1e⟩
              have AL'h204 : OwA Z h204 a194 .byte (L.map Value.int) := OwA.keep AL'h203 Kh204c (ninS (Nat.ne_of_lt la194_a202) nin0)
              have Ba202'h204 : Exa Z h204 a202 "com/example/dircred/dircred/credential/DerReader" := Exa.keep Ba202'h203 Kh204c
              have hsh204 : n0 ≤ h204.size := Nat.le_trans hsh203 Kh204c.1
              show X.G h204 4 16 281 #[.val (.int x0), .val (.int x1), .val (.int x2), .val (.int x3), .val (.int x4), .val (.int m), .val (.int (2 : Int32)), .val (.int (0 : Int32)), .val (.ref a194), .val (.int (2 : Int32)), .val (.ref a202), .unset] []
              refine X.iload (q := 283) at_281 rfl rfl ?_
              refine X.iconst (q := 284) (2 : Int32) at_283 (by decide) rfl ?_
              refine X.icmp_ne (a := 2) (b := 2) (q' := 302) (q := 287) at_284 rfl rfl (by decide) rfl (fun c284 => ?_) (fun c284 => ?_)
              · omega
              · refine X.aload (q := 289) at_287 rfl rfl rfl ?_
                refine X.virtual (a := a202) (own_hm l Z a0 hw h204 n0 a202 (4 : Int32) (6 : Int32) hsh204 S1p S1e) (hw _ (List.mem_of_getElem? (i := 19) rfl)) (hw _ (List.mem_of_getElem? (i := 20) rfl)) (hw _ (List.mem_of_getElem? (i := 22) rfl)) (hw _ (List.mem_of_getElem? (i := 21) rfl)) (hw _ (List.mem_of_getElem? (i := 3) rfl)) (hw _ (List.mem_of_getElem? (i := 23) rfl)) (by decide) Ba202'h204 own_pd5 (argsL := []) (rest := []) rfl rfl rfl (W := 0) (Nat.le_of_eq rfl) rfl (by decide) (by decide) (k' := 4) (n' := 16) rfl rfl (by decide) (by decide) at_289 (q := 292) rfl ?_
                rintro _ _ ⟨zm, rfl, hzm, rfl⟩
                show X.G h204 4 16 292 #[.val (.int x0), .val (.int x1), .val (.int x2), .val (.int x3), .val (.int x4), .val (.int m), .val (.int (2 : Int32)), .val (.int (0 : Int32)), .val (.ref a194), .val (.int (2 : Int32)), .val (.ref a202), .unset] [(.int zm)]
                refine X.if_ne (q' := 297) (q := 295) at_292 rfl (by decide) rfl (fun c292 => ?_) (fun c292 => ?_)
                · refine X.aload (q := 299) at_297 rfl rfl rfl ?_
                  have H2 : own_hdr L 4 tb 5 6 (6 : Int32) (0 : Int32) := by have k0_ : (0 : Int32).toInt = 0 := rfl; have k6_ : (6 : Int32).toInt = 6 := rfl; unfold own_hdr; simp only [nL, Nat.reduceAdd, and_true]; refine ⟨?_, ?_, ?_, ?_, ?_, ?_, ?_, ?_⟩ <;> first | omega | rfl
                  refine X.virtual (a := a202) (own_skip l Z a0 hw h204 n0 a202 a194 L (4 : Int32) (6 : Int32) 4 tb 5 6 (6 : Int32) (0 : Int32) rL (by rw [nL]; rfl) (by rw [nL]; decide) rfl H2 (6 : Int32) rfl (by decide) hsh204 Ba202'h204 S1b S1p S1e AL'h204 gea202 (Nat.ne_of_gt la194_a202)) (hw _ (List.mem_of_getElem? (i := 37) rfl)) (hw _ (List.mem_of_getElem? (i := 38) rfl)) (hw _ (List.mem_of_getElem? (i := 40) rfl)) (hw _ (List.mem_of_getElem? (i := 39) rfl)) (hw _ (List.mem_of_getElem? (i := 3) rfl)) (hw _ (List.mem_of_getElem? (i := 41) rfl)) (by decide) Ba202'h204 own_pd9 (argsL := []) (rest := []) rfl rfl rfl (W := 0) (Nat.le_of_eq rfl) rfl (by decide) (by decide) (k' := 6) (n' := 23) rfl rfl (by decide) (by decide) at_299 (q := 302) rfl ?_
                  rintro _ h205 ⟨rfl, Kh205c, S2b, S2p, S2e⟩
                  have AL'h205 : OwA Z h205 a194 .byte (L.map Value.int) := OwA.keep AL'h204 Kh205c (ninS (Nat.ne_of_lt la194_a202) nin0)
                  have Ba202'h205 : Exa Z h205 a202 "com/example/dircred/dircred/credential/DerReader" := Exa.keep Ba202'h204 Kh205c
                  have hsh205 : n0 ≤ h205.size := Nat.le_trans hsh204 Kh205c.1
                  show X.G h205 6 23 302 #[.val (.int x0), .val (.int x1), .val (.int x2), .val (.int x3), .val (.int x4), .val (.int m), .val (.int (2 : Int32)), .val (.int (0 : Int32)), .val (.ref a194), .val (.int (2 : Int32)), .val (.ref a202), .unset] []
                  refine X.aload (q := 304) at_302 rfl rfl rfl ?_
                  refine X.virtual (a := a202) (own_hm l Z a0 hw h205 n0 a202 (6 : Int32) (6 : Int32) hsh205 S2p S2e) (hw _ (List.mem_of_getElem? (i := 19) rfl)) (hw _ (List.mem_of_getElem? (i := 20) rfl)) (hw _ (List.mem_of_getElem? (i := 22) rfl)) (hw _ (List.mem_of_getElem? (i := 21) rfl)) (hw _ (List.mem_of_getElem? (i := 3) rfl)) (hw _ (List.mem_of_getElem? (i := 23) rfl)) (by decide) Ba202'h205 own_pd5 (argsL := []) (rest := []) rfl rfl rfl (W := 0) (Nat.le_of_eq rfl) rfl (by decide) (by decide) (k' := 6) (n' := 23) rfl rfl (by decide) (by decide) at_304 (q := 307) rfl ?_
                  rintro _ _ ⟨zb, rfl, hzb, rfl⟩
                  show X.G h205 6 23 307 #[.val (.int x0), .val (.int x1), .val (.int x2), .val (.int x3), .val (.int x4), .val (.int m), .val (.int (2 : Int32)), .val (.int (0 : Int32)), .val (.ref a194), .val (.int (2 : Int32)), .val (.ref a202), .unset] [(.int zb)]
                  refine X.istore (q := 309) (Ls' := #[.val (.int x0), .val (.int x1), .val (.int x2), .val (.int x3), .val (.int x4), .val (.int m), .val (.int (2 : Int32)), .val (.int (0 : Int32)), .val (.ref a194), .val (.int (2 : Int32)), .val (.ref a202), .val (.int zb)]) at_307 rfl rfl ?_
                  refine X.aload (q := 311) at_309 rfl rfl rfl ?_
                  refine X.virtual (a := a202) (own_en l Z a0 hw h205 n0 a202 a194 (6 : Int32) (6 : Int32) (by decide) hsh205 Ba202'h205 S2b S2p S2e) (hw _ (List.mem_of_getElem? (i := 24) rfl)) (hw _ (List.mem_of_getElem? (i := 25) rfl)) (hw _ (List.mem_of_getElem? (i := 27) rfl)) (hw _ (List.mem_of_getElem? (i := 26) rfl)) (hw _ (List.mem_of_getElem? (i := 3) rfl)) (hw _ (List.mem_of_getElem? (i := 28) rfl)) (by decide) Ba202'h205 own_pd9 (argsL := []) (rest := []) rfl rfl rfl (W := 0) (Nat.le_of_eq rfl) rfl (by decide) (by decide) (k' := 6) (n' := 23) rfl rfl (by decide) (by decide) at_311 (q := 314) rfl ?_
                  rintro _ _ ⟨rfl, rfl⟩
                  show X.G h205 6 23 314 #[.val (.int x0), .val (.int x1), .val (.int x2), .val (.int x3), .val (.int x4), .val (.int m), .val (.int (2 : Int32)), .val (.int (0 : Int32)), .val (.ref a194), .val (.int (2 : Int32)), .val (.ref a202), .val (.int zb)] []
                  refine X.iload (q := 316) at_314 rfl rfl ?_
                  refine X.if_ne (q' := 331) (q := 319) at_316 rfl (by decide) rfl (fun c316 => ?_) (fun c316 => ?_)
                  · omega
                  · refine X.aload (q := 321) at_319 rfl rfl rfl ?_
                    refine X.virtual (a := a202) (own_hm l Z a0 hw h205 n0 a202 (6 : Int32) (6 : Int32) hsh205 S2p S2e) (hw _ (List.mem_of_getElem? (i := 19) rfl)) (hw _ (List.mem_of_getElem? (i := 20) rfl)) (hw _ (List.mem_of_getElem? (i := 22) rfl)) (hw _ (List.mem_of_getElem? (i := 21) rfl)) (hw _ (List.mem_of_getElem? (i := 3) rfl)) (hw _ (List.mem_of_getElem? (i := 23) rfl)) (by decide) Ba202'h205 own_pd5 (argsL := []) (rest := []) rfl rfl rfl (W := 0) (Nat.le_of_eq rfl) rfl (by decide) (by decide) (k' := 6) (n' := 23) rfl rfl (by decide) (by decide) at_321 (q := 324) rfl ?_
                    rintro _ _ ⟨zc, rfl, hzc, rfl⟩
                    show X.G h205 6 23 324 #[.val (.int x0), .val (.int x1), .val (.int x2), .val (.int x3), .val (.int x4), .val (.int m), .val (.int (2 : Int32)), .val (.int (0 : Int32)), .val (.ref a194), .val (.int (2 : Int32)), .val (.ref a202), .val (.int zb)] [(.int zc)]
                    refine X.if_ne (q' := 331) (q := 327) at_324 rfl (by decide) rfl (fun c324 => ?_) (fun c324 => ?_)
                    · omega
                    · refine X.iconst (q := 328) (1 : Int32) at_327 (by decide) rfl ?_
                      refine X.goto (q' := 332) at_328 (by decide) ?_
                      refine X.retN (t := .boolean) (z' := (1 : Int32)) at_332 rfl (by simp) (by decide) (by decide) (by decide) ?_
                      rfl
                · omega
          · refine X.iload (q := 90) at_88 rfl rfl ?_
            refine X.iadd (q := 91) at_90 rfl ?_
            refine X.foldI (v := (6 : Int32)) (by decide) ?_
            refine X.iload (q := 93) at_91 rfl rfl ?_
            refine X.iadd (q := 94) at_93 rfl ?_
            refine X.foldI (v := (7 : Int32)) (by decide) ?_
            refine X.newP (q := 96) (ty := .byte) (N := 7) (cap := 7) (k' := 1) (n' := 7) (hw _ (List.mem_of_getElem? (i := 0) rfl)) at_94 rfl rfl (Nat.le_refl _) (by decide) rfl rfl (by decide) (by decide) rfl (fun h206 a207 ga207 Eh206 Aa207 => ?_)
            have gea207 : n0 ≤ a207 := by rw [ga207]; exact hn0
            have hsh206 : n0 ≤ h206.size := Nat.le_trans hn0 Eh206.1
            have Aa207 : OwA Z h206 a207 .byte [(.int (0 : Int32)), (.int (0 : Int32)), (.int (0 : Int32)), (.int (0 : Int32)), (.int (0 : Int32)), (.int (0 : Int32)), (.int (0 : Int32))] := Aa207
            refine X.astore (q := 98) (Ls' := #[.val (.int x0), .val (.int x1), .val (.int x2), .val (.int x3), .val (.int x4), .val (.int m), .val (.int (2 : Int32)), .val (.int (1 : Int32)), .val (.ref a207), .unset, .unset, .unset]) at_96 rfl rfl rfl ?_
            refine X.aload (q := 100) at_98 rfl rfl rfl ?_
            refine X.iconst (q := 101) (0 : Int32) at_100 (by decide) rfl ?_
            refine X.iloadN (q := 102) at_101 rfl rfl ?_
            refine X.iload (q := 104) at_102 rfl rfl ?_
            refine X.callS (own_tag l Z a0 hw h206 n0 x1 (2 : Int32)) (hw _ (List.mem_of_getElem? (i := 30) rfl)) (hw _ (List.mem_of_getElem? (i := 31) rfl)) (hw _ (List.mem_of_getElem? (i := 32) rfl)) (hw _ (List.mem_of_getElem? (i := 33) rfl)) (by decide) own_pd6 (argsL := [(.int x1), (.int (2 : Int32))]) (rest := [(.int (0 : Int32)), (.ref a207)]) rfl rfl rfl (W := 2) (Nat.le_of_eq rfl) rfl (by decide) (by decide) (k' := 1) (n' := 7) rfl rfl (by decide) (by decide) at_104 (q := 107) rfl ?_
            rintro _ _ ⟨ta, rfl, hta, rfl⟩
            show X.G h206 1 7 107 #[.val (.int x0), .val (.int x1), .val (.int x2), .val (.int x3), .val (.int x4), .val (.int m), .val (.int (2 : Int32)), .val (.int (1 : Int32)), .val (.ref a207), .unset, .unset, .unset] [(.int ta), (.int (0 : Int32)), (.ref a207)]
            refine X.i2b (q := 108) at_107 rfl ?_
            refine X.bastore (q := 109) (j := 0) Aa207 rfl (by simp) gea207 at_108 rfl (fun h208 Wh208 Ah208 => ?_)
            have hsh208 : n0 ≤ h208.size := by rw [Wr.size Wh208]; exact hsh206
            have Ah208_ : OwA Z h208 a207 .byte [(.int (nar .byte ta.toInt8.toInt32)), (.int (0 : Int32)), (.int (0 : Int32)), (.int (0 : Int32)), (.int (0 : Int32)), (.int (0 : Int32)), (.int (0 : Int32))] := Ah208
            refine X.aload (q := 111) at_109 rfl rfl rfl ?_
            refine X.iconst (q := 112) (1 : Int32) at_111 (by decide) rfl ?_
            refine X.iload (q := 114) at_112 rfl rfl ?_
            refine X.i2b (q := 115) at_114 rfl ?_
            refine X.bastore (q := 116) (j := 1) Ah208_ rfl (by simp) gea207 at_115 rfl (fun h209 Wh209 Ah209 => ?_)
            have hsh209 : n0 ≤ h209.size := by rw [Wr.size Wh209]; exact hsh208
            have Ah209_ : OwA Z h209 a207 .byte [(.int (nar .byte ta.toInt8.toInt32)), (.int (nar .byte (2 : Int32).toInt8.toInt32)), (.int (0 : Int32)), (.int (0 : Int32)), (.int (0 : Int32)), (.int (0 : Int32)), (.int (0 : Int32))] := Ah209
            refine X.aload (q := 118) at_116 rfl rfl rfl ?_
            refine X.iconst (q := 119) (2 : Int32) at_118 (by decide) rfl ?_
            refine X.iload (q := 121) at_119 rfl rfl ?_
            refine X.iload (q := 123) at_121 rfl rfl ?_
            refine X.callS (own_put2 l Z a0 hw h209 n0 a207 (2 : Int32) x4 2 _ rfl (by simp) (by decide) hsh209 Ah209_ gea207) (hw _ (List.mem_of_getElem? (i := 34) rfl)) (hw _ (List.mem_of_getElem? (i := 35) rfl)) (hw _ (List.mem_of_getElem? (i := 32) rfl)) (hw _ (List.mem_of_getElem? (i := 36) rfl)) (by decide) own_pd7 (argsL := [(.ref a207), (.int (2 : Int32)), (.int (2 : Int32)), (.int x4)]) (rest := []) rfl rfl rfl (W := 0) (Nat.le_of_eq rfl) rfl (by decide) (by decide) (k' := 1) (n' := 7) rfl rfl (by decide) (by decide) at_123 (q := 126) rfl ?_
            rintro _ h210 ⟨u0, u1, rfl, Kh210c, Gu⟩
            have hsh210 : n0 ≤ h210.size := Nat.le_trans hsh209 Kh210c.1
            show X.G h210 1 7 126 #[.val (.int x0), .val (.int x1), .val (.int x2), .val (.int x3), .val (.int x4), .val (.int m), .val (.int (2 : Int32)), .val (.int (1 : Int32)), .val (.ref a207), .unset, .unset, .unset] []
            have Gu : OwA Z h210 a207 .byte [(.int (nar .byte ta.toInt8.toInt32)), (.int (nar .byte (2 : Int32).toInt8.toInt32)), (.int (nar .byte u0.toInt8.toInt32)), (.int (nar .byte u1.toInt8.toInt32)), (.int (0 : Int32)), (.int (0 : Int32)), (.int (0 : Int32))] := Gu
            refine X.aload (q := 128) at_126 rfl rfl rfl ?_
            refine X.iconst (q := 129) (2 : Int32) at_128 (by decide) rfl ?_
            refine X.iload (q := 131) at_129 rfl rfl ?_
            refine X.iadd (q := 132) at_131 rfl ?_
            refine X.foldI (v := (4 : Int32)) (by decide) ?_
            refine X.iloadN (q := 133) at_132 rfl rfl ?_
            refine X.iload (q := 135) at_133 rfl rfl ?_
            refine X.callS (own_tag l Z a0 hw h210 n0 x2 (1 : Int32)) (hw _ (List.mem_of_getElem? (i := 30) rfl)) (hw _ (List.mem_of_getElem? (i := 31) rfl)) (hw _ (List.mem_of_getElem? (i := 32) rfl)) (hw _ (List.mem_of_getElem? (i := 33) rfl)) (by decide) own_pd6 (argsL := [(.int x2), (.int (1 : Int32))]) (rest := [(.int (4 : Int32)), (.ref a207)]) rfl rfl rfl (W := 2) (Nat.le_of_eq rfl) rfl (by decide) (by decide) (k' := 1) (n' := 7) rfl rfl (by decide) (by decide) at_135 (q := 138) rfl ?_
            rintro _ _ ⟨tb, rfl, htb, rfl⟩
            show X.G h210 1 7 138 #[.val (.int x0), .val (.int x1), .val (.int x2), .val (.int x3), .val (.int x4), .val (.int m), .val (.int (2 : Int32)), .val (.int (1 : Int32)), .val (.ref a207), .unset, .unset, .unset] [(.int tb), (.int (4 : Int32)), (.ref a207)]
            refine X.i2b (q := 139) at_138 rfl ?_
            refine X.bastore (q := 140) (j := 4) Gu rfl (by simp) gea207 at_139 rfl (fun h211 Wh211 Ah211 => ?_)
            have hsh211 : n0 ≤ h211.size := by rw [Wr.size Wh211]; exact hsh210
            have Ah211_ : OwA Z h211 a207 .byte [(.int (nar .byte ta.toInt8.toInt32)), (.int (nar .byte (2 : Int32).toInt8.toInt32)), (.int (nar .byte u0.toInt8.toInt32)), (.int (nar .byte u1.toInt8.toInt32)), (.int (nar .byte tb.toInt8.toInt32)), (.int (0 : Int32)), (.int (0 : Int32))] := Ah211
            refine X.aload (q := 142) at_140 rfl rfl rfl ?_
            refine X.iconst (q := 143) (3 : Int32) at_142 (by decide) rfl ?_
            refine X.iload (q := 145) at_143 rfl rfl ?_
            refine X.iadd (q := 146) at_145 rfl ?_
            refine X.foldI (v := (5 : Int32)) (by decide) ?_
            refine X.iload (q := 148) at_146 rfl rfl ?_
            refine X.i2b (q := 149) at_148 rfl ?_
            refine X.bastore (q := 150) (j := 5) Ah211_ rfl (by simp) gea207 at_149 rfl (fun h212 Wh212 Ah212 => ?_)
            have hsh212 : n0 ≤ h212.size := by rw [Wr.size Wh212]; exact hsh211
            have Ah212_ : OwA Z h212 a207 .byte [(.int (nar .byte ta.toInt8.toInt32)), (.int (nar .byte (2 : Int32).toInt8.toInt32)), (.int (nar .byte u0.toInt8.toInt32)), (.int (nar .byte u1.toInt8.toInt32)), (.int (nar .byte tb.toInt8.toInt32)), (.int (nar .byte (1 : Int32).toInt8.toInt32)), (.int (0 : Int32))] := Ah212
            refine X.aload (q := 152) at_150 rfl rfl rfl ?_
            refine X.iconst (q := 153) (4 : Int32) at_152 (by decide) rfl ?_
            refine X.iload (q := 155) at_153 rfl rfl ?_
            refine X.iadd (q := 156) at_155 rfl ?_
            refine X.foldI (v := (6 : Int32)) (by decide) ?_
            refine X.iload (q := 158) at_156 rfl rfl ?_
            refine X.iload (q := 160) at_158 rfl rfl ?_
            refine X.bipush (q := 162) (8 : Int32) at_160 (by decide) rfl ?_
            refine X.iushr (q := 163) at_162 rfl ?_
            refine X.callS (own_put1 l Z a0 hw h212 n0 a207 (6 : Int32) (XT.ushr x4 (8 : Int32)) 6 _ rfl (by simp) (by decide) hsh212 Ah212_ gea207) (hw _ (List.mem_of_getElem? (i := 34) rfl)) (hw _ (List.mem_of_getElem? (i := 35) rfl)) (hw _ (List.mem_of_getElem? (i := 32) rfl)) (hw _ (List.mem_of_getElem? (i := 36) rfl)) (by decide) own_pd7 (argsL := [(.ref a207), (.int (6 : Int32)), (.int (1 : Int32)), (.int (XT.ushr x4 (8 : Int32)))]) (rest := []) rfl rfl rfl (W := 0) (Nat.le_of_eq rfl) rfl (by decide) (by decide) (k' := 1) (n' := 7) rfl rfl (by decide) (by decide) at_163 (q := 166) rfl ?_
            rintro _ h213 ⟨v0, rfl, Kh213c, Gv⟩
            have hsh213 : n0 ≤ h213.size := Nat.le_trans hsh212 Kh213c.1
            show X.G h213 1 7 166 #[.val (.int x0), .val (.int x1), .val (.int x2), .val (.int x3), .val (.int x4), .val (.int m), .val (.int (2 : Int32)), .val (.int (1 : Int32)), .val (.ref a207), .unset, .unset, .unset] []
            have Gv : OwA Z h213 a207 .byte [(.int (nar .byte ta.toInt8.toInt32)), (.int (nar .byte (2 : Int32).toInt8.toInt32)), (.int (nar .byte u0.toInt8.toInt32)), (.int (nar .byte u1.toInt8.toInt32)), (.int (nar .byte tb.toInt8.toInt32)), (.int (nar .byte (1 : Int32).toInt8.toInt32)), (.int (nar .byte v0.toInt8.toInt32))] := Gv
            refine X.iconst (q := 167) (2 : Int32) at_166 (by decide) rfl ?_
            refine X.istore (q := 169) (Ls' := #[.val (.int x0), .val (.int x1), .val (.int x2), .val (.int x3), .val (.int x4), .val (.int m), .val (.int (2 : Int32)), .val (.int (1 : Int32)), .val (.ref a207), .val (.int (2 : Int32)), .unset, .unset]) at_167 rfl rfl ?_
            refine X.goto (q' := 259) at_169 (by decide) ?_
            refine X.newO (q := 262) (k' := 2) (n' := 10) (hw _ (List.mem_of_getElem? (i := 1) rfl)) (hw _ (List.mem_of_getElem? (i := 2) rfl)) (hw _ (List.mem_of_getElem? (i := 3) rfl)) at_259 rfl rfl (by decide) (by decide) rfl (fun h214 a215 ga215 Eh214 Ba215 Da215 => ?_)
            have la207_a215 : a207 < a215 := by have := Gv.lt; rw [← ga215] at this; exact this
            have Gv'h214 : OwA Z h214 a207 .byte [(.int (nar .byte ta.toInt8.toInt32)), (.int (nar .byte (2 : Int32).toInt8.toInt32)), (.int (nar .byte u0.toInt8.toInt32)), (.int (nar .byte u1.toInt8.toInt32)), (.int (nar .byte tb.toInt8.toInt32)), (.int (nar .byte (1 : Int32).toInt8.toInt32)), (.int (nar .byte v0.toInt8.toInt32))] := OwA.ext (E := Eh214) Gv
            have gea215 : n0 ≤ a215 := by rw [ga215]; exact hsh213
            have hsh214 : n0 ≤ h214.size := Nat.le_trans hsh213 Eh214.1
            have Fa215_bytes : Fld Z h214 a215 "com/example/dircred/dircred/credential/DerReader" "bytes" "[B" .null := Da215 (Or.inr (hw _ (List.mem_of_getElem? (i := 14) rfl))) (ty := (.array .byte)) (by decide)
            have Fa215_position : Fld Z h214 a215 "com/example/dircred/dircred/credential/DerReader" "position" "I" (.int (0 : Int32)) := Da215 (Or.inl (hw _ (List.mem_of_getElem? (i := 16) rfl))) (ty := .int) (by decide)
            have Fa215_end : Fld Z h214 a215 "com/example/dircred/dircred/credential/DerReader" "end" "I" (.int (0 : Int32)) := Da215 (Or.inr (hw _ (List.mem_of_getElem? (i := 18) rfl))) (ty := .int) (by decide)
            refine X.dup (q := 263) at_262 rfl rfl ?_
            refine X.aload (q := 265) at_263 rfl rfl rfl ?_
            obtain ⟨L, hL⟩ : ∃ L_ : List Int32, L_ = [(nar .byte ta.toInt8.toInt32), (nar .byte (2 : Int32).toInt8.toInt32), (nar .byte u0.toInt8.toInt32), (nar .byte u1.toInt8.toInt32), (nar .byte tb.toInt8.toInt32), (nar .byte (1 : Int32).toInt8.toInt32), (nar .byte v0.toInt8.toInt32)] := ⟨_, rfl⟩
            have AL : OwA Z h214 a207 .byte (L.map Value.int) := by rw [hL]; exact Gv'h214
            have nL : L.length = 7 := by rw [hL]; rfl
            have gL0 : (L.getD 0 0).toInt = (ta.toInt + 128) % 256 - 128 := by rw [hL]; exact own_nbt _
            have gL1 : (L.getD 1 0).toInt = ((2 : Int32).toInt + 128) % 256 - 128 := by rw [hL]; exact own_nbt _
            have gL2 : (L.getD 2 0).toInt = (u0.toInt + 128) % 256 - 128 := by rw [hL]; exact own_nbt _
            have gL3 : (L.getD 3 0).toInt = (u1.toInt + 128) % 256 - 128 := by rw [hL]; exact own_nbt _
            have gL4 : (L.getD 4 0).toInt = (tb.toInt + 128) % 256 - 128 := by rw [hL]; exact own_nbt _
            have gL5 : (L.getD 5 0).toInt = ((1 : Int32).toInt + 128) % 256 - 128 := by rw [hL]; exact own_nbt _
            have gL6 : (L.getD 6 0).toInt = (v0.toInt + 128) % 256 - 128 := by rw [hL]; exact own_nbt _
            have rL : ∀ x ∈ L, -128 ≤ x.toInt ∧ x.toInt ≤ 127 := by
              intro x hx; rw [hL] at hx
              simp only [List.mem_cons, List.not_mem_nil, or_false] at hx
              rcases hx with rfl | rfl | rfl | rfl | rfl | rfl | rfl
              · rw [own_nbt]; omega
              · rw [own_nbt]; omega
              · rw [own_nbt]; omega
              · rw [own_nbt]; omega
              · rw [own_nbt]; omega
              · rw [own_nbt]; omega
              · rw [own_nbt]; omega
            clear hL
            refine X.special (a := a215) (own_i1 l Z a0 hw h214 n0 a215 a207 L (7 : Int32) (by rw [nL]; rfl) hsh214 Ba215 Fa215_bytes Fa215_position Fa215_end AL gea215 (Nat.ne_of_gt la207_a215)) rfl (hw _ (List.mem_of_getElem? (i := 4) rfl)) (hw _ (List.mem_of_getElem? (i := 5) rfl)) (hw _ (List.mem_of_getElem? (i := 3) rfl)) (hw _ (List.mem_of_getElem? (i := 6) rfl)) (by decide) own_pd8 (argsL := [(.ref a207)]) (rest := [(.ref a215)]) rfl rfl rfl (W := 1) (Nat.le_of_eq rfl) rfl (by decide) (by decide) (k' := 2) (n' := 10) rfl rfl (by decide) (by decide) at_265 (q := 268) rfl ?_
            rintro _ h216 ⟨rfl, Kh216c, Db, Dp, De⟩
            have AL'h216 : OwA Z h216 a207 .byte (L.map Value.int) := OwA.keep AL Kh216c (ninS (Nat.ne_of_lt la207_a215) nin0)
            have Ba215'h216 : Exa Z h216 a215 "com/example/dircred/dircred/credential/DerReader" := Exa.keep Ba215 Kh216c
            have hsh216 : n0 ≤ h216.size := Nat.le_trans hsh214 Kh216c.1
            show X.G h216 2 10 268 #[.val (.int x0), .val (.int x1), .val (.int x2), .val (.int x3), .val (.int x4), .val (.int m), .val (.int (2 : Int32)), .val (.int (1 : Int32)), .val (.ref a207), .val (.int (2 : Int32)), .unset, .unset] [(.ref a215)]
            refine X.astore (q := 270) (Ls' := #[.val (.int x0), .val (.int x1), .val (.int x2), .val (.int x3), .val (.int x4), .val (.int m), .val (.int (2 : Int32)), .val (.int (1 : Int32)), .val (.ref a207), .val (.int (2 : Int32)), .val (.ref a215), .unset]) at_268 rfl rfl rfl ?_
            refine X.iload (q := 272) at_270 rfl rfl ?_
            refine X.iconst (q := 273) (1 : Int32) at_272 (by decide) rfl ?_
            refine X.icmp_lt (a := 2) (b := 1) (q' := 281) (q := 276) at_273 rfl rfl (by decide) rfl (fun c273 => ?_) (fun c273 => ?_)
            · omega
            · refine X.aload (q := 278) at_276 rfl rfl rfl ?_
              have H1 : own_hdr L 0 ta 1 2 (2 : Int32) (2 : Int32) := by have k2_ : (2 : Int32).toInt = 2 := rfl; unfold own_hdr; simp only [nL, Nat.reduceAdd, and_true]; refine ⟨?_, ?_, ?_, ?_, ?_, ?_, ?_, ?_⟩ <;> first | omega | rfl
              refine X.virtual (a := a215) (own_skip l Z a0 hw h216 n0 a215 a207 L (0 : Int32) (7 : Int32) 0 ta 1 2 (2 : Int32) (2 : Int32) rL (by rw [nL]; rfl) (by rw [nL]; decide) rfl H1 (4 : Int32) rfl (by decide) hsh216 Ba215'h216 Db Dp De AL'h216 gea215 (Nat.ne_of_gt la207_a215)) (hw _ (List.mem_of_getElem? (i := 37) rfl)) (hw _ (List.mem_of_getElem? (i := 38) rfl)) (hw _ (List.mem_of_getElem? (i := 40) rfl)) (hw _ (List.mem_of_getElem? (i := 39) rfl)) (hw _ (List.mem_of_getElem? (i := 3) rfl)) (hw _ (List.mem_of_getElem? (i := 41) rfl)) (by decide) Ba215'h216 own_pd9 (argsL := []) (rest := []) rfl rfl rfl (W := 0) (Nat.le_of_eq rfl) rfl (by decide) (by decide) (k' := 4) (n' := 17) rfl rfl (by decide) (by decide) at_278 (q := 281) rfl ?_
              rintro _ h217 ⟨rfl, Kh217c, S1b, S1p, S1e⟩
              have AL'h217 : OwA Z h217 a207 .byte (L.map Value.int) := OwA.keep AL'h216 Kh217c (ninS (Nat.ne_of_lt la207_a215) nin0)
              have Ba215'h217 : Exa Z h217 a215 "com/example/dircred/dircred/credential/DerReader" := Exa.keep Ba215'h216 Kh217c
              have hsh217 : n0 ≤ h217.size := Nat.le_trans hsh216 Kh217c.1
              show X.G h217 4 17 281 #[.val (.int x0), .val (.int x1), .val (.int x2), .val (.int x3), .val (.int x4), .val (.int m), .val (.int (2 : Int32)), .val (.int (1 : Int32)), .val (.ref a207), .val (.int (2 : Int32)), .val (.ref a215), .unset] []
              refine X.iload (q := 283) at_281 rfl rfl ?_
              refine X.iconst (q := 284) (2 : Int32) at_283 (by decide) rfl ?_
              refine X.icmp_ne (a := 2) (b := 2) (q' := 302) (q := 287) at_284 rfl rfl (by decide) rfl (fun c284 => ?_) (fun c284 => ?_)
              · omega
              · refine X.aload (q := 289) at_287 rfl rfl rfl ?_
                refine X.virtual (a := a215) (own_hm l Z a0 hw h217 n0 a215 (4 : Int32) (7 : Int32) hsh217 S1p S1e) (hw _ (List.mem_of_getElem? (i := 19) rfl)) (hw _ (List.mem_of_getElem? (i := 20) rfl)) (hw _ (List.mem_of_getElem? (i := 22) rfl)) (hw _ (List.mem_of_getElem? (i := 21) rfl)) (hw _ (List.mem_of_getElem? (i := 3) rfl)) (hw _ (List.mem_of_getElem? (i := 23) rfl)) (by decide) Ba215'h217 own_pd5 (argsL := []) (rest := []) rfl rfl rfl (W := 0) (Nat.le_of_eq rfl) rfl (by decide) (by decide) (k' := 4) (n' := 17) rfl rfl (by decide) (by decide) at_289 (q := 292) rfl ?_
                rintro _ _ ⟨zm, rfl, hzm, rfl⟩
                show X.G h217 4 17 292 #[.val (.int x0), .val (.int x1), .val (.int x2), .val (.int x3), .val (.int x4), .val (.int m), .val (.int (2 : Int32)), .val (.int (1 : Int32)), .val (.ref a207), .val (.int (2 : Int32)), .val (.ref a215), .unset] [(.int zm)]
                refine X.if_ne (q' := 297) (q := 295) at_292 rfl (by decide) rfl (fun c292 => ?_) (fun c292 => ?_)
                · refine X.aload (q := 299) at_297 rfl rfl rfl ?_
                  have H2 : own_hdr L 4 tb 5 6 (6 : Int32) (1 : Int32) := by have k1_ : (1 : Int32).toInt = 1 := rfl; have k6_ : (6 : Int32).toInt = 6 := rfl; unfold own_hdr; simp only [nL, Nat.reduceAdd, and_true]; refine ⟨?_, ?_, ?_, ?_, ?_, ?_, ?_, ?_⟩ <;> first | omega | rfl
                  refine X.virtual (a := a215) (own_skip l Z a0 hw h217 n0 a215 a207 L (4 : Int32) (7 : Int32) 4 tb 5 6 (6 : Int32) (1 : Int32) rL (by rw [nL]; rfl) (by rw [nL]; decide) rfl H2 (7 : Int32) rfl (by decide) hsh217 Ba215'h217 S1b S1p S1e AL'h217 gea215 (Nat.ne_of_gt la207_a215)) (hw _ (List.mem_of_getElem? (i := 37) rfl)) (hw _ (List.mem_of_getElem? (i := 38) rfl)) (hw _ (List.mem_of_getElem? (i := 40) rfl)) (hw _ (List.mem_of_getElem? (i := 39) rfl)) (hw _ (List.mem_of_getElem? (i := 3) rfl)) (hw _ (List.mem_of_getElem? (i := 41) rfl)) (by decide) Ba215'h217 own_pd9 (argsL := []) (rest := []) rfl rfl rfl (W := 0) (Nat.le_of_eq rfl) rfl (by decide) (by decide) (k' := 6) (n' := 24) rfl rfl (by decide) (by decide) at_299 (q := 302) rfl ?_
                  rintro _ h218 ⟨rfl, Kh218c, S2b, S2p, S2e⟩
                  have AL'h218 : OwA Z h218 a207 .byte (L.map Value.int) := OwA.keep AL'h217 Kh218c (ninS (Nat.ne_of_lt la207_a215) nin0)
                  have Ba215'h218 : Exa Z h218 a215 "com/example/dircred/dircred/credential/DerReader" := Exa.keep Ba215'h217 Kh218c
                  have hsh218 : n0 ≤ h218.size := Nat.le_trans hsh217 Kh218c.1
                  show X.G h218 6 24 302 #[.val (.int x0), .val (.int x1), .val (.int x2), .val (.int x3), .val (.int x4), .val (.int m), .val (.int (2 : Int32)), .val (.int (1 : Int32)), .val (.ref a207), .val (.int (2 : Int32)), .val (.ref a215), .unset] []
                  refine X.aload (q := 304) at_302 rfl rfl rfl ?_
                  refine X.virtual (a := a215) (own_hm l Z a0 hw h218 n0 a215 (7 : Int32) (7 : Int32) hsh218 S2p S2e) (hw _ (List.mem_of_getElem? (i := 19) rfl)) (hw _ (List.mem_of_getElem? (i := 20) rfl)) (hw _ (List.mem_of_getElem? (i := 22) rfl)) (hw _ (List.mem_of_getElem? (i := 21) rfl)) (hw _ (List.mem_of_getElem? (i := 3) rfl)) (hw _ (List.mem_of_getElem? (i := 23) rfl)) (by decide) Ba215'h218 own_pd5 (argsL := []) (rest := []) rfl rfl rfl (W := 0) (Nat.le_of_eq rfl) rfl (by decide) (by decide) (k' := 6) (n' := 24) rfl rfl (by decide) (by decide) at_304 (q := 307) rfl ?_
                  rintro _ _ ⟨zb, rfl, hzb, rfl⟩
                  show X.G h218 6 24 307 #[.val (.int x0), .val (.int x1), .val (.int x2), .val (.int x3), .val (.int x4), .val (.int m), .val (.int (2 : Int32)), .val (.int (1 : Int32)), .val (.ref a207), .val (.int (2 : Int32)), .val (.ref a215), .unset] [(.int zb)]
                  refine X.istore (q := 309) (Ls' := #[.val (.int x0), .val (.int x1), .val (.int x2), .val (.int x3), .val (.int x4), .val (.int m), .val (.int (2 : Int32)), .val (.int (1 : Int32)), .val (.ref a207), .val (.int (2 : Int32)), .val (.ref a215), .val (.int zb)]) at_307 rfl rfl ?_
                  refine X.aload (q := 311) at_309 rfl rfl rfl ?_
                  refine X.virtual (a := a215) (own_en l Z a0 hw h218 n0 a215 a207 (7 : Int32) (7 : Int32) (by decide) hsh218 Ba215'h218 S2b S2p S2e) (hw _ (List.mem_of_getElem? (i := 24) rfl)) (hw _ (List.mem_of_getElem? (i := 25) rfl)) (hw _ (List.mem_of_getElem? (i := 27) rfl)) (hw _ (List.mem_of_getElem? (i := 26) rfl)) (hw _ (List.mem_of_getElem? (i := 3) rfl)) (hw _ (List.mem_of_getElem? (i := 28) rfl)) (by decide) Ba215'h218 own_pd9 (argsL := []) (rest := []) rfl rfl rfl (W := 0) (Nat.le_of_eq rfl) rfl (by decide) (by decide) (k' := 6) (n' := 24) rfl rfl (by decide) (by decide) at_311 (q := 314) rfl ?_
                  rintro _ _ ⟨rfl, rfl⟩
                  show X.G h218 6 24 314 #[.val (.int x0), .val (.int x1), .val (.int x2), .val (.int x3), .val (.int x4), .val (.int m), .val (.int (2 : Int32)), .val (.int (1 : Int32)), .val (.ref a207), .val (.int (2 : Int32)), .val (.ref a215), .val (.int zb)] []
                  refine X.iload (q := 316) at_314 rfl rfl ?_
                  refine X.if_ne (q' := 331) (q := 319) at_316 rfl (by decide) rfl (fun c316 => ?_) (fun c316 => ?_)
                  · omega
                  · refine X.aload (q := 321) at_319 rfl rfl rfl ?_
                    refine X.virtual (a := a215) (own_hm l Z a0 hw h218 n0 a215 (7 : Int32) (7 : Int32) hsh218 S2p S2e) (hw _ (List.mem_of_getElem? (i := 19) rfl)) (hw _ (List.mem_of_getElem? (i := 20) rfl)) (hw _ (List.mem_of_getElem? (i := 22) rfl)) (hw _ (List.mem_of_getElem? (i := 21) rfl)) (hw _ (List.mem_of_getElem? (i := 3) rfl)) (hw _ (List.mem_of_getElem? (i := 23) rfl)) (by decide) Ba215'h218 own_pd5 (argsL := []) (rest := []) rfl rfl rfl (W := 0) (Nat.le_of_eq rfl) rfl (by decide) (by decide) (k' := 6) (n' := 24) rfl rfl (by decide) (by decide) at_321 (q := 324) rfl ?_
                    rintro _ _ ⟨zc, rfl, hzc, rfl⟩
                    show X.G h218 6 24 324 #[.val (.int x0), .val (.int x1), .val (.int x2), .val (.int x3), .val (.int x4), .val (.int m), .val (.int (2 : Int32)), .val (.int (1 : Int32)), .val (.ref a207), .val (.int (2 : Int32)), .val (.ref a215), .val (.int zb)] [(.int zc)]
                    refine X.if_ne (q' := 331) (q := 327) at_324 rfl (by decide) rfl (fun c324 => ?_) (fun c324 => ?_)
                    · omega
                    · refine X.iconst (q := 328) (1 : Int32) at_327 (by decide) rfl ?_
                      refine X.goto (q' := 332) at_328 (by decide) ?_
                      refine X.retN (t := .boolean) (z' := (1 : Int32)) at_332 rfl (by simp) (by decide) (by decide) (by decide) ?_
                      rfl
                · omega
          · refine X.iload (q := 90) at_88 rfl rfl ?_
            refine X.iadd (q := 91) at_90 rfl ?_
            refine X.foldI (v := (6 : Int32)) (by decide) ?_
            refine X.iload (q := 93) at_91 rfl rfl ?_
            refine X.iadd (q := 94) at_93 rfl ?_
            refine X.foldI (v := (8 : Int32)) (by decide) ?_
            refine X.newP (q := 96) (ty := .byte) (N := 8) (cap := 8) (k' := 1) (n' := 8) (hw _ (List.mem_of_getElem? (i := 0) rfl)) at_94 rfl rfl (Nat.le_refl _) (by decide) rfl rfl (by decide) (by decide) rfl (fun h219 a220 ga220 Eh219 Aa220 => ?_)
            have gea220 : n0 ≤ a220 := by rw [ga220]; exact hn0
            have hsh219 : n0 ≤ h219.size := Nat.le_trans hn0 Eh219.1
            have Aa220 : OwA Z h219 a220 .byte [(.int (0 : Int32)), (.int (0 : Int32)), (.int (0 : Int32)), (.int (0 : Int32)), (.int (0 : Int32)), (.int (0 : Int32)), (.int (0 : Int32)), (.int (0 : Int32))] := Aa220
            refine X.astore (q := 98) (Ls' := #[.val (.int x0), .val (.int x1), .val (.int x2), .val (.int x3), .val (.int x4), .val (.int m), .val (.int (2 : Int32)), .val (.int (2 : Int32)), .val (.ref a220), .unset, .unset, .unset]) at_96 rfl rfl rfl ?_
            refine X.aload (q := 100) at_98 rfl rfl rfl ?_
            refine X.iconst (q := 101) (0 : Int32) at_100 (by decide) rfl ?_
            refine X.iloadN (q := 102) at_101 rfl rfl ?_
            refine X.iload (q := 104) at_102 rfl rfl ?_
            refine X.callS (own_tag l Z a0 hw h219 n0 x1 (2 : Int32)) (hw _ (List.mem_of_getElem? (i := 30) rfl)) (hw _ (List.mem_of_getElem? (i := 31) rfl)) (hw _ (List.mem_of_getElem? (i := 32) rfl)) (hw _ (List.mem_of_getElem? (i := 33) rfl)) (by decide) own_pd6 (argsL := [(.int x1), (.int (2 : Int32))]) (rest := [(.int (0 : Int32)), (.ref a220)]) rfl rfl rfl (W := 2) (Nat.le_of_eq rfl) rfl (by decide) (by decide) (k' := 1) (n' := 8) rfl rfl (by decide) (by decide) at_104 (q := 107) rfl ?_
            rintro _ _ ⟨ta, rfl, hta, rfl⟩
            show X.G h219 1 8 107 #[.val (.int x0), .val (.int x1), .val (.int x2), .val (.int x3), .val (.int x4), .val (.int m), .val (.int (2 : Int32)), .val (.int (2 : Int32)), .val (.ref a220), .unset, .unset, .unset] [(.int ta), (.int (0 : Int32)), (.ref a220)]
            refine X.i2b (q := 108) at_107 rfl ?_
            refine X.bastore (q := 109) (j := 0) Aa220 rfl (by simp) gea220 at_108 rfl (fun h221 Wh221 Ah221 => ?_)
            have hsh221 : n0 ≤ h221.size := by rw [Wr.size Wh221]; exact hsh219
            have Ah221_ : OwA Z h221 a220 .byte [(.int (nar .byte ta.toInt8.toInt32)), (.int (0 : Int32)), (.int (0 : Int32)), (.int (0 : Int32)), (.int (0 : Int32)), (.int (0 : Int32)), (.int (0 : Int32)), (.int (0 : Int32))] := Ah221
            refine X.aload (q := 111) at_109 rfl rfl rfl ?_
            refine X.iconst (q := 112) (1 : Int32) at_111 (by decide) rfl ?_
            refine X.iload (q := 114) at_112 rfl rfl ?_
            refine X.i2b (q := 115) at_114 rfl ?_
            refine X.bastore (q := 116) (j := 1) Ah221_ rfl (by simp) gea220 at_115 rfl (fun h222 Wh222 Ah222 => ?_)
            have hsh222 : n0 ≤ h222.size := by rw [Wr.size Wh222]; exact hsh221
            have Ah222_ : OwA Z h222 a220 .byte [(.int (nar .byte ta.toInt8.toInt32)), (.int (nar .byte (2 : Int32).toInt8.toInt32)), (.int (0 : Int32)), (.int (0 : Int32)), (.int (0 : Int32)), (.int (0 : Int32)), (.int (0 : Int32)), (.int (0 : Int32))] := Ah222
            refine X.aload (q := 118) at_116 rfl rfl rfl ?_
            refine X.iconst (q := 119) (2 : Int32) at_118 (by decide) rfl ?_
            refine X.iload (q := 121) at_119 rfl rfl ?_
            refine X.iload (q := 123) at_121 rfl rfl ?_
            refine X.callS (own_put2 l Z a0 hw h222 n0 a220 (2 : Int32) x4 2 _ rfl (by simp) (by decide) hsh222 Ah222_ gea220) (hw _ (List.mem_of_getElem? (i := 34) rfl)) (hw _ (List.mem_of_getElem? (i := 35) rfl)) (hw _ (List.mem_of_getElem? (i := 32) rfl)) (hw _ (List.mem_of_getElem? (i := 36) rfl)) (by decide) own_pd7 (argsL := [(.ref a220), (.int (2 : Int32)), (.int (2 : Int32)), (.int x4)]) (rest := []) rfl rfl rfl (W := 0) (Nat.le_of_eq rfl) rfl (by decide) (by decide) (k' := 1) (n' := 8) rfl rfl (by decide) (by decide) at_123 (q := 126) rfl ?_
            rintro _ h223 ⟨u0, u1, rfl, Kh223c, Gu⟩
            have hsh223 : n0 ≤ h223.size := Nat.le_trans hsh222 Kh223c.1
            show X.G h223 1 8 126 #[.val (.int x0), .val (.int x1), .val (.int x2), .val (.int x3), .val (.int x4), .val (.int m), .val (.int (2 : Int32)), .val (.int (2 : Int32)), .val (.ref a220), .unset, .unset, .unset] []
            have Gu : OwA Z h223 a220 .byte [(.int (nar .byte ta.toInt8.toInt32)), (.int (nar .byte (2 : Int32).toInt8.toInt32)), (.int (nar .byte u0.toInt8.toInt32)), (.int (nar .byte u1.toInt8.toInt32)), (.int (0 : Int32)), (.int (0 : Int32)), (.int (0 : Int32)), (.int (0 : Int32))] := Gu
            refine X.aload (q := 128) at_126 rfl rfl rfl ?_
            refine X.iconst (q := 129) (2 : Int32) at_128 (by decide) rfl ?_
            refine X.iload (q := 131) at_129 rfl rfl ?_
            refine X.iadd (q := 132) at_131 rfl ?_
            refine X.foldI (v := (4 : Int32)) (by decide) ?_
            refine X.iloadN (q := 133) at_132 rfl rfl ?_
            refine X.iload (q := 135) at_133 rfl rfl ?_
            refine X.callS (own_tag l Z a0 hw h223 n0 x2 (2 : Int32)) (hw _ (List.mem_of_getElem? (i := 30) rfl)) (hw _ (List.mem_of_getElem? (i := 31) rfl)) (hw _ (List.mem_of_getElem? (i := 32) rfl)) (hw _ (List.mem_of_getElem? (i := 33) rfl)) (by decide) own_pd6 (argsL := [(.int x2), (.int (2 : Int32))]) (rest := [(.int (4 : Int32)), (.ref a220)]) rfl rfl rfl (W := 2) (Nat.le_of_eq rfl) rfl (by decide) (by decide) (k' := 1) (n' := 8) rfl rfl (by decide) (by decide) at_135 (q := 138) rfl ?_
            rintro _ _ ⟨tb, rfl, htb, rfl⟩
            show X.G h223 1 8 138 #[.val (.int x0), .val (.int x1), .val (.int x2), .val (.int x3), .val (.int x4), .val (.int m), .val (.int (2 : Int32)), .val (.int (2 : Int32)), .val (.ref a220), .unset, .unset, .unset] [(.int tb), (.int (4 : Int32)), (.ref a220)]
            refine X.i2b (q := 139) at_138 rfl ?_
            refine X.bastore (q := 140) (j := 4) Gu rfl (by simp) gea220 at_139 rfl (fun h224 Wh224 Ah224 => ?_)
            have hsh224 : n0 ≤ h224.size := by rw [Wr.size Wh224]; exact hsh223
            have Ah224_ : OwA Z h224 a220 .byte [(.int (nar .byte ta.toInt8.toInt32)), (.int (nar .byte (2 : Int32).toInt8.toInt32)), (.int (nar .byte u0.toInt8.toInt32)), (.int (nar .byte u1.toInt8.toInt32)), (.int (nar .byte tb.toInt8.toInt32)), (.int (0 : Int32)), (.int (0 : Int32)), (.int (0 : Int32))] := Ah224
            refine X.aload (q := 142) at_140 rfl rfl rfl ?_
            refine X.iconst (q := 143) (3 : Int32) at_142 (by decide) rfl ?_
            refine X.iload (q := 145) at_143 rfl rfl ?_
            refine X.iadd (q := 146) at_145 rfl ?_
            refine X.foldI (v := (5 : Int32)) (by decide) ?_
            refine X.iload (q := 148) at_146 rfl rfl ?_
            refine X.i2b (q := 149) at_148 rfl ?_
            refine X.bastore (q := 150) (j := 5) Ah224_ rfl (by simp) gea220 at_149 rfl (fun h225 Wh225 Ah225 => ?_)
            have hsh225 : n0 ≤ h225.size := by rw [Wr.size Wh225]; exact hsh224
            have Ah225_ : OwA Z h225 a220 .byte [(.int (nar .byte ta.toInt8.toInt32)), (.int (nar .byte (2 : Int32).toInt8.toInt32)), (.int (nar .byte u0.toInt8.toInt32)), (.int (nar .byte u1.toInt8.toInt32)), (.int (nar .byte tb.toInt8.toInt32)), (.int (nar .byte (2 : Int32).toInt8.toInt32)), (.int (0 : Int32)), (.int (0 : Int32))] := Ah225
            refine X.aload (q := 152) at_150 rfl rfl rfl ?_
            refine X.iconst (q := 153) (4 : Int32) at_152 (by decide) rfl ?_
            refine X.iload (q := 155) at_153 rfl rfl ?_
            refine X.iadd (q := 156) at_155 rfl ?_
            refine X.foldI (v := (6 : Int32)) (by decide) ?_
            refine X.iload (q := 158) at_156 rfl rfl ?_
            refine X.iload (q := 160) at_158 rfl rfl ?_
            refine X.bipush (q := 162) (8 : Int32) at_160 (by decide) rfl ?_
            refine X.iushr (q := 163) at_162 rfl ?_
            refine X.callS (own_put2 l Z a0 hw h225 n0 a220 (6 : Int32) (XT.ushr x4 (8 : Int32)) 6 _ rfl (by simp) (by decide) hsh225 Ah225_ gea220) (hw _ (List.mem_of_getElem? (i := 34) rfl)) (hw _ (List.mem_of_getElem? (i := 35) rfl)) (hw _ (List.mem_of_getElem? (i := 32) rfl)) (hw _ (List.mem_of_getElem? (i := 36) rfl)) (by decide) own_pd7 (argsL := [(.ref a220), (.int (6 : Int32)), (.int (2 : Int32)), (.int (XT.ushr x4 (8 : Int32)))]) (rest := []) rfl rfl rfl (W := 0) (Nat.le_of_eq rfl) rfl (by decide) (by decide) (k' := 1) (n' := 8) rfl rfl (by decide) (by decide) at_163 (q := 166) rfl ?_
            rintro _ h226 ⟨v0, v1, rfl, Kh226c, Gv⟩
            have hsh226 : n0 ≤ h226.size := Nat.le_trans hsh225 Kh226c.1
            show X.G h226 1 8 166 #[.val (.int x0), .val (.int x1), .val (.int x2), .val (.int x3), .val (.int x4), .val (.int m), .val (.int (2 : Int32)), .val (.int (2 : Int32)), .val (.ref a220), .unset, .unset, .unset] []
            have Gv : OwA Z h226 a220 .byte [(.int (nar .byte ta.toInt8.toInt32)), (.int (nar .byte (2 : Int32).toInt8.toInt32)), (.int (nar .byte u0.toInt8.toInt32)), (.int (nar .byte u1.toInt8.toInt32)), (.int (nar .byte tb.toInt8.toInt32)), (.int (nar .byte (2 : Int32).toInt8.toInt32)), (.int (nar .byte v0.toInt8.toInt32)), (.int (nar .byte v1.toInt8.toInt32))] := Gv
            refine X.iconst (q := 167) (2 : Int32) at_166 (by decide) rfl ?_
            refine X.istore (q := 169) (Ls' := #[.val (.int x0), .val (.int x1), .val (.int x2), .val (.int x3), .val (.int x4), .val (.int m), .val (.int (2 : Int32)), .val (.int (2 : Int32)), .val (.ref a220), .val (.int (2 : Int32)), .unset, .unset]) at_167 rfl rfl ?_
            refine X.goto (q' := 259) at_169 (by decide) ?_
            refine X.newO (q := 262) (k' := 2) (n' := 11) (hw _ (List.mem_of_getElem? (i := 1) rfl)) (hw _ (List.mem_of_getElem? (i := 2) rfl)) (hw _ (List.mem_of_getElem? (i := 3) rfl)) at_259 rfl rfl (by decide) (by decide) rfl (fun h227 a228 ga228 Eh227 Ba228 Da228 => ?_)
            have la220_a228 : a220 < a228 := by have := Gv.lt; rw [← ga228] at this; exact this
            have Gv'h227 : OwA Z h227 a220 .byte [(.int (nar .byte ta.toInt8.toInt32)), (.int (nar .byte (2 : Int32).toInt8.toInt32)), (.int (nar .byte u0.toInt8.toInt32)), (.int (nar .byte u1.toInt8.toInt32)), (.int (nar .byte tb.toInt8.toInt32)), (.int (nar .byte (2 : Int32).toInt8.toInt32)), (.int (nar .byte v0.toInt8.toInt32)), (.int (nar .byte v1.toInt8.toInt32))] := OwA.ext (E := Eh227) Gv
            have gea228 : n0 ≤ a228 := by rw [ga228]; exact hsh226
            have hsh227 : n0 ≤ h227.size := Nat.le_trans hsh226 Eh227.1
            have Fa228_bytes : Fld Z h227 a228 "com/example/dircred/dircred/credential/DerReader" "bytes" "[B" .null := Da228 (Or.inr (hw _ (List.mem_of_getElem? (i := 14) rfl))) (ty := (.array .byte)) (by decide)
            have Fa228_position : Fld Z h227 a228 "com/example/dircred/dircred/credential/DerReader" "position" "I" (.int (0 : Int32)) := Da228 (Or.inl (hw _ (List.mem_of_getElem? (i := 16) rfl))) (ty := .int) (by decide)
            have Fa228_end : Fld Z h227 a228 "com/example/dircred/dircred/credential/DerReader" "end" "I" (.int (0 : Int32)) := Da228 (Or.inr (hw _ (List.mem_of_getElem? (i := 18) rfl))) (ty := .int) (by decide)
            refine X.dup (q := 263) at_262 rfl rfl ?_
            refine X.aload (q := 265) at_263 rfl rfl rfl ?_
            obtain ⟨L, hL⟩ : ∃ L_ : List Int32, L_ = [(nar .byte ta.toInt8.toInt32), (nar .byte (2 : Int32).toInt8.toInt32), (nar .byte u0.toInt8.toInt32), (nar .byte u1.toInt8.toInt32), (nar .byte tb.toInt8.toInt32), (nar .byte (2 : Int32).toInt8.toInt32), (nar .byte v0.toInt8.toInt32), (nar .byte v1.toInt8.toInt32)] := ⟨_, rfl⟩
            have AL : OwA Z h227 a220 .byte (L.map Value.int) := by rw [hL]; exact Gv'h227
            have nL : L.length = 8 := by rw [hL]; rfl
            have gL0 : (L.getD 0 0).toInt = (ta.toInt + 128) % 256 - 128 := by rw [hL]; exact own_nbt _
            have gL1 : (L.getD 1 0).toInt = ((2 : Int32).toInt + 128) % 256 - 128 := by rw [hL]; exact own_nbt _
            have gL2 : (L.getD 2 0).toInt = (u0.toInt + 128) % 256 - 128 := by rw [hL]; exact own_nbt _
            have gL3 : (L.getD 3 0).toInt = (u1.toInt + 128) % 256 - 128 := by rw [hL]; exact own_nbt _
            have gL4 : (L.getD 4 0).toInt = (tb.toInt + 128) % 256 - 128 := by rw [hL]; exact own_nbt _
            have gL5 : (L.getD 5 0).toInt = ((2 : Int32).toInt + 128) % 256 - 128 := by rw [hL]; exact own_nbt _
            have gL6 : (L.getD 6 0).toInt = (v0.toInt + 128) % 256 - 128 := by rw [hL]; exact own_nbt _
            have gL7 : (L.getD 7 0).toInt = (v1.toInt + 128) % 256 - 128 := by rw [hL]; exact own_nbt _
            have rL : ∀ x ∈ L, -128 ≤ x.toInt ∧ x.toInt ≤ 127 := by
              intro x hx; rw [hL] at hx
              simp only [List.mem_cons, List.not_mem_nil, or_false] at hx
              rcases hx with rfl | rfl | rfl | rfl | rfl | rfl | rfl | rfl
              · rw [own_nbt]; omega
              · rw [own_nbt]; omega
              · rw [own_nbt]; omega
              · rw [own_nbt]; omega
              · rw [own_nbt]; omega
              · rw [own_nbt]; omega
              · rw [own_nbt]; omega
              · rw [own_nbt]; omega
            clear hL
            refine X.special (a := a228) (own_i1 l Z a0 hw h227 n0 a228 a220 L (8 : Int32) (by rw [nL]; rfl) hsh227 Ba228 Fa228_bytes Fa228_position Fa228_end AL gea228 (Nat.ne_of_gt la220_a228)) rfl (hw _ (List.mem_of_getElem? (i := 4) rfl)) (hw _ (List.mem_of_getElem? (i := 5) rfl)) (hw _ (List.mem_of_getElem? (i := 3) rfl)) (hw _ (List.mem_of_getElem? (i := 6) rfl)) (by decide) own_pd8 (argsL := [(.ref a220)]) (rest := [(.ref a228)]) rfl rfl rfl (W := 1) (Nat.le_of_eq rfl) rfl (by decide) (by decide) (k' := 2) (n' := 11) rfl rfl (by decide) (by decide) at_265 (q := 268) rfl ?_
            rintro _ h229 ⟨rfl, Kh229c, Db, Dp, De⟩
            have AL'h229 : OwA Z h229 a220 .byte (L.map Value.int) := OwA.keep AL Kh229c (ninS (Nat.ne_of_lt la220_a228) nin0)
            have Ba228'h229 : Exa Z h229 a228 "com/example/dircred/dircred/credential/DerReader" := Exa.keep Ba228 Kh229c
            have hsh229 : n0 ≤ h229.size := Nat.le_trans hsh227 Kh229c.1
            show X.G h229 2 11 268 #[.val (.int x0), .val (.int x1), .val (.int x2), .val (.int x3), .val (.int x4), .val (.int m), .val (.int (2 : Int32)), .val (.int (2 : Int32)), .val (.ref a220), .val (.int (2 : Int32)), .unset, .unset] [(.ref a228)]
            refine X.astore (q := 270) (Ls' := #[.val (.int x0), .val (.int x1), .val (.int x2), .val (.int x3), .val (.int x4), .val (.int m), .val (.int (2 : Int32)), .val (.int (2 : Int32)), .val (.ref a220), .val (.int (2 : Int32)), .val (.ref a228), .unset]) at_268 rfl rfl rfl ?_
            refine X.iload (q := 272) at_270 rfl rfl ?_
            refine X.iconst (q := 273) (1 : Int32) at_272 (by decide) rfl ?_
            refine X.icmp_lt (a := 2) (b := 1) (q' := 281) (q := 276) at_273 rfl rfl (by decide) rfl (fun c273 => ?_) (fun c273 => ?_)
            · omega
            · refine X.aload (q := 278) at_276 rfl rfl rfl ?_
              have H1 : own_hdr L 0 ta 1 2 (2 : Int32) (2 : Int32) := by have k2_ : (2 : Int32).toInt = 2 := rfl; unfold own_hdr; simp only [nL, Nat.reduceAdd, and_true]; refine ⟨?_, ?_, ?_, ?_, ?_, ?_, ?_, ?_⟩ <;> first | omega | rfl
              refine X.virtual (a := a228) (own_skip l Z a0 hw h229 n0 a228 a220 L (0 : Int32) (8 : Int32) 0 ta 1 2 (2 : Int32) (2 : Int32) rL (by rw [nL]; rfl) (by rw [nL]; decide) rfl H1 (4 : Int32) rfl (by decide) hsh229 Ba228'h229 Db Dp De AL'h229 gea228 (Nat.ne_of_gt la220_a228)) (hw _ (List.mem_of_getElem? (i := 37) rfl)) (hw _ (List.mem_of_getElem? (i := 38) rfl)) (hw _ (List.mem_of_getElem? (i := 40) rfl)) (hw _ (List.mem_of_getElem? (i := 39) rfl)) (hw _ (List.mem_of_getElem? (i := 3) rfl)) (hw _ (List.mem_of_getElem? (i := 41) rfl)) (by decide) Ba228'h229 own_pd9 (argsL := []) (rest := []) rfl rfl rfl (W := 0) (Nat.le_of_eq rfl) rfl (by decide) (by decide) (k' := 4) (n' := 18) rfl rfl (by decide) (by decide) at_278 (q := 281) rfl ?_
              rintro _ h230 ⟨rfl, Kh230c, S1b, S1p, S1e⟩
              have AL'h230 : OwA Z h230 a220 .byte (L.map Value.int) := OwA.keep AL'h229 Kh230c (ninS (Nat.ne_of_lt la220_a228) nin0)
              have Ba228'h230 : Exa Z h230 a228 "com/example/dircred/dircred/credential/DerReader" := Exa.keep Ba228'h229 Kh230c
              have hsh230 : n0 ≤ h230.size := Nat.le_trans hsh229 Kh230c.1
              show X.G h230 4 18 281 #[.val (.int x0), .val (.int x1), .val (.int x2), .val (.int x3), .val (.int x4), .val (.int m), .val (.int (2 : Int32)), .val (.int (2 : Int32)), .val (.ref a220), .val (.int (2 : Int32)), .val (.ref a228), .unset] []
              refine X.iload (q := 283) at_281 rfl rfl ?_
              refine X.iconst (q := 284) (2 : Int32) at_283 (by decide) rfl ?_
              refine X.icmp_ne (a := 2) (b := 2) (q' := 302) (q := 287) at_284 rfl rfl (by decide) rfl (fun c284 => ?_) (fun c284 => ?_)
              · omega
              · refine X.aload (q := 289) at_287 rfl rfl rfl ?_
                refine X.virtual (a := a228) (own_hm l Z a0 hw h230 n0 a228 (4 : Int32) (8 : Int32) hsh230 S1p S1e) (hw _ (List.mem_of_getElem? (i := 19) rfl)) (hw _ (List.mem_of_getElem? (i := 20) rfl)) (hw _ (List.mem_of_getElem? (i := 22) rfl)) (hw _ (List.mem_of_getElem? (i := 21) rfl)) (hw _ (List.mem_of_getElem? (i := 3) rfl)) (hw _ (List.mem_of_getElem? (i := 23) rfl)) (by decide) Ba228'h230 own_pd5 (argsL := []) (rest := []) rfl rfl rfl (W := 0) (Nat.le_of_eq rfl) rfl (by decide) (by decide) (k' := 4) (n' := 18) rfl rfl (by decide) (by decide) at_289 (q := 292) rfl ?_
                rintro _ _ ⟨zm, rfl, hzm, rfl⟩
                show X.G h230 4 18 292 #[.val (.int x0), .val (.int x1), .val (.int x2), .val (.int x3), .val (.int x4), .val (.int m), .val (.int (2 : Int32)), .val (.int (2 : Int32)), .val (.ref a220), .val (.int (2 : Int32)), .val (.ref a228), .unset] [(.int zm)]
                refine X.if_ne (q' := 297) (q := 295) at_292 rfl (by decide) rfl (fun c292 => ?_) (fun c292 => ?_)
                · refine X.aload (q := 299) at_297 rfl rfl rfl ?_
                  have H2 : own_hdr L 4 tb 5 6 (6 : Int32) (2 : Int32) := by have k2_ : (2 : Int32).toInt = 2 := rfl; have k6_ : (6 : Int32).toInt = 6 := rfl; unfold own_hdr; simp only [nL, Nat.reduceAdd, and_true]; refine ⟨?_, ?_, ?_, ?_, ?_, ?_, ?_, ?_⟩ <;> first | omega | rfl
                  refine X.virtual (a := a228) (own_skip l Z a0 hw h230 n0 a228 a220 L (4 : Int32) (8 : Int32) 4 tb 5 6 (6 : Int32) (2 : Int32) rL (by rw [nL]; rfl) (by rw [nL]; decide) rfl H2 (8 : Int32) rfl (by decide) hsh230 Ba228'h230 S1b S1p S1e AL'h230 gea228 (Nat.ne_of_gt la220_a228)) (hw _ (List.mem_of_getElem? (i := 37) rfl)) (hw _ (List.mem_of_getElem? (i := 38) rfl)) (hw _ (List.mem_of_getElem? (i := 40) rfl)) (hw _ (List.mem_of_getElem? (i := 39) rfl)) (hw _ (List.mem_of_getElem? (i := 3) rfl)) (hw _ (List.mem_of_getElem? (i := 41) rfl)) (by decide) Ba228'h230 own_pd9 (argsL := []) (rest := []) rfl rfl rfl (W := 0) (Nat.le_of_eq rfl) rfl (by decide) (by decide) (k' := 6) (n' := 25) rfl rfl (by decide) (by decide) at_299 (q := 302) rfl ?_
                  rintro _ h231 ⟨rfl, Kh231c, S2b, S2p, S2e⟩
                  have AL'h231 : OwA Z h231 a220 .byte (L.map Value.int) := OwA.keep AL'h230 Kh231c (ninS (Nat.ne_of_lt la220_a228) nin0)
                  have Ba228'h231 : Exa Z h231 a228 "com/example/dircred/dircred/credential/DerReader" := Exa.keep Ba228'h230 Kh231c
                  have hsh231 : n0 ≤ h231.size := Nat.le_trans hsh230 Kh231c.1
                  show X.G h231 6 25 302 #[.val (.int x0), .val (.int x1), .val (.int x2), .val (.int x3), .val (.int x4), .val (.int m), .val (.int (2 : Int32)), .val (.int (2 : Int32)), .val (.ref a220), .val (.int (2 : Int32)), .val (.ref a228), .unset] []
                  refine X.aload (q := 304) at_302 rfl rfl rfl ?_
                  refine X.virtual (a := a228) (own_hm l Z a0 hw h231 n0 a228 (8 : Int32) (8 : Int32) hsh231 S2p S2e) (hw _ (List.mem_of_getElem? (i := 19) rfl)) (hw _ (List.mem_of_getElem? (i := 20) rfl)) (hw _ (List.mem_of_getElem? (i := 22) rfl)) (hw _ (List.mem_of_getElem? (i := 21) rfl)) (hw _ (List.mem_of_getElem? (i := 3) rfl)) (hw _ (List.mem_of_getElem? (i := 23) rfl)) (by decide) Ba228'h231 own_pd5 (argsL := []) (rest := []) rfl rfl rfl (W := 0) (Nat.le_of_eq rfl) rfl (by decide) (by decide) (k' := 6) (n' := 25) rfl rfl (by decide) (by decide) at_304 (q := 307) rfl ?_
                  rintro _ _ ⟨zb, rfl, hzb, rfl⟩
                  show X.G h231 6 25 307 #[.val (.int x0), .val (.int x1), .val (.int x2), .val (.int x3), .val (.int x4), .val (.int m), .val (.int (2 : Int32)), .val (.int (2 : Int32)), .val (.ref a220), .val (.int (2 : Int32)), .val (.ref a228), .unset] [(.int zb)]
                  refine X.istore (q := 309) (Ls' := #[.val (.int x0), .val (.int x1), .val (.int x2), .val (.int x3), .val (.int x4), .val (.int m), .val (.int (2 : Int32)), .val (.int (2 : Int32)), .val (.ref a220), .val (.int (2 : Int32)), .val (.ref a228), .val (.int zb)]) at_307 rfl rfl ?_
                  refine X.aload (q := 311) at_309 rfl rfl rfl ?_
                  refine X.virtual (a := a228) (own_en l Z a0 hw h231 n0 a228 a220 (8 : Int32) (8 : Int32) (by decide) hsh231 Ba228'h231 S2b S2p S2e) (hw _ (List.mem_of_getElem? (i := 24) rfl)) (hw _ (List.mem_of_getElem? (i := 25) rfl)) (hw _ (List.mem_of_getElem? (i := 27) rfl)) (hw _ (List.mem_of_getElem? (i := 26) rfl)) (hw _ (List.mem_of_getElem? (i := 3) rfl)) (hw _ (List.mem_of_getElem? (i := 28) rfl)) (by decide) Ba228'h231 own_pd9 (argsL := []) (rest := []) rfl rfl rfl (W := 0) (Nat.le_of_eq rfl) rfl (by decide) (by decide) (k' := 6) (n' := 25) rfl rfl (by decide) (by decide) at_311 (q := 314) rfl ?_
                  rintro _ _ ⟨rfl, rfl⟩
                  show X.G h231 6 25 314 #[.val (.int x0), .val (.int x1), .val (.int x2), .val (.int x3), .val (.int x4), .val (.int m), .val (.int (2 : Int32)), .val (.int (2 : Int32)), .val (.ref a220), .val (.int (2 : Int32)), .val (.ref a228), .val (.int zb)] []
                  refine X.iload (q := 316) at_314 rfl rfl ?_
                  refine X.if_ne (q' := 331) (q := 319) at_316 rfl (by decide) rfl (fun c316 => ?_) (fun c316 => ?_)
                  · omega
                  · refine X.aload (q := 321) at_319 rfl rfl rfl ?_
                    refine X.virtual (a := a228) (own_hm l Z a0 hw h231 n0 a228 (8 : Int32) (8 : Int32) hsh231 S2p S2e) (hw _ (List.mem_of_getElem? (i := 19) rfl)) (hw _ (List.mem_of_getElem? (i := 20) rfl)) (hw _ (List.mem_of_getElem? (i := 22) rfl)) (hw _ (List.mem_of_getElem? (i := 21) rfl)) (hw _ (List.mem_of_getElem? (i := 3) rfl)) (hw _ (List.mem_of_getElem? (i := 23) rfl)) (by decide) Ba228'h231 own_pd5 (argsL := []) (rest := []) rfl rfl rfl (W := 0) (Nat.le_of_eq rfl) rfl (by decide) (by decide) (k' := 6) (n' := 25) rfl rfl (by decide) (by decide) at_321 (q := 324) rfl ?_
                    rintro _ _ ⟨zc, rfl, hzc, rfl⟩
                    show X.G h231 6 25 324 #[.val (.int x0), .val (.int x1), .val (.int x2), .val (.int x3), .val (.int x4), .val (.int m), .val (.int (2 : Int32)), .val (.int (2 : Int32)), .val (.ref a220), .val (.int (2 : Int32)), .val (.ref a228), .val (.int zb)] [(.int zc)]
                    refine X.if_ne (q' := 331) (q := 327) at_324 rfl (by decide) rfl (fun c324 => ?_) (fun c324 => ?_)
                    · omega
                    · refine X.iconst (q := 328) (1 : Int32) at_327 (by decide) rfl ?_
                      refine X.goto (q' := 332) at_328 (by decide) ?_
                      refine X.retN (t := .boolean) (z' := (1 : Int32)) at_332 rfl (by simp) (by decide) (by decide) (by decide) ?_
                      rfl
                · omega
          · refine X.iload (q := 90) at_88 rfl rfl ?_
            refine X.iadd (q := 91) at_90 rfl ?_
            refine X.foldI (v := (6 : Int32)) (by decide) ?_
            refine X.iload (q := 93) at_91 rfl rfl ?_
            refine X.iadd (q := 94) at_93 rfl ?_
            refine X.foldI (v := (9 : Int32)) (by decide) ?_
            refine X.newP (q := 96) (ty := .byte) (N := 9) (cap := 9) (k' := 1) (n' := 9) (hw _ (List.mem_of_getElem? (i := 0) rfl)) at_94 rfl rfl (Nat.le_refl _) (by decide) rfl rfl (by decide) (by decide) rfl (fun h232 a233 ga233 Eh232 Aa233 => ?_)
            have gea233 : n0 ≤ a233 := by rw [ga233]; exact hn0
            have hsh232 : n0 ≤ h232.size := Nat.le_trans hn0 Eh232.1
            have Aa233 : OwA Z h232 a233 .byte [(.int (0 : Int32)), (.int (0 : Int32)), (.int (0 : Int32)), (.int (0 : Int32)), (.int (0 : Int32)), (.int (0 : Int32)), (.int (0 : Int32)), (.int (0 : Int32)), (.int (0 : Int32))] := Aa233
            refine X.astore (q := 98) (Ls' := #[.val (.int x0), .val (.int x1), .val (.int x2), .val (.int x3), .val (.int x4), .val (.int m), .val (.int (2 : Int32)), .val (.int (3 : Int32)), .val (.ref a233), .unset, .unset, .unset]) at_96 rfl rfl rfl ?_
            refine X.aload (q := 100) at_98 rfl rfl rfl ?_
            refine X.iconst (q := 101) (0 : Int32) at_100 (by decide) rfl ?_
            refine X.iloadN (q := 102) at_101 rfl rfl ?_
            refine X.iload (q := 104) at_102 rfl rfl ?_
            refine X.callS (own_tag l Z a0 hw h232 n0 x1 (2 : Int32)) (hw _ (List.mem_of_getElem? (i := 30) rfl)) (hw _ (List.mem_of_getElem? (i := 31) rfl)) (hw _ (List.mem_of_getElem? (i := 32) rfl)) (hw _ (List.mem_of_getElem? (i := 33) rfl)) (by decide) own_pd6 (argsL := [(.int x1), (.int (2 : Int32))]) (rest := [(.int (0 : Int32)), (.ref a233)]) rfl rfl rfl (W := 2) (Nat.le_of_eq rfl) rfl (by decide) (by decide) (k' := 1) (n' := 9) rfl rfl (by decide) (by decide) at_104 (q := 107) rfl ?_
            rintro _ _ ⟨ta, rfl, hta, rfl⟩
            show X.G h232 1 9 107 #[.val (.int x0), .val (.int x1), .val (.int x2), .val (.int x3), .val (.int x4), .val (.int m), .val (.int (2 : Int32)), .val (.int (3 : Int32)), .val (.ref a233), .unset, .unset, .unset] [(.int ta), (.int (0 : Int32)), (.ref a233)]
            refine X.i2b (q := 108) at_107 rfl ?_
            refine X.bastore (q := 109) (j := 0) Aa233 rfl (by simp) gea233 at_108 rfl (fun h234 Wh234 Ah234 => ?_)
            have hsh234 : n0 ≤ h234.size := by rw [Wr.size Wh234]; exact hsh232
            have Ah234_ : OwA Z h234 a233 .byte [(.int (nar .byte ta.toInt8.toInt32)), (.int (0 : Int32)), (.int (0 : Int32)), (.int (0 : Int32)), (.int (0 : Int32)), (.int (0 : Int32)), (.int (0 : Int32)), (.int (0 : Int32)), (.int (0 : Int32))] := Ah234
            refine X.aload (q := 111) at_109 rfl rfl rfl ?_
            refine X.iconst (q := 112) (1 : Int32) at_111 (by decide) rfl ?_
            refine X.iload (q := 114) at_112 rfl rfl ?_
            refine X.i2b (q := 115) at_114 rfl ?_
            refine X.bastore (q := 116) (j := 1) Ah234_ rfl (by simp) gea233 at_115 rfl (fun h235 Wh235 Ah235 => ?_)
            have hsh235 : n0 ≤ h235.size := by rw [Wr.size Wh235]; exact hsh234
            have Ah235_ : OwA Z h235 a233 .byte [(.int (nar .byte ta.toInt8.toInt32)), (.int (nar .byte (2 : Int32).toInt8.toInt32)), (.int (0 : Int32)), (.int (0 : Int32)), (.int (0 : Int32)), (.int (0 : Int32)), (.int (0 : Int32)), (.int (0 : Int32)), (.int (0 : Int32))] := Ah235
            refine X.aload (q := 118) at_116 rfl rfl rfl ?_
            refine X.iconst (q := 119) (2 : Int32) at_118 (by decide) rfl ?_
            refine X.iload (q := 121) at_119 rfl rfl ?_
            refine X.iload (q := 123) at_121 rfl rfl ?_
            refine X.callS (own_put2 l Z a0 hw h235 n0 a233 (2 : Int32) x4 2 _ rfl (by simp) (by decide) hsh235 Ah235_ gea233) (hw _ (List.mem_of_getElem? (i := 34) rfl)) (hw _ (List.mem_of_getElem? (i := 35) rfl)) (hw _ (List.mem_of_getElem? (i := 32) rfl)) (hw _ (List.mem_of_getElem? (i := 36) rfl)) (by decide) own_pd7 (argsL := [(.ref a233), (.int (2 : Int32)), (.int (2 : Int32)), (.int x4)]) (rest := []) rfl rfl rfl (W := 0) (Nat.le_of_eq rfl) rfl (by decide) (by decide) (k' := 1) (n' := 9) rfl rfl (by decide) (by decide) at_123 (q := 126) rfl ?_
            rintro _ h236 ⟨u0, u1, rfl, Kh236c, Gu⟩
            have hsh236 : n0 ≤ h236.size := Nat.le_trans hsh235 Kh236c.1
            show X.G h236 1 9 126 #[.val (.int x0), .val (.int x1), .val (.int x2), .val (.int x3), .val (.int x4), .val (.int m), .val (.int (2 : Int32)), .val (.int (3 : Int32)), .val (.ref a233), .unset, .unset, .unset] []
            have Gu : OwA Z h236 a233 .byte [(.int (nar .byte ta.toInt8.toInt32)), (.int (nar .byte (2 : Int32).toInt8.toInt32)), (.int (nar .byte u0.toInt8.toInt32)), (.int (nar .byte u1.toInt8.toInt32)), (.int (0 : Int32)), (.int (0 : Int32)), (.int (0 : Int32)), (.int (0 : Int32)), (.int (0 : Int32))] := Gu
            refine X.aload (q := 128) at_126 rfl rfl rfl ?_
            refine X.iconst (q := 129) (2 : Int32) at_128 (by decide) rfl ?_
            refine X.iload (q := 131) at_129 rfl rfl ?_
            refine X.iadd (q := 132) at_131 rfl ?_
            refine X.foldI (v := (4 : Int32)) (by decide) ?_
            refine X.iloadN (q := 133) at_132 rfl rfl ?_
            refine X.iload (q := 135) at_133 rfl rfl ?_
            refine X.callS (own_tag l Z a0 hw h236 n0 x2 (3 : Int32)) (hw _ (List.mem_of_getElem? (i := 30) rfl)) (hw _ (List.mem_of_getElem? (i := 31) rfl)) (hw _ (List.mem_of_getElem? (i := 32) rfl)) (hw _ (List.mem_of_getElem? (i := 33) rfl)) (by decide) own_pd6 (argsL := [(.int x2), (.int (3 : Int32))]) (rest := [(.int (4 : Int32)), (.ref a233)]) rfl rfl rfl (W := 2) (Nat.le_of_eq rfl) rfl (by decide) (by decide) (k' := 1) (n' := 9) rfl rfl (by decide) (by decide) at_135 (q := 138) rfl ?_
            rintro _ _ ⟨tb, rfl, htb, rfl⟩
            show X.G h236 1 9 138 #[.val (.int x0), .val (.int x1), .val (.int x2), .val (.int x3), .val (.int x4), .val (.int m), .val (.int (2 : Int32)), .val (.int (3 : Int32)), .val (.ref a233), .unset, .unset, .unset] [(.int tb), (.int (4 : Int32)), (.ref a233)]
            refine X.i2b (q := 139) at_138 rfl ?_
            refine X.bastore (q := 140) (j := 4) Gu rfl (by simp) gea233 at_139 rfl (fun h237 Wh237 Ah237 => ?_)
            have hsh237 : n0 ≤ h237.size := by rw [Wr.size Wh237]; exact hsh236
            have Ah237_ : OwA Z h237 a233 .byte [(.int (nar .byte ta.toInt8.toInt32)), (.int (nar .byte (2 : Int32).toInt8.toInt32)), (.int (nar .byte u0.toInt8.toInt32)), (.int (nar .byte u1.toInt8.toInt32)), (.int (nar .byte tb.toInt8.toInt32)), (.int (0 : Int32)), (.int (0 : Int32)), (.int (0 : Int32)), (.int (0 : Int32))] := Ah237
            refine X.aload (q := 142) at_140 rfl rfl rfl ?_
            refine X.iconst (q := 143) (3 : Int32) at_142 (by decide) rfl ?_
            refine X.iload (q := 145) at_143 rfl rfl ?_
            refine X.iadd (q := 146) at_145 rfl ?_
            refine X.foldI (v := (5 : Int32)) (by decide) ?_
            refine X.iload (q := 148) at_146 rfl rfl ?_
            refine X.i2b (q := 149) at_148 rfl ?_
            refine X.bastore (q := 150) (j := 5) Ah237_ rfl (by simp) gea233 at_149 rfl (fun h238 Wh238 Ah238 => ?_)
            have hsh238 : n0 ≤ h238.size := by rw [Wr.size Wh238]; exact hsh237
            have Ah238_ : OwA Z h238 a233 .byte [(.int (nar .byte ta.toInt8.toInt32)), (.int (nar .byte (2 : Int32).toInt8.toInt32)), (.int (nar .byte u0.toInt8.toInt32)), (.int (nar .byte u1.toInt8.toInt32)), (.int (nar .byte tb.toInt8.toInt32)), (.int (nar .byte (3 : Int32).toInt8.toInt32)), (.int (0 : Int32)), (.int (0 : Int32)), (.int (0 : Int32))] := Ah238
            refine X.aload (q := 152) at_150 rfl rfl rfl ?_
            refine X.iconst (q := 153) (4 : Int32) at_152 (by decide) rfl ?_
            refine X.iload (q := 155) at_153 rfl rfl ?_
            refine X.iadd (q := 156) at_155 rfl ?_
            refine X.foldI (v := (6 : Int32)) (by decide) ?_
            refine X.iload (q := 158) at_156 rfl rfl ?_
            refine X.iload (q := 160) at_158 rfl rfl ?_
            refine X.bipush (q := 162) (8 : Int32) at_160 (by decide) rfl ?_
            refine X.iushr (q := 163) at_162 rfl ?_
            refine X.callS (own_put3 l Z a0 hw h238 n0 a233 (6 : Int32) (XT.ushr x4 (8 : Int32)) 6 _ rfl (by simp) (by decide) hsh238 Ah238_ gea233) (hw _ (List.mem_of_getElem? (i := 34) rfl)) (hw _ (List.mem_of_getElem? (i := 35) rfl)) (hw _ (List.mem_of_getElem? (i := 32) rfl)) (hw _ (List.mem_of_getElem? (i := 36) rfl)) (by decide) own_pd7 (argsL := [(.ref a233), (.int (6 : Int32)), (.int (3 : Int32)), (.int (XT.ushr x4 (8 : Int32)))]) (rest := []) rfl rfl rfl (W := 0) (Nat.le_of_eq rfl) rfl (by decide) (by decide) (k' := 1) (n' := 9) rfl rfl (by decide) (by decide) at_163 (q := 166) rfl ?_
            rintro _ h239 ⟨v0, v1, v2, rfl, Kh239c, Gv⟩
            have hsh239 : n0 ≤ h239.size := Nat.le_trans hsh238 Kh239c.1
            show X.G h239 1 9 166 #[.val (.int x0), .val (.int x1), .val (.int x2), .val (.int x3), .val (.int x4), .val (.int m), .val (.int (2 : Int32)), .val (.int (3 : Int32)), .val (.ref a233), .unset, .unset, .unset] []
            have Gv : OwA Z h239 a233 .byte [(.int (nar .byte ta.toInt8.toInt32)), (.int (nar .byte (2 : Int32).toInt8.toInt32)), (.int (nar .byte u0.toInt8.toInt32)), (.int (nar .byte u1.toInt8.toInt32)), (.int (nar .byte tb.toInt8.toInt32)), (.int (nar .byte (3 : Int32).toInt8.toInt32)), (.int (nar .byte v0.toInt8.toInt32)), (.int (nar .byte v1.toInt8.toInt32)), (.int (nar .byte v2.toInt8.toInt32))] := Gv
            refine X.iconst (q := 167) (2 : Int32) at_166 (by decide) rfl ?_
            refine X.istore (q := 169) (Ls' := #[.val (.int x0), .val (.int x1), .val (.int x2), .val (.int x3), .val (.int x4), .val (.int m), .val (.int (2 : Int32)), .val (.int (3 : Int32)), .val (.ref a233), .val (.int (2 : Int32)), .unset, .unset]) at_167 rfl rfl ?_
            refine X.goto (q' := 259) at_169 (by decide) ?_
            refine X.newO (q := 262) (k' := 2) (n' := 12) (hw _ (List.mem_of_getElem? (i := 1) rfl)) (hw _ (List.mem_of_getElem? (i := 2) rfl)) (hw _ (List.mem_of_getElem? (i := 3) rfl)) at_259 rfl rfl (by decide) (by decide) rfl (fun h240 a241 ga241 Eh240 Ba241 Da241 => ?_)
            have la233_a241 : a233 < a241 := by have := Gv.lt; rw [← ga241] at this; exact this
            have Gv'h240 : OwA Z h240 a233 .byte [(.int (nar .byte ta.toInt8.toInt32)), (.int (nar .byte (2 : Int32).toInt8.toInt32)), (.int (nar .byte u0.toInt8.toInt32)), (.int (nar .byte u1.toInt8.toInt32)), (.int (nar .byte tb.toInt8.toInt32)), (.int (nar .byte (3 : Int32).toInt8.toInt32)), (.int (nar .byte v0.toInt8.toInt32)), (.int (nar .byte v1.toInt8.toInt32)), (.int (nar .byte v2.toInt8.toInt32))] := OwA.ext (E := Eh240) Gv
            have gea241 : n0 ≤ a241 := by rw [ga241]; exact hsh239
            have hsh240 : n0 ≤ h240.size := Nat.le_trans hsh239 Eh240.1
            have Fa241_bytes : Fld Z h240 a241 "com/example/dircred/dircred/credential/DerReader" "bytes" "[B" .null := Da241 (Or.inr (hw _ (List.mem_of_getElem? (i := 14) rfl))) (ty := (.array .byte)) (by decide)
            have Fa241_position : Fld Z h240 a241 "com/example/dircred/dircred/credential/DerReader" "position" "I" (.int (0 : Int32)) := Da241 (Or.inl (hw _ (List.mem_of_getElem? (i := 16) rfl))) (ty := .int) (by decide)
            have Fa241_end : Fld Z h240 a241 "com/example/dircred/dircred/credential/DerReader" "end" "I" (.int (0 : Int32)) := Da241 (Or.inr (hw _ (List.mem_of_getElem? (i := 18) rfl))) (ty := .int) (by decide)
            refine X.dup (q := 263) at_262 rfl rfl ?_
            refine X.aload (q := 265) at_263 rfl rfl rfl ?_
            obtain ⟨L, hL⟩ : ∃ L_ : List Int32, L_ = [(nar .byte ta.toInt8.toInt32), (nar .byte (2 : Int32).toInt8.toInt32), (nar .byte u0.toInt8.toInt32), (nar .byte u1.toInt8.toInt32), (nar .byte tb.toInt8.toInt32), (nar .byte (3 : Int32).toInt8.toInt32), (nar .byte v0.toInt8.toInt32), (nar .byte v1.toInt8.toInt32), (nar .byte v2.toInt8.toInt32)] := ⟨_, rfl⟩
            have AL : OwA Z h240 a233 .byte (L.map Value.int) := by rw [hL]; exact Gv'h240
            have nL : L.length = 9 := by rw [hL]; rfl
            have gL0 : (L.getD 0 0).toInt = (ta.toInt + 128) % 256 - 128 := by rw [hL]; exact own_nbt _
            have gL1 : (L.getD 1 0).toInt = ((2 : Int32).toInt + 128) % 256 - 128 := by rw [hL]; exact own_nbt _
            have gL2 : (L.getD 2 0).toInt = (u0.toInt + 128) % 256 - 128 := by rw [hL]; exact own_nbt _
            have gL3 : (L.getD 3 0).toInt = (u1.toInt + 128) % 256 - 128 := by rw [hL]; exact own_nbt _
            have gL4 : (L.getD 4 0).toInt = (tb.toInt + 128) % 256 - 128 := by rw [hL]; exact own_nbt _
            have gL5 : (L.getD 5 0).toInt = ((3 : Int32).toInt + 128) % 256 - 128 := by rw [hL]; exact own_nbt _
            have gL6 : (L.getD 6 0).toInt = (v0.toInt + 128) % 256 - 128 := by rw [hL]; exact own_nbt _
            have gL7 : (L.getD 7 0).toInt = (v1.toInt + 128) % 256 - 128 := by rw [hL]; exact own_nbt _
            have gL8 : (L.getD 8 0).toInt = (v2.toInt + 128) % 256 - 128 := by rw [hL]; exact own_nbt _
            have rL : ∀ x ∈ L, -128 ≤ x.toInt ∧ x.toInt ≤ 127 := by
              intro x hx; rw [hL] at hx
              simp only [List.mem_cons, List.not_mem_nil, or_false] at hx
              rcases hx with rfl | rfl | rfl | rfl | rfl | rfl | rfl | rfl | rfl
              · rw [own_nbt]; omega
              · rw [own_nbt]; omega
              · rw [own_nbt]; omega
              · rw [own_nbt]; omega
              · rw [own_nbt]; omega
              · rw [own_nbt]; omega
              · rw [own_nbt]; omega
              · rw [own_nbt]; omega
              · rw [own_nbt]; omega
            clear hL
            refine X.special (a := a241) (own_i1 l Z a0 hw h240 n0 a241 a233 L (9 : Int32) (by rw [nL]; rfl) hsh240 Ba241 Fa241_bytes Fa241_position Fa241_end AL gea241 (Nat.ne_of_gt la233_a241)) rfl (hw _ (List.mem_of_getElem? (i := 4) rfl)) (hw _ (List.mem_of_getElem? (i := 5) rfl)) (hw _ (List.mem_of_getElem? (i := 3) rfl)) (hw _ (List.mem_of_getElem? (i := 6) rfl)) (by decide) own_pd8 (argsL := [(.ref a233)]) (rest := [(.ref a241)]) rfl rfl rfl (W := 1) (Nat.le_of_eq rfl) rfl (by decide) (by decide) (k' := 2) (n' := 12) rfl rfl (by decide) (by decide) at_265 (q := 268) rfl ?_
            rintro _ h242 ⟨rfl, Kh242c, Db, Dp, De⟩
            have AL'h242 : OwA Z h242 a233 .byte (L.map Value.int) := OwA.keep AL Kh242c (ninS (Nat.ne_of_lt la233_a241) nin0)
            have Ba241'h242 : Exa Z h242 a241 "com/example/dircred/dircred/credential/DerReader" := Exa.keep Ba241 Kh242c
            have hsh242 : n0 ≤ h242.size := Nat.le_trans hsh240 Kh242c.1
            show X.G h242 2 12 268 #[.val (.int x0), .val (.int x1), .val (.int x2), .val (.int x3), .val (.int x4), .val (.int m), .val (.int (2 : Int32)), .val (.int (3 : Int32)), .val (.ref a233), .val (.int (2 : Int32)), .unset, .unset] [(.ref a241)]
            refine X.astore (q := 270) (Ls' := #[.val (.int x0), .val (.int x1), .val (.int x2), .val (.int x3), .val (.int x4), .val (.int m), .val (.int (2 : Int32)), .val (.int (3 : Int32)), .val (.ref a233), .val (.int (2 : Int32)), .val (.ref a241), .unset]) at_268 rfl rfl rfl ?_
            refine X.iload (q := 272) at_270 rfl rfl ?_
            refine X.iconst (q := 273) (1 : Int32) at_272 (by decide) rfl ?_
            refine X.icmp_lt (a := 2) (b := 1) (q' := 281) (q := 276) at_273 rfl rfl (by decide) rfl (fun c273 => ?_) (fun c273 => ?_)
            · omega
            · refine X.aload (q := 278) at_276 rfl rfl rfl ?_
              have H1 : own_hdr L 0 ta 1 2 (2 : Int32) (2 : Int32) := by have k2_ : (2 : Int32).toInt = 2 := rfl; unfold own_hdr; simp only [nL, Nat.reduceAdd, and_true]; refine ⟨?_, ?_, ?_, ?_, ?_, ?_, ?_, ?_⟩ <;> first | omega | rfl
              refine X.virtual (a := a241) (own_skip l Z a0 hw h242 n0 a241 a233 L (0 : Int32) (9 : Int32) 0 ta 1 2 (2 : Int32) (2 : Int32) rL (by rw [nL]; rfl) (by rw [nL]; decide) rfl H1 (4 : Int32) rfl (by decide) hsh242 Ba241'h242 Db Dp De AL'h242 gea241 (Nat.ne_of_gt la233_a241)) (hw _ (List.mem_of_getElem? (i := 37) rfl)) (hw _ (List.mem_of_getElem? (i := 38) rfl)) (hw _ (List.mem_of_getElem? (i := 40) rfl)) (hw _ (List.mem_of_getElem? (i := 39) rfl)) (hw _ (List.mem_of_getElem? (i := 3) rfl)) (hw _ (List.mem_of_getElem? (i := 41) rfl)) (by decide) Ba241'h242 own_pd9 (argsL := []) (rest := []) rfl rfl rfl (W := 0) (Nat.le_of_eq rfl) rfl (by decide) (by decide) (k' := 4) (n' := 19) rfl rfl (by decide) (by decide) at_278 (q := 281) rfl ?_
              rintro _ h243 ⟨rfl, Kh243c, S1b, S1p, S1e⟩
              have AL'h243 : OwA Z h243 a233 .byte (L.map Value.int) := OwA.keep AL'h242 Kh243c (ninS (Nat.ne_of_lt la233_a241) nin0)
              have Ba241'h243 : Exa Z h243 a241 "com/example/dircred/dircred/credential/DerReader" := Exa.keep Ba241'h242 Kh243c
              have hsh243 : n0 ≤ h243.size := Nat.le_trans hsh242 Kh243c.1
              show X.G h243 4 19 281 #[.val (.int x0), .val (.int x1), .val (.int x2), .val (.int x3), .val (.int x4), .val (.int m), .val (.int (2 : Int32)), .val (.int (3 : Int32)), .val (.ref a233), .val (.int (2 : Int32)), .val (.ref a241), .unset] []
              refine X.iload (q := 283) at_281 rfl rfl ?_
              refine X.iconst (q := 284) (2 : Int32) at_283 (by decide) rfl ?_
              refine X.icmp_ne (a := 2) (b := 2) (q' := 302) (q := 287) at_284 rfl rfl (by decide) rfl (fun c284 => ?_) (fun c284 => ?_)
              · omega
              · refine X.aload (q := 289) at_287 rfl rfl rfl ?_
                refine X.virtual (a := a241) (own_hm l Z a0 hw h243 n0 a241 (4 : Int32) (9 : Int32) hsh243 S1p S1e) (hw _ (List.mem_of_getElem? (i := 19) rfl)) (hw _ (List.mem_of_getElem? (i := 20) rfl)) (hw _ (List.mem_of_getElem? (i := 22) rfl)) (hw _ (List.mem_of_getElem? (i := 21) rfl)) (hw _ (List.mem_of_getElem? (i := 3) rfl)) (hw _ (List.mem_of_getElem? (i := 23) rfl)) (by decide) Ba241'h243 own_pd5 (argsL := []) (rest := []) rfl rfl rfl (W := 0) (Nat.le_of_eq rfl) rfl (by decide) (by decide) (k' := 4) (n' := 19) rfl rfl (by decide) (by decide) at_289 (q := 292) rfl ?_
                rintro _ _ ⟨zm, rfl, hzm, rfl⟩
                show X.G h243 4 19 292 #[.val (.int x0), .val (.int x1), .val (.int x2), .val (.int x3), .val (.int x4), .val (.int m), .val (.int (2 : Int32)), .val (.int (3 : Int32)), .val (.ref a233), .val (.int (2 : Int32)), .val (.ref a241), .unset] [(.int zm)]
                refine X.if_ne (q' := 297) (q := 295) at_292 rfl (by decide) rfl (fun c292 => ?_) (fun c292 => ?_)
                · refine X.aload (q := 299) at_297 rfl rfl rfl ?_
                  have H2 : own_hdr L 4 tb 5 6 (6 : Int32) (3 : Int32) := by have k3_ : (3 : Int32).toInt = 3 := rfl; have k6_ : (6 : Int32).toInt = 6 := rfl; unfold own_hdr; simp only [nL, Nat.reduceAdd, and_true]; refine ⟨?_, ?_, ?_, ?_, ?_, ?_, ?_, ?_⟩ <;> first | omega | rfl
                  refine X.virtual (a := a241) (own_skip l Z a0 hw h243 n0 a241 a233 L (4 : Int32) (9 : Int32) 4 tb 5 6 (6 : Int32) (3 : Int32) rL (by rw [nL]; rfl) (by rw [nL]; decide) rfl H2 (9 : Int32) rfl (by decide) hsh243 Ba241'h243 S1b S1p S1e AL'h243 gea241 (Nat.ne_of_gt la233_a241)) (hw _ (List.mem_of_getElem? (i := 37) rfl)) (hw _ (List.mem_of_getElem? (i := 38) rfl)) (hw _ (List.mem_of_getElem? (i := 40) rfl)) (hw _ (List.mem_of_getElem? (i := 39) rfl)) (hw _ (List.mem_of_getElem? (i := 3) rfl)) (hw _ (List.mem_of_getElem? (i := 41) rfl)) (by decide) Ba241'h243 own_pd9 (argsL := []) (rest := []) rfl rfl rfl (W := 0) (Nat.le_of_eq rfl) rfl (by decide) (by decide) (k' := 6) (n' := 26) rfl rfl (by decide) (by decide) at_299 (q := 302) rfl ?_
                  rintro _ h244 ⟨rfl, Kh244c, S2b, S2p, S2e⟩
                  have AL'h244 : OwA Z h244 a233 .byte (L.map Value.int) := OwA.keep AL'h243 Kh244c (ninS (Nat.ne_of_lt la233_a241) nin0)
                  have Ba241'h244 : Exa Z h244 a241 "com/example/dircred/dircred/credential/DerReader" := Exa.keep Ba241'h243 Kh244c
                  have hsh244 : n0 ≤ h244.size := Nat.le_trans hsh243 Kh244c.1
                  show X.G h244 6 26 302 #[.val (.int x0), .val (.int x1), .val (.int x2), .val (.int x3), .val (.int x4), .val (.int m), .val (.int (2 : Int32)), .val (.int (3 : Int32)), .val (.ref a233), .val (.int (2 : Int32)), .val (.ref a241), .unset] []
                  refine X.aload (q := 304) at_302 rfl rfl rfl ?_
                  refine X.virtual (a := a241) (own_hm l Z a0 hw h244 n0 a241 (9 : Int32) (9 : Int32) hsh244 S2p S2e) (hw _ (List.mem_of_getElem? (i := 19) rfl)) (hw _ (List.mem_of_getElem? (i := 20) rfl)) (hw _ (List.mem_of_getElem? (i := 22) rfl)) (hw _ (List.mem_of_getElem? (i := 21) rfl)) (hw _ (List.mem_of_getElem? (i := 3) rfl)) (hw _ (List.mem_of_getElem? (i := 23) rfl)) (by decide) Ba241'h244 own_pd5 (argsL := []) (rest := []) rfl rfl rfl (W := 0) (Nat.le_of_eq rfl) rfl (by decide) (by decide) (k' := 6) (n' := 26) rfl rfl (by decide) (by decide) at_304 (q := 307) rfl ?_
                  rintro _ _ ⟨zb, rfl, hzb, rfl⟩
                  show X.G h244 6 26 307 #[.val (.int x0), .val (.int x1), .val (.int x2), .val (.int x3), .val (.int x4), .val (.int m), .val (.int (2 : Int32)), .val (.int (3 : Int32)), .val (.ref a233), .val (.int (2 : Int32)), .val (.ref a241), .unset] [(.int zb)]
                  refine X.istore (q := 309) (Ls' := #[.val (.int x0), .val (.int x1), .val (.int x2), .val (.int x3), .val (.int x4), .val (.int m), .val (.int (2 : Int32)), .val (.int (3 : Int32)), .val (.ref a233), .val (.int (2 : Int32)), .val (.ref a241), .val (.int zb)]) at_307 rfl rfl ?_
                  refine X.aload (q := 311) at_309 rfl rfl rfl ?_
                  refine X.virtual (a := a241) (own_en l Z a0 hw h244 n0 a241 a233 (9 : Int32) (9 : Int32) (by decide) hsh244 Ba241'h244 S2b S2p S2e) (hw _ (List.mem_of_getElem? (i := 24) rfl)) (hw _ (List.mem_of_getElem? (i := 25) rfl)) (hw _ (List.mem_of_getElem? (i := 27) rfl)) (hw _ (List.mem_of_getElem? (i := 26) rfl)) (hw _ (List.mem_of_getElem? (i := 3) rfl)) (hw _ (List.mem_of_getElem? (i := 28) rfl)) (by decide) Ba241'h244 own_pd9 (argsL := []) (rest := []) rfl rfl rfl (W := 0) (Nat.le_of_eq rfl) rfl (by decide) (by decide) (k' := 6) (n' := 26) rfl rfl (by decide) (by decide) at_311 (q := 314) rfl ?_
                  rintro _ _ ⟨rfl, rfl⟩
                  show X.G h244 6 26 314 #[.val (.int x0), .val (.int x1), .val (.int x2), .val (.int x3), .val (.int x4), .val (.int m), .val (.int (2 : Int32)), .val (.int (3 : Int32)), .val (.ref a233), .val (.int (2 : Int32)), .val (.ref a241), .val (.int zb)] []
                  refine X.iload (q := 316) at_314 rfl rfl ?_
                  refine X.if_ne (q' := 331) (q := 319) at_316 rfl (by decide) rfl (fun c316 => ?_) (fun c316 => ?_)
                  · omega
                  · refine X.aload (q := 321) at_319 rfl rfl rfl ?_
                    refine X.virtual (a := a241) (own_hm l Z a0 hw h244 n0 a241 (9 : Int32) (9 : Int32) hsh244 S2p S2e) (hw _ (List.mem_of_getElem? (i := 19) rfl)) (hw _ (List.mem_of_getElem? (i := 20) rfl)) (hw _ (List.mem_of_getElem? (i := 22) rfl)) (hw _ (List.mem_of_getElem? (i := 21) rfl)) (hw _ (List.mem_of_getElem? (i := 3) rfl)) (hw _ (List.mem_of_getElem? (i := 23) rfl)) (by decide) Ba241'h244 own_pd5 (argsL := []) (rest := []) rfl rfl rfl (W := 0) (Nat.le_of_eq rfl) rfl (by decide) (by decide) (k' := 6) (n' := 26) rfl rfl (by decide) (by decide) at_321 (q := 324) rfl ?_
                    rintro _ _ ⟨zc, rfl, hzc, rfl⟩
                    show X.G h244 6 26 324 #[.val (.int x0), .val (.int x1), .val (.int x2), .val (.int x3), .val (.int x4), .val (.int m), .val (.int (2 : Int32)), .val (.int (3 : Int32)), .val (.ref a233), .val (.int (2 : Int32)), .val (.ref a241), .val (.int zb)] [(.int zc)]
                    refine X.if_ne (q' := 331) (q := 327) at_324 rfl (by decide) rfl (fun c324 => ?_) (fun c324 => ?_)
                    · omega
                    · refine X.iconst (q := 328) (1 : Int32) at_327 (by decide) rfl ?_
                      refine X.goto (q' := 332) at_328 (by decide) ?_
                      refine X.retN (t := .boolean) (z' := (1 : Int32)) at_332 rfl (by simp) (by decide) (by decide) (by decide) ?_
                      rfl
                · omega
        · refine X.iconst (q := 88) (4 : Int32) at_87 (by decide) rfl ?_
          have hsp : l2 = (0 : Int32) ∨ l2 = (1 : Int32) ∨ l2 = (2 : Int32) ∨ l2 = (3 : Int32) := (by have q_ : l2.toInt = 0 ∨ l2.toInt = 1 ∨ l2.toInt = 2 ∨ l2.toInt = 3 := (by omega); exact (Or.imp (fun e_ => Int32.toInt_inj.mp e_) (Or.imp (fun e_ => Int32.toInt_inj.mp e_) (Or.imp (fun e_ => Int32.toInt_inj.mp e_) (fun e_ => Int32.toInt_inj.mp e_)))) q_)
          rcases hsp with rfl | rfl | rfl | rfl
          · refine X.iload (q := 90) at_88 rfl rfl ?_
            refine X.iadd (q := 91) at_90 rfl ?_
            refine X.foldI (v := (7 : Int32)) (by decide) ?_
            refine X.iload (q := 93) at_91 rfl rfl ?_
            refine X.iadd (q := 94) at_93 rfl ?_
            refine X.foldI (v := (7 : Int32)) (by decide) ?_
            refine X.newP (q := 96) (ty := .byte) (N := 7) (cap := 7) (k' := 1) (n' := 7) (hw _ (List.mem_of_getElem? (i := 0) rfl)) at_94 rfl rfl (Nat.le_refl _) (by decide) rfl rfl (by decide) (by decide) rfl (fun h245 a246 ga246 Eh245 Aa246 => ?_)
            have gea246 : n0 ≤ a246 := by rw [ga246]; exact hn0
            have hsh245 : n0 ≤ h245.size := Nat.le_trans hn0 Eh245.1
            have Aa246 : OwA Z h245 a246 .byte [(.int (0 : Int32)), (.int (0 : Int32)), (.int (0 : Int32)), (.int (0 : Int32)), (.int (0 : Int32)), (.int (0 : Int32)), (.int (0 : Int32))] := Aa246
            refine X.astore (q := 98) (Ls' := #[.val (.int x0), .val (.int x1), .val (.int x2), .val (.int x3), .val (.int x4), .val (.int m), .val (.int (3 : Int32)), .val (.int (0 : Int32)), .val (.ref a246), .unset, .unset, .unset]) at_96 rfl rfl rfl ?_
            refine X.aload (q := 100) at_98 rfl rfl rfl ?_
            refine X.iconst (q := 101) (0 : Int32) at_100 (by decide) rfl ?_
            refine X.iloadN (q := 102) at_101 rfl rfl ?_
            refine X.iload (q := 104) at_102 rfl rfl ?_
            refine X.callS (own_tag l Z a0 hw h245 n0 x1 (3 : Int32)) (hw _ (List.mem_of_getElem? (i := 30) rfl)) (hw _ (List.mem_of_getElem? (i := 31) rfl)) (hw _ (List.mem_of_getElem? (i := 32) rfl)) (hw _ (List.mem_of_getElem? (i := 33) rfl)) (by decide) own_pd6 (argsL := [(.int x1), (.int (3 : Int32))]) (rest := [(.int (0 : Int32)), (.ref a246)]) rfl rfl rfl (W := 2) (Nat.le_of_eq rfl) rfl (by decide) (by decide) (k' := 1) (n' := 7) rfl rfl (by decide) (by decide) at_104 (q := 107) rfl ?_
            rintro _ _ ⟨ta, rfl, hta, rfl⟩
            show X.G h245 1 7 107 #[.val (.int x0), .val (.int x1), .val (.int x2), .val (.int x3), .val (.int x4), .val (.int m), .val (.int (3 : Int32)), .val (.int (0 : Int32)), .val (.ref a246), .unset, .unset, .unset] [(.int ta), (.int (0 : Int32)), (.ref a246)]
            refine X.i2b (q := 108) at_107 rfl ?_
            refine X.bastore (q := 109) (j := 0) Aa246 rfl (by simp) gea246 at_108 rfl (fun h247 Wh247 Ah247 => ?_)
            have hsh247 : n0 ≤ h247.size := by rw [Wr.size Wh247]; exact hsh245
            have Ah247_ : OwA Z h247 a246 .byte [(.int (nar .byte ta.toInt8.toInt32)), (.int (0 : Int32)), (.int (0 : Int32)), (.int (0 : Int32)), (.int (0 : Int32)), (.int (0 : Int32)), (.int (0 : Int32))] := Ah247
            refine X.aload (q := 111) at_109 rfl rfl rfl ?_
            refine X.iconst (q := 112) (1 : Int32) at_111 (by decide) rfl ?_
            refine X.iload (q := 114) at_112 rfl rfl ?_
            refine X.i2b (q := 115) at_114 rfl ?_
            refine X.bastore (q := 116) (j := 1) Ah247_ rfl (by simp) gea246 at_115 rfl (fun h248 Wh248 Ah248 => ?_)
            have hsh248 : n0 ≤ h248.size := by rw [Wr.size Wh248]; exact hsh247
            have Ah248_ : OwA Z h248 a246 .byte [(.int (nar .byte ta.toInt8.toInt32)), (.int (nar .byte (3 : Int32).toInt8.toInt32)), (.int (0 : Int32)), (.int (0 : Int32)), (.int (0 : Int32)), (.int (0 : Int32)), (.int (0 : Int32))] := Ah248
            refine X.aload (q := 118) at_116 rfl rfl rfl ?_
            refine X.iconst (q := 119) (2 : Int32) at_118 (by decide) rfl ?_
            refine X.iload (q := 121) at_119 rfl rfl ?_
            refine X.iload (q := 123) at_121 rfl rfl ?_
            refine X.callS (own_put3 l Z a0 hw h248 n0 a246 (2 : Int32) x4 2 _ rfl (by simp) (by decide) hsh248 Ah248_ gea246) (hw _ (List.mem_of_getElem? (i := 34) rfl)) (hw _ (List.mem_of_getElem? (i := 35) rfl)) (hw _ (List.mem_of_getElem? (i := 32) rfl)) (hw _ (List.mem_of_getElem? (i := 36) rfl)) (by decide) own_pd7 (argsL := [(.ref a246), (.int (2 : Int32)), (.int (3 : Int32)), (.int x4)]) (rest := []) rfl rfl rfl (W := 0) (Nat.le_of_eq rfl) rfl (by decide) (by decide) (k' := 1) (n' := 7) rfl rfl (by decide) (by decide) at_123 (q := 126) rfl ?_
            rintro _ h249 ⟨u0, u1, u2, rfl, Kh249c, Gu⟩
            have hsh249 : n0 ≤ h249.size := Nat.le_trans hsh248 Kh249c.1
            show X.G h249 1 7 126 #[.val (.int x0), .val (.int x1), .val (.int x2), .val (.int x3), .val (.int x4), .val (.int m), .val (.int (3 : Int32)), .val (.int (0 : Int32)), .val (.ref a246), .unset, .unset, .unset] []
            have Gu : OwA Z h249 a246 .byte [(.int (nar .byte ta.toInt8.toInt32)), (.int (nar .byte (3 : Int32).toInt8.toInt32)), (.int (nar .byte u0.toInt8.toInt32)), (.int (nar .byte u1.toInt8.toInt32)), (.int (nar .byte u2.toInt8.toInt32)), (.int (0 : Int32)), (.int (0 : Int32))] := Gu
            refine X.aload (q := 128) at_126 rfl rfl rfl ?_
            refine X.iconst (q := 129) (2 : Int32) at_128 (by decide) rfl ?_
            refine X.iload (q := 131) at_129 rfl rfl ?_
            refine X.iadd (q := 132) at_131 rfl ?_
            refine X.foldI (v := (5 : Int32)) (by decide) ?_
            refine X.iloadN (q := 133) at_132 rfl rfl ?_
            refine X.iload (q := 135) at_133 rfl rfl ?_
            refine X.callS (own_tag l Z a0 hw h249 n0 x2 (0 : Int32)) (hw _ (List.mem_of_getElem? (i := 30) rfl)) (hw _ (List.mem_of_getElem? (i := 31) rfl)) (hw _ (List.mem_of_getElem? (i := 32) rfl)) (hw _ (List.mem_of_getElem? (i := 33) rfl)) (by decide) own_pd6 (argsL := [(.int x2), (.int (0 : Int32))]) (rest := [(.int (5 : Int32)), (.ref a246)]) rfl rfl rfl (W := 2) (Nat.le_of_eq rfl) rfl (by decide) (by decide) (k' := 1) (n' := 7) rfl rfl (by decide) (by decide) at_135 (q := 138) rfl ?_
            rintro _ _ ⟨tb, rfl, htb, rfl⟩
            show X.G h249 1 7 138 #[.val (.int x0), .val (.int x1), .val (.int x2), .val (.int x3), .val (.int x4), .val (.int m), .val (.int (3 : Int32)), .val (.int (0 : Int32)), .val (.ref a246), .unset, .unset, .unset] [(.int tb), (.int (5 : Int32)), (.ref a246)]
            refine X.i2b (q := 139) at_138 rfl ?_
            refine X.bastore (q := 140) (j := 5) Gu rfl (by simp) gea246 at_139 rfl (fun h250 Wh250 Ah250 => ?_)
            have hsh250 : n0 ≤ h250.size := by rw [Wr.size Wh250]; exact hsh249
            have Ah250_ : OwA Z h250 a246 .byte [(.int (nar .byte ta.toInt8.toInt32)), (.int (nar .byte (3 : Int32).toInt8.toInt32)), (.int (nar .byte u0.toInt8.toInt32)), (.int (nar .byte u1.toInt8.toInt32)), (.int (nar .byte u2.toInt8.toInt32)), (.int (nar .byte tb.toInt8.toInt32)), (.int (0 : Int32))] := Ah250
            refine X.aload (q := 142) at_140 rfl rfl rfl ?_
            refine X.iconst (q := 143) (3 : Int32) at_142 (by decide) rfl ?_
            refine X.iload (q := 145) at_143 rfl rfl ?_
            refine X.iadd (q := 146) at_145 rfl ?_
            refine X.foldI (v := (6 : Int32)) (by decide) ?_
            refine X.iload (q := 148) at_146 rfl rfl ?_
            refine X.i2b (q := 149) at_148 rfl ?_
            refine X.bastore (q := 150) (j := 6) Ah250_ rfl (by simp) gea246 at_149 rfl (fun h251 Wh251 Ah251 => ?_)
            have hsh251 : n0 ≤ h251.size := by rw [Wr.size Wh251]; exact hsh250
            have Ah251_ : OwA Z h251 a246 .byte [(.int (nar .byte ta.toInt8.toInt32)), (.int (nar .byte (3 : Int32).toInt8.toInt32)), (.int (nar .byte u0.toInt8.toInt32)), (.int (nar .byte u1.toInt8.toInt32)), (.int (nar .byte u2.toInt8.toInt32)), (.int (nar .byte tb.toInt8.toInt32)), (.int (nar .byte (0 : Int32).toInt8.toInt32))] := Ah251
            refine X.aload (q := 152) at_150 rfl rfl rfl ?_
            refine X.iconst (q := 153) (4 : Int32) at_152 (by decide) rfl ?_
            refine X.iload (q := 155) at_153 rfl rfl ?_
            refine X.iadd (q := 156) at_155 rfl ?_
            refine X.foldI (v := (7 : Int32)) (by decide) ?_
            refine X.iload (q := 158) at_156 rfl rfl ?_
            refine X.iload (q := 160) at_158 rfl rfl ?_
            refine X.bipush (q := 162) (8 : Int32) at_160 (by decide) rfl ?_
            refine X.iushr (q := 163) at_162 rfl ?_
            refine X.callS (own_put0 l Z a0 hw h251 n0 a246 (7 : Int32) (XT.ushr x4 (8 : Int32)) 7 _ rfl (by simp) (by decide) hsh251 Ah251_ gea246) (hw _ (List.mem_of_getElem? (i := 34) rfl)) (hw _ (List.mem_of_getElem? (i := 35) rfl)) (hw _ (List.mem_of_getElem? (i := 32) rfl)) (hw _ (List.mem_of_getElem? (i := 36) rfl)) (by decide) own_pd7 (argsL := [(.ref a246), (.int (7 : Int32)), (.int (0 : Int32)), (.int (XT.ushr x4 (8 : Int32)))]) (rest := []) rfl rfl rfl (W := 0) (Nat.le_of_eq rfl) rfl (by decide) (by decide) (k' := 1) (n' := 7) rfl rfl (by decide) (by decide) at_163 (q := 166) rfl ?_
            rintro _ h252 ⟨rfl, Kh252c, Gv⟩
            have hsh252 : n0 ≤ h252.size := Nat.le_trans hsh251 Kh252c.1
            show X.G h252 1 7 166 #[.val (.int x0), .val (.int x1), .val (.int x2), .val (.int x3), .val (.int x4), .val (.int m), .val (.int (3 : Int32)), .val (.int (0 : Int32)), .val (.ref a246), .unset, .unset, .unset] []
            have Gv : OwA Z h252 a246 .byte [(.int (nar .byte ta.toInt8.toInt32)), (.int (nar .byte (3 : Int32).toInt8.toInt32)), (.int (nar .byte u0.toInt8.toInt32)), (.int (nar .byte u1.toInt8.toInt32)), (.int (nar .byte u2.toInt8.toInt32)), (.int (nar .byte tb.toInt8.toInt32)), (.int (nar .byte (0 : Int32).toInt8.toInt32))] := Gv
            refine X.iconst (q := 167) (2 : Int32) at_166 (by decide) rfl ?_
            refine X.istore (q := 169) (Ls' := #[.val (.int x0), .val (.int x1), .val (.int x2), .val (.int x3), .val (.int x4), .val (.int m), .val (.int (3 : Int32)), .val (.int (0 : Int32)), .val (.ref a246), .val (.int (2 : Int32)), .unset, .unset]) at_167 rfl rfl ?_
            refine X.goto (q' := 259) at_169 (by decide) ?_
            refine X.newO (q := 262) (k' := 2) (n' := 10) (hw _ (List.mem_of_getElem? (i := 1) rfl)) (hw _ (List.mem_of_getElem? (i := 2) rfl)) (hw _ (List.mem_of_getElem? (i := 3) rfl)) at_259 rfl rfl (by decide) (by decide) rfl (fun h253 a254 ga254 Eh253 Ba254 Da254 => ?_)
            have la246_a254 : a246 < a254 := by have := Gv.lt; rw [← ga254] at this; exact this
            have Gv'h253 : OwA Z h253 a246 .byte [(.int (nar .byte ta.toInt8.toInt32)), (.int (nar .byte (3 : Int32).toInt8.toInt32)), (.int (nar .byte u0.toInt8.toInt32)), (.int (nar .byte u1.toInt8.toInt32)), (.int (nar .byte u2.toInt8.toInt32)), (.int (nar .byte tb.toInt8.toInt32)), (.int (nar .byte (0 : Int32).toInt8.toInt32))] := OwA.ext (E := Eh253) Gv
            have gea254 : n0 ≤ a254 := by rw [ga254]; exact hsh252
            have hsh253 : n0 ≤ h253.size := Nat.le_trans hsh252 Eh253.1
            have Fa254_bytes : Fld Z h253 a254 "com/example/dircred/dircred/credential/DerReader" "bytes" "[B" .null := Da254 (Or.inr (hw _ (List.mem_of_getElem? (i := 14) rfl))) (ty := (.array .byte)) (by decide)
            have Fa254_position : Fld Z h253 a254 "com/example/dircred/dircred/credential/DerReader" "position" "I" (.int (0 : Int32)) := Da254 (Or.inl (hw _ (List.mem_of_getElem? (i := 16) rfl))) (ty := .int) (by decide)
            have Fa254_end : Fld Z h253 a254 "com/example/dircred/dircred/credential/DerReader" "end" "I" (.int (0 : Int32)) := Da254 (Or.inr (hw _ (List.mem_of_getElem? (i := 18) rfl))) (ty := .int) (by decide)
            refine X.dup (q := 263) at_262 rfl rfl ?_
            refine X.aload (q := 265) at_263 rfl rfl rfl ?_
            obtain ⟨L, hL⟩ : ∃ L_ : List Int32, L_ = [(nar .byte ta.toInt8.toInt32), (nar .byte (3 : Int32).toInt8.toInt32), (nar .byte u0.toInt8.toInt32), (nar .byte u1.toInt8.toInt32), (nar .byte u2.toInt8.toInt32), (nar .byte tb.toInt8.toInt32), (nar .byte (0 : Int32).toInt8.toInt32)] := ⟨_, rfl⟩
            have AL : OwA Z h253 a246 .byte (L.map Value.int) := by rw [hL]; exact Gv'h253
            have nL : L.length = 7 := by rw [hL]; rfl
            have gL0 : (L.getD 0 0).toInt = (ta.toInt + 128) % 256 - 128 := by rw [hL]; exact own_nbt _
            have gL1 : (L.getD 1 0).toInt = ((3 : Int32).toInt + 128) % 256 - 128 := by rw [hL]; exact own_nbt _
            have gL2 : (L.getD 2 0).toInt = (u0.toInt + 128) % 256 - 128 := by rw [hL]; exact own_nbt _
            have gL3 : (L.getD 3 0).toInt = (u1.toInt + 128) % 256 - 128 := by rw [hL]; exact own_nbt _
            have gL4 : (L.getD 4 0).toInt = (u2.toInt + 128) % 256 - 128 := by rw [hL]; exact own_nbt _
            have gL5 : (L.getD 5 0).toInt = (tb.toInt + 128) % 256 - 128 := by rw [hL]; exact own_nbt _
            have gL6 : (L.getD 6 0).toInt = ((0 : Int32).toInt + 128) % 256 - 128 := by rw [hL]; exact own_nbt _
            have rL : ∀ x ∈ L, -128 ≤ x.toInt ∧ x.toInt ≤ 127 := by
              intro x hx; rw [hL] at hx
              simp only [List.mem_cons, List.not_mem_nil, or_false] at hx
              rcases hx with rfl | rfl | rfl | rfl | rfl | rfl | rfl
              · rw [own_nbt]; omega
              · rw [own_nbt]; omega
              · rw [own_nbt]; omega
              · rw [own_nbt]; omega
              · rw [own_nbt]; omega
              · rw [own_nbt]; omega
              · rw [own_nbt]; omega
            clear hL
            refine X.special (a := a254) (own_i1 l Z a0 hw h253 n0 a254 a246 L (7 : Int32) (by rw [nL]; rfl) hsh253 Ba254 Fa254_bytes Fa254_position Fa254_end AL gea254 (Nat.ne_of_gt la246_a254)) rfl (hw _ (List.mem_of_getElem? (i := 4) rfl)) (hw _ (List.mem_of_getElem? (i := 5) rfl)) (hw _ (List.mem_of_getElem? (i := 3) rfl)) (hw _ (List.mem_of_getElem? (i := 6) rfl)) (by decide) own_pd8 (argsL := [(.ref a246)]) (rest := [(.ref a254)]) rfl rfl rfl (W := 1) (Nat.le_of_eq rfl) rfl (by decide) (by decide) (k' := 2) (n' := 10) rfl rfl (by decide) (by decide) at_265 (q := 268) rfl ?_
            rintro _ h255 ⟨rfl, Kh255c, Db, Dp, De⟩
            have AL'h255 : OwA Z h255 a246 .byte (L.map Value.int) := OwA.keep AL Kh255c (ninS (Nat.ne_of_lt la246_a254) nin0)
            have Ba254'h255 : Exa Z h255 a254 "com/example/dircred/dircred/credential/DerReader" := Exa.keep Ba254 Kh255c
            have hsh255 : n0 ≤ h255.size := Nat.le_trans hsh253 Kh255c.1
            show X.G h255 2 10 268 #[.val (.int x0), .val (.int x1), .val (.int x2), .val (.int x3), .val (.int x4), .val (.int m), .val (.int (3 : Int32)), .val (.int (0 : Int32)), .val (.ref a246), .val (.int (2 : Int32)), .unset, .unset] [(.ref a254)]
            refine X.astore (q := 270) (Ls' := #[.val (.int x0), .val (.int x1), .val (.int x2), .val (.int x3), .val (.int x4), .val (.int m), .val (.int (3 : Int32)), .val (.int (0 : Int32)), .val (.ref a246), .val (.int (2 : Int32)), .val (.ref a254), .unset]) at_268 rfl rfl rfl ?_
            refine X.iload (q := 272) at_270 rfl rfl ?_
            refine X.iconst (q := 273) (1 : Int32) at_272 (by decide) rfl ?_
            refine X.icmp_lt (a := 2) (b := 1) (q' := 281) (q := 276) at_273 rfl rfl (by decide) rfl (fun c273 => ?_) (fun c273 => ?_)
            · omega
            · refine X.aload (q := 278) at_276 rfl rfl rfl ?_
              have H1 : own_hdr L 0 ta 1 2 (2 : Int32) (3 : Int32) := by have k2_ : (2 : Int32).toInt = 2 := rfl; have k3_ : (3 : Int32).toInt = 3 := rfl; unfold own_hdr; simp only [nL, Nat.reduceAdd, and_true]; refine ⟨?_, ?_, ?_, ?_, ?_, ?_, ?_, ?_⟩ <;> first | omega | rfl
              refine X.virtual (a := a254) (own_skip l Z a0 hw h255 n0 a254 a246 L (0 : Int32) (7 : Int32) 0 ta 1 2 (2 : Int32) (3 : Int32) rL (by rw [nL]; rfl) (by rw [nL]; decide) rfl H1 (5 : Int32) rfl (by decide) hsh255 Ba254'h255 Db Dp De AL'h255 gea254 (Nat.ne_of_gt la246_a254)) (hw _ (List.mem_of_getElem? (i := 37) rfl)) (hw _ (List.mem_of_getElem? (i := 38) rfl)) (hw _ (List.mem_of_getElem? (i := 40) rfl)) (hw _ (List.mem_of_getElem? (i := 39) rfl)) (hw _ (List.mem_of_getElem? (i := 3) rfl)) (hw _ (List.mem_of_getElem? (i := 41) rfl)) (by decide) Ba254'h255 own_pd9 (argsL := []) (rest := []) rfl rfl rfl (W := 0) (Nat.le_of_eq rfl) rfl (by decide) (by decide) (k' := 4) (n' := 17) rfl rfl (by decide) (by decide) at_278 (q := 281) rfl ?_
              rintro _ h256 ⟨rfl, Kh256c, S1b, S1p, S1e⟩
              have AL'h256 : OwA Z h256 a246 .byte (L.map Value.int) := OwA.keep AL'h255 Kh256c (ninS (Nat.ne_of_lt la246_a254) nin0)
              have Ba254'h256 : Exa Z h256 a254 "com/example/dircred/dircred/credential/DerReader" := Exa.keep Ba254'h255 Kh256c
              have hsh256 : n0 ≤ h256.size := Nat.le_trans hsh255 Kh256c.1
              show X.G h256 4 17 281 #[.val (.int x0), .val (.int x1), .val (.int x2), .val (.int x3), .val (.int x4), .val (.int m), .val (.int (3 : Int32)), .val (.int (0 : Int32)), .val (.ref a246), .val (.int (2 : Int32)), .val (.ref a254), .unset] []
              refine X.iload (q := 283) at_281 rfl rfl ?_
              refine X.iconst (q := 284) (2 : Int32) at_283 (by decide) rfl ?_
              refine X.icmp_ne (a := 2) (b := 2) (q' := 302) (q := 287) at_284 rfl rfl (by decide) rfl (fun c284 => ?_) (fun c284 => ?_)
              · omega
              · refine X.aload (q := 289) at_287 rfl rfl rfl ?_
                refine X.virtual (a := a254) (own_hm l Z a0 hw h256 n0 a254 (5 : Int32) (7 : Int32) hsh256 S1p S1e) (hw _ (List.mem_of_getElem? (i := 19) rfl)) (hw _ (List.mem_of_getElem? (i := 20) rfl)) (hw _ (List.mem_of_getElem? (i := 22) rfl)) (hw _ (List.mem_of_getElem? (i := 21) rfl)) (hw _ (List.mem_of_getElem? (i := 3) rfl)) (hw _ (List.mem_of_getElem? (i := 23) rfl)) (by decide) Ba254'h256 own_pd5 (argsL := []) (rest := []) rfl rfl rfl (W := 0) (Nat.le_of_eq rfl) rfl (by decide) (by decide) (k' := 4) (n' := 17) rfl rfl (by decide) (by decide) at_289 (q := 292) rfl ?_
                rintro _ _ ⟨zm, rfl, hzm, rfl⟩
                show X.G h256 4 17 292 #[.val (.int x0), .val (.int x1), .val (.int x2), .val (.int x3), .val (.int x4), .val (.int m), .val (.int (3 : Int32)), .val (.int (0 : Int32)), .val (.ref a246), .val (.int (2 : Int32)), .val (.ref a254), .unset] [(.int zm)]
                refine X.if_ne (q' := 297) (q := 295) at_292 rfl (by decide) rfl (fun c292 => ?_) (fun c292 => ?_)
                · refine X.aload (q := 299) at_297 rfl rfl rfl ?_
                  have H2 : own_hdr L 5 tb 6 7 (7 : Int32) (0 : Int32) := by have k0_ : (0 : Int32).toInt = 0 := rfl; have k7_ : (7 : Int32).toInt = 7 := rfl; unfold own_hdr; simp only [nL, Nat.reduceAdd, and_true]; refine ⟨?_, ?_, ?_, ?_, ?_, ?_, ?_, ?_⟩ <;> first | omega | rfl
                  refine X.virtual (a := a254) (own_skip l Z a0 hw h256 n0 a254 a246 L (5 : Int32) (7 : Int32) 5 tb 6 7 (7 : Int32) (0 : Int32) rL (by rw [nL]; rfl) (by rw [nL]; decide) rfl H2 (7 : Int32) rfl (by decide) hsh256 Ba254'h256 S1b S1p S1e AL'h256 gea254 (Nat.ne_of_gt la246_a254)) (hw _ (List.mem_of_getElem? (i := 37) rfl)) (hw _ (List.mem_of_getElem? (i := 38) rfl)) (hw _ (List.mem_of_getElem? (i := 40) rfl)) (hw _ (List.mem_of_getElem? (i := 39) rfl)) (hw _ (List.mem_of_getElem? (i := 3) rfl)) (hw _ (List.mem_of_getElem? (i := 41) rfl)) (by decide) Ba254'h256 own_pd9 (argsL := []) (rest := []) rfl rfl rfl (W := 0) (Nat.le_of_eq rfl) rfl (by decide) (by decide) (k' := 6) (n' := 24) rfl rfl (by decide) (by decide) at_299 (q := 302) rfl ?_
                  rintro _ h257 ⟨rfl, Kh257c, S2b, S2p, S2e⟩
                  have AL'h257 : OwA Z h257 a246 .byte (L.map Value.int) := OwA.keep AL'h256 Kh257c (ninS (Nat.ne_of_lt la246_a254) nin0)
                  have Ba254'h257 : Exa Z h257 a254 "com/example/dircred/dircred/credential/DerReader" := Exa.keep Ba254'h256 Kh257c
                  have hsh257 : n0 ≤ h257.size := Nat.le_trans hsh256 Kh257c.1
                  show X.G h257 6 24 302 #[.val (.int x0), .val (.int x1), .val (.int x2), .val (.int x3), .val (.int x4), .val (.int m), .val (.int (3 : Int32)), .val (.int (0 : Int32)), .val (.ref a246), .val (.int (2 : Int32)), .val (.ref a254), .unset] []
                  refine X.aload (q := 304) at_302 rfl rfl rfl ?_
                  refine X.virtual (a := a254) (own_hm l Z a0 hw h257 n0 a254 (7 : Int32) (7 : Int32) hsh257 S2p S2e) (hw _ (List.mem_of_getElem? (i := 19) rfl)) (hw _ (List.mem_of_getElem? (i := 20) rfl)) (hw _ (List.mem_of_getElem? (i := 22) rfl)) (hw _ (List.mem_of_getElem? (i := 21) rfl)) (hw _ (List.mem_of_getElem? (i := 3) rfl)) (hw _ (List.mem_of_getElem? (i := 23) rfl)) (by decide) Ba254'h257 own_pd5 (argsL := []) (rest := []) rfl rfl rfl (W := 0) (Nat.le_of_eq rfl) rfl (by decide) (by decide) (k' := 6) (n' := 24) rfl rfl (by decide) (by decide) at_304 (q := 307) rfl ?_
                  rintro _ _ ⟨zb, rfl, hzb, rfl⟩
                  show X.G h257 6 24 307 #[.val (.int x0), .val (.int x1), .val (.int x2), .val (.int x3), .val (.int x4), .val (.int m), .val (.int (3 : Int32)), .val (.int (0 : Int32)), .val (.ref a246), .val (.int (2 : Int32)), .val (.ref a254), .unset] [(.int zb)]
                  refine X.istore (q := 309) (Ls' := #[.val (.int x0), .val (.int x1), .val (.int x2), .val (.int x3), .val (.int x4), .val (.int m), .val (.int (3 : Int32)), .val (.int (0 : Int32)), .val (.ref a246), .val (.int (2 : Int32)), .val (.ref a254), .val (.int zb)]) at_307 rfl rfl ?_
                  refine X.aload (q := 311) at_309 rfl rfl rfl ?_
                  refine X.virtual (a := a254) (own_en l Z a0 hw h257 n0 a254 a246 (7 : Int32) (7 : Int32) (by decide) hsh257 Ba254'h257 S2b S2p S2e) (hw _ (List.mem_of_getElem? (i := 24) rfl)) (hw _ (List.mem_of_getElem? (i := 25) rfl)) (hw _ (List.mem_of_getElem? (i := 27) rfl)) (hw _ (List.mem_of_getElem? (i := 26) rfl)) (hw _ (List.mem_of_getElem? (i := 3) rfl)) (hw _ (List.mem_of_getElem? (i := 28) rfl)) (by decide) Ba254'h257 own_pd9 (argsL := []) (rest := []) rfl rfl rfl (W := 0) (Nat.le_of_eq rfl) rfl (by decide) (by decide) (k' := 6) (n' := 24) rfl rfl (by decide) (by decide) at_311 (q := 314) rfl ?_
                  rintro _ _ ⟨rfl, rfl⟩
                  show X.G h257 6 24 314 #[.val (.int x0), .val (.int x1), .val (.int x2), .val (.int x3), .val (.int x4), .val (.int m), .val (.int (3 : Int32)), .val (.int (0 : Int32)), .val (.ref a246), .val (.int (2 : Int32)), .val (.ref a254), .val (.int zb)] []
                  refine X.iload (q := 316) at_314 rfl rfl ?_
                  refine X.if_ne (q' := 331) (q := 319) at_316 rfl (by decide) rfl (fun c316 => ?_) (fun c316 => ?_)
                  · omega
                  · refine X.aload (q := 321) at_319 rfl rfl rfl ?_
                    refine X.virtual (a := a254) (own_hm l Z a0 hw h257 n0 a254 (7 : Int32) (7 : Int32) hsh257 S2p S2e) (hw _ (List.mem_of_getElem? (i := 19) rfl)) (hw _ (List.mem_of_getElem? (i := 20) rfl)) (hw _ (List.mem_of_getElem? (i := 22) rfl)) (hw _ (List.mem_of_getElem? (i := 21) rfl)) (hw _ (List.mem_of_getElem? (i := 3) rfl)) (hw _ (List.mem_of_getElem? (i := 23) rfl)) (by decide) Ba254'h257 own_pd5 (argsL := []) (rest := []) rfl rfl rfl (W := 0) (Nat.le_of_eq rfl) rfl (by decide) (by decide) (k' := 6) (n' := 24) rfl rfl (by decide) (by decide) at_321 (q := 324) rfl ?_
                    rintro _ _ ⟨zc, rfl, hzc, rfl⟩
                    show X.G h257 6 24 324 #[.val (.int x0), .val (.int x1), .val (.int x2), .val (.int x3), .val (.int x4), .val (.int m), .val (.int (3 : Int32)), .val (.int (0 : Int32)), .val (.ref a246), .val (.int (2 : Int32)), .val (.ref a254), .val (.int zb)] [(.int zc)]
                    refine X.if_ne (q' := 331) (q := 327) at_324 rfl (by decide) rfl (fun c324 => ?_) (fun c324 => ?_)
                    · omega
                    · refine X.iconst (q := 328) (1 : Int32) at_327 (by decide) rfl ?_
                      refine X.goto (q' := 332) at_328 (by decide) ?_
                      refine X.retN (t := .boolean) (z' := (1 : Int32)) at_332 rfl (by simp) (by decide) (by decide) (by decide) ?_
                      rfl
                · omega
          · refine X.iload (q := 90) at_88 rfl rfl ?_
            refine X.iadd (q := 91) at_90 rfl ?_
            refine X.foldI (v := (7 : Int32)) (by decide) ?_
            refine X.iload (q := 93) at_91 rfl rfl ?_
            refine X.iadd (q := 94) at_93 rfl ?_
            refine X.foldI (v := (8 : Int32)) (by decide) ?_
            refine X.newP (q := 96) (ty := .byte) (N := 8) (cap := 8) (k' := 1) (n' := 8) (hw _ (List.mem_of_getElem? (i := 0) rfl)) at_94 rfl rfl (Nat.le_refl _) (by decide) rfl rfl (by decide) (by decide) rfl (fun h258 a259 ga259 Eh258 Aa259 => ?_)
            have gea259 : n0 ≤ a259 := by rw [ga259]; exact hn0
            have hsh258 : n0 ≤ h258.size := Nat.le_trans hn0 Eh258.1
            have Aa259 : OwA Z h258 a259 .byte [(.int (0 : Int32)), (.int (0 : Int32)), (.int (0 : Int32)), (.int (0 : Int32)), (.int (0 : Int32)), (.int (0 : Int32)), (.int (0 : Int32)), (.int (0 : Int32))] := Aa259
            refine X.astore (q := 98) (Ls' := #[.val (.int x0), .val (.int x1), .val (.int x2), .val (.int x3), .val (.int x4), .val (.int m), .val (.int (3 : Int32)), .val (.int (1 : Int32)), .val (.ref a259), .unset, .unset, .unset]) at_96 rfl rfl rfl ?_
            refine X.aload (q := 100) at_98 rfl rfl rfl ?_
            refine X.iconst (q := 101) (0 : Int32) at_100 (by decide) rfl ?_
            refine X.iloadN (q := 102) at_101 rfl rfl ?_
            refine X.iload (q := 104) at_102 rfl rfl ?_
            refine X.callS (own_tag l Z a0 hw h258 n0 x1 (3 : Int32)) (hw _ (List.mem_of_getElem? (i := 30) rfl)) (hw _ (List.mem_of_getElem? (i := 31) rfl)) (hw _ (List.mem_of_getElem? (i := 32) rfl)) (hw _ (List.mem_of_getElem? (i := 33) rfl)) (by decide) own_pd6 (argsL := [(.int x1), (.int (3 : Int32))]) (rest := [(.int (0 : Int32)), (.ref a259)]) rfl rfl rfl (W := 2) (Nat.le_of_eq rfl) rfl (by decide) (by decide) (k' := 1) (n' := 8) rfl rfl (by decide) (by decide) at_104 (q := 107) rfl ?_
            rintro _ _ ⟨ta, rfl, hta, rfl⟩
            show X.G h258 1 8 107 #[.val (.int x0), .val (.int x1), .val (.int x2), .val (.int x3), .val (.int x4), .val (.int m), .val (.int (3 : Int32)), .val (.int (1 : Int32)), .val (.ref a259), .unset, .unset, .unset] [(.int ta), (.int (0 : Int32)), (.ref a259)]
            refine X.i2b (q := 108) at_107 rfl ?_
            refine X.bastore (q := 109) (j := 0) Aa259 rfl (by simp) gea259 at_108 rfl (fun h260 Wh260 Ah260 => ?_)
            have hsh260 : n0 ≤ h260.size := by rw [Wr.size Wh260]; exact hsh258
            have Ah260_ : OwA Z h260 a259 .byte [(.int (nar .byte ta.toInt8.toInt32)), (.int (0 : Int32)), (.int (0 : Int32)), (.int (0 : Int32)), (.int (0 : Int32)), (.int (0 : Int32)), (.int (0 : Int32)), (.int (0 : Int32))] := Ah260
            refine X.aload (q := 111) at_109 rfl rfl rfl ?_
            refine X.iconst (q := 112) (1 : Int32) at_111 (by decide) rfl ?_
            refine X.iload (q := 114) at_112 rfl rfl ?_
            refine X.i2b (q := 115) at_114 rfl ?_
            refine X.bastore (q := 116) (j := 1) Ah260_ rfl (by simp) gea259 at_115 rfl (fun h261 Wh261 Ah261 => ?_)
            have hsh261 : n0 ≤ h261.size := by rw [Wr.size Wh261]; exact hsh260
            have Ah261_ : OwA Z h261 a259 .byte [(.int (nar .byte ta.toInt8.toInt32)), (.int (nar .byte (3 : Int32).toInt8.toInt32)), (.int (0 : Int32)), (.int (0 : Int32)), (.int (0 : Int32)), (.int (0 : Int32)), (.int (0 : Int32)), (.int (0 : Int32))] := Ah261
            refine X.aload (q := 118) at_116 rfl rfl rfl ?_
            refine X.iconst (q := 119) (2 : Int32) at_118 (by decide) rfl ?_
            refine X.iload (q := 121) at_119 rfl rfl ?_
            refine X.iload (q := 123) at_121 rfl rfl ?_
            refine X.callS (own_put3 l Z a0 hw h261 n0 a259 (2 : Int32) x4 2 _ rfl (by simp) (by decide) hsh261 Ah261_ gea259) (hw _ (List.mem_of_getElem? (i := 34) rfl)) (hw _ (List.mem_of_getElem? (i := 35) rfl)) (hw _ (List.mem_of_getElem? (i := 32) rfl)) (hw _ (List.mem_of_getElem? (i := 36) rfl)) (by decide) own_pd7 (argsL := [(.ref a259), (.int (2 : Int32)), (.int (3 : Int32)), (.int x4)]) (rest := []) rfl rfl rfl (W := 0) (Nat.le_of_eq rfl) rfl (by decide) (by decide) (k' := 1) (n' := 8) rfl rfl (by decide) (by decide) at_123 (q := 126) rfl ?_
            rintro _ h262 ⟨u0, u1, u2, rfl, Kh262c, Gu⟩
            have hsh262 : n0 ≤ h262.size := Nat.le_trans hsh261 Kh262c.1
            show X.G h262 1 8 126 #[.val (.int x0), .val (.int x1), .val (.int x2), .val (.int x3), .val (.int x4), .val (.int m), .val (.int (3 : Int32)), .val (.int (1 : Int32)), .val (.ref a259), .unset, .unset, .unset] []
            have Gu : OwA Z h262 a259 .byte [(.int (nar .byte ta.toInt8.toInt32)), (.int (nar .byte (3 : Int32).toInt8.toInt32)), (.int (nar .byte u0.toInt8.toInt32)), (.int (nar .byte u1.toInt8.toInt32)), (.int (nar .byte u2.toInt8.toInt32)), (.int (0 : Int32)), (.int (0 : Int32)), (.int (0 : Int32))] := Gu
            refine X.aload (q := 128) at_126 rfl rfl rfl ?_
            refine X.iconst (q := 129) (2 : Int32) at_128 (by decide) rfl ?_
            refine X.iload (q := 131) at_129 rfl rfl ?_
            refine X.iadd (q := 132) at_131 rfl ?_
            refine X.foldI (v := (5 : Int32)) (by decide) ?_
            refine X.iloadN (q := 133) at_132 rfl rfl ?_
            refine X.iload (q := 135) at_133 rfl rfl ?_
            refine X.callS (own_tag l Z a0 hw h262 n0 x2 (1 : Int32)) (hw _ (List.mem_of_getElem? (i := 30) rfl)) (hw _ (List.mem_of_getElem? (i := 31) rfl)) (hw _ (List.mem_of_getElem? (i := 32) rfl)) (hw _ (List.mem_of_getElem? (i := 33) rfl)) (by decide) own_pd6 (argsL := [(.int x2), (.int (1 : Int32))]) (rest := [(.int (5 : Int32)), (.ref a259)]) rfl rfl rfl (W := 2) (Nat.le_of_eq rfl) rfl (by decide) (by decide) (k' := 1) (n' := 8) rfl rfl (by decide) (by decide) at_135 (q := 138) rfl ?_
            rintro _ _ ⟨tb, rfl, htb, rfl⟩
            show X.G h262 1 8 138 #[.val (.int x0), .val (.int x1), .val (.int x2), .val (.int x3), .val (.int x4), .val (.int m), .val (.int (3 : Int32)), .val (.int (1 : Int32)), .val (.ref a259), .unset, .unset, .unset] [(.int tb), (.int (5 : Int32)), (.ref a259)]
            refine X.i2b (q := 139) at_138 rfl ?_
            refine X.bastore (q := 140) (j := 5) Gu rfl (by simp) gea259 at_139 rfl (fun h263 Wh263 Ah263 => ?_)
            have hsh263 : n0 ≤ h263.size := by rw [Wr.size Wh263]; exact hsh262
            have Ah263_ : OwA Z h263 a259 .byte [(.int (nar .byte ta.toInt8.toInt32)), (.int (nar .byte (3 : Int32).toInt8.toInt32)), (.int (nar .byte u0.toInt8.toInt32)), (.int (nar .byte u1.toInt8.toInt32)), (.int (nar .byte u2.toInt8.toInt32)), (.int (nar .byte tb.toInt8.toInt32)), (.int (0 : Int32)), (.int (0 : Int32))] := Ah263
            refine X.aload (q := 142) at_140 rfl rfl rfl ?_
            refine X.iconst (q := 143) (3 : Int32) at_142 (by decide) rfl ?_
            refine X.iload (q := 145) at_143 rfl rfl ?_
            refine X.iadd (q := 146) at_145 rfl ?_
            refine X.foldI (v := (6 : Int32)) (by decide) ?_
            refine X.iload (q := 148) at_146 rfl rfl ?_
            refine X.i2b (q := 149) at_148 rfl ?_
            refine X.bastore (q := 150) (j := 6) Ah263_ rfl (by simp) gea259 at_149 rfl (fun h264 Wh264 Ah264 => ?_)
            have hsh264 : n0 ≤ h264.size := by rw [Wr.size Wh264]; exact hsh263
            have Ah264_ : OwA Z h264 a259 .byte [(.int (nar .byte ta.toInt8.toInt32)), (.int (nar .byte (3 : Int32).toInt8.toInt32)), (.int (nar .byte u0.toInt8.toInt32)), (.int (nar .byte u1.toInt8.toInt32)), (.int (nar .byte u2.toInt8.toInt32)), (.int (nar .byte tb.toInt8.toInt32)), (.int (nar .byte (1 : Int32).toInt8.toInt32)), (.int (0 : Int32))] := Ah264
            refine X.aload (q := 152) at_150 rfl rfl rfl ?_
            refine X.iconst (q := 153) (4 : Int32) at_152 (by decide) rfl ?_
            refine X.iload (q := 155) at_153 rfl rfl ?_
            refine X.iadd (q := 156) at_155 rfl ?_
            refine X.foldI (v := (7 : Int32)) (by decide) ?_
            refine X.iload (q := 158) at_156 rfl rfl ?_
            refine X.iload (q := 160) at_158 rfl rfl ?_
            refine X.bipush (q := 162) (8 : Int32) at_160 (by decide) rfl ?_
            refine X.iushr (q := 163) at_162 rfl ?_
            refine X.callS (own_put1 l Z a0 hw h264 n0 a259 (7 : Int32) (XT.ushr x4 (8 : Int32)) 7 _ rfl (by simp) (by decide) hsh264 Ah264_ gea259) (hw _ (List.mem_of_getElem? (i := 34) rfl)) (hw _ (List.mem_of_getElem? (i := 35) rfl)) (hw _ (List.mem_of_getElem? (i := 32) rfl)) (hw _ (List.mem_of_getElem? (i := 36) rfl)) (by decide) own_pd7 (argsL := [(.ref a259), (.int (7 : Int32)), (.int (1 : Int32)), (.int (XT.ushr x4 (8 : Int32)))]) (rest := []) rfl rfl rfl (W := 0) (Nat.le_of_eq rfl) rfl (by decide) (by decide) (k' := 1) (n' := 8) rfl rfl (by decide) (by decide) at_163 (q := 166) rfl ?_
            rintro _ h265 ⟨v0, rfl, Kh265c, Gv⟩
            have hsh265 : n0 ≤ h265.size := Nat.le_trans hsh264 Kh265c.1
            show X.G h265 1 8 166 #[.val (.int x0), .val (.int x1), .val (.int x2), .val (.int x3), .val (.int x4), .val (.int m), .val (.int (3 : Int32)), .val (.int (1 : Int32)), .val (.ref a259), .unset, .unset, .unset] []
            have Gv : OwA Z h265 a259 .byte [(.int (nar .byte ta.toInt8.toInt32)), (.int (nar .byte (3 : Int32).toInt8.toInt32)), (.int (nar .byte u0.toInt8.toInt32)), (.int (nar .byte u1.toInt8.toInt32)), (.int (nar .byte u2.toInt8.toInt32)), (.int (nar .byte tb.toInt8.toInt32)), (.int (nar .byte (1 : Int32).toInt8.toInt32)), (.int (nar .byte v0.toInt8.toInt32))] := Gv
            refine X.iconst (q := 167) (2 : Int32) at_166 (by decide) rfl ?_
            refine X.istore (q := 169) (Ls' := #[.val (.int x0), .val (.int x1), .val (.int x2), .val (.int x3), .val (.int x4), .val (.int m), .val (.int (3 : Int32)), .val (.int (1 : Int32)), .val (.ref a259), .val (.int (2 : Int32)), .unset, .unset]) at_167 rfl rfl ?_
            refine X.goto (q' := 259) at_169 (by decide) ?_
            refine X.newO (q := 262) (k' := 2) (n' := 11) (hw _ (List.mem_of_getElem? (i := 1) rfl)) (hw _ (List.mem_of_getElem? (i := 2) rfl)) (hw _ (List.mem_of_getElem? (i := 3) rfl)) at_259 rfl rfl (by decide) (by decide) rfl (fun h266 a267 ga267 Eh266 Ba267 Da267 => ?_)
            have la259_a267 : a259 < a267 := by have := Gv.lt; rw [← ga267] at this; exact this
            have Gv'h266 : OwA Z h266 a259 .byte [(.int (nar .byte ta.toInt8.toInt32)), (.int (nar .byte (3 : Int32).toInt8.toInt32)), (.int (nar .byte u0.toInt8.toInt32)), (.int (nar .byte u1.toInt8.toInt32)), (.int (nar .byte u2.toInt8.toInt32)), (.int (nar .byte tb.toInt8.toInt32)), (.int (nar .byte (1 : Int32).toInt8.toInt32)), (.int (nar .byte v0.toInt8.toInt32))] := OwA.ext (E := Eh266) Gv
            have gea267 : n0 ≤ a267 := by rw [ga267]; exact hsh265
            have hsh266 : n0 ≤ h266.size := Nat.le_trans hsh265 Eh266.1
            have Fa267_bytes : Fld Z h266 a267 "com/example/dircred/dircred/credential/DerReader" "bytes" "[B" .null := Da267 (Or.inr (hw _ (List.mem_of_getElem? (i := 14) rfl))) (ty := (.array .byte)) (by decide)
            have Fa267_position : Fld Z h266 a267 "com/example/dircred/dircred/credential/DerReader" "position" "I" (.int (0 : Int32)) := Da267 (Or.inl (hw _ (List.mem_of_getElem? (i := 16) rfl))) (ty := .int) (by decide)
            have Fa267_end : Fld Z h266 a267 "com/example/dircred/dircred/credential/DerReader" "end" "I" (.int (0 : Int32)) := Da267 (Or.inr (hw _ (List.mem_of_getElem? (i := 18) rfl))) (ty := .int) (by decide)
            refine X.dup (q := 263) at_262 rfl rfl ?_
            refine X.aload (q := 265) at_263 rfl rfl rfl ?_
            obtain ⟨L, hL⟩ : ∃ L_ : List Int32, L_ = [(nar .byte ta.toInt8.toInt32), (nar .byte (3 : Int32).toInt8.toInt32), (nar .byte u0.toInt8.toInt32), (nar .byte u1.toInt8.toInt32), (nar .byte u2.toInt8.toInt32), (nar .byte tb.toInt8.toInt32), (nar .byte (1 : Int32).toInt8.toInt32), (nar .byte v0.toInt8.toInt32)] := ⟨_, rfl⟩
            have AL : OwA Z h266 a259 .byte (L.map Value.int) := by rw [hL]; exact Gv'h266
            have nL : L.length = 8 := by rw [hL]; rfl
            have gL0 : (L.getD 0 0).toInt = (ta.toInt + 128) % 256 - 128 := by rw [hL]; exact own_nbt _
            have gL1 : (L.getD 1 0).toInt = ((3 : Int32).toInt + 128) % 256 - 128 := by rw [hL]; exact own_nbt _
            have gL2 : (L.getD 2 0).toInt = (u0.toInt + 128) % 256 - 128 := by rw [hL]; exact own_nbt _
            have gL3 : (L.getD 3 0).toInt = (u1.toInt + 128) % 256 - 128 := by rw [hL]; exact own_nbt _
            have gL4 : (L.getD 4 0).toInt = (u2.toInt + 128) % 256 - 128 := by rw [hL]; exact own_nbt _
            have gL5 : (L.getD 5 0).toInt = (tb.toInt + 128) % 256 - 128 := by rw [hL]; exact own_nbt _
            have gL6 : (L.getD 6 0).toInt = ((1 : Int32).toInt + 128) % 256 - 128 := by rw [hL]; exact own_nbt _
            have gL7 : (L.getD 7 0).toInt = (v0.toInt + 128) % 256 - 128 := by rw [hL]; exact own_nbt _
            have rL : ∀ x ∈ L, -128 ≤ x.toInt ∧ x.toInt ≤ 127 := by
              intro x hx; rw [hL] at hx
              simp only [List.mem_cons, List.not_mem_nil, or_false] at hx
              rcases hx with rfl | rfl | rfl | rfl | rfl | rfl | rfl | rfl
              · rw [own_nbt]; omega
              · rw [own_nbt]; omega
              · rw [own_nbt]; omega
              · rw [own_nbt]; omega
              · rw [own_nbt]; omega
              · rw [own_nbt]; omega
              · rw [own_nbt]; omega
              · rw [own_nbt]; omega
            clear hL
            refine X.special (a := a267) (own_i1 l Z a0 hw h266 n0 a267 a259 L (8 : Int32) (by rw [nL]; rfl) hsh266 Ba267 Fa267_bytes Fa267_position Fa267_end AL gea267 (Nat.ne_of_gt la259_a267)) rfl (hw _ (List.mem_of_getElem? (i := 4) rfl)) (hw _ (List.mem_of_getElem? (i := 5) rfl)) (hw _ (List.mem_of_getElem? (i := 3) rfl)) (hw _ (List.mem_of_getElem? (i := 6) rfl)) (by decide) own_pd8 (argsL := [(.ref a259)]) (rest := [(.ref a267)]) rfl rfl rfl (W := 1) (Nat.le_of_eq rfl) rfl (by decide) (by decide) (k' := 2) (n' := 11) rfl rfl (by decide) (by decide) at_265 (q := 268) rfl ?_
            rintro _ h268 ⟨rfl, Kh268c, Db, Dp, De⟩
            have AL'h268 : OwA Z h268 a259 .byte (L.map Value.int) := OwA.keep AL Kh268c (ninS (Nat.ne_of_lt la259_a267) nin0)
            have Ba267'h268 : Exa Z h268 a267 "com/example/dircred/dircred/credential/DerReader" := Exa.keep Ba267 Kh268c
            have hsh268 : n0 ≤ h268.size := Nat.le_trans hsh266 Kh268c.1
            show X.G h268 2 11 268 #[.val (.int x0), .val (.int x1), .val (.int x2), .val (.int x3), .val (.int x4), .val (.int m), .val (.int (3 : Int32)), .val (.int (1 : Int32)), .val (.ref a259), .val (.int (2 : Int32)), .unset, .unset] [(.ref a267)]
            refine X.astore (q := 270) (Ls' := #[.val (.int x0), .val (.int x1), .val (.int x2), .val (.int x3), .val (.int x4), .val (.int m), .val (.int (3 : Int32)), .val (.int (1 : Int32)), .val (.ref a259), .val (.int (2 : Int32)), .val (.ref a267), .unset]) at_268 rfl rfl rfl ?_
            refine X.iload (q := 272) at_270 rfl rfl ?_
            refine X.iconst (q := 273) (1 : Int32) at_272 (by decide) rfl ?_
            refine X.icmp_lt (a := 2) (b := 1) (q' := 281) (q := 276) at_273 rfl rfl (by decide) rfl (fun c273 => ?_) (fun c273 => ?_)
            · omega
            · refine X.aload (q := 278) at_276 rfl rfl rfl ?_
              have H1 : own_hdr L 0 ta 1 2 (2 : Int32) (3 : Int32) := by have k2_ : (2 : Int32).toInt = 2 := rfl; have k3_ : (3 : Int32).toInt = 3 := rfl; unfold own_hdr; simp only [nL, Nat.reduceAdd, and_true]; refine ⟨?_, ?_, ?_, ?_, ?_, ?_, ?_, ?_⟩ <;> first | omega | rfl
              refine X.virtual (a := a267) (own_skip l Z a0 hw h268 n0 a267 a259 L (0 : Int32) (8 : Int32) 0 ta 1 2 (2 : Int32) (3 : Int32) rL (by rw [nL]; rfl) (by rw [nL]; decide) rfl H1 (5 : Int32) rfl (by decide) hsh268 Ba267'h268 Db Dp De AL'h268 gea267 (Nat.ne_of_gt la259_a267)) (hw _ (List.mem_of_getElem? (i := 37) rfl)) (hw _ (List.mem_of_getElem? (i := 38) rfl)) (hw _ (List.mem_of_getElem? (i := 40) rfl)) (hw _ (List.mem_of_getElem? (i := 39) rfl)) (hw _ (List.mem_of_getElem? (i := 3) rfl)) (hw _ (List.mem_of_getElem? (i := 41) rfl)) (by decide) Ba267'h268 own_pd9 (argsL := []) (rest := []) rfl rfl rfl (W := 0) (Nat.le_of_eq rfl) rfl (by decide) (by decide) (k' := 4) (n' := 18) rfl rfl (by decide) (by decide) at_278 (q := 281) rfl ?_
              rintro _ h269 ⟨rfl, Kh269c, S1b, S1p, S1e⟩
              have AL'h269 : OwA Z h269 a259 .byte (L.map Value.int) := OwA.keep AL'h268 Kh269c (ninS (Nat.ne_of_lt la259_a267) nin0)
              have Ba267'h269 : Exa Z h269 a267 "com/example/dircred/dircred/credential/DerReader" := Exa.keep Ba267'h268 Kh269c
              have hsh269 : n0 ≤ h269.size := Nat.le_trans hsh268 Kh269c.1
              show X.G h269 4 18 281 #[.val (.int x0), .val (.int x1), .val (.int x2), .val (.int x3), .val (.int x4), .val (.int m), .val (.int (3 : Int32)), .val (.int (1 : Int32)), .val (.ref a259), .val (.int (2 : Int32)), .val (.ref a267), .unset] []
              refine X.iload (q := 283) at_281 rfl rfl ?_
              refine X.iconst (q := 284) (2 : Int32) at_283 (by decide) rfl ?_
              refine X.icmp_ne (a := 2) (b := 2) (q' := 302) (q := 287) at_284 rfl rfl (by decide) rfl (fun c284 => ?_) (fun c284 => ?_)
              · omega
              · refine X.aload (q := 289) at_287 rfl rfl rfl ?_
                refine X.virtual (a := a267) (own_hm l Z a0 hw h269 n0 a267 (5 : Int32) (8 : Int32) hsh269 S1p S1e) (hw _ (List.mem_of_getElem? (i := 19) rfl)) (hw _ (List.mem_of_getElem? (i := 20) rfl)) (hw _ (List.mem_of_getElem? (i := 22) rfl)) (hw _ (List.mem_of_getElem? (i := 21) rfl)) (hw _ (List.mem_of_getElem? (i := 3) rfl)) (hw _ (List.mem_of_getElem? (i := 23) rfl)) (by decide) Ba267'h269 own_pd5 (argsL := []) (rest := []) rfl rfl rfl (W := 0) (Nat.le_of_eq rfl) rfl (by decide) (by decide) (k' := 4) (n' := 18) rfl rfl (by decide) (by decide) at_289 (q := 292) rfl ?_
                rintro _ _ ⟨zm, rfl, hzm, rfl⟩
                show X.G h269 4 18 292 #[.val (.int x0), .val (.int x1), .val (.int x2), .val (.int x3), .val (.int x4), .val (.int m), .val (.int (3 : Int32)), .val (.int (1 : Int32)), .val (.ref a259), .val (.int (2 : Int32)), .val (.ref a267), .unset] [(.int zm)]
                refine X.if_ne (q' := 297) (q := 295) at_292 rfl (by decide) rfl (fun c292 => ?_) (fun c292 => ?_)
                · refine X.aload (q := 299) at_297 rfl rfl rfl ?_
                  have H2 : own_hdr L 5 tb 6 7 (7 : Int32) (1 : Int32) := by have k1_ : (1 : Int32).toInt = 1 := rfl; have k7_ : (7 : Int32).toInt = 7 := rfl; unfold own_hdr; simp only [nL, Nat.reduceAdd, and_true]; refine ⟨?_, ?_, ?_, ?_, ?_, ?_, ?_, ?_⟩ <;> first | omega | rfl
                  refine X.virtual (a := a267) (own_skip l Z a0 hw h269 n0 a267 a259 L (5 : Int32) (8 : Int32) 5 tb 6 7 (7 : Int32) (1 : Int32) rL (by rw [nL]; rfl) (by rw [nL]; decide) rfl H2 (8 : Int32) rfl (by decide) hsh269 Ba267'h269 S1b S1p S1e AL'h269 gea267 (Nat.ne_of_gt la259_a267)) (hw _ (List.mem_of_getElem? (i := 37) rfl)) (hw _ (List.mem_of_getElem? (i := 38) rfl)) (hw _ (List.mem_of_getElem? (i := 40) rfl)) (hw _ (List.mem_of_getElem? (i := 39) rfl)) (hw _ (List.mem_of_getElem? (i := 3) rfl)) (hw _ (List.mem_of_getElem? (i := 41) rfl)) (by decide) Ba267'h269 own_pd9 (argsL := []) (rest := []) rfl rfl rfl (W := 0) (Nat.le_of_eq rfl) rfl (by decide) (by decide) (k' := 6) (n' := 25) rfl rfl (by decide) (by decide) at_299 (q := 302) rfl ?_
                  rintro _ h270 ⟨rfl, Kh270c, S2b, S2p, S2e⟩
                  have AL'h270 : OwA Z h270 a259 .byte (L.map Value.int) := OwA.keep AL'h269 Kh270c (ninS (Nat.ne_of_lt la259_a267) nin0)
                  have Ba267'h270 : Exa Z h270 a267 "com/example/dircred/dircred/credential/DerReader" := Exa.keep Ba267'h269 Kh270c
                  have hsh270 : n0 ≤ h270.size := Nat.le_trans hsh269 Kh270c.1
                  show X.G h270 6 25 302 #[.val (.int x0), .val (.int x1), .val (.int x2), .val (.int x3), .val (.int x4), .val (.int m), .val (.int (3 : Int32)), .val (.int (1 : Int32)), .val (.ref a259), .val (.int (2 : Int32)), .val (.ref a267), .unset] []
                  refine X.aload (q := 304) at_302 rfl rfl rfl ?_
                  refine X.virtual (a := a267) (own_hm l Z a0 hw h270 n0 a267 (8 : Int32) (8 : Int32) hsh270 S2p S2e) (hw _ (List.mem_of_getElem? (i := 19) rfl)) (hw _ (List.mem_of_getElem? (i := 20) rfl)) (hw _ (List.mem_of_getElem? (i := 22) rfl)) (hw _ (List.mem_of_getElem? (i := 21) rfl)) (hw _ (List.mem_of_getElem? (i := 3) rfl)) (hw _ (List.mem_of_getElem? (i := 23) rfl)) (by decide) Ba267'h270 own_pd5 (argsL := []) (rest := []) rfl rfl rfl (W := 0) (Nat.le_of_eq rfl) rfl (by decide) (by decide) (k' := 6) (n' := 25) rfl rfl (by decide) (by decide) at_304 (q := 307) rfl ?_
                  rintro _ _ ⟨zb, rfl, hzb, rfl⟩
                  show X.G h270 6 25 307 #[.val (.int x0), .val (.int x1), .val (.int x2), .val (.int x3), .val (.int x4), .val (.int m), .val (.int (3 : Int32)), .val (.int (1 : Int32)), .val (.ref a259), .val (.int (2 : Int32)), .val (.ref a267), .unset] [(.int zb)]
                  refine X.istore (q := 309) (Ls' := #[.val (.int x0), .val (.int x1), .val (.int x2), .val (.int x3), .val (.int x4), .val (.int m), .val (.int (3 : Int32)), .val (.int (1 : Int32)), .val (.ref a259), .val (.int (2 : Int32)), .val (.ref a267), .val (.int zb)]) at_307 rfl rfl ?_
                  refine X.aload (q := 311) at_309 rfl rfl rfl ?_
                  refine X.virtual (a := a267) (own_en l Z a0 hw h270 n0 a267 a259 (8 : Int32) (8 : Int32) (by decide) hsh270 Ba267'h270 S2b S2p S2e) (hw _ (List.mem_of_getElem? (i := 24) rfl)) (hw _ (List.mem_of_getElem? (i := 25) rfl)) (hw _ (List.mem_of_getElem? (i := 27) rfl)) (hw _ (List.mem_of_getElem? (i := 26) rfl)) (hw _ (List.mem_of_getElem? (i := 3) rfl)) (hw _ (List.mem_of_getElem? (i := 28) rfl)) (by decide) Ba267'h270 own_pd9 (argsL := []) (rest := []) rfl rfl rfl (W := 0) (Nat.le_of_eq rfl) rfl (by decide) (by decide) (k' := 6) (n' := 25) rfl rfl (by decide) (by decide) at_311 (q := 314) rfl ?_
                  rintro _ _ ⟨rfl, rfl⟩
                  show X.G h270 6 25 314 #[.val (.int x0), .val (.int x1), .val (.int x2), .val (.int x3), .val (.int x4), .val (.int m), .val (.int (3 : Int32)), .val (.int (1 : Int32)), .val (.ref a259), .val (.int (2 : Int32)), .val (.ref a267), .val (.int zb)] []
                  refine X.iload (q := 316) at_314 rfl rfl ?_
                  refine X.if_ne (q' := 331) (q := 319) at_316 rfl (by decide) rfl (fun c316 => ?_) (fun c316 => ?_)
                  · omega
                  · refine X.aload (q := 321) at_319 rfl rfl rfl ?_
                    refine X.virtual (a := a267) (own_hm l Z a0 hw h270 n0 a267 (8 : Int32) (8 : Int32) hsh270 S2p S2e) (hw _ (List.mem_of_getElem? (i := 19) rfl)) (hw _ (List.mem_of_getElem? (i := 20) rfl)) (hw _ (List.mem_of_getElem? (i := 22) rfl)) (hw _ (List.mem_of_getElem? (i := 21) rfl)) (hw _ (List.mem_of_getElem? (i := 3) rfl)) (hw _ (List.mem_of_getElem? (i := 23) rfl)) (by decide) Ba267'h270 own_pd5 (argsL := []) (rest := []) rfl rfl rfl (W := 0) (Nat.le_of_eq rfl) rfl (by decide) (by decide) (k' := 6) (n' := 25) rfl rfl (by decide) (by decide) at_321 (q := 324) rfl ?_
                    rintro _ _ ⟨zc, rfl, hzc, rfl⟩
                    show X.G h270 6 25 324 #[.val (.int x0), .val (.int x1), .val (.int x2), .val (.int x3), .val (.int x4), .val (.int m), .val (.int (3 : Int32)), .val (.int (1 : Int32)), .val (.ref a259), .val (.int (2 : Int32)), .val (.ref a267), .val (.int zb)] [(.int zc)]
                    refine X.if_ne (q' := 331) (q := 327) at_324 rfl (by decide) rfl (fun c324 => ?_) (fun c324 => ?_)
                    · omega
                    · refine X.iconst (q := 328) (1 : Int32) at_327 (by decide) rfl ?_
                      refine X.goto (q' := 332) at_328 (by decide) ?_
                      refine X.retN (t := .boolean) (z' := (1 : Int32)) at_332 rfl (by simp) (by decide) (by decide) (by decide) ?_
                      rfl
                · omega
          · refine X.iload (q := 90) at_88 rfl rfl ?_
            refine X.iadd (q := 91) at_90 rfl ?_
            refine X.foldI (v := (7 : Int32)) (by decide) ?_
            refine X.iload (q := 93) at_91 rfl rfl ?_
            refine X.iadd (q := 94) at_93 rfl ?_
            refine X.foldI (v := (9 : Int32)) (by decide) ?_
            refine X.newP (q := 96) (ty := .byte) (N := 9) (cap := 9) (k' := 1) (n' := 9) (hw _ (List.mem_of_getElem? (i := 0) rfl)) at_94 rfl rfl (Nat.le_refl _) (by decide) rfl rfl (by decide) (by decide) rfl (fun h271 a272 ga272 Eh271 Aa272 => ?_)
            have gea272 : n0 ≤ a272 := by rw [ga272]; exact hn0
            have hsh271 : n0 ≤ h271.size := Nat.le_trans hn0 Eh271.1
            have Aa272 : OwA Z h271 a272 .byte [(.int (0 : Int32)), (.int (0 : Int32)), (.int (0 : Int32)), (.int (0 : Int32)), (.int (0 : Int32)), (.int (0 : Int32)), (.int (0 : Int32)), (.int (0 : Int32)), (.int (0 : Int32))] := Aa272
            refine X.astore (q := 98) (Ls' := #[.val (.int x0), .val (.int x1), .val (.int x2), .val (.int x3), .val (.int x4), .val (.int m), .val (.int (3 : Int32)), .val (.int (2 : Int32)), .val (.ref a272), .unset, .unset, .unset]) at_96 rfl rfl rfl ?_
            refine X.aload (q := 100) at_98 rfl rfl rfl ?_
            refine X.iconst (q := 101) (0 : Int32) at_100 (by decide) rfl ?_
            refine X.iloadN (q := 102) at_101 rfl rfl ?_
            refine X.iload (q := 104) at_102 rfl rfl ?_
            refine X.callS (own_tag l Z a0 hw h271 n0 x1 (3 : Int32)) (hw _ (List.mem_of_getElem? (i := 30) rfl)) (hw _ (List.mem_of_getElem? (i := 31) rfl)) (hw _ (List.mem_of_getElem? (i := 32) rfl)) (hw _ (List.mem_of_getElem? (i := 33) rfl)) (by decide) own_pd6 (argsL := [(.int x1), (.int (3 : Int32))]) (rest := [(.int (0 : Int32)), (.ref a272)]) rfl rfl rfl (W := 2) (Nat.le_of_eq rfl) rfl (by decide) (by decide) (k' := 1) (n' := 9) rfl rfl (by decide) (by decide) at_104 (q := 107) rfl ?_
            rintro _ _ ⟨ta, rfl, hta, rfl⟩
            show X.G h271 1 9 107 #[.val (.int x0), .val (.int x1), .val (.int x2), .val (.int x3), .val (.int x4), .val (.int m), .val (.int (3 : Int32)), .val (.int (2 : Int32)), .val (.ref a272), .unset, .unset, .unset] [(.int ta), (.int (0 : Int32)), (.ref a272)]
            refine X.i2b (q := 108) at_107 rfl ?_
            refine X.bastore (q := 109) (j := 0) Aa272 rfl (by simp) gea272 at_108 rfl (fun h273 Wh273 Ah273 => ?_)
            have hsh273 : n0 ≤ h273.size := by rw [Wr.size Wh273]; exact hsh271
            have Ah273_ : OwA Z h273 a272 .byte [(.int (nar .byte ta.toInt8.toInt32)), (.int (0 : Int32)), (.int (0 : Int32)), (.int (0 : Int32)), (.int (0 : Int32)), (.int (0 : Int32)), (.int (0 : Int32)), (.int (0 : Int32)), (.int (0 : Int32))] := Ah273
            refine X.aload (q := 111) at_109 rfl rfl rfl ?_
            refine X.iconst (q := 112) (1 : Int32) at_111 (by decide) rfl ?_
            refine X.iload (q := 114) at_112 rfl rfl ?_
            refine X.i2b (q := 115) at_114 rfl ?_
            refine X.bastore (q := 116) (j := 1) Ah273_ rfl (by simp) gea272 at_115 rfl (fun h274 Wh274 Ah274 => ?_)
            have hsh274 : n0 ≤ h274.size := by rw [Wr.size Wh274]; exact hsh273
            have Ah274_ : OwA Z h274 a272 .byte [(.int (nar .byte ta.toInt8.toInt32)), (.int (nar .byte (3 : Int32).toInt8.toInt32)), (.int (0 : Int32)), (.int (0 : Int32)), (.int (0 : Int32)), (.int (0 : Int32)), (.int (0 : Int32)), (.int (0 : Int32)), (.int (0 : Int32))] := Ah274
            refine X.aload (q := 118) at_116 rfl rfl rfl ?_
            refine X.iconst (q := 119) (2 : Int32) at_118 (by decide) rfl ?_
            refine X.iload (q := 121) at_119 rfl rfl ?_
            refine X.iload (q := 123) at_121 rfl rfl ?_
            refine X.callS (own_put3 l Z a0 hw h274 n0 a272 (2 : Int32) x4 2 _ rfl (by simp) (by decide) hsh274 Ah274_ gea272) (hw _ (List.mem_of_getElem? (i := 34) rfl)) (hw _ (List.mem_of_getElem? (i := 35) rfl)) (hw _ (List.mem_of_getElem? (i := 32) rfl)) (hw _ (List.mem_of_getElem? (i := 36) rfl)) (by decide) own_pd7 (argsL := [(.ref a272), (.int (2 : Int32)), (.int (3 : Int32)), (.int x4)]) (rest := []) rfl rfl rfl (W := 0) (Nat.le_of_eq rfl) rfl (by decide) (by decide) (k' := 1) (n' := 9) rfl rfl (by decide) (by decide) at_123 (q := 126) rfl ?_
            rintro _ h275 ⟨u0, u1, u2, rfl, Kh275c, Gu⟩
            have hsh275 : n0 ≤ h275.size := Nat.le_trans hsh274 Kh275c.1
            show X.G h275 1 9 126 #[.val (.int x0), .val (.int x1), .val (.int x2), .val (.int x3), .val (.int x4), .val (.int m), .val (.int (3 : Int32)), .val (.int (2 : Int32)), .val (.ref a272), .unset, .unset, .unset] []
            have Gu : OwA Z h275 a272 .byte [(.int (nar .byte ta.toInt8.toInt32)), (.int (nar .byte (3 : Int32).toInt8.toInt32)), (.int (nar .byte u0.toInt8.toInt32)), (.int (nar .byte u1.toInt8.toInt32)), (.int (nar .byte u2.toInt8.toInt32)), (.int (0 : Int32)), (.int (0 : Int32)), (.int (0 : Int32)), (.int (0 : Int32))] := Gu
            refine X.aload (q := 128) at_126 rfl rfl rfl ?_
            refine X.iconst (q := 129) (2 : Int32) at_128 (by decide) rfl ?_
            refine X.iload (q := 131) at_129 rfl rfl ?_
            refine X.iadd (q := 132) at_131 rfl ?_
            refine X.foldI (v := (5 : Int32)) (by decide) ?_
            refine X.iloadN (q := 133) at_132 rfl rfl ?_
            refine X.iload (q := 135) at_133 rfl rfl ?_
            refine X.callS (own_tag l Z a0 hw h275 n0 x2 (2 : Int32)) (hw _ (List.mem_of_getElem? (i := 30) rfl)) (hw _ (List.mem_of_getElem? (i := 31) rfl)) (hw _ (List.mem_of_getElem? (i := 32) rfl)) (hw _ (List.mem_of_getElem? (i := 33) rfl)) (by decide) own_pd6 (argsL := [(.int x2), (.int (2 : Int32))]) (rest := [(.int (5 : Int32)), (.ref a272)]) rfl rfl rfl (W := 2) (Nat.le_of_eq rfl) rfl (by decide) (by decide) (k' := 1) (n' := 9) rfl rfl (by decide) (by decide) at_135 (q := 138) rfl ?_
            rintro _ _ ⟨tb, rfl, htb, rfl⟩
            show X.G h275 1 9 138 #[.val (.int x0), .val (.int x1), .val (.int x2), .val (.int x3), .val (.int x4), .val (.int m), .val (.int (3 : Int32)), .val (.int (2 : Int32)), .val (.ref a272), .unset, .unset, .unset] [(.int tb), (.int (5 : Int32)), (.ref a272)]
            refine X.i2b (q := 139) at_138 rfl ?_
            refine X.bastore (q := 140) (j := 5) Gu rfl (by simp) gea272 at_139 rfl (fun h276 Wh276 Ah276 => ?_)
            have hsh276 : n0 ≤ h276.size := by rw [Wr.size Wh276]; exact hsh275
            have Ah276_ : OwA Z h276 a272 .byte [(.int (nar .byte ta.toInt8.toInt32)), (.int (nar .byte (3 : Int32).toInt8.toInt32)), (.int (nar .byte u0.toInt8.toInt32)), (.int (nar .byte u1.toInt8.toInt32)), (.int (nar .byte u2.toInt8.toInt32)), (.int (nar .byte tb.toInt8.toInt32)), (.int (0 : Int32)), (.int (0 : Int32)), (.int (0 : Int32))] := Ah276
            refine X.aload (q := 142) at_140 rfl rfl rfl ?_
            refine X.iconst (q := 143) (3 : Int32) at_142 (by decide) rfl ?_
            refine X.iload (q := 145) at_143 rfl rfl ?_
            refine X.iadd (q := 146) at_145 rfl ?_
            refine X.foldI (v := (6 : Int32)) (by decide) ?_
            refine X.iload (q := 148) at_146 rfl rfl ?_
            refine X.i2b (q := 149) at_148 rfl ?_
            refine X.bastore (q := 150) (j := 6) Ah276_ rfl (by simp) gea272 at_149 rfl (fun h277 Wh277 Ah277 => ?_)
            have hsh277 : n0 ≤ h277.size := by rw [Wr.size Wh277]; exact hsh276
            have Ah277_ : OwA Z h277 a272 .byte [(.int (nar .byte ta.toInt8.toInt32)), (.int (nar .byte (3 : Int32).toInt8.toInt32)), (.int (nar .byte u0.toInt8.toInt32)), (.int (nar .byte u1.toInt8.toInt32)), (.int (nar .byte u2.toInt8.toInt32)), (.int (nar .byte tb.toInt8.toInt32)), (.int (nar .byte (2 : Int32).toInt8.toInt32)), (.int (0 : Int32)), (.int (0 : Int32))] := Ah277
            refine X.aload (q := 152) at_150 rfl rfl rfl ?_
            refine X.iconst (q := 153) (4 : Int32) at_152 (by decide) rfl ?_
            refine X.iload (q := 155) at_153 rfl rfl ?_
            refine X.iadd (q := 156) at_155 rfl ?_
            refine X.foldI (v := (7 : Int32)) (by decide) ?_
            refine X.iload (q := 158) at_156 rfl rfl ?_
            refine X.iload (q := 160) at_158 rfl rfl ?_
            refine X.bipush (q := 162) (8 : Int32) at_160 (by decide) rfl ?_
            refine X.iushr (q := 163) at_162 rfl ?_
            refine X.callS (own_put2 l Z a0 hw h277 n0 a272 (7 : Int32) (XT.ushr x4 (8 : Int32)) 7 _ rfl (by simp) (by decide) hsh277 Ah277_ gea272) (hw _ (List.mem_of_getElem? (i := 34) rfl)) (hw _ (List.mem_of_getElem? (i := 35) rfl)) (hw _ (List.mem_of_getElem? (i := 32) rfl)) (hw _ (List.mem_of_getElem? (i := 36) rfl)) (by decide) own_pd7 (argsL := [(.ref a272), (.int (7 : Int32)), (.int (2 : Int32)), (.int (XT.ushr x4 (8 : Int32)))]) (rest := []) rfl rfl rfl (W := 0) (Nat.le_of_eq rfl) rfl (by decide) (by decide) (k' := 1) (n' := 9) rfl rfl (by decide) (by decide) at_163 (q := 166) rfl ?_
            rintro _ h278 ⟨v0, v1, rfl, Kh278c, Gv⟩
            have hsh278 : n0 ≤ h278.size := Nat.le_trans hsh277 Kh278c.1
            show X.G h278 1 9 166 #[.val (.int x0), .val (.int x1), .val (.int x2), .val (.int x3), .val (.int x4), .val (.int m), .val (.int (3 : Int32)), .val (.int (2 : Int32)), .val (.ref a272), .unset, .unset, .unset] []
            have Gv : OwA Z h278 a272 .byte [(.int (nar .byte ta.toInt8.toInt32)), (.int (nar .byte (3 : Int32).toInt8.toInt32)), (.int (nar .byte u0.toInt8.toInt32)), (.int (nar .byte u1.toInt8.toInt32)), (.int (nar .byte u2.toInt8.toInt32)), (.int (nar .byte tb.toInt8.toInt32)), (.int (nar .byte (2 : Int32).toInt8.toInt32)), (.int (nar .byte v0.toInt8.toInt32)), (.int (nar .byte v1.toInt8.toInt32))] := Gv
            refine X.iconst (q := 167) (2 : Int32) at_166 (by decide) rfl ?_
            refine X.istore (q := 169) (Ls' := #[.val (.int x0), .val (.int x1), .val (.int x2), .val (.int x3), .val (.int x4), .val (.int m), .val (.int (3 : Int32)), .val (.int (2 : Int32)), .val (.ref a272), .val (.int (2 : Int32)), .unset, .unset]) at_167 rfl rfl ?_
            refine X.goto (q' := 259) at_169 (by decide) ?_
            refine X.newO (q := 262) (k' := 2) (n' := 12) (hw _ (List.mem_of_getElem? (i := 1) rfl)) (hw _ (List.mem_of_getElem? (i := 2) rfl)) (hw _ (List.mem_of_getElem? (i := 3) rfl)) at_259 rfl rfl (by decide) (by decide) rfl (fun h279 a280 ga280 Eh279 Ba280 Da280 => ?_)
            have la272_a280 : a272 < a280 := by have := Gv.lt; rw [← ga280] at this; exact this
            have Gv'h279 : OwA Z h279 a272 .byte [(.int (nar .byte ta.toInt8.toInt32)), (.int (nar .byte (3 : Int32).toInt8.toInt32)), (.int (nar .byte u0.toInt8.toInt32)), (.int (nar .byte u1.toInt8.toInt32)), (.int (nar .byte u2.toInt8.toInt32)), (.int (nar .byte tb.toInt8.toInt32)), (.int (nar .byte (2 : Int32).toInt8.toInt32)), (.int (nar .byte v0.toInt8.toInt32)), (.int (nar .byte v1.toInt8.toInt32))] := OwA.ext (E := Eh279) Gv
            have gea280 : n0 ≤ a280 := by rw [ga280]; exact hsh278
            have hsh279 : n0 ≤ h279.size := Nat.le_trans hsh278 Eh279.1
            have Fa280_bytes : Fld Z h279 a280 "com/example/dircred/dircred/credential/DerReader" "bytes" "[B" .null := Da280 (Or.inr (hw _ (List.mem_of_getElem? (i := 14) rfl))) (ty := (.array .byte)) (by decide)
            have Fa280_position : Fld Z h279 a280 "com/example/dircred/dircred/credential/DerReader" "position" "I" (.int (0 : Int32)) := Da280 (Or.inl (hw _ (List.mem_of_getElem? (i := 16) rfl))) (ty := .int) (by decide)
            have Fa280_end : Fld Z h279 a280 "com/example/dircred/dircred/credential/DerReader" "end" "I" (.int (0 : Int32)) := Da280 (Or.inr (hw _ (List.mem_of_getElem? (i := 18) rfl))) (ty := .int) (by decide)
            refine X.dup (q := 263) at_262 rfl rfl ?_
            refine X.aload (q := 265) at_263 rfl rfl rfl ?_
            obtain ⟨L, hL⟩ : ∃ L_ : List Int32, L_ = [(nar .byte ta.toInt8.toInt32), (nar .byte (3 : Int32).toInt8.toInt32), (nar .byte u0.toInt8.toInt32), (nar .byte u1.toInt8.toInt32), (nar .byte u2.toInt8.toInt32), (nar .byte tb.toInt8.toInt32), (nar .byte (2 : Int32).toInt8.toInt32), (nar .byte v0.toInt8.toInt32), (nar .byte v1.toInt8.toInt32)] := ⟨_, rfl⟩
            have AL : OwA Z h279 a272 .byte (L.map Value.int) := by rw [hL]; exact Gv'h279
            have nL : L.length = 9 := by rw [hL]; rfl
            have gL0 : (L.getD 0 0).toInt = (ta.toInt + 128) % 256 - 128 := by rw [hL]; exact own_nbt _
            have gL1 : (L.getD 1 0).toInt = ((3 : Int32).toInt + 128) % 256 - 128 := by rw [hL]; exact own_nbt _
            have gL2 : (L.getD 2 0).toInt = (u0.toInt + 128) % 256 - 128 := by rw [hL]; exact own_nbt _
            have gL3 : (L.getD 3 0).toInt = (u1.toInt + 128) % 256 - 128 := by rw [hL]; exact own_nbt _
            have gL4 : (L.getD 4 0).toInt = (u2.toInt + 128) % 256 - 128 := by rw [hL]; exact own_nbt _
            have gL5 : (L.getD 5 0).toInt = (tb.toInt + 128) % 256 - 128 := by rw [hL]; exact own_nbt _
            have gL6 : (L.getD 6 0).toInt = ((2 : Int32).toInt + 128) % 256 - 128 := by rw [hL]; exact own_nbt _
            have gL7 : (L.getD 7 0).toInt = (v0.toInt + 128) % 256 - 128 := by rw [hL]; exact own_nbt _
            have gL8 : (L.getD 8 0).toInt = (v1.toInt + 128) % 256 - 128 := by rw [hL]; exact own_nbt _
            have rL : ∀ x ∈ L, -128 ≤ x.toInt ∧ x.toInt ≤ 127 := by
              intro x hx; rw [hL] at hx
              simp only [List.mem_cons, List.not_mem_nil, or_false] at hx
              rcases hx with rfl | rfl | rfl | rfl | rfl | rfl | rfl | rfl | rfl
              · rw [own_nbt]; omega
              · rw [own_nbt]; omega
              · rw [own_nbt]; omega
              · rw [own_nbt]; omega
              · rw [own_nbt]; omega
              · rw [own_nbt]; omega
              · rw [own_nbt]; omega
              · rw [own_nbt]; omega
              · rw [own_nbt]; omega
            clear hL
            refine X.special (a := a280) (own_i1 l Z a0 hw h279 n0 a280 a272 L (9 : Int32) (by rw [nL]; rfl) hsh279 Ba280 Fa280_bytes Fa280_position Fa280_end AL gea280 (Nat.ne_of_gt la272_a280)) rfl (hw _ (List.mem_of_getElem? (i := 4) rfl)) (hw _ (List.mem_of_getElem? (i := 5) rfl)) (hw _ (List.mem_of_getElem? (i := 3) rfl)) (hw _ (List.mem_of_getElem? (i := 6) rfl)) (by decide) own_pd8 (argsL := [(.ref a272)]) (rest := [(.ref a280)]) rfl rfl rfl (W := 1) (Nat.le_of_eq rfl) rfl (by decide) (by decide) (k' := 2) (n' := 12) rfl rfl (by decide) (by decide) at_265 (q := 268) rfl ?_
            rintro _ h281 ⟨rfl, Kh281c, Db, Dp, De⟩
            have AL'h281 : OwA Z h281 a272 .byte (L.map Value.int) := OwA.keep AL Kh281c (ninS (Nat.ne_of_lt la272_a280) nin0)
            have Ba280'h281 : Exa Z h281 a280 "com/example/dircred/dircred/credential/DerReader" := Exa.keep Ba280 Kh281c
            have hsh281 : n0 ≤ h281.size := Nat.le_trans hsh279 Kh281c.1
            show X.G h281 2 12 268 #[.val (.int x0), .val (.int x1), .val (.int x2), .val (.int x3), .val (.int x4), .val (.int m), .val (.int (3 : Int32)), .val (.int (2 : Int32)), .val (.ref a272), .val (.int (2 : Int32)), .unset, .unset] [(.ref a280)]
            refine X.astore (q := 270) (Ls' := #[.val (.int x0), .val (.int x1), .val (.int x2), .val (.int x3), .val (.int x4), .val (.int m), .val (.int (3 : Int32)), .val (.int (2 : Int32)), .val (.ref a272), .val (.int (2 : Int32)), .val (.ref a280), .unset]) at_268 rfl rfl rfl ?_
            refine X.iload (q := 272) at_270 rfl rfl ?_
            refine X.iconst (q := 273) (1 : Int32) at_272 (by decide) rfl ?_
            refine X.icmp_lt (a := 2) (b := 1) (q' := 281) (q := 276) at_273 rfl rfl (by decide) rfl (fun c273 => ?_) (fun c273 => ?_)
            · omega
            · refine X.aload (q := 278) at_276 rfl rfl rfl ?_
              have H1 : own_hdr L 0 ta 1 2 (2 : Int32) (3 : Int32) := by have k2_ : (2 : Int32).toInt = 2 := rfl; have k3_ : (3 : Int32).toInt = 3 := rfl; unfold own_hdr; simp only [nL, Nat.reduceAdd, and_true]; refine ⟨?_, ?_, ?_, ?_, ?_, ?_, ?_, ?_⟩ <;> first | omega | rfl
              refine X.virtual (a := a280) (own_skip l Z a0 hw h281 n0 a280 a272 L (0 : Int32) (9 : Int32) 0 ta 1 2 (2 : Int32) (3 : Int32) rL (by rw [nL]; rfl) (by rw [nL]; decide) rfl H1 (5 : Int32) rfl (by decide) hsh281 Ba280'h281 Db Dp De AL'h281 gea280 (Nat.ne_of_gt la272_a280)) (hw _ (List.mem_of_getElem? (i := 37) rfl)) (hw _ (List.mem_of_getElem? (i := 38) rfl)) (hw _ (List.mem_of_getElem? (i := 40) rfl)) (hw _ (List.mem_of_getElem? (i := 39) rfl)) (hw _ (List.mem_of_getElem? (i := 3) rfl)) (hw _ (List.mem_of_getElem? (i := 41) rfl)) (by decide) Ba280'h281 own_pd9 (argsL := []) (rest := []) rfl rfl rfl (W := 0) (Nat.le_of_eq rfl) rfl (by decide) (by decide) (k' := 4) (n' := 19) rfl rfl (by decide) (by decide) at_278 (q := 281) rfl ?_
              rintro _ h282 ⟨rfl, Kh282c, S1b, S1p, S1e⟩
              have AL'h282 : OwA Z h282 a272 .byte (L.map Value.int) := OwA.keep AL'h281 Kh282c (ninS (Nat.ne_of_lt la272_a280) nin0)
              have Ba280'h282 : Exa Z h282 a280 "com/example/dircred/dircred/credential/DerReader" := Exa.keep Ba280'h281 Kh282c
              have hsh282 : n0 ≤ h282.size := Nat.le_trans hsh281 Kh282c.1
              show X.G h282 4 19 281 #[.val (.int x0), .val (.int x1), .val (.int x2), .val (.int x3), .val (.int x4), .val (.int m), .val (.int (3 : Int32)), .val (.int (2 : Int32)), .val (.ref a272), .val (.int (2 : Int32)), .val (.ref a280), .unset] []
              refine X.iload (q := 283) at_281 rfl rfl ?_
              refine X.iconst (q := 284) (2 : Int32) at_283 (by decide) rfl ?_
              refine X.icmp_ne (a := 2) (b := 2) (q' := 302) (q := 287) at_284 rfl rfl (by decide) rfl (fun c284 => ?_) (fun c284 => ?_)
              · omega
              · refine X.aload (q := 289) at_287 rfl rfl rfl ?_
                refine X.virtual (a := a280) (own_hm l Z a0 hw h282 n0 a280 (5 : Int32) (9 : Int32) hsh282 S1p S1e) (hw _ (List.mem_of_getElem? (i := 19) rfl)) (hw _ (List.mem_of_getElem? (i := 20) rfl)) (hw _ (List.mem_of_getElem? (i := 22) rfl)) (hw _ (List.mem_of_getElem? (i := 21) rfl)) (hw _ (List.mem_of_getElem? (i := 3) rfl)) (hw _ (List.mem_of_getElem? (i := 23) rfl)) (by decide) Ba280'h282 own_pd5 (argsL := []) (rest := []) rfl rfl rfl (W := 0) (Nat.le_of_eq rfl) rfl (by decide) (by decide) (k' := 4) (n' := 19) rfl rfl (by decide) (by decide) at_289 (q := 292) rfl ?_
                rintro _ _ ⟨zm, rfl, hzm, rfl⟩
                show X.G h282 4 19 292 #[.val (.int x0), .val (.int x1), .val (.int x2), .val (.int x3), .val (.int x4), .val (.int m), .val (.int (3 : Int32)), .val (.int (2 : Int32)), .val (.ref a272), .val (.int (2 : Int32)), .val (.ref a280), .unset] [(.int zm)]
                refine X.if_ne (q' := 297) (q := 295) at_292 rfl (by decide) rfl (fun c292 => ?_) (fun c292 => ?_)
                · refine X.aload (q := 299) at_297 rfl rfl rfl ?_
                  have H2 : own_hdr L 5 tb 6 7 (7 : Int32) (2 : Int32) := by have k2_ : (2 : Int32).toInt = 2 := rfl; have k7_ : (7 : Int32).toInt = 7 := rfl; unfold own_hdr; simp only [nL, Nat.reduceAdd, and_true]; refine ⟨?_, ?_, ?_, ?_, ?_, ?_, ?_, ?_⟩ <;> first | omega | rfl
                  refine X.virtual (a := a280) (own_skip l Z a0 hw h282 n0 a280 a272 L (5 : Int32) (9 : Int32) 5 tb 6 7 (7 : Int32) (2 : Int32) rL (by rw [nL]; rfl) (by rw [nL]; decide) rfl H2 (9 : Int32) rfl (by decide) hsh282 Ba280'h282 S1b S1p S1e AL'h282 gea280 (Nat.ne_of_gt la272_a280)) (hw _ (List.mem_of_getElem? (i := 37) rfl)) (hw _ (List.mem_of_getElem? (i := 38) rfl)) (hw _ (List.mem_of_getElem? (i := 40) rfl)) (hw _ (List.mem_of_getElem? (i := 39) rfl)) (hw _ (List.mem_of_getElem? (i := 3) rfl)) (hw _ (List.mem_of_getElem? (i := 41) rfl)) (by decide) Ba280'h282 own_pd9 (argsL := []) (rest := []) rfl rfl rfl (W := 0) (Nat.le_of_eq rfl) rfl (by decide) (by decide) (k' := 6) (n' := 26) rfl rfl (by decide) (by decide) at_299 (q := 302) rfl ?_
                  rintro _ h283 ⟨rfl, Kh283c, S2b, S2p, S2e⟩
                  have AL'h283 : OwA Z h283 a272 .byte (L.map Value.int) := OwA.keep AL'h282 Kh283c (ninS (Nat.ne_of_lt la272_a280) nin0)
                  have Ba280'h283 : Exa Z h283 a280 "com/example/dircred/dircred/credential/DerReader" := Exa.keep Ba280'h282 Kh283c
                  have hsh283 : n0 ≤ h283.size := Nat.le_trans hsh282 Kh283c.1
                  show X.G h283 6 26 302 #[.val (.int x0), .val (.int x1), .val (.int x2), .val (.int x3), .val (.int x4), .val (.int m), .val (.int (3 : Int32)), .val (.int (2 : Int32)), .val (.ref a272), .val (.int (2 : Int32)), .val (.ref a280), .unset] []
                  refine X.aload (q := 304) at_302 rfl rfl rfl ?_
                  refine X.virtual (a := a280) (own_hm l Z a0 hw h283 n0 a280 (9 : Int32) (9 : Int32) hsh283 S2p S2e) (hw _ (List.mem_of_getElem? (i := 19) rfl)) (hw _ (List.mem_of_getElem? (i := 20) rfl)) (hw _ (List.mem_of_getElem? (i := 22) rfl)) (hw _ (List.mem_of_getElem? (i := 21) rfl)) (hw _ (List.mem_of_getElem? (i := 3) rfl)) (hw _ (List.mem_of_getElem? (i := 23) rfl)) (by decide) Ba280'h283 own_pd5 (argsL := []) (rest := []) rfl rfl rfl (W := 0) (Nat.le_of_eq rfl) rfl (by decide) (by decide) (k' := 6) (n' := 26) rfl rfl (by decide) (by decide) at_304 (q := 307) rfl ?_
                  rintro _ _ ⟨zb, rfl, hzb, rfl⟩
                  show X.G h283 6 26 307 #[.val (.int x0), .val (.int x1), .val (.int x2), .val (.int x3), .val (.int x4), .val (.int m), .val (.int (3 : Int32)), .val (.int (2 : Int32)), .val (.ref a272), .val (.int (2 : Int32)), .val (.ref a280), .unset] [(.int zb)]
                  refine X.istore (q := 309) (Ls' := #[.val (.int x0), .val (.int x1), .val (.int x2), .val (.int x3), .val (.int x4), .val (.int m), .val (.int (3 : Int32)), .val (.int (2 : Int32)), .val (.ref a272), .val (.int (2 : Int32)), .val (.ref a280), .val (.int zb)]) at_307 rfl rfl ?_
                  refine X.aload (q := 311) at_309 rfl rfl rfl ?_
                  refine X.virtual (a := a280) (own_en l Z a0 hw h283 n0 a280 a272 (9 : Int32) (9 : Int32) (by decide) hsh283 Ba280'h283 S2b S2p S2e) (hw _ (List.mem_of_getElem? (i := 24) rfl)) (hw _ (List.mem_of_getElem? (i := 25) rfl)) (hw _ (List.mem_of_getElem? (i := 27) rfl)) (hw _ (List.mem_of_getElem? (i := 26) rfl)) (hw _ (List.mem_of_getElem? (i := 3) rfl)) (hw _ (List.mem_of_getElem? (i := 28) rfl)) (by decide) Ba280'h283 own_pd9 (argsL := []) (rest := []) rfl rfl rfl (W := 0) (Nat.le_of_eq rfl) rfl (by decide) (by decide) (k' := 6) (n' := 26) rfl rfl (by decide) (by decide) at_311 (q := 314) rfl ?_
                  rintro _ _ ⟨rfl, rfl⟩
                  show X.G h283 6 26 314 #[.val (.int x0), .val (.int x1), .val (.int x2), .val (.int x3), .val (.int x4), .val (.int m), .val (.int (3 : Int32)), .val (.int (2 : Int32)), .val (.ref a272), .val (.int (2 : Int32)), .val (.ref a280), .val (.int zb)] []
                  refine X.iload (q := 316) at_314 rfl rfl ?_
                  refine X.if_ne (q' := 331) (q := 319) at_316 rfl (by decide) rfl (fun c316 => ?_) (fun c316 => ?_)
                  · omega
                  · refine X.aload (q := 321) at_319 rfl rfl rfl ?_
                    refine X.virtual (a := a280) (own_hm l Z a0 hw h283 n0 a280 (9 : Int32) (9 : Int32) hsh283 S2p S2e) (hw _ (List.mem_of_getElem? (i := 19) rfl)) (hw _ (List.mem_of_getElem? (i := 20) rfl)) (hw _ (List.mem_of_getElem? (i := 22) rfl)) (hw _ (List.mem_of_getElem? (i := 21) rfl)) (hw _ (List.mem_of_getElem? (i := 3) rfl)) (hw _ (List.mem_of_getElem? (i := 23) rfl)) (by decide) Ba280'h283 own_pd5 (argsL := []) (rest := []) rfl rfl rfl (W := 0) (Nat.le_of_eq rfl) rfl (by decide) (by decide) (k' := 6) (n' := 26) rfl rfl (by decide) (by decide) at_321 (q := 324) rfl ?_
                    rintro _ _ ⟨zc, rfl, hzc, rfl⟩
                    show X.G h283 6 26 324 #[.val (.int x0), .val (.int x1), .val (.int x2), .val (.int x3), .val (.int x4), .val (.int m), .val (.int (3 : Int32)), .val (.int (2 : Int32)), .val (.ref a272), .val (.int (2 : Int32)), .val (.ref a280), .val (.int zb)] [(.int zc)]
                    refine X.if_ne (q' := 331) (q := 327) at_324 rfl (by decide) rfl (fun c324 => ?_) (fun c324 => ?_)
                    · omega
                    · refine X.iconst (q := 328) (1 : Int32) at_327 (by decide) rfl ?_
                      refine X.goto (q' := 332) at_328 (by decide) ?_
                      refine X.retN (t := .boolean) (z' := (1 : Int32)) at_332 rfl (by simp) (by decide) (by decide) (by decide) ?_
                      rfl
                · omega
          · refine X.iload (q := 90) at_88 rfl rfl ?_
            refine X.iadd (q := 91) at_90 rfl ?_
            refine X.foldI (v := (7 : Int32)) (by decide) ?_
            refine X.iload (q := 93) at_91 rfl rfl ?_
            refine X.iadd (q := 94) at_93 rfl ?_
            refine X.foldI (v := (10 : Int32)) (by decide) ?_
            refine X.newP (q := 96) (ty := .byte) (N := 10) (cap := 10) (k' := 1) (n' := 10) (hw _ (List.mem_of_getElem? (i := 0) rfl)) at_94 rfl rfl (Nat.le_refl _) (by decide) rfl rfl (by decide) (by decide) rfl (fun h284 a285 ga285 Eh284 Aa285 => ?_)
            have gea285 : n0 ≤ a285 := by rw [ga285]; exact hn0
            have hsh284 : n0 ≤ h284.size := Nat.le_trans hn0 Eh284.1
            have Aa285 : OwA Z h284 a285 .byte [(.int (0 : Int32)), (.int (0 : Int32)), (.int (0 : Int32)), (.int (0 : Int32)), (.int (0 : Int32)), (.int (0 : Int32)), (.int (0 : Int32)), (.int (0 : Int32)), (.int (0 : Int32)), (.int (0 : Int32))] := Aa285
            refine X.astore (q := 98) (Ls' := #[.val (.int x0), .val (.int x1), .val (.int x2), .val (.int x3), .val (.int x4), .val (.int m), .val (.int (3 : Int32)), .val (.int (3 : Int32)), .val (.ref a285), .unset, .unset, .unset]) at_96 rfl rfl rfl ?_
            refine X.aload (q := 100) at_98 rfl rfl rfl ?_
            refine X.iconst (q := 101) (0 : Int32) at_100 (by decide) rfl ?_
            refine X.iloadN (q := 102) at_101 rfl rfl ?_
            refine X.iload (q := 104) at_102 rfl rfl ?_
            refine X.callS (own_tag l Z a0 hw h284 n0 x1 (3 : Int32)) (hw _ (List.mem_of_getElem? (i := 30) rfl)) (hw _ (List.mem_of_getElem? (i := 31) rfl)) (hw _ (List.mem_of_getElem? (i := 32) rfl)) (hw _ (List.mem_of_getElem? (i := 33) rfl)) (by decide) own_pd6 (argsL := [(.int x1), (.int (3 : Int32))]) (rest := [(.int (0 : Int32)), (.ref a285)]) rfl rfl rfl (W := 2) (Nat.le_of_eq rfl) rfl (by decide) (by decide) (k' := 1) (n' := 10) rfl rfl (by decide) (by decide) at_104 (q := 107) rfl ?_
            rintro _ _ ⟨ta, rfl, hta, rfl⟩
            show X.G h284 1 10 107 #[.val (.int x0), .val (.int x1), .val (.int x2), .val (.int x3), .val (.int x4), .val (.int m), .val (.int (3 : Int32)), .val (.int (3 : Int32)), .val (.ref a285), .unset, .unset, .unset] [(.int ta), (.int (0 : Int32)), (.ref a285)]
            refine X.i2b (q := 108) at_107 rfl ?_
            refine X.bastore (q := 109) (j := 0) Aa285 rfl (by simp) gea285 at_108 rfl (fun h286 Wh286 Ah286 => ?_)
            have hsh286 : n0 ≤ h286.size := by rw [Wr.size Wh286]; exact hsh284
            have Ah286_ : OwA Z h286 a285 .byte [(.int (nar .byte ta.toInt8.toInt32)), (.int (0 : Int32)), (.int (0 : Int32)), (.int (0 : Int32)), (.int (0 : Int32)), (.int (0 : Int32)), (.int (0 : Int32)), (.int (0 : Int32)), (.int (0 : Int32)), (.int (0 : Int32))] := Ah286
            refine X.aload (q := 111) at_109 rfl rfl rfl ?_
            refine X.iconst (q := 112) (1 : Int32) at_111 (by decide) rfl ?_
            refine X.iload (q := 114) at_112 rfl rfl ?_
            refine X.i2b (q := 115) at_114 rfl ?_
            refine X.bastore (q := 116) (j := 1) Ah286_ rfl (by simp) gea285 at_115 rfl (fun h287 Wh287 Ah287 => ?_)
            have hsh287 : n0 ≤ h287.size := by rw [Wr.size Wh287]; exact hsh286
            have Ah287_ : OwA Z h287 a285 .byte [(.int (nar .byte ta.toInt8.toInt32)), (.int (nar .byte (3 : Int32).toInt8.toInt32)), (.int (0 : Int32)), (.int (0 : Int32)), (.int (0 : Int32)), (.int (0 : Int32)), (.int (0 : Int32)), (.int (0 : Int32)), (.int (0 : Int32)), (.int (0 : Int32))] := Ah287
            refine X.aload (q := 118) at_116 rfl rfl rfl ?_
            refine X.iconst (q := 119) (2 : Int32) at_118 (by decide) rfl ?_
            refine X.iload (q := 121) at_119 rfl rfl ?_
            refine X.iload (q := 123) at_121 rfl rfl ?_
            refine X.callS (own_put3 l Z a0 hw h287 n0 a285 (2 : Int32) x4 2 _ rfl (by simp) (by decide) hsh287 Ah287_ gea285) (hw _ (List.mem_of_getElem? (i := 34) rfl)) (hw _ (List.mem_of_getElem? (i := 35) rfl)) (hw _ (List.mem_of_getElem? (i := 32) rfl)) (hw _ (List.mem_of_getElem? (i := 36) rfl)) (by decide) own_pd7 (argsL := [(.ref a285), (.int (2 : Int32)), (.int (3 : Int32)), (.int x4)]) (rest := []) rfl rfl rfl (W := 0) (Nat.le_of_eq rfl) rfl (by decide) (by decide) (k' := 1) (n' := 10) rfl rfl (by decide) (by decide) at_123 (q := 126) rfl ?_
            rintro _ h288 ⟨u0, u1, u2, rfl, Kh288c, Gu⟩
            have hsh288 : n0 ≤ h288.size := Nat.le_trans hsh287 Kh288c.1
            show X.G h288 1 10 126 #[.val (.int x0), .val (.int x1), .val (.int x2), .val (.int x3), .val (.int x4), .val (.int m), .val (.int (3 : Int32)), .val (.int (3 : Int32)), .val (.ref a285), .unset, .unset, .unset] []
            have Gu : OwA Z h288 a285 .byte [(.int (nar .byte ta.toInt8.toInt32)), (.int (nar .byte (3 : Int32).toInt8.toInt32)), (.int (nar .byte u0.toInt8.toInt32)), (.int (nar .byte u1.toInt8.toInt32)), (.int (nar .byte u2.toInt8.toInt32)), (.int (0 : Int32)), (.int (0 : Int32)), (.int (0 : Int32)), (.int (0 : Int32)), (.int (0 : Int32))] := Gu
            refine X.aload (q := 128) at_126 rfl rfl rfl ?_
            refine X.iconst (q := 129) (2 : Int32) at_128 (by decide) rfl ?_
            refine X.iload (q := 131) at_129 rfl rfl ?_
            refine X.iadd (q := 132) at_131 rfl ?_
            refine X.foldI (v := (5 : Int32)) (by decide) ?_
            refine X.iloadN (q := 133) at_132 rfl rfl ?_
            refine X.iload (q := 135) at_133 rfl rfl ?_
            refine X.callS (own_tag l Z a0 hw h288 n0 x2 (3 : Int32)) (hw _ (List.mem_of_getElem? (i := 30) rfl)) (hw _ (List.mem_of_getElem? (i := 31) rfl)) (hw _ (List.mem_of_getElem? (i := 32) rfl)) (hw _ (List.mem_of_getElem? (i := 33) rfl)) (by decide) own_pd6 (argsL := [(.int x2), (.int (3 : Int32))]) (rest := [(.int (5 : Int32)), (.ref a285)]) rfl rfl rfl (W := 2) (Nat.le_of_eq rfl) rfl (by decide) (by decide) (k' := 1) (n' := 10) rfl rfl (by decide) (by decide) at_135 (q := 138) rfl ?_
            rintro _ _ ⟨tb, rfl, htb, rfl⟩
            show X.G h288 1 10 138 #[.val (.int x0), .val (.int x1), .val (.int x2), .val (.int x3), .val (.int x4), .val (.int m), .val (.int (3 : Int32)), .val (.int (3 : Int32)), .val (.ref a285), .unset, .unset, .unset] [(.int tb), (.int (5 : Int32)), (.ref a285)]
            refine X.i2b (q := 139) at_138 rfl ?_
            refine X.bastore (q := 140) (j := 5) Gu rfl (by simp) gea285 at_139 rfl (fun h289 Wh289 Ah289 => ?_)
            have hsh289 : n0 ≤ h289.size := by rw [Wr.size Wh289]; exact hsh288
            have Ah289_ : OwA Z h289 a285 .byte [(.int (nar .byte ta.toInt8.toInt32)), (.int (nar .byte (3 : Int32).toInt8.toInt32)), (.int (nar .byte u0.toInt8.toInt32)), (.int (nar .byte u1.toInt8.toInt32)), (.int (nar .byte u2.toInt8.toInt32)), (.int (nar .byte tb.toInt8.toInt32)), (.int (0 : Int32)), (.int (0 : Int32)), (.int (0 : Int32)), (.int (0 : Int32))] := Ah289
            refine X.aload (q := 142) at_140 rfl rfl rfl ?_
            refine X.iconst (q := 143) (3 : Int32) at_142 (by decide) rfl ?_
            refine X.iload (q := 145) at_143 rfl rfl ?_
            refine X.iadd (q := 146) at_145 rfl ?_
            refine X.foldI (v := (6 : Int32)) (by decide) ?_
            refine X.iload (q := 148) at_146 rfl rfl ?_
            refine X.i2b (q := 149) at_148 rfl ?_
            refine X.bastore (q := 150) (j := 6) Ah289_ rfl (by simp) gea285 at_149 rfl (fun h290 Wh290 Ah290 => ?_)
            have hsh290 : n0 ≤ h290.size := by rw [Wr.size Wh290]; exact hsh289
            have Ah290_ : OwA Z h290 a285 .byte [(.int (nar .byte ta.toInt8.toInt32)), (.int (nar .byte (3 : Int32).toInt8.toInt32)), (.int (nar .byte u0.toInt8.toInt32)), (.int (nar .byte u1.toInt8.toInt32)), (.int (nar .byte u2.toInt8.toInt32)), (.int (nar .byte tb.toInt8.toInt32)), (.int (nar .byte (3 : Int32).toInt8.toInt32)), (.int (0 : Int32)), (.int (0 : Int32)), (.int (0 : Int32))] := Ah290
            refine X.aload (q := 152) at_150 rfl rfl rfl ?_
            refine X.iconst (q := 153) (4 : Int32) at_152 (by decide) rfl ?_
            refine X.iload (q := 155) at_153 rfl rfl ?_
            refine X.iadd (q := 156) at_155 rfl ?_
            refine X.foldI (v := (7 : Int32)) (by decide) ?_
            refine X.iload (q := 158) at_156 rfl rfl ?_
            refine X.iload (q := 160) at_158 rfl rfl ?_
            refine X.bipush (q := 162) (8 : Int32) at_160 (by decide) rfl ?_
            refine X.iushr (q := 163) at_162 rfl ?_
            refine X.callS (own_put3 l Z a0 hw h290 n0 a285 (7 : Int32) (XT.ushr x4 (8 : Int32)) 7 _ rfl (by simp) (by decide) hsh290 Ah290_ gea285) (hw _ (List.mem_of_getElem? (i := 34) rfl)) (hw _ (List.mem_of_getElem? (i := 35) rfl)) (hw _ (List.mem_of_getElem? (i := 32) rfl)) (hw _ (List.mem_of_getElem? (i := 36) rfl)) (by decide) own_pd7 (argsL := [(.ref a285), (.int (7 : Int32)), (.int (3 : Int32)), (.int (XT.ushr x4 (8 : Int32)))]) (rest := []) rfl rfl rfl (W := 0) (Nat.le_of_eq rfl) rfl (by decide) (by decide) (k' := 1) (n' := 10) rfl rfl (by decide) (by decide) at_163 (q := 166) rfl ?_
            rintro _ h291 ⟨v0, v1, v2, rfl, Kh291c, Gv⟩
            have hsh291 : n0 ≤ h291.size := Nat.le_trans hsh290 Kh291c.1
            show X.G h291 1 10 166 #[.val (.int x0), .val (.int x1), .val (.int x2), .val (.int x3), .val (.int x4), .val (.int m), .val (.int (3 : Int32)), .val (.int (3 : Int32)), .val (.ref a285), .unset, .unset, .unset] []
            have Gv : OwA Z h291 a285 .byte [(.int (nar .byte ta.toInt8.toInt32)), (.int (nar .byte (3 : Int32).toInt8.toInt32)), (.int (nar .byte u0.toInt8.toInt32)), (.int (nar .byte u1.toInt8.toInt32)), (.int (nar .byte u2.toInt8.toInt32)), (.int (nar .byte tb.toInt8.toInt32)), (.int (nar .byte (3 : Int32).toInt8.toInt32)), (.int (nar .byte v0.toInt8.toInt32)), (.int (nar .byte v1.toInt8.toInt32)), (.int (nar .byte v2.toInt8.toInt32))] := Gv
            refine X.iconst (q := 167) (2 : Int32) at_166 (by decide) rfl ?_
            refine X.istore (q := 169) (Ls' := #[.val (.int x0), .val (.int x1), .val (.int x2), .val (.int x3), .val (.int x4), .val (.int m), .val (.int (3 : Int32)), .val (.int (3 : Int32)), .val (.ref a285), .val (.int (2 : Int32)), .unset, .unset]) at_167 rfl rfl ?_
            refine X.goto (q' := 259) at_169 (by decide) ?_
            refine X.newO (q := 262) (k' := 2) (n' := 13) (hw _ (List.mem_of_getElem? (i := 1) rfl)) (hw _ (List.mem_of_getElem? (i := 2) rfl)) (hw _ (List.mem_of_getElem? (i := 3) rfl)) at_259 rfl rfl (by decide) (by decide) rfl (fun h292 a293 ga293 Eh292 Ba293 Da293 => ?_)
            have la285_a293 : a285 < a293 := by have := Gv.lt; rw [← ga293] at this; exact this
            have Gv'h292 : OwA Z h292 a285 .byte [(.int (nar .byte ta.toInt8.toInt32)), (.int (nar .byte (3 : Int32).toInt8.toInt32)), (.int (nar .byte u0.toInt8.toInt32)), (.int (nar .byte u1.toInt8.toInt32)), (.int (nar .byte u2.toInt8.toInt32)), (.int (nar .byte tb.toInt8.toInt32)), (.int (nar .byte (3 : Int32).toInt8.toInt32)), (.int (nar .byte v0.toInt8.toInt32)), (.int (nar .byte v1.toInt8.toInt32)), (.int (nar .byte v2.toInt8.toInt32))] := OwA.ext (E := Eh292) Gv
            have gea293 : n0 ≤ a293 := by rw [ga293]; exact hsh291
            have hsh292 : n0 ≤ h292.size := Nat.le_trans hsh291 Eh292.1
            have Fa293_bytes : Fld Z h292 a293 "com/example/dircred/dircred/credential/DerReader" "bytes" "[B" .null := Da293 (Or.inr (hw _ (List.mem_of_getElem? (i := 14) rfl))) (ty := (.array .byte)) (by decide)
            have Fa293_position : Fld Z h292 a293 "com/example/dircred/dircred/credential/DerReader" "position" "I" (.int (0 : Int32)) := Da293 (Or.inl (hw _ (List.mem_of_getElem? (i := 16) rfl))) (ty := .int) (by decide)
            have Fa293_end : Fld Z h292 a293 "com/example/dircred/dircred/credential/DerReader" "end" "I" (.int (0 : Int32)) := Da293 (Or.inr (hw _ (List.mem_of_getElem? (i := 18) rfl))) (ty := .int) (by decide)
            refine X.dup (q := 263) at_262 rfl rfl ?_
            refine X.aload (q := 265) at_263 rfl rfl rfl ?_
            obtain ⟨L, hL⟩ : ∃ L_ : List Int32, L_ = [(nar .byte ta.toInt8.toInt32), (nar .byte (3 : Int32).toInt8.toInt32), (nar .byte u0.toInt8.toInt32), (nar .byte u1.toInt8.toInt32), (nar .byte u2.toInt8.toInt32), (nar .byte tb.toInt8.toInt32), (nar .byte (3 : Int32).toInt8.toInt32), (nar .byte v0.toInt8.toInt32), (nar .byte v1.toInt8.toInt32), (nar .byte v2.toInt8.toInt32)] := ⟨_, rfl⟩
            have AL : OwA Z h292 a285 .byte (L.map Value.int) := by rw [hL]; exact Gv'h292
            have nL : L.length = 10 := by rw [hL]; rfl
            have gL0 : (L.getD 0 0).toInt = (ta.toInt + 128) % 256 - 128 := by rw [hL]; exact own_nbt _
            have gL1 : (L.getD 1 0).toInt = ((3 : Int32).toInt + 128) % 256 - 128 := by rw [hL]; exact own_nbt _
            have gL2 : (L.getD 2 0).toInt = (u0.toInt + 128) % 256 - 128 := by rw [hL]; exact own_nbt _
            have gL3 : (L.getD 3 0).toInt = (u1.toInt + 128) % 256 - 128 := by rw [hL]; exact own_nbt _
            have gL4 : (L.getD 4 0).toInt = (u2.toInt + 128) % 256 - 128 := by rw [hL]; exact own_nbt _
            have gL5 : (L.getD 5 0).toInt = (tb.toInt + 128) % 256 - 128 := by rw [hL]; exact own_nbt _
            have gL6 : (L.getD 6 0).toInt = ((3 : Int32).toInt + 128) % 256 - 128 := by rw [hL]; exact own_nbt _
            have gL7 : (L.getD 7 0).toInt = (v0.toInt + 128) % 256 - 128 := by rw [hL]; exact own_nbt _
            have gL8 : (L.getD 8 0).toInt = (v1.toInt + 128) % 256 - 128 := by rw [hL]; exact own_nbt _
            have gL9 : (L.getD 9 0).toInt = (v2.toInt + 128) % 256 - 128 := by rw [hL]; exact own_nbt _
            have rL : ∀ x ∈ L, -128 ≤ x.toInt ∧ x.toInt ≤ 127 := by
              intro x hx; rw [hL] at hx
              simp only [List.mem_cons, List.not_mem_nil, or_false] at hx
              rcases hx with rfl | rfl | rfl | rfl | rfl | rfl | rfl | rfl | rfl | rfl
              · rw [own_nbt]; omega
              · rw [own_nbt]; omega
              · rw [own_nbt]; omega
              · rw [own_nbt]; omega
              · rw [own_nbt]; omega
              · rw [own_nbt]; omega
              · rw [own_nbt]; omega
              · rw [own_nbt]; omega
              · rw [own_nbt]; omega
              · rw [own_nbt]; omega
            clear hL
            refine X.special (a := a293) (own_i1 l Z a0 hw h292 n0 a293 a285 L (10 : Int32) (by rw [nL]; rfl) hsh292 Ba293 Fa293_bytes Fa293_position Fa293_end AL gea293 (Nat.ne_of_gt la285_a293)) rfl (hw _ (List.mem_of_getElem? (i := 4) rfl)) (hw _ (List.mem_of_getElem? (i := 5) rfl)) (hw _ (List.mem_of_getElem? (i := 3) rfl)) (hw _ (List.mem_of_getElem? (i := 6) rfl)) (by decide) own_pd8 (argsL := [(.ref a285)]) (rest := [(.ref a293)]) rfl rfl rfl (W := 1) (Nat.le_of_eq rfl) rfl (by decide) (by decide) (k' := 2) (n' := 13) rfl rfl (by decide) (by decide) at_265 (q := 268) rfl ?_
            rintro _ h294 ⟨rfl, Kh294c, Db, Dp, De⟩
            have AL'h294 : OwA Z h294 a285 .byte (L.map Value.int) := OwA.keep AL Kh294c (ninS (Nat.ne_of_lt la285_a293) nin0)
            have Ba293'h294 : Exa Z h294 a293 "com/example/dircred/dircred/credential/DerReader" := Exa.keep Ba293 Kh294c
            have hsh294 : n0 ≤ h294.size := Nat.le_trans hsh292 Kh294c.1
            show X.G h294 2 13 268 #[.val (.int x0), .val (.int x1), .val (.int x2), .val (.int x3), .val (.int x4), .val (.int m), .val (.int (3 : Int32)), .val (.int (3 : Int32)), .val (.ref a285), .val (.int (2 : Int32)), .unset, .unset] [(.ref a293)]
            refine X.astore (q := 270) (Ls' := #[.val (.int x0), .val (.int x1), .val (.int x2), .val (.int x3), .val (.int x4), .val (.int m), .val (.int (3 : Int32)), .val (.int (3 : Int32)), .val (.ref a285), .val (.int (2 : Int32)), .val (.ref a293), .unset]) at_268 rfl rfl rfl ?_
            refine X.iload (q := 272) at_270 rfl rfl ?_
            refine X.iconst (q := 273) (1 : Int32) at_272 (by decide) rfl ?_
            refine X.icmp_lt (a := 2) (b := 1) (q' := 281) (q := 276) at_273 rfl rfl (by decide) rfl (fun c273 => ?_) (fun c273 => ?_)
            · omega
            · refine X.aload (q := 278) at_276 rfl rfl rfl ?_
              have H1 : own_hdr L 0 ta 1 2 (2 : Int32) (3 : Int32) := by have k2_ : (2 : Int32).toInt = 2 := rfl; have k3_ : (3 : Int32).toInt = 3 := rfl; unfold own_hdr; simp only [nL, Nat.reduceAdd, and_true]; refine ⟨?_, ?_, ?_, ?_, ?_, ?_, ?_, ?_⟩ <;> first | omega | rfl
              refine X.virtual (a := a293) (own_skip l Z a0 hw h294 n0 a293 a285 L (0 : Int32) (10 : Int32) 0 ta 1 2 (2 : Int32) (3 : Int32) rL (by rw [nL]; rfl) (by rw [nL]; decide) rfl H1 (5 : Int32) rfl (by decide) hsh294 Ba293'h294 Db Dp De AL'h294 gea293 (Nat.ne_of_gt la285_a293)) (hw _ (List.mem_of_getElem? (i := 37) rfl)) (hw _ (List.mem_of_getElem? (i := 38) rfl)) (hw _ (List.mem_of_getElem? (i := 40) rfl)) (hw _ (List.mem_of_getElem? (i := 39) rfl)) (hw _ (List.mem_of_getElem? (i := 3) rfl)) (hw _ (List.mem_of_getElem? (i := 41) rfl)) (by decide) Ba293'h294 own_pd9 (argsL := []) (rest := []) rfl rfl rfl (W := 0) (Nat.le_of_eq rfl) rfl (by decide) (by decide) (k' := 4) (n' := 20) rfl rfl (by decide) (by decide) at_278 (q := 281) rfl ?_
              rintro _ h295 ⟨rfl, Kh295c, S1b, S1p, S1e⟩
              have AL'h295 : OwA Z h295 a285 .byte (L.map Value.int) := OwA.keep AL'h294 Kh295c (ninS (Nat.ne_of_lt la285_a293) nin0)
              have Ba293'h295 : Exa Z h295 a293 "com/example/dircred/dircred/credential/DerReader" := Exa.keep Ba293'h294 Kh295c
              have hsh295 : n0 ≤ h295.size := Nat.le_trans hsh294 Kh295c.1
              show X.G h295 4 20 281 #[.val (.int x0), .val (.int x1), .val (.int x2), .val (.int x3), .val (.int x4), .val (.int m), .val (.int (3 : Int32)), .val (.int (3 : Int32)), .val (.ref a285), .val (.int (2 : Int32)), .val (.ref a293), .unset] []
              refine X.iload (q := 283) at_281 rfl rfl ?_
              refine X.iconst (q := 284) (2 : Int32) at_283 (by decide) rfl ?_
              refine X.icmp_ne (a := 2) (b := 2) (q' := 302) (q := 287) at_284 rfl rfl (by decide) rfl (fun c284 => ?_) (fun c284 => ?_)
              · omega
              · refine X.aload (q := 289) at_287 rfl rfl rfl ?_
                refine X.virtual (a := a293) (own_hm l Z a0 hw h295 n0 a293 (5 : Int32) (10 : Int32) hsh295 S1p S1e) (hw _ (List.mem_of_getElem? (i := 19) rfl)) (hw _ (List.mem_of_getElem? (i := 20) rfl)) (hw _ (List.mem_of_getElem? (i := 22) rfl)) (hw _ (List.mem_of_getElem? (i := 21) rfl)) (hw _ (List.mem_of_getElem? (i := 3) rfl)) (hw _ (List.mem_of_getElem? (i := 23) rfl)) (by decide) Ba293'h295 own_pd5 (argsL := []) (rest := []) rfl rfl rfl (W := 0) (Nat.le_of_eq rfl) rfl (by decide) (by decide) (k' := 4) (n' := 20) rfl rfl (by decide) (by decide) at_289 (q := 292) rfl ?_
                rintro _ _ ⟨zm, rfl, hzm, rfl⟩
                show X.G h295 4 20 292 #[.val (.int x0), .val (.int x1), .val (.int x2), .val (.int x3), .val (.int x4), .val (.int m), .val (.int (3 : Int32)), .val (.int (3 : Int32)), .val (.ref a285), .val (.int (2 : Int32)), .val (.ref a293), .unset] [(.int zm)]
                refine X.if_ne (q' := 297) (q := 295) at_292 rfl (by decide) rfl (fun c292 => ?_) (fun c292 => ?_)
                · refine X.aload (q := 299) at_297 rfl rfl rfl ?_
                  have H2 : own_hdr L 5 tb 6 7 (7 : Int32) (3 : Int32) := by have k3_ : (3 : Int32).toInt = 3 := rfl; have k7_ : (7 : Int32).toInt = 7 := rfl; unfold own_hdr; simp only [nL, Nat.reduceAdd, and_true]; refine ⟨?_, ?_, ?_, ?_, ?_, ?_, ?_, ?_⟩ <;> first | omega | rfl
                  refine X.virtual (a := a293) (own_skip l Z a0 hw h295 n0 a293 a285 L (5 : Int32) (10 : Int32) 5 tb 6 7 (7 : Int32) (3 : Int32) rL (by rw [nL]; rfl) (by rw [nL]; decide) rfl H2 (10 : Int32) rfl (by decide) hsh295 Ba293'h295 S1b S1p S1e AL'h295 gea293 (Nat.ne_of_gt la285_a293)) (hw _ (List.mem_of_getElem? (i := 37) rfl)) (hw _ (List.mem_of_getElem? (i := 38) rfl)) (hw _ (List.mem_of_getElem? (i := 40) rfl)) (hw _ (List.mem_of_getElem? (i := 39) rfl)) (hw _ (List.mem_of_getElem? (i := 3) rfl)) (hw _ (List.mem_of_getElem? (i := 41) rfl)) (by decide) Ba293'h295 own_pd9 (argsL := []) (rest := []) rfl rfl rfl (W := 0) (Nat.le_of_eq rfl) rfl (by decide) (by decide) (k' := 6) (n' := 27) rfl rfl (by decide) (by decide) at_299 (q := 302) rfl ?_
                  rintro _ h296 ⟨rfl, Kh296c, S2b, S2p, S2e⟩
                  have AL'h296 : OwA Z h296 a285 .byte (L.map Value.int) := OwA.keep AL'h295 Kh296c (ninS (Nat.ne_of_lt la285_a293) nin0)
                  have Ba293'h296 : Exa Z h296 a293 "com/example/dircred/dircred/credential/DerReader" := Exa.keep Ba293'h295 Kh296c
                  have hsh296 : n0 ≤ h296.size := Nat.le_trans hsh295 Kh296c.1
                  show X.G h296 6 27 302 #[.val (.int x0), .val (.int x1), .val (.int x2), .val (.int x3), .val (.int x4), .val (.int m), .val (.int (3 : Int32)), .val (.int (3 : Int32)), .val (.ref a285), .val (.int (2 : Int32)), .val (.ref a293), .unset] []
                  refine X.aload (q := 304) at_302 rfl rfl rfl ?_
                  refine X.virtual (a := a293) (own_hm l Z a0 hw h296 n0 a293 (10 : Int32) (10 : Int32) hsh296 S2p S2e) (hw _ (List.mem_of_getElem? (i := 19) rfl)) (hw _ (List.mem_of_getElem? (i := 20) rfl)) (hw _ (List.mem_of_getElem? (i := 22) rfl)) (hw _ (List.mem_of_getElem? (i := 21) rfl)) (hw _ (List.mem_of_getElem? (i := 3) rfl)) (hw _ (List.mem_of_getElem? (i := 23) rfl)) (by decide) Ba293'h296 own_pd5 (argsL := []) (rest := []) rfl rfl rfl (W := 0) (Nat.le_of_eq rfl) rfl (by decide) (by decide) (k' := 6) (n' := 27) rfl rfl (by decide) (by decide) at_304 (q := 307) rfl ?_
                  rintro _ _ ⟨zb, rfl, hzb, rfl⟩
                  show X.G h296 6 27 307 #[.val (.int x0), .val (.int x1), .val (.int x2), .val (.int x3), .val (.int x4), .val (.int m), .val (.int (3 : Int32)), .val (.int (3 : Int32)), .val (.ref a285), .val (.int (2 : Int32)), .val (.ref a293), .unset] [(.int zb)]
                  refine X.istore (q := 309) (Ls' := #[.val (.int x0), .val (.int x1), .val (.int x2), .val (.int x3), .val (.int x4), .val (.int m), .val (.int (3 : Int32)), .val (.int (3 : Int32)), .val (.ref a285), .val (.int (2 : Int32)), .val (.ref a293), .val (.int zb)]) at_307 rfl rfl ?_
                  refine X.aload (q := 311) at_309 rfl rfl rfl ?_
                  refine X.virtual (a := a293) (own_en l Z a0 hw h296 n0 a293 a285 (10 : Int32) (10 : Int32) (by decide) hsh296 Ba293'h296 S2b S2p S2e) (hw _ (List.mem_of_getElem? (i := 24) rfl)) (hw _ (List.mem_of_getElem? (i := 25) rfl)) (hw _ (List.mem_of_getElem? (i := 27) rfl)) (hw _ (List.mem_of_getElem? (i := 26) rfl)) (hw _ (List.mem_of_getElem? (i := 3) rfl)) (hw _ (List.mem_of_getElem? (i := 28) rfl)) (by decide) Ba293'h296 own_pd9 (argsL := []) (rest := []) rfl rfl rfl (W := 0) (Nat.le_of_eq rfl) rfl (by decide) (by decide) (k' := 6) (n' := 27) rfl rfl (by decide) (by decide) at_311 (q := 314) rfl ?_
                  rintro _ _ ⟨rfl, rfl⟩
                  show X.G h296 6 27 314 #[.val (.int x0), .val (.int x1), .val (.int x2), .val (.int x3), .val (.int x4), .val (.int m), .val (.int (3 : Int32)), .val (.int (3 : Int32)), .val (.ref a285), .val (.int (2 : Int32)), .val (.ref a293), .val (.int zb)] []
                  refine X.iload (q := 316) at_314 rfl rfl ?_
                  refine X.if_ne (q' := 331) (q := 319) at_316 rfl (by decide) rfl (fun c316 => ?_) (fun c316 => ?_)
                  · omega
                  · refine X.aload (q := 321) at_319 rfl rfl rfl ?_
                    refine X.virtual (a := a293) (own_hm l Z a0 hw h296 n0 a293 (10 : Int32) (10 : Int32) hsh296 S2p S2e) (hw _ (List.mem_of_getElem? (i := 19) rfl)) (hw _ (List.mem_of_getElem? (i := 20) rfl)) (hw _ (List.mem_of_getElem? (i := 22) rfl)) (hw _ (List.mem_of_getElem? (i := 21) rfl)) (hw _ (List.mem_of_getElem? (i := 3) rfl)) (hw _ (List.mem_of_getElem? (i := 23) rfl)) (by decide) Ba293'h296 own_pd5 (argsL := []) (rest := []) rfl rfl rfl (W := 0) (Nat.le_of_eq rfl) rfl (by decide) (by decide) (k' := 6) (n' := 27) rfl rfl (by decide) (by decide) at_321 (q := 324) rfl ?_
                    rintro _ _ ⟨zc, rfl, hzc, rfl⟩
                    show X.G h296 6 27 324 #[.val (.int x0), .val (.int x1), .val (.int x2), .val (.int x3), .val (.int x4), .val (.int m), .val (.int (3 : Int32)), .val (.int (3 : Int32)), .val (.ref a285), .val (.int (2 : Int32)), .val (.ref a293), .val (.int zb)] [(.int zc)]
                    refine X.if_ne (q' := 331) (q := 327) at_324 rfl (by decide) rfl (fun c324 => ?_) (fun c324 => ?_)
                    · omega
                    · refine X.iconst (q := 328) (1 : Int32) at_327 (by decide) rfl ?_
                      refine X.goto (q' := 332) at_328 (by decide) ?_
                      refine X.retN (t := .boolean) (z' := (1 : Int32)) at_332 rfl (by simp) (by decide) (by decide) (by decide) ?_
                      rfl
                · omega
    · have hsp : l1 = (0 : Int32) ∨ l1 = (1 : Int32) ∨ l1 = (2 : Int32) ∨ l1 = (3 : Int32) := (by have q_ : l1.toInt = 0 ∨ l1.toInt = 1 ∨ l1.toInt = 2 ∨ l1.toInt = 3 := (by omega); exact (Or.imp (fun e_ => Int32.toInt_inj.mp e_) (Or.imp (fun e_ => Int32.toInt_inj.mp e_) (Or.imp (fun e_ => Int32.toInt_inj.mp e_) (fun e_ => Int32.toInt_inj.mp e_)))) q_)
      rcases hsp with rfl | rfl | rfl | rfl
      · refine X.iconst (q := 40) (2 : Int32) at_39 (by decide) rfl ?_
        refine X.iload (q := 42) at_40 rfl rfl ?_
        refine X.iadd (q := 43) at_42 rfl ?_
        refine X.foldI (v := (2 : Int32)) (by decide) ?_
        refine X.newP (q := 45) (ty := .byte) (N := 2) (cap := 2) (k' := 1) (n' := 2) (hw _ (List.mem_of_getElem? (i := 0) rfl)) at_43 rfl rfl (Nat.le_refl _) (by decide) rfl rfl (by decide) (by decide) rfl (fun h297 a298 ga298 Eh297 Aa298 => ?_)
        have gea298 : n0 ≤ a298 := by rw [ga298]; exact hn0
        have hsh297 : n0 ≤ h297.size := Nat.le_trans hn0 Eh297.1
        have Aa298 : OwA Z h297 a298 .byte [(.int (0 : Int32)), (.int (0 : Int32))] := Aa298
        refine X.astore (q := 47) (Ls' := #[.val (.int x0), .val (.int x1), .val (.int x2), .val (.int x3), .val (.int x4), .val (.int m), .val (.int (0 : Int32)), .val (.int l2), .val (.ref a298), .unset, .unset, .unset]) at_45 rfl rfl rfl ?_
        refine X.aload (q := 49) at_47 rfl rfl rfl ?_
        refine X.iconst (q := 50) (0 : Int32) at_49 (by decide) rfl ?_
        refine X.iloadN (q := 51) at_50 rfl rfl ?_
        refine X.iload (q := 53) at_51 rfl rfl ?_
        refine X.callS (own_tag l Z a0 hw h297 n0 x1 (0 : Int32)) (hw _ (List.mem_of_getElem? (i := 30) rfl)) (hw _ (List.mem_of_getElem? (i := 31) rfl)) (hw _ (List.mem_of_getElem? (i := 32) rfl)) (hw _ (List.mem_of_getElem? (i := 33) rfl)) (by decide) own_pd6 (argsL := [(.int x1), (.int (0 : Int32))]) (rest := [(.int (0 : Int32)), (.ref a298)]) rfl rfl rfl (W := 2) (Nat.le_of_eq rfl) rfl (by decide) (by decide) (k' := 1) (n' := 2) rfl rfl (by decide) (by decide) at_53 (q := 56) rfl ?_
        rintro _ _ ⟨ta, rfl, hta, rfl⟩
        show X.G h297 1 2 56 #[.val (.int x0), .val (.int x1), .val (.int x2), .val (.int x3), .val (.int x4), .val (.int m), .val (.int (0 : Int32)), .val (.int l2), .val (.ref a298), .unset, .unset, .unset] [(.int ta), (.int (0 : Int32)), (.ref a298)]
        refine X.i2b (q := 57) at_56 rfl ?_
        refine X.bastore (q := 58) (j := 0) Aa298 rfl (by simp) gea298 at_57 rfl (fun h299 Wh299 Ah299 => ?_)
        have hsh299 : n0 ≤ h299.size := by rw [Wr.size Wh299]; exact hsh297
        have Ah299_ : OwA Z h299 a298 .byte [(.int (nar .byte ta.toInt8.toInt32)), (.int (0 : Int32))] := Ah299
        refine X.aload (q := 60) at_58 rfl rfl rfl ?_
        refine X.iconst (q := 61) (1 : Int32) at_60 (by decide) rfl ?_
        refine X.iload (q := 63) at_61 rfl rfl ?_
        refine X.i2b (q := 64) at_63 rfl ?_
        refine X.bastore (q := 65) (j := 1) Ah299_ rfl (by simp) gea298 at_64 rfl (fun h300 Wh300 Ah300 => ?_)
        have hsh300 : n0 ≤ h300.size := by rw [Wr.size Wh300]; exact hsh299
        have Ah300_ : OwA Z h300 a298 .byte [(.int (nar .byte ta.toInt8.toInt32)), (.int (nar .byte (0 : Int32).toInt8.toInt32))] := Ah300
        refine X.aload (q := 67) at_65 rfl rfl rfl ?_
        refine X.iconst (q := 68) (2 : Int32) at_67 (by decide) rfl ?_
        refine X.iload (q := 70) at_68 rfl rfl ?_
        refine X.iload (q := 72) at_70 rfl rfl ?_
        refine X.callS (own_put0 l Z a0 hw h300 n0 a298 (2 : Int32) x4 2 _ rfl (by simp) (by decide) hsh300 Ah300_ gea298) (hw _ (List.mem_of_getElem? (i := 34) rfl)) (hw _ (List.mem_of_getElem? (i := 35) rfl)) (hw _ (List.mem_of_getElem? (i := 32) rfl)) (hw _ (List.mem_of_getElem? (i := 36) rfl)) (by decide) own_pd7 (argsL := [(.ref a298), (.int (2 : Int32)), (.int (0 : Int32)), (.int x4)]) (rest := []) rfl rfl rfl (W := 0) (Nat.le_of_eq rfl) rfl (by decide) (by decide) (k' := 1) (n' := 2) rfl rfl (by decide) (by decide) at_72 (q := 75) rfl ?_
        rintro _ h301 ⟨rfl, Kh301c, Gu⟩
        have hsh301 : n0 ≤ h301.size := Nat.le_trans hsh300 Kh301c.1
        show X.G h301 1 2 75 #[.val (.int x0), .val (.int x1), .val (.int x2), .val (.int x3), .val (.int x4), .val (.int m), .val (.int (0 : Int32)), .val (.int l2), .val (.ref a298), .unset, .unset, .unset] []
        have Gu : OwA Z h301 a298 .byte [(.int (nar .byte ta.toInt8.toInt32)), (.int (nar .byte (0 : Int32).toInt8.toInt32))] := Gu
        refine X.iconst (q := 76) (1 : Int32) at_75 (by decide) rfl ?_
        refine X.istore (q := 78) (Ls' := #[.val (.int x0), .val (.int x1), .val (.int x2), .val (.int x3), .val (.int x4), .val (.int m), .val (.int (0 : Int32)), .val (.int l2), .val (.ref a298), .val (.int (1 : Int32)), .unset, .unset]) at_76 rfl rfl ?_
        refine X.goto (q' := 259) at_78 (by decide) ?_
        refine X.newO (q := 262) (k' := 2) (n' := 5) (hw _ (List.mem_of_getElem? (i := 1) rfl)) (hw _ (List.mem_of_getElem? (i := 2) rfl)) (hw _ (List.mem_of_getElem? (i := 3) rfl)) at_259 rfl rfl (by decide) (by decide) rfl (fun h302 a303 ga303 Eh302 Ba303 Da303 => ?_)
        have la298_a303 : a298 < a303 := by have := Gu.lt; rw [← ga303] at this; exact this
        have Gu'h302 : OwA Z h302 a298 .byte [(.int (nar .byte ta.toInt8.toInt32)), (.int (nar .byte (0 : Int32).toInt8.toInt32))] := OwA.ext (E := Eh302) Gu
        have gea303 : n0 ≤ a303 := by rw [ga303]; exact hsh301
        have hsh302 : n0 ≤ h302.size := Nat.le_trans hsh301 Eh302.1
        have Fa303_bytes : Fld Z h302 a303 "com/example/dircred/dircred/credential/DerReader" "bytes" "[B" .null := Da303 (Or.inr (hw _ (List.mem_of_getElem? (i := 14) rfl))) (ty := (.array .byte)) (by decide)
        have Fa303_position : Fld Z h302 a303 "com/example/dircred/dircred/credential/DerReader" "position" "I" (.int (0 : Int32)) := Da303 (Or.inl (hw _ (List.mem_of_getElem? (i := 16) rfl))) (ty := .int) (by decide)
        have Fa303_end : Fld Z h302 a303 "com/example/dircred/dircred/credential/DerReader" "end" "I" (.int (0 : Int32)) := Da303 (Or.inr (hw _ (List.mem_of_getElem? (i := 18) rfl))) (ty := .int) (by decide)
        refine X.dup (q := 263) at_262 rfl rfl ?_
        refine X.aload (q := 265) at_263 rfl rfl rfl ?_
        obtain ⟨L, hL⟩ : ∃ L_ : List Int32, L_ = [(nar .byte ta.toInt8.toInt32), (nar .byte (0 : Int32).toInt8.toInt32)] := ⟨_, rfl⟩
        have AL : OwA Z h302 a298 .byte (L.map Value.int) := by rw [hL]; exact Gu'h302
        have nL : L.length = 2 := by rw [hL]; rfl
        have gL0 : (L.getD 0 0).toInt = (ta.toInt + 128) % 256 - 128 := by rw [hL]; exact own_nbt _
        have gL1 : (L.getD 1 0).toInt = ((0 : Int32).toInt + 128) % 256 - 128 := by rw [hL]; exact own_nbt _
        have rL : ∀ x ∈ L, -128 ≤ x.toInt ∧ x.toInt ≤ 127 := by
          intro x hx; rw [hL] at hx
          simp only [List.mem_cons, List.not_mem_nil, or_false] at hx
          rcases hx with rfl | rfl
          · rw [own_nbt]; omega
          · rw [own_nbt]; omega
        clear hL
        refine X.special (a := a303) (own_i1 l Z a0 hw h302 n0 a303 a298 L (2 : Int32) (by rw [nL]; rfl) hsh302 Ba303 Fa303_bytes Fa303_position Fa303_end AL gea303 (Nat.ne_of_gt la298_a303)) rfl (hw _ (List.mem_of_getElem? (i := 4) rfl)) (hw _ (List.mem_of_getElem? (i := 5) rfl)) (hw _ (List.mem_of_getElem? (i := 3) rfl)) (hw _ (List.mem_of_getElem? (i := 6) rfl)) (by decide) own_pd8 (argsL := [(.ref a298)]) (rest := [(.ref a303)]) rfl rfl rfl (W := 1) (Nat.le_of_eq rfl) rfl (by decide) (by decide) (k' := 2) (n' := 5) rfl rfl (by decide) (by decide) at_265 (q := 268) rfl ?_
        rintro _ h304 ⟨rfl, Kh304c, Db, Dp, De⟩
        have AL'h304 : OwA Z h304 a298 .byte (L.map Value.int) := OwA.keep AL Kh304c (ninS (Nat.ne_of_lt la298_a303) nin0)
        have Ba303'h304 : Exa Z h304 a303 "com/example/dircred/dircred/credential/DerReader" := Exa.keep Ba303 Kh304c
        have hsh304 : n0 ≤ h304.size := Nat.le_trans hsh302 Kh304c.1
        show X.G h304 2 5 268 #[.val (.int x0), .val (.int x1), .val (.int x2), .val (.int x3), .val (.int x4), .val (.int m), .val (.int (0 : Int32)), .val (.int l2), .val (.ref a298), .val (.int (1 : Int32)), .unset, .unset] [(.ref a303)]
        refine X.astore (q := 270) (Ls' := #[.val (.int x0), .val (.int x1), .val (.int x2), .val (.int x3), .val (.int x4), .val (.int m), .val (.int (0 : Int32)), .val (.int l2), .val (.ref a298), .val (.int (1 : Int32)), .val (.ref a303), .unset]) at_268 rfl rfl rfl ?_
        refine X.iload (q := 272) at_270 rfl rfl ?_
        refine X.iconst (q := 273) (1 : Int32) at_272 (by decide) rfl ?_
        refine X.icmp_lt (a := 1) (b := 1) (q' := 281) (q := 276) at_273 rfl rfl (by decide) rfl (fun c273 => ?_) (fun c273 => ?_)
        · omega
        · refine X.aload (q := 278) at_276 rfl rfl rfl ?_
          have H1 : own_hdr L 0 ta 1 2 (2 : Int32) (0 : Int32) := by have k0_ : (0 : Int32).toInt = 0 := rfl; have k2_ : (2 : Int32).toInt = 2 := rfl; unfold own_hdr; simp only [nL, Nat.reduceAdd, and_true]; refine ⟨?_, ?_, ?_, ?_, ?_, ?_, ?_, ?_⟩ <;> first | omega | rfl
          refine X.virtual (a := a303) (own_skip l Z a0 hw h304 n0 a303 a298 L (0 : Int32) (2 : Int32) 0 ta 1 2 (2 : Int32) (0 : Int32) rL (by rw [nL]; rfl) (by rw [nL]; decide) rfl H1 (2 : Int32) rfl (by decide) hsh304 Ba303'h304 Db Dp De AL'h304 gea303 (Nat.ne_of_gt la298_a303)) (hw _ (List.mem_of_getElem? (i := 37) rfl)) (hw _ (List.mem_of_getElem? (i := 38) rfl)) (hw _ (List.mem_of_getElem? (i := 40) rfl)) (hw _ (List.mem_of_getElem? (i := 39) rfl)) (hw _ (List.mem_of_getElem? (i := 3) rfl)) (hw _ (List.mem_of_getElem? (i := 41) rfl)) (by decide) Ba303'h304 own_pd9 (argsL := []) (rest := []) rfl rfl rfl (W := 0) (Nat.le_of_eq rfl) rfl (by decide) (by decide) (k' := 4) (n' := 12) rfl rfl (by decide) (by decide) at_278 (q := 281) rfl ?_
          rintro _ h305 ⟨rfl, Kh305c, S1b, S1p, S1e⟩
          have AL'h305 : OwA Z h305 a298 .byte (L.map Value.int) := OwA.keep AL'h304 Kh305c (ninS (Nat.ne_of_lt la298_a303) nin0)
          have Ba303'h305 : Exa Z h305 a303 "com/example/dircred/dircred/credential/DerReader" := Exa.keep Ba303'h304 Kh305c
          have hsh305 : n0 ≤ h305.size := Nat.le_trans hsh304 Kh305c.1
          show X.G h305 4 12 281 #[.val (.int x0), .val (.int x1), .val (.int x2), .val (.int x3), .val (.int x4), .val (.int m), .val (.int (0 : Int32)), .val (.int l2), .val (.ref a298), .val (.int (1 : Int32)), .val (.ref a303), .unset] []
          refine X.iload (q := 283) at_281 rfl rfl ?_
          refine X.iconst (q := 284) (2 : Int32) at_283 (by decide) rfl ?_
          refine X.icmp_ne (a := 1) (b := 2) (q' := 302) (q := 287) at_284 rfl rfl (by decide) rfl (fun c284 => ?_) (fun c284 => ?_)
          · refine X.aload (q := 304) at_302 rfl rfl rfl ?_
            refine X.virtual (a := a303) (own_hm l Z a0 hw h305 n0 a303 (2 : Int32) (2 : Int32) hsh305 S1p S1e) (hw _ (List.mem_of_getElem? (i := 19) rfl)) (hw _ (List.mem_of_getElem? (i := 20) rfl)) (hw _ (List.mem_of_getElem? (i := 22) rfl)) (hw _ (List.mem_of_getElem? (i := 21) rfl)) (hw _ (List.mem_of_getElem? (i := 3) rfl)) (hw _ (List.mem_of_getElem? (i := 23) rfl)) (by decide) Ba303'h305 own_pd5 (argsL := []) (rest := []) rfl rfl rfl (W := 0) (Nat.le_of_eq rfl) rfl (by decide) (by decide) (k' := 4) (n' := 12) rfl rfl (by decide) (by decide) at_304 (q := 307) rfl ?_
            rintro _ _ ⟨zb, rfl, hzb, rfl⟩
            show X.G h305 4 12 307 #[.val (.int x0), .val (.int x1), .val (.int x2), .val (.int x3), .val (.int x4), .val (.int m), .val (.int (0 : Int32)), .val (.int l2), .val (.ref a298), .val (.int (1 : Int32)), .val (.ref a303), .unset] [(.int zb)]
            refine X.istore (q := 309) (Ls' := #[.val (.int x0), .val (.int x1), .val (.int x2), .val (.int x3), .val (.int x4), .val (.int m), .val (.int (0 : Int32)), .val (.int l2), .val (.ref a298), .val (.int (1 : Int32)), .val (.ref a303), .val (.int zb)]) at_307 rfl rfl ?_
            refine X.aload (q := 311) at_309 rfl rfl rfl ?_
            refine X.virtual (a := a303) (own_en l Z a0 hw h305 n0 a303 a298 (2 : Int32) (2 : Int32) (by decide) hsh305 Ba303'h305 S1b S1p S1e) (hw _ (List.mem_of_getElem? (i := 24) rfl)) (hw _ (List.mem_of_getElem? (i := 25) rfl)) (hw _ (List.mem_of_getElem? (i := 27) rfl)) (hw _ (List.mem_of_getElem? (i := 26) rfl)) (hw _ (List.mem_of_getElem? (i := 3) rfl)) (hw _ (List.mem_of_getElem? (i := 28) rfl)) (by decide) Ba303'h305 own_pd9 (argsL := []) (rest := []) rfl rfl rfl (W := 0) (Nat.le_of_eq rfl) rfl (by decide) (by decide) (k' := 4) (n' := 12) rfl rfl (by decide) (by decide) at_311 (q := 314) rfl ?_
            rintro _ _ ⟨rfl, rfl⟩
            show X.G h305 4 12 314 #[.val (.int x0), .val (.int x1), .val (.int x2), .val (.int x3), .val (.int x4), .val (.int m), .val (.int (0 : Int32)), .val (.int l2), .val (.ref a298), .val (.int (1 : Int32)), .val (.ref a303), .val (.int zb)] []
            refine X.iload (q := 316) at_314 rfl rfl ?_
            refine X.if_ne (q' := 331) (q := 319) at_316 rfl (by decide) rfl (fun c316 => ?_) (fun c316 => ?_)
            · omega
            · refine X.aload (q := 321) at_319 rfl rfl rfl ?_
              refine X.virtual (a := a303) (own_hm l Z a0 hw h305 n0 a303 (2 : Int32) (2 : Int32) hsh305 S1p S1e) (hw _ (List.mem_of_getElem? (i := 19) rfl)) (hw _ (List.mem_of_getElem? (i := 20) rfl)) (hw _ (List.mem_of_getElem? (i := 22) rfl)) (hw _ (List.mem_of_getElem? (i := 21) rfl)) (hw _ (List.mem_of_getElem? (i := 3) rfl)) (hw _ (List.mem_of_getElem? (i := 23) rfl)) (by decide) Ba303'h305 own_pd5 (argsL := []) (rest := []) rfl rfl rfl (W := 0) (Nat.le_of_eq rfl) rfl (by decide) (by decide) (k' := 4) (n' := 12) rfl rfl (by decide) (by decide) at_321 (q := 324) rfl ?_
              rintro _ _ ⟨zc, rfl, hzc, rfl⟩
              show X.G h305 4 12 324 #[.val (.int x0), .val (.int x1), .val (.int x2), .val (.int x3), .val (.int x4), .val (.int m), .val (.int (0 : Int32)), .val (.int l2), .val (.ref a298), .val (.int (1 : Int32)), .val (.ref a303), .val (.int zb)] [(.int zc)]
              refine X.if_ne (q' := 331) (q := 327) at_324 rfl (by decide) rfl (fun c324 => ?_) (fun c324 => ?_)
              · omega
              · refine X.iconst (q := 328) (1 : Int32) at_327 (by decide) rfl ?_
                refine X.goto (q' := 332) at_328 (by decide) ?_
                refine X.retN (t := .boolean) (z' := (1 : Int32)) at_332 rfl (by simp) (by decide) (by decide) (by decide) ?_
                rfl
          · omega
      · refine X.iconst (q := 40) (2 : Int32) at_39 (by decide) rfl ?_
        refine X.iload (q := 42) at_40 rfl rfl ?_
        refine X.iadd (q := 43) at_42 rfl ?_
        refine X.foldI (v := (3 : Int32)) (by decide) ?_
        refine X.newP (q := 45) (ty := .byte) (N := 3) (cap := 3) (k' := 1) (n' := 3) (hw _ (List.mem_of_getElem? (i := 0) rfl)) at_43 rfl rfl (Nat.le_refl _) (by decide) rfl rfl (by decide) (by decide) rfl (fun h306 a307 ga307 Eh306 Aa307 => ?_)
        have gea307 : n0 ≤ a307 := by rw [ga307]; exact hn0
        have hsh306 : n0 ≤ h306.size := Nat.le_trans hn0 Eh306.1
        have Aa307 : OwA Z h306 a307 .byte [(.int (0 : Int32)), (.int (0 : Int32)), (.int (0 : Int32))] := Aa307
        refine X.astore (q := 47) (Ls' := #[.val (.int x0), .val (.int x1), .val (.int x2), .val (.int x3), .val (.int x4), .val (.int m), .val (.int (1 : Int32)), .val (.int l2), .val (.ref a307), .unset, .unset, .unset]) at_45 rfl rfl rfl ?_
        refine X.aload (q := 49) at_47 rfl rfl rfl ?_
        refine X.iconst (q := 50) (0 : Int32) at_49 (by decide) rfl ?_
        refine X.iloadN (q := 51) at_50 rfl rfl ?_
        refine X.iload (q := 53) at_51 rfl rfl ?_
        refine X.callS (own_tag l Z a0 hw h306 n0 x1 (1 : Int32)) (hw _ (List.mem_of_getElem? (i := 30) rfl)) (hw _ (List.mem_of_getElem? (i := 31) rfl)) (hw _ (List.mem_of_getElem? (i := 32) rfl)) (hw _ (List.mem_of_getElem? (i := 33) rfl)) (by decide) own_pd6 (argsL := [(.int x1), (.int (1 : Int32))]) (rest := [(.int (0 : Int32)), (.ref a307)]) rfl rfl rfl (W := 2) (Nat.le_of_eq rfl) rfl (by decide) (by decide) (k' := 1) (n' := 3) rfl rfl (by decide) (by decide) at_53 (q := 56) rfl ?_
        rintro _ _ ⟨ta, rfl, hta, rfl⟩
        show X.G h306 1 3 56 #[.val (.int x0), .val (.int x1), .val (.int x2), .val (.int x3), .val (.int x4), .val (.int m), .val (.int (1 : Int32)), .val (.int l2), .val (.ref a307), .unset, .unset, .unset] [(.int ta), (.int (0 : Int32)), (.ref a307)]
        refine X.i2b (q := 57) at_56 rfl ?_
        refine X.bastore (q := 58) (j := 0) Aa307 rfl (by simp) gea307 at_57 rfl (fun h308 Wh308 Ah308 => ?_)
        have hsh308 : n0 ≤ h308.size := by rw [Wr.size Wh308]; exact hsh306
        have Ah308_ : OwA Z h308 a307 .byte [(.int (nar .byte ta.toInt8.toInt32)), (.int (0 : Int32)), (.int (0 : Int32))] := Ah308
        refine X.aload (q := 60) at_58 rfl rfl rfl ?_
        refine X.iconst (q := 61) (1 : Int32) at_60 (by decide) rfl ?_
        refine X.iload (q := 63) at_61 rfl rfl ?_
        refine X.i2b (q := 64) at_63 rfl ?_
        refine X.bastore (q := 65) (j := 1) Ah308_ rfl (by simp) gea307 at_64 rfl (fun h309 Wh309 Ah309 => ?_)
        have hsh309 : n0 ≤ h309.size := by rw [Wr.size Wh309]; exact hsh308
        have Ah309_ : OwA Z h309 a307 .byte [(.int (nar .byte ta.toInt8.toInt32)), (.int (nar .byte (1 : Int32).toInt8.toInt32)), (.int (0 : Int32))] := Ah309
        refine X.aload (q := 67) at_65 rfl rfl rfl ?_
        refine X.iconst (q := 68) (2 : Int32) at_67 (by decide) rfl ?_
        refine X.iload (q := 70) at_68 rfl rfl ?_
        refine X.iload (q := 72) at_70 rfl rfl ?_
        refine X.callS (own_put1 l Z a0 hw h309 n0 a307 (2 : Int32) x4 2 _ rfl (by simp) (by decide) hsh309 Ah309_ gea307) (hw _ (List.mem_of_getElem? (i := 34) rfl)) (hw _ (List.mem_of_getElem? (i := 35) rfl)) (hw _ (List.mem_of_getElem? (i := 32) rfl)) (hw _ (List.mem_of_getElem? (i := 36) rfl)) (by decide) own_pd7 (argsL := [(.ref a307), (.int (2 : Int32)), (.int (1 : Int32)), (.int x4)]) (rest := []) rfl rfl rfl (W := 0) (Nat.le_of_eq rfl) rfl (by decide) (by decide) (k' := 1) (n' := 3) rfl rfl (by decide) (by decide) at_72 (q := 75) rfl ?_
        rintro _ h310 ⟨u0, rfl, Kh310c, Gu⟩
        have hsh310 : n0 ≤ h310.size := Nat.le_trans hsh309 Kh310c.1
        show X.G h310 1 3 75 #[.val (.int x0), .val (.int x1), .val (.int x2), .val (.int x3), .val (.int x4), .val (.int m), .val (.int (1 : Int32)), .val (.int l2), .val (.ref a307), .unset, .unset, .unset] []
        have Gu : OwA Z h310 a307 .byte [(.int (nar .byte ta.toInt8.toInt32)), (.int (nar .byte (1 : Int32).toInt8.toInt32)), (.int (nar .byte u0.toInt8.toInt32))] := Gu
        refine X.iconst (q := 76) (1 : Int32) at_75 (by decide) rfl ?_
        refine X.istore (q := 78) (Ls' := #[.val (.int x0), .val (.int x1), .val (.int x2), .val (.int x3), .val (.int x4), .val (.int m), .val (.int (1 : Int32)), .val (.int l2), .val (.ref a307), .val (.int (1 : Int32)), .unset, .unset]) at_76 rfl rfl ?_
        refine X.goto (q' := 259) at_78 (by decide) ?_
        refine X.newO (q := 262) (k' := 2) (n' := 6) (hw _ (List.mem_of_getElem? (i := 1) rfl)) (hw _ (List.mem_of_getElem? (i := 2) rfl)) (hw _ (List.mem_of_getElem? (i := 3) rfl)) at_259 rfl rfl (by decide) (by decide) rfl (fun h311 a312 ga312 Eh311 Ba312 Da312 => ?_)
        have la307_a312 : a307 < a312 := by have := Gu.lt; rw [← ga312] at this; exact this
        have Gu'h311 : OwA Z h311 a307 .byte [(.int (nar .byte ta.toInt8.toInt32)), (.int (nar .byte (1 : Int32).toInt8.toInt32)), (.int (nar .byte u0.toInt8.toInt32))] := OwA.ext (E := Eh311) Gu
        have gea312 : n0 ≤ a312 := by rw [ga312]; exact hsh310
        have hsh311 : n0 ≤ h311.size := Nat.le_trans hsh310 Eh311.1
        have Fa312_bytes : Fld Z h311 a312 "com/example/dircred/dircred/credential/DerReader" "bytes" "[B" .null := Da312 (Or.inr (hw _ (List.mem_of_getElem? (i := 14) rfl))) (ty := (.array .byte)) (by decide)
        have Fa312_position : Fld Z h311 a312 "com/example/dircred/dircred/credential/DerReader" "position" "I" (.int (0 : Int32)) := Da312 (Or.inl (hw _ (List.mem_of_getElem? (i := 16) rfl))) (ty := .int) (by decide)
        have Fa312_end : Fld Z h311 a312 "com/example/dircred/dircred/credential/DerReader" "end" "I" (.int (0 : Int32)) := Da312 (Or.inr (hw _ (List.mem_of_getElem? (i := 18) rfl))) (ty := .int) (by decide)
        refine X.dup (q := 263) at_262 rfl rfl ?_
        refine X.aload (q := 265) at_263 rfl rfl rfl ?_
        obtain ⟨L, hL⟩ : ∃ L_ : List Int32, L_ = [(nar .byte ta.toInt8.toInt32), (nar .byte (1 : Int32).toInt8.toInt32), (nar .byte u0.toInt8.toInt32)] := ⟨_, rfl⟩
        have AL : OwA Z h311 a307 .byte (L.map Value.int) := by rw [hL]; exact Gu'h311
        have nL : L.length = 3 := by rw [hL]; rfl
        have gL0 : (L.getD 0 0).toInt = (ta.toInt + 128) % 256 - 128 := by rw [hL]; exact own_nbt _
        have gL1 : (L.getD 1 0).toInt = ((1 : Int32).toInt + 128) % 256 - 128 := by rw [hL]; exact own_nbt _
        have gL2 : (L.getD 2 0).toInt = (u0.toInt + 128) % 256 - 128 := by rw [hL]; exact own_nbt _
        have rL : ∀ x ∈ L, -128 ≤ x.toInt ∧ x.toInt ≤ 127 := by
          intro x hx; rw [hL] at hx
          simp only [List.mem_cons, List.not_mem_nil, or_false] at hx
          rcases hx with rfl | rfl | rfl
          · rw [own_nbt]; omega
          · rw [own_nbt]; omega
          · rw [own_nbt]; omega
        clear hL
        refine X.special (a := a312) (own_i1 l Z a0 hw h311 n0 a312 a307 L (3 : Int32) (by rw [nL]; rfl) hsh311 Ba312 Fa312_bytes Fa312_position Fa312_end AL gea312 (Nat.ne_of_gt la307_a312)) rfl (hw _ (List.mem_of_getElem? (i := 4) rfl)) (hw _ (List.mem_of_getElem? (i := 5) rfl)) (hw _ (List.mem_of_getElem? (i := 3) rfl)) (hw _ (List.mem_of_getElem? (i := 6) rfl)) (by decide) own_pd8 (argsL := [(.ref a307)]) (rest := [(.ref a312)]) rfl rfl rfl (W := 1) (Nat.le_of_eq rfl) rfl (by decide) (by decide) (k' := 2) (n' := 6) rfl rfl (by decide) (by decide) at_265 (q := 268) rfl ?_
        rintro _ h313 ⟨rfl, Kh313c, Db, Dp, De⟩
        have AL'h313 : OwA Z h313 a307 .byte (L.map Value.int) := OwA.keep AL Kh313c (ninS (Nat.ne_of_lt la307_a312) nin0)
        have Ba312'h313 : Exa Z h313 a312 "com/example/dircred/dircred/credential/DerReader" := Exa.keep Ba312 Kh313c
        have hsh313 : n0 ≤ h313.size := Nat.le_trans hsh311 Kh313c.1
        show X.G h313 2 6 268 #[.val (.int x0), .val (.int x1), .val (.int x2), .val (.int x3), .val (.int x4), .val (.int m), .val (.int (1 : Int32)), .val (.int l2), .val (.ref a307), .val (.int (1 : Int32)), .unset, .unset] [(.ref a312)]
        refine X.astore (q := 270) (Ls' := #[.val (.int x0), .val (.int x1), .val (.int x2), .val (.int x3), .val (.int x4), .val (.int m), .val (.int (1 : Int32)), .val (.int l2), .val (.ref a307), .val (.int (1 : Int32)), .val (.ref a312), .unset]) at_268 rfl rfl rfl ?_
        refine X.iload (q := 272) at_270 rfl rfl ?_
        refine X.iconst (q := 273) (1 : Int32) at_272 (by decide) rfl ?_
        refine X.icmp_lt (a := 1) (b := 1) (q' := 281) (q := 276) at_273 rfl rfl (by decide) rfl (fun c273 => ?_) (fun c273 => ?_)
        · omega
        · refine X.aload (q := 278) at_276 rfl rfl rfl ?_
          have H1 : own_hdr L 0 ta 1 2 (2 : Int32) (1 : Int32) := by have k1_ : (1 : Int32).toInt = 1 := rfl; have k2_ : (2 : Int32).toInt = 2 := rfl; unfold own_hdr; simp only [nL, Nat.reduceAdd, and_true]; refine ⟨?_, ?_, ?_, ?_, ?_, ?_, ?_, ?_⟩ <;> first | omega | rfl
          refine X.virtual (a := a312) (own_skip l Z a0 hw h313 n0 a312 a307 L (0 : Int32) (3 : Int32) 0 ta 1 2 (2 : Int32) (1 : Int32) rL (by rw [nL]; rfl) (by rw [nL]; decide) rfl H1 (3 : Int32) rfl (by decide) hsh313 Ba312'h313 Db Dp De AL'h313 gea312 (Nat.ne_of_gt la307_a312)) (hw _ (List.mem_of_getElem? (i := 37) rfl)) (hw _ (List.mem_of_getElem? (i := 38) rfl)) (hw _ (List.mem_of_getElem? (i := 40) rfl)) (hw _ (List.mem_of_getElem? (i := 39) rfl)) (hw _ (List.mem_of_getElem? (i := 3) rfl)) (hw _ (List.mem_of_getElem? (i := 41) rfl)) (by decide) Ba312'h313 own_pd9 (argsL := []) (rest := []) rfl rfl rfl (W := 0) (Nat.le_of_eq rfl) rfl (by decide) (by decide) (k' := 4) (n' := 13) rfl rfl (by decide) (by decide) at_278 (q := 281) rfl ?_
          rintro _ h314 ⟨rfl, Kh314c, S1b, S1p, S1e⟩
          have AL'h314 : OwA Z h314 a307 .byte (L.map Value.int) := OwA.keep AL'h313 Kh314c (ninS (Nat.ne_of_lt la307_a312) nin0)
          have Ba312'h314 : Exa Z h314 a312 "com/example/dircred/dircred/credential/DerReader" := Exa.keep Ba312'h313 Kh314c
          have hsh314 : n0 ≤ h314.size := Nat.le_trans hsh313 Kh314c.1
          show X.G h314 4 13 281 #[.val (.int x0), .val (.int x1), .val (.int x2), .val (.int x3), .val (.int x4), .val (.int m), .val (.int (1 : Int32)), .val (.int l2), .val (.ref a307), .val (.int (1 : Int32)), .val (.ref a312), .unset] []
          refine X.iload (q := 283) at_281 rfl rfl ?_
          refine X.iconst (q := 284) (2 : Int32) at_283 (by decide) rfl ?_
          refine X.icmp_ne (a := 1) (b := 2) (q' := 302) (q := 287) at_284 rfl rfl (by decide) rfl (fun c284 => ?_) (fun c284 => ?_)
          · refine X.aload (q := 304) at_302 rfl rfl rfl ?_
            refine X.virtual (a := a312) (own_hm l Z a0 hw h314 n0 a312 (3 : Int32) (3 : Int32) hsh314 S1p S1e) (hw _ (List.mem_of_getElem? (i := 19) rfl)) (hw _ (List.mem_of_getElem? (i := 20) rfl)) (hw _ (List.mem_of_getElem? (i := 22) rfl)) (hw _ (List.mem_of_getElem? (i := 21) rfl)) (hw _ (List.mem_of_getElem? (i := 3) rfl)) (hw _ (List.mem_of_getElem? (i := 23) rfl)) (by decide) Ba312'h314 own_pd5 (argsL := []) (rest := []) rfl rfl rfl (W := 0) (Nat.le_of_eq rfl) rfl (by decide) (by decide) (k' := 4) (n' := 13) rfl rfl (by decide) (by decide) at_304 (q := 307) rfl ?_
            rintro _ _ ⟨zb, rfl, hzb, rfl⟩
            show X.G h314 4 13 307 #[.val (.int x0), .val (.int x1), .val (.int x2), .val (.int x3), .val (.int x4), .val (.int m), .val (.int (1 : Int32)), .val (.int l2), .val (.ref a307), .val (.int (1 : Int32)), .val (.ref a312), .unset] [(.int zb)]
            refine X.istore (q := 309) (Ls' := #[.val (.int x0), .val (.int x1), .val (.int x2), .val (.int x3), .val (.int x4), .val (.int m), .val (.int (1 : Int32)), .val (.int l2), .val (.ref a307), .val (.int (1 : Int32)), .val (.ref a312), .val (.int zb)]) at_307 rfl rfl ?_
            refine X.aload (q := 311) at_309 rfl rfl rfl ?_
            refine X.virtual (a := a312) (own_en l Z a0 hw h314 n0 a312 a307 (3 : Int32) (3 : Int32) (by decide) hsh314 Ba312'h314 S1b S1p S1e) (hw _ (List.mem_of_getElem? (i := 24) rfl)) (hw _ (List.mem_of_getElem? (i := 25) rfl)) (hw _ (List.mem_of_getElem? (i := 27) rfl)) (hw _ (List.mem_of_getElem? (i := 26) rfl)) (hw _ (List.mem_of_getElem? (i := 3) rfl)) (hw _ (List.mem_of_getElem? (i := 28) rfl)) (by decide) Ba312'h314 own_pd9 (argsL := []) (rest := []) rfl rfl rfl (W := 0) (Nat.le_of_eq rfl) rfl (by decide) (by decide) (k' := 4) (n' := 13) rfl rfl (by decide) (by decide) at_311 (q := 314) rfl ?_
            rintro _ _ ⟨rfl, rfl⟩
            show X.G h314 4 13 314 #[.val (.int x0), .val (.int x1), .val (.int x2), .val (.int x3), .val (.int x4), .val (.int m), .val (.int (1 : Int32)), .val (.int l2), .val (.ref a307), .val (.int (1 : Int32)), .val (.ref a312), .val (.int zb)] []
            refine X.iload (q := 316) at_314 rfl rfl ?_
            refine X.if_ne (q' := 331) (q := 319) at_316 rfl (by decide) rfl (fun c316 => ?_) (fun c316 => ?_)
            · omega
            · refine X.aload (q := 321) at_319 rfl rfl rfl ?_
              refine X.virtual (a := a312) (own_hm l Z a0 hw h314 n0 a312 (3 : Int32) (3 : Int32) hsh314 S1p S1e) (hw _ (List.mem_of_getElem? (i := 19) rfl)) (hw _ (List.mem_of_getElem? (i := 20) rfl)) (hw _ (List.mem_of_getElem? (i := 22) rfl)) (hw _ (List.mem_of_getElem? (i := 21) rfl)) (hw _ (List.mem_of_getElem? (i := 3) rfl)) (hw _ (List.mem_of_getElem? (i := 23) rfl)) (by decide) Ba312'h314 own_pd5 (argsL := []) (rest := []) rfl rfl rfl (W := 0) (Nat.le_of_eq rfl) rfl (by decide) (by decide) (k' := 4) (n' := 13) rfl rfl (by decide) (by decide) at_321 (q := 324) rfl ?_
              rintro _ _ ⟨zc, rfl, hzc, rfl⟩
              show X.G h314 4 13 324 #[.val (.int x0), .val (.int x1), .val (.int x2), .val (.int x3), .val (.int x4), .val (.int m), .val (.int (1 : Int32)), .val (.int l2), .val (.ref a307), .val (.int (1 : Int32)), .val (.ref a312), .val (.int zb)] [(.int zc)]
              refine X.if_ne (q' := 331) (q := 327) at_324 rfl (by decide) rfl (fun c324 => ?_) (fun c324 => ?_)
              · omega
              · refine X.iconst (q := 328) (1 : Int32) at_327 (by decide) rfl ?_
                refine X.goto (q' := 332) at_328 (by decide) ?_
                refine X.retN (t := .boolean) (z' := (1 : Int32)) at_332 rfl (by simp) (by decide) (by decide) (by decide) ?_
                rfl
          · omega
      · refine X.iconst (q := 40) (2 : Int32) at_39 (by decide) rfl ?_
        refine X.iload (q := 42) at_40 rfl rfl ?_
        refine X.iadd (q := 43) at_42 rfl ?_
        refine X.foldI (v := (4 : Int32)) (by decide) ?_
        refine X.newP (q := 45) (ty := .byte) (N := 4) (cap := 4) (k' := 1) (n' := 4) (hw _ (List.mem_of_getElem? (i := 0) rfl)) at_43 rfl rfl (Nat.le_refl _) (by decide) rfl rfl (by decide) (by decide) rfl (fun h315 a316 ga316 Eh315 Aa316 => ?_)
        have gea316 : n0 ≤ a316 := by rw [ga316]; exact hn0
        have hsh315 : n0 ≤ h315.size := Nat.le_trans hn0 Eh315.1
        have Aa316 : OwA Z h315 a316 .byte [(.int (0 : Int32)), (.int (0 : Int32)), (.int (0 : Int32)), (.int (0 : Int32))] := Aa316
        refine X.astore (q := 47) (Ls' := #[.val (.int x0), .val (.int x1), .val (.int x2), .val (.int x3), .val (.int x4), .val (.int m), .val (.int (2 : Int32)), .val (.int l2), .val (.ref a316), .unset, .unset, .unset]) at_45 rfl rfl rfl ?_
        refine X.aload (q := 49) at_47 rfl rfl rfl ?_
        refine X.iconst (q := 50) (0 : Int32) at_49 (by decide) rfl ?_
        refine X.iloadN (q := 51) at_50 rfl rfl ?_
        refine X.iload (q := 53) at_51 rfl rfl ?_
        refine X.callS (own_tag l Z a0 hw h315 n0 x1 (2 : Int32)) (hw _ (List.mem_of_getElem? (i := 30) rfl)) (hw _ (List.mem_of_getElem? (i := 31) rfl)) (hw _ (List.mem_of_getElem? (i := 32) rfl)) (hw _ (List.mem_of_getElem? (i := 33) rfl)) (by decide) own_pd6 (argsL := [(.int x1), (.int (2 : Int32))]) (rest := [(.int (0 : Int32)), (.ref a316)]) rfl rfl rfl (W := 2) (Nat.le_of_eq rfl) rfl (by decide) (by decide) (k' := 1) (n' := 4) rfl rfl (by decide) (by decide) at_53 (q := 56) rfl ?_
        rintro _ _ ⟨ta, rfl, hta, rfl⟩
        show X.G h315 1 4 56 #[.val (.int x0), .val (.int x1), .val (.int x2), .val (.int x3), .val (.int x4), .val (.int m), .val (.int (2 : Int32)), .val (.int l2), .val (.ref a316), .unset, .unset, .unset] [(.int ta), (.int (0 : Int32)), (.ref a316)]
        refine X.i2b (q := 57) at_56 rfl ?_
        refine X.bastore (q := 58) (j := 0) Aa316 rfl (by simp) gea316 at_57 rfl (fun h317 Wh317 Ah317 => ?_)
        have hsh317 : n0 ≤ h317.size := by rw [Wr.size Wh317]; exact hsh315
        have Ah317_ : OwA Z h317 a316 .byte [(.int (nar .byte ta.toInt8.toInt32)), (.int (0 : Int32)), (.int (0 : Int32)), (.int (0 : Int32))] := Ah317
        refine X.aload (q := 60) at_58 rfl rfl rfl ?_
        refine X.iconst (q := 61) (1 : Int32) at_60 (by decide) rfl ?_
        refine X.iload (q := 63) at_61 rfl rfl ?_
        refine X.i2b (q := 64) at_63 rfl ?_
        refine X.bastore (q := 65) (j := 1) Ah317_ rfl (by simp) gea316 at_64 rfl (fun h318 Wh318 Ah318 => ?_)
        have hsh318 : n0 ≤ h318.size := by rw [Wr.size Wh318]; exact hsh317
        have Ah318_ : OwA Z h318 a316 .byte [(.int (nar .byte ta.toInt8.toInt32)), (.int (nar .byte (2 : Int32).toInt8.toInt32)), (.int (0 : Int32)), (.int (0 : Int32))] := Ah318
        refine X.aload (q := 67) at_65 rfl rfl rfl ?_
        refine X.iconst (q := 68) (2 : Int32) at_67 (by decide) rfl ?_
        refine X.iload (q := 70) at_68 rfl rfl ?_
        refine X.iload (q := 72) at_70 rfl rfl ?_
        refine X.callS (own_put2 l Z a0 hw h318 n0 a316 (2 : Int32) x4 2 _ rfl (by simp) (by decide) hsh318 Ah318_ gea316) (hw _ (List.mem_of_getElem? (i := 34) rfl)) (hw _ (List.mem_of_getElem? (i := 35) rfl)) (hw _ (List.mem_of_getElem? (i := 32) rfl)) (hw _ (List.mem_of_getElem? (i := 36) rfl)) (by decide) own_pd7 (argsL := [(.ref a316), (.int (2 : Int32)), (.int (2 : Int32)), (.int x4)]) (rest := []) rfl rfl rfl (W := 0) (Nat.le_of_eq rfl) rfl (by decide) (by decide) (k' := 1) (n' := 4) rfl rfl (by decide) (by decide) at_72 (q := 75) rfl ?_
        rintro _ h319 ⟨u0, u1, rfl, Kh319c, Gu⟩
        have hsh319 : n0 ≤ h319.size := Nat.le_trans hsh318 Kh319c.1
        show X.G h319 1 4 75 #[.val (.int x0), .val (.int x1), .val (.int x2), .val (.int x3), .val (.int x4), .val (.int m), .val (.int (2 : Int32)), .val (.int l2), .val (.ref a316), .unset, .unset, .unset] []
        have Gu : OwA Z h319 a316 .byte [(.int (nar .byte ta.toInt8.toInt32)), (.int (nar .byte (2 : Int32).toInt8.toInt32)), (.int (nar .byte u0.toInt8.toInt32)), (.int (nar .byte u1.toInt8.toInt32))] := Gu
        refine X.iconst (q := 76) (1 : Int32) at_75 (by decide) rfl ?_
        refine X.istore (q := 78) (Ls' := #[.val (.int x0), .val (.int x1), .val (.int x2), .val (.int x3), .val (.int x4), .val (.int m), .val (.int (2 : Int32)), .val (.int l2), .val (.ref a316), .val (.int (1 : Int32)), .unset, .unset]) at_76 rfl rfl ?_
        refine X.goto (q' := 259) at_78 (by decide) ?_
        refine X.newO (q := 262) (k' := 2) (n' := 7) (hw _ (List.mem_of_getElem? (i := 1) rfl)) (hw _ (List.mem_of_getElem? (i := 2) rfl)) (hw _ (List.mem_of_getElem? (i := 3) rfl)) at_259 rfl rfl (by decide) (by decide) rfl (fun h320 a321 ga321 Eh320 Ba321 Da321 => ?_)
        have la316_a321 : a316 < a321 := by have := Gu.lt; rw [← ga321] at this; exact this
        have Gu'h320 : OwA Z h320 a316 .byte [(.int (nar .byte ta.toInt8.toInt32)), (.int (nar .byte (2 : Int32).toInt8.toInt32)), (.int (nar .byte u0.toInt8.toInt32)), (.int (nar .byte u1.toInt8.toInt32))] := OwA.ext (E := Eh320) Gu
        have gea321 : n0 ≤ a321 := by rw [ga321]; exact hsh319
        have hsh320 : n0 ≤ h320.size := Nat.le_trans hsh319 Eh320.1
        have Fa321_bytes : Fld Z h320 a321 "com/example/dircred/dircred/credential/DerReader" "bytes" "[B" .null := Da321 (Or.inr (hw _ (List.mem_of_getElem? (i := 14) rfl))) (ty := (.array .byte)) (by decide)
        have Fa321_position : Fld Z h320 a321 "com/example/dircred/dircred/credential/DerReader" "position" "I" (.int (0 : Int32)) := Da321 (Or.inl (hw _ (List.mem_of_getElem? (i := 16) rfl))) (ty := .int) (by decide)
        have Fa321_end : Fld Z h320 a321 "com/example/dircred/dircred/credential/DerReader" "end" "I" (.int (0 : Int32)) := Da321 (Or.inr (hw _ (List.mem_of_getElem? (i := 18) rfl))) (ty := .int) (by decide)
        refine X.dup (q := 263) at_262 rfl rfl ?_
        refine X.aload (q := 265) at_263 rfl rfl rfl ?_
        obtain ⟨L, hL⟩ : ∃ L_ : List Int32, L_ = [(nar .byte ta.toInt8.toInt32), (nar .byte (2 : Int32).toInt8.toInt32), (nar .byte u0.toInt8.toInt32), (nar .byte u1.toInt8.toInt32)] := ⟨_, rfl⟩
        have AL : OwA Z h320 a316 .byte (L.map Value.int) := by rw [hL]; exact Gu'h320
        have nL : L.length = 4 := by rw [hL]; rfl
        have gL0 : (L.getD 0 0).toInt = (ta.toInt + 128) % 256 - 128 := by rw [hL]; exact own_nbt _
        have gL1 : (L.getD 1 0).toInt = ((2 : Int32).toInt + 128) % 256 - 128 := by rw [hL]; exact own_nbt _
        have gL2 : (L.getD 2 0).toInt = (u0.toInt + 128) % 256 - 128 := by rw [hL]; exact own_nbt _
        have gL3 : (L.getD 3 0).toInt = (u1.toInt + 128) % 256 - 128 := by rw [hL]; exact own_nbt _
        have rL : ∀ x ∈ L, -128 ≤ x.toInt ∧ x.toInt ≤ 127 := by
          intro x hx; rw [hL] at hx
          simp only [List.mem_cons, List.not_mem_nil, or_false] at hx
          rcases hx with rfl | rfl | rfl | rfl
          · rw [own_nbt]; omega
          · rw [own_nbt]; omega
          · rw [own_nbt]; omega
          · rw [own_nbt]; omega
        clear hL
        refine X.special (a := a321) (own_i1 l Z a0 hw h320 n0 a321 a316 L (4 : Int32) (by rw [nL]; rfl) hsh320 Ba321 Fa321_bytes Fa321_position Fa321_end AL gea321 (Nat.ne_of_gt la316_a321)) rfl (hw _ (List.mem_of_getElem? (i := 4) rfl)) (hw _ (List.mem_of_getElem? (i := 5) rfl)) (hw _ (List.mem_of_getElem? (i := 3) rfl)) (hw _ (List.mem_of_getElem? (i := 6) rfl)) (by decide) own_pd8 (argsL := [(.ref a316)]) (rest := [(.ref a321)]) rfl rfl rfl (W := 1) (Nat.le_of_eq rfl) rfl (by decide) (by decide) (k' := 2) (n' := 7) rfl rfl (by decide) (by decide) at_265 (q := 268) rfl ?_
        rintro _ h322 ⟨rfl, Kh322c, Db, Dp, De⟩
        have AL'h322 : OwA Z h322 a316 .byte (L.map Value.int) := OwA.keep AL Kh322c (ninS (Nat.ne_of_lt la316_a321) nin0)
        have Ba321'h322 : Exa Z h322 a321 "com/example/dircred/dircred/credential/DerReader" := Exa.keep Ba321 Kh322c
        have hsh322 : n0 ≤ h322.size := Nat.le_trans hsh320 Kh322c.1
        show X.G h322 2 7 268 #[.val (.int x0), .val (.int x1), .val (.int x2), .val (.int x3), .val (.int x4), .val (.int m), .val (.int (2 : Int32)), .val (.int l2), .val (.ref a316), .val (.int (1 : Int32)), .unset, .unset] [(.ref a321)]
        refine X.astore (q := 270) (Ls' := #[.val (.int x0), .val (.int x1), .val (.int x2), .val (.int x3), .val (.int x4), .val (.int m), .val (.int (2 : Int32)), .val (.int l2), .val (.ref a316), .val (.int (1 : Int32)), .val (.ref a321), .unset]) at_268 rfl rfl rfl ?_
        refine X.iload (q := 272) at_270 rfl rfl ?_
        refine X.iconst (q := 273) (1 : Int32) at_272 (by decide) rfl ?_
        refine X.icmp_lt (a := 1) (b := 1) (q' := 281) (q := 276) at_273 rfl rfl (by decide) rfl (fun c273 => ?_) (fun c273 => ?_)
        · omega
        · refine X.aload (q := 278) at_276 rfl rfl rfl ?_
          have H1 : own_hdr L 0 ta 1 2 (2 : Int32) (2 : Int32) := by have k2_ : (2 : Int32).toInt = 2 := rfl; unfold own_hdr; simp only [nL, Nat.reduceAdd, and_true]; refine ⟨?_, ?_, ?_, ?_, ?_, ?_, ?_, ?_⟩ <;> first | omega | rfl
          refine X.virtual (a := a321) (own_skip l Z a0 hw h322 n0 a321 a316 L (0 : Int32) (4 : Int32) 0 ta 1 2 (2 : Int32) (2 : Int32) rL (by rw [nL]; rfl) (by rw [nL]; decide) rfl H1 (4 : Int32) rfl (by decide) hsh322 Ba321'h322 Db Dp De AL'h322 gea321 (Nat.ne_of_gt la316_a321)) (hw _ (List.mem_of_getElem? (i := 37) rfl)) (hw _ (List.mem_of_getElem? (i := 38) rfl)) (hw _ (List.mem_of_getElem? (i := 40) rfl)) (hw _ (List.mem_of_getElem? (i := 39) rfl)) (hw _ (List.mem_of_getElem? (i := 3) rfl)) (hw _ (List.mem_of_getElem? (i := 41) rfl)) (by decide) Ba321'h322 own_pd9 (argsL := []) (rest := []) rfl rfl rfl (W := 0) (Nat.le_of_eq rfl) rfl (by decide) (by decide) (k' := 4) (n' := 14) rfl rfl (by decide) (by decide) at_278 (q := 281) rfl ?_
          rintro _ h323 ⟨rfl, Kh323c, S1b, S1p, S1e⟩
          have AL'h323 : OwA Z h323 a316 .byte (L.map Value.int) := OwA.keep AL'h322 Kh323c (ninS (Nat.ne_of_lt la316_a321) nin0)
          have Ba321'h323 : Exa Z h323 a321 "com/example/dircred/dircred/credential/DerReader" := Exa.keep Ba321'h322 Kh323c
          have hsh323 : n0 ≤ h323.size := Nat.le_trans hsh322 Kh323c.1
          show X.G h323 4 14 281 #[.val (.int x0), .val (.int x1), .val (.int x2), .val (.int x3), .val (.int x4), .val (.int m), .val (.int (2 : Int32)), .val (.int l2), .val (.ref a316), .val (.int (1 : Int32)), .val (.ref a321), .unset] []
          refine X.iload (q := 283) at_281 rfl rfl ?_
          refine X.iconst (q := 284) (2 : Int32) at_283 (by decide) rfl ?_
          refine X.icmp_ne (a := 1) (b := 2) (q' := 302) (q := 287) at_284 rfl rfl (by decide) rfl (fun c284 => ?_) (fun c284 => ?_)
          · refine X.aload (q := 304) at_302 rfl rfl rfl ?_
            refine X.virtual (a := a321) (own_hm l Z a0 hw h323 n0 a321 (4 : Int32) (4 : Int32) hsh323 S1p S1e) (hw _ (List.mem_of_getElem? (i := 19) rfl)) (hw _ (List.mem_of_getElem? (i := 20) rfl)) (hw _ (List.mem_of_getElem? (i := 22) rfl)) (hw _ (List.mem_of_getElem? (i := 21) rfl)) (hw _ (List.mem_of_getElem? (i := 3) rfl)) (hw _ (List.mem_of_getElem? (i := 23) rfl)) (by decide) Ba321'h323 own_pd5 (argsL := []) (rest := []) rfl rfl rfl (W := 0) (Nat.le_of_eq rfl) rfl (by decide) (by decide) (k' := 4) (n' := 14) rfl rfl (by decide) (by decide) at_304 (q := 307) rfl ?_
            rintro _ _ ⟨zb, rfl, hzb, rfl⟩
            show X.G h323 4 14 307 #[.val (.int x0), .val (.int x1), .val (.int x2), .val (.int x3), .val (.int x4), .val (.int m), .val (.int (2 : Int32)), .val (.int l2), .val (.ref a316), .val (.int (1 : Int32)), .val (.ref a321), .unset] [(.int zb)]
            refine X.istore (q := 309) (Ls' := #[.val (.int x0), .val (.int x1), .val (.int x2), .val (.int x3), .val (.int x4), .val (.int m), .val (.int (2 : Int32)), .val (.int l2), .val (.ref a316), .val (.int (1 : Int32)), .val (.ref a321), .val (.int zb)]) at_307 rfl rfl ?_
            refine X.aload (q := 311) at_309 rfl rfl rfl ?_
            refine X.virtual (a := a321) (own_en l Z a0 hw h323 n0 a321 a316 (4 : Int32) (4 : Int32) (by decide) hsh323 Ba321'h323 S1b S1p S1e) (hw _ (List.mem_of_getElem? (i := 24) rfl)) (hw _ (List.mem_of_getElem? (i := 25) rfl)) (hw _ (List.mem_of_getElem? (i := 27) rfl)) (hw _ (List.mem_of_getElem? (i := 26) rfl)) (hw _ (List.mem_of_getElem? (i := 3) rfl)) (hw _ (List.mem_of_getElem? (i := 28) rfl)) (by decide) Ba321'h323 own_pd9 (argsL := []) (rest := []) rfl rfl rfl (W := 0) (Nat.le_of_eq rfl) rfl (by decide) (by decide) (k' := 4) (n' := 14) rfl rfl (by decide) (by decide) at_311 (q := 314) rfl ?_
            rintro _ _ ⟨rfl, rfl⟩
            show X.G h323 4 14 314 #[.val (.int x0), .val (.int x1), .val (.int x2), .val (.int x3), .val (.int x4), .val (.int m), .val (.int (2 : Int32)), .val (.int l2), .val (.ref a316), .val (.int (1 : Int32)), .val (.ref a321), .val (.int zb)] []
            refine X.iload (q := 316) at_314 rfl rfl ?_
            refine X.if_ne (q' := 331) (q := 319) at_316 rfl (by decide) rfl (fun c316 => ?_) (fun c316 => ?_)
            · omega
            · refine X.aload (q := 321) at_319 rfl rfl rfl ?_
              refine X.virtual (a := a321) (own_hm l Z a0 hw h323 n0 a321 (4 : Int32) (4 : Int32) hsh323 S1p S1e) (hw _ (List.mem_of_getElem? (i := 19) rfl)) (hw _ (List.mem_of_getElem? (i := 20) rfl)) (hw _ (List.mem_of_getElem? (i := 22) rfl)) (hw _ (List.mem_of_getElem? (i := 21) rfl)) (hw _ (List.mem_of_getElem? (i := 3) rfl)) (hw _ (List.mem_of_getElem? (i := 23) rfl)) (by decide) Ba321'h323 own_pd5 (argsL := []) (rest := []) rfl rfl rfl (W := 0) (Nat.le_of_eq rfl) rfl (by decide) (by decide) (k' := 4) (n' := 14) rfl rfl (by decide) (by decide) at_321 (q := 324) rfl ?_
              rintro _ _ ⟨zc, rfl, hzc, rfl⟩
              show X.G h323 4 14 324 #[.val (.int x0), .val (.int x1), .val (.int x2), .val (.int x3), .val (.int x4), .val (.int m), .val (.int (2 : Int32)), .val (.int l2), .val (.ref a316), .val (.int (1 : Int32)), .val (.ref a321), .val (.int zb)] [(.int zc)]
              refine X.if_ne (q' := 331) (q := 327) at_324 rfl (by decide) rfl (fun c324 => ?_) (fun c324 => ?_)
              · omega
              · refine X.iconst (q := 328) (1 : Int32) at_327 (by decide) rfl ?_
                refine X.goto (q' := 332) at_328 (by decide) ?_
                refine X.retN (t := .boolean) (z' := (1 : Int32)) at_332 rfl (by simp) (by decide) (by decide) (by decide) ?_
                rfl
          · omega
      · refine X.iconst (q := 40) (2 : Int32) at_39 (by decide) rfl ?_
        refine X.iload (q := 42) at_40 rfl rfl ?_
        refine X.iadd (q := 43) at_42 rfl ?_
        refine X.foldI (v := (5 : Int32)) (by decide) ?_
        refine X.newP (q := 45) (ty := .byte) (N := 5) (cap := 5) (k' := 1) (n' := 5) (hw _ (List.mem_of_getElem? (i := 0) rfl)) at_43 rfl rfl (Nat.le_refl _) (by decide) rfl rfl (by decide) (by decide) rfl (fun h324 a325 ga325 Eh324 Aa325 => ?_)
        have gea325 : n0 ≤ a325 := by rw [ga325]; exact hn0
        have hsh324 : n0 ≤ h324.size := Nat.le_trans hn0 Eh324.1
        have Aa325 : OwA Z h324 a325 .byte [(.int (0 : Int32)), (.int (0 : Int32)), (.int (0 : Int32)), (.int (0 : Int32)), (.int (0 : Int32))] := Aa325
        refine X.astore (q := 47) (Ls' := #[.val (.int x0), .val (.int x1), .val (.int x2), .val (.int x3), .val (.int x4), .val (.int m), .val (.int (3 : Int32)), .val (.int l2), .val (.ref a325), .unset, .unset, .unset]) at_45 rfl rfl rfl ?_
        refine X.aload (q := 49) at_47 rfl rfl rfl ?_
        refine X.iconst (q := 50) (0 : Int32) at_49 (by decide) rfl ?_
        refine X.iloadN (q := 51) at_50 rfl rfl ?_
        refine X.iload (q := 53) at_51 rfl rfl ?_
        refine X.callS (own_tag l Z a0 hw h324 n0 x1 (3 : Int32)) (hw _ (List.mem_of_getElem? (i := 30) rfl)) (hw _ (List.mem_of_getElem? (i := 31) rfl)) (hw _ (List.mem_of_getElem? (i := 32) rfl)) (hw _ (List.mem_of_getElem? (i := 33) rfl)) (by decide) own_pd6 (argsL := [(.int x1), (.int (3 : Int32))]) (rest := [(.int (0 : Int32)), (.ref a325)]) rfl rfl rfl (W := 2) (Nat.le_of_eq rfl) rfl (by decide) (by decide) (k' := 1) (n' := 5) rfl rfl (by decide) (by decide) at_53 (q := 56) rfl ?_
        rintro _ _ ⟨ta, rfl, hta, rfl⟩
        show X.G h324 1 5 56 #[.val (.int x0), .val (.int x1), .val (.int x2), .val (.int x3), .val (.int x4), .val (.int m), .val (.int (3 : Int32)), .val (.int l2), .val (.ref a325), .unset, .unset, .unset] [(.int ta), (.int (0 : Int32)), (.ref a325)]
        refine X.i2b (q := 57) at_56 rfl ?_
        refine X.bastore (q := 58) (j := 0) Aa325 rfl (by simp) gea325 at_57 rfl (fun h326 Wh326 Ah326 => ?_)
        have hsh326 : n0 ≤ h326.size := by rw [Wr.size Wh326]; exact hsh324
        have Ah326_ : OwA Z h326 a325 .byte [(.int (nar .byte ta.toInt8.toInt32)), (.int (0 : Int32)), (.int (0 : Int32)), (.int (0 : Int32)), (.int (0 : Int32))] := Ah326
        refine X.aload (q := 60) at_58 rfl rfl rfl ?_
        refine X.iconst (q := 61) (1 : Int32) at_60 (by decide) rfl ?_
        refine X.iload (q := 63) at_61 rfl rfl ?_
        refine X.i2b (q := 64) at_63 rfl ?_
        refine X.bastore (q := 65) (j := 1) Ah326_ rfl (by simp) gea325 at_64 rfl (fun h327 Wh327 Ah327 => ?_)
        have hsh327 : n0 ≤ h327.size := by rw [Wr.size Wh327]; exact hsh326
        have Ah327_ : OwA Z h327 a325 .byte [(.int (nar .byte ta.toInt8.toInt32)), (.int (nar .byte (3 : Int32).toInt8.toInt32)), (.int (0 : Int32)), (.int (0 : Int32)), (.int (0 : Int32))] := Ah327
        refine X.aload (q := 67) at_65 rfl rfl rfl ?_
        refine X.iconst (q := 68) (2 : Int32) at_67 (by decide) rfl ?_
        refine X.iload (q := 70) at_68 rfl rfl ?_
        refine X.iload (q := 72) at_70 rfl rfl ?_
        refine X.callS (own_put3 l Z a0 hw h327 n0 a325 (2 : Int32) x4 2 _ rfl (by simp) (by decide) hsh327 Ah327_ gea325) (hw _ (List.mem_of_getElem? (i := 34) rfl)) (hw _ (List.mem_of_getElem? (i := 35) rfl)) (hw _ (List.mem_of_getElem? (i := 32) rfl)) (hw _ (List.mem_of_getElem? (i := 36) rfl)) (by decide) own_pd7 (argsL := [(.ref a325), (.int (2 : Int32)), (.int (3 : Int32)), (.int x4)]) (rest := []) rfl rfl rfl (W := 0) (Nat.le_of_eq rfl) rfl (by decide) (by decide) (k' := 1) (n' := 5) rfl rfl (by decide) (by decide) at_72 (q := 75) rfl ?_
        rintro _ h328 ⟨u0, u1, u2, rfl, Kh328c, Gu⟩
        have hsh328 : n0 ≤ h328.size := Nat.le_trans hsh327 Kh328c.1
        show X.G h328 1 5 75 #[.val (.int x0), .val (.int x1), .val (.int x2), .val (.int x3), .val (.int x4), .val (.int m), .val (.int (3 : Int32)), .val (.int l2), .val (.ref a325), .unset, .unset, .unset] []
        have Gu : OwA Z h328 a325 .byte [(.int (nar .byte ta.toInt8.toInt32)), (.int (nar .byte (3 : Int32).toInt8.toInt32)), (.int (nar .byte u0.toInt8.toInt32)), (.int (nar .byte u1.toInt8.toInt32)), (.int (nar .byte u2.toInt8.toInt32))] := Gu
        refine X.iconst (q := 76) (1 : Int32) at_75 (by decide) rfl ?_
        refine X.istore (q := 78) (Ls' := #[.val (.int x0), .val (.int x1), .val (.int x2), .val (.int x3), .val (.int x4), .val (.int m), .val (.int (3 : Int32)), .val (.int l2), .val (.ref a325), .val (.int (1 : Int32)), .unset, .unset]) at_76 rfl rfl ?_
        refine X.goto (q' := 259) at_78 (by decide) ?_
        refine X.newO (q := 262) (k' := 2) (n' := 8) (hw _ (List.mem_of_getElem? (i := 1) rfl)) (hw _ (List.mem_of_getElem? (i := 2) rfl)) (hw _ (List.mem_of_getElem? (i := 3) rfl)) at_259 rfl rfl (by decide) (by decide) rfl (fun h329 a330 ga330 Eh329 Ba330 Da330 => ?_)
        have la325_a330 : a325 < a330 := by have := Gu.lt; rw [← ga330] at this; exact this
        have Gu'h329 : OwA Z h329 a325 .byte [(.int (nar .byte ta.toInt8.toInt32)), (.int (nar .byte (3 : Int32).toInt8.toInt32)), (.int (nar .byte u0.toInt8.toInt32)), (.int (nar .byte u1.toInt8.toInt32)), (.int (nar .byte u2.toInt8.toInt32))] := OwA.ext (E := Eh329) Gu
        have gea330 : n0 ≤ a330 := by rw [ga330]; exact hsh328
        have hsh329 : n0 ≤ h329.size := Nat.le_trans hsh328 Eh329.1
        have Fa330_bytes : Fld Z h329 a330 "com/example/dircred/dircred/credential/DerReader" "bytes" "[B" .null := Da330 (Or.inr (hw _ (List.mem_of_getElem? (i := 14) rfl))) (ty := (.array .byte)) (by decide)
        have Fa330_position : Fld Z h329 a330 "com/example/dircred/dircred/credential/DerReader" "position" "I" (.int (0 : Int32)) := Da330 (Or.inl (hw _ (List.mem_of_getElem? (i := 16) rfl))) (ty := .int) (by decide)
        have Fa330_end : Fld Z h329 a330 "com/example/dircred/dircred/credential/DerReader" "end" "I" (.int (0 : Int32)) := Da330 (Or.inr (hw _ (List.mem_of_getElem? (i := 18) rfl))) (ty := .int) (by decide)
        refine X.dup (q := 263) at_262 rfl rfl ?_
        refine X.aload (q := 265) at_263 rfl rfl rfl ?_
        obtain ⟨L, hL⟩ : ∃ L_ : List Int32, L_ = [(nar .byte ta.toInt8.toInt32), (nar .byte (3 : Int32).toInt8.toInt32), (nar .byte u0.toInt8.toInt32), (nar .byte u1.toInt8.toInt32), (nar .byte u2.toInt8.toInt32)] := ⟨_, rfl⟩
        have AL : OwA Z h329 a325 .byte (L.map Value.int) := by rw [hL]; exact Gu'h329
        have nL : L.length = 5 := by rw [hL]; rfl
        have gL0 : (L.getD 0 0).toInt = (ta.toInt + 128) % 256 - 128 := by rw [hL]; exact own_nbt _
        have gL1 : (L.getD 1 0).toInt = ((3 : Int32).toInt + 128) % 256 - 128 := by rw [hL]; exact own_nbt _
        have gL2 : (L.getD 2 0).toInt = (u0.toInt + 128) % 256 - 128 := by rw [hL]; exact own_nbt _
        have gL3 : (L.getD 3 0).toInt = (u1.toInt + 128) % 256 - 128 := by rw [hL]; exact own_nbt _
        have gL4 : (L.getD 4 0).toInt = (u2.toInt + 128) % 256 - 128 := by rw [hL]; exact own_nbt _
        have rL : ∀ x ∈ L, -128 ≤ x.toInt ∧ x.toInt ≤ 127 := by
          intro x hx; rw [hL] at hx
          simp only [List.mem_cons, List.not_mem_nil, or_false] at hx
          rcases hx with rfl | rfl | rfl | rfl | rfl
          · rw [own_nbt]; omega
          · rw [own_nbt]; omega
          · rw [own_nbt]; omega
          · rw [own_nbt]; omega
          · rw [own_nbt]; omega
        clear hL
        refine X.special (a := a330) (own_i1 l Z a0 hw h329 n0 a330 a325 L (5 : Int32) (by rw [nL]; rfl) hsh329 Ba330 Fa330_bytes Fa330_position Fa330_end AL gea330 (Nat.ne_of_gt la325_a330)) rfl (hw _ (List.mem_of_getElem? (i := 4) rfl)) (hw _ (List.mem_of_getElem? (i := 5) rfl)) (hw _ (List.mem_of_getElem? (i := 3) rfl)) (hw _ (List.mem_of_getElem? (i := 6) rfl)) (by decide) own_pd8 (argsL := [(.ref a325)]) (rest := [(.ref a330)]) rfl rfl rfl (W := 1) (Nat.le_of_eq rfl) rfl (by decide) (by decide) (k' := 2) (n' := 8) rfl rfl (by decide) (by decide) at_265 (q := 268) rfl ?_
        rintro _ h331 ⟨rfl, Kh331c, Db, Dp, De⟩
        have AL'h331 : OwA Z h331 a325 .byte (L.map Value.int) := OwA.keep AL Kh331c (ninS (Nat.ne_of_lt la325_a330) nin0)
        have Ba330'h331 : Exa Z h331 a330 "com/example/dircred/dircred/credential/DerReader" := Exa.keep Ba330 Kh331c
        have hsh331 : n0 ≤ h331.size := Nat.le_trans hsh329 Kh331c.1
        show X.G h331 2 8 268 #[.val (.int x0), .val (.int x1), .val (.int x2), .val (.int x3), .val (.int x4), .val (.int m), .val (.int (3 : Int32)), .val (.int l2), .val (.ref a325), .val (.int (1 : Int32)), .unset, .unset] [(.ref a330)]
        refine X.astore (q := 270) (Ls' := #[.val (.int x0), .val (.int x1), .val (.int x2), .val (.int x3), .val (.int x4), .val (.int m), .val (.int (3 : Int32)), .val (.int l2), .val (.ref a325), .val (.int (1 : Int32)), .val (.ref a330), .unset]) at_268 rfl rfl rfl ?_
        refine X.iload (q := 272) at_270 rfl rfl ?_
        refine X.iconst (q := 273) (1 : Int32) at_272 (by decide) rfl ?_
        refine X.icmp_lt (a := 1) (b := 1) (q' := 281) (q := 276) at_273 rfl rfl (by decide) rfl (fun c273 => ?_) (fun c273 => ?_)
        · omega
        · refine X.aload (q := 278) at_276 rfl rfl rfl ?_
          have H1 : own_hdr L 0 ta 1 2 (2 : Int32) (3 : Int32) := by have k2_ : (2 : Int32).toInt = 2 := rfl; have k3_ : (3 : Int32).toInt = 3 := rfl; unfold own_hdr; simp only [nL, Nat.reduceAdd, and_true]; refine ⟨?_, ?_, ?_, ?_, ?_, ?_, ?_, ?_⟩ <;> first | omega | rfl
          refine X.virtual (a := a330) (own_skip l Z a0 hw h331 n0 a330 a325 L (0 : Int32) (5 : Int32) 0 ta 1 2 (2 : Int32) (3 : Int32) rL (by rw [nL]; rfl) (by rw [nL]; decide) rfl H1 (5 : Int32) rfl (by decide) hsh331 Ba330'h331 Db Dp De AL'h331 gea330 (Nat.ne_of_gt la325_a330)) (hw _ (List.mem_of_getElem? (i := 37) rfl)) (hw _ (List.mem_of_getElem? (i := 38) rfl)) (hw _ (List.mem_of_getElem? (i := 40) rfl)) (hw _ (List.mem_of_getElem? (i := 39) rfl)) (hw _ (List.mem_of_getElem? (i := 3) rfl)) (hw _ (List.mem_of_getElem? (i := 41) rfl)) (by decide) Ba330'h331 own_pd9 (argsL := []) (rest := []) rfl rfl rfl (W := 0) (Nat.le_of_eq rfl) rfl (by decide) (by decide) (k' := 4) (n' := 15) rfl rfl (by decide) (by decide) at_278 (q := 281) rfl ?_
          rintro _ h332 ⟨rfl, Kh332c, S1b, S1p, S1e⟩
          have AL'h332 : OwA Z h332 a325 .byte (L.map Value.int) := OwA.keep AL'h331 Kh332c (ninS (Nat.ne_of_lt la325_a330) nin0)
          have Ba330'h332 : Exa Z h332 a330 "com/example/dircred/dircred/credential/DerReader" := Exa.keep Ba330'h331 Kh332c
          have hsh332 : n0 ≤ h332.size := Nat.le_trans hsh331 Kh332c.1
          show X.G h332 4 15 281 #[.val (.int x0), .val (.int x1), .val (.int x2), .val (.int x3), .val (.int x4), .val (.int m), .val (.int (3 : Int32)), .val (.int l2), .val (.ref a325), .val (.int (1 : Int32)), .val (.ref a330), .unset] []
          refine X.iload (q := 283) at_281 rfl rfl ?_
          refine X.iconst (q := 284) (2 : Int32) at_283 (by decide) rfl ?_
          refine X.icmp_ne (a := 1) (b := 2) (q' := 302) (q := 287) at_284 rfl rfl (by decide) rfl (fun c284 => ?_) (fun c284 => ?_)
          · refine X.aload (q := 304) at_302 rfl rfl rfl ?_
            refine X.virtual (a := a330) (own_hm l Z a0 hw h332 n0 a330 (5 : Int32) (5 : Int32) hsh332 S1p S1e) (hw _ (List.mem_of_getElem? (i := 19) rfl)) (hw _ (List.mem_of_getElem? (i := 20) rfl)) (hw _ (List.mem_of_getElem? (i := 22) rfl)) (hw _ (List.mem_of_getElem? (i := 21) rfl)) (hw _ (List.mem_of_getElem? (i := 3) rfl)) (hw _ (List.mem_of_getElem? (i := 23) rfl)) (by decide) Ba330'h332 own_pd5 (argsL := []) (rest := []) rfl rfl rfl (W := 0) (Nat.le_of_eq rfl) rfl (by decide) (by decide) (k' := 4) (n' := 15) rfl rfl (by decide) (by decide) at_304 (q := 307) rfl ?_
            rintro _ _ ⟨zb, rfl, hzb, rfl⟩
            show X.G h332 4 15 307 #[.val (.int x0), .val (.int x1), .val (.int x2), .val (.int x3), .val (.int x4), .val (.int m), .val (.int (3 : Int32)), .val (.int l2), .val (.ref a325), .val (.int (1 : Int32)), .val (.ref a330), .unset] [(.int zb)]
            refine X.istore (q := 309) (Ls' := #[.val (.int x0), .val (.int x1), .val (.int x2), .val (.int x3), .val (.int x4), .val (.int m), .val (.int (3 : Int32)), .val (.int l2), .val (.ref a325), .val (.int (1 : Int32)), .val (.ref a330), .val (.int zb)]) at_307 rfl rfl ?_
            refine X.aload (q := 311) at_309 rfl rfl rfl ?_
            refine X.virtual (a := a330) (own_en l Z a0 hw h332 n0 a330 a325 (5 : Int32) (5 : Int32) (by decide) hsh332 Ba330'h332 S1b S1p S1e) (hw _ (List.mem_of_getElem? (i := 24) rfl)) (hw _ (List.mem_of_getElem? (i := 25) rfl)) (hw _ (List.mem_of_getElem? (i := 27) rfl)) (hw _ (List.mem_of_getElem? (i := 26) rfl)) (hw _ (List.mem_of_getElem? (i := 3) rfl)) (hw _ (List.mem_of_getElem? (i := 28) rfl)) (by decide) Ba330'h332 own_pd9 (argsL := []) (rest := []) rfl rfl rfl (W := 0) (Nat.le_of_eq rfl) rfl (by decide) (by decide) (k' := 4) (n' := 15) rfl rfl (by decide) (by decide) at_311 (q := 314) rfl ?_
            rintro _ _ ⟨rfl, rfl⟩
            show X.G h332 4 15 314 #[.val (.int x0), .val (.int x1), .val (.int x2), .val (.int x3), .val (.int x4), .val (.int m), .val (.int (3 : Int32)), .val (.int l2), .val (.ref a325), .val (.int (1 : Int32)), .val (.ref a330), .val (.int zb)] []
            refine X.iload (q := 316) at_314 rfl rfl ?_
            refine X.if_ne (q' := 331) (q := 319) at_316 rfl (by decide) rfl (fun c316 => ?_) (fun c316 => ?_)
            · omega
            · refine X.aload (q := 321) at_319 rfl rfl rfl ?_
              refine X.virtual (a := a330) (own_hm l Z a0 hw h332 n0 a330 (5 : Int32) (5 : Int32) hsh332 S1p S1e) (hw _ (List.mem_of_getElem? (i := 19) rfl)) (hw _ (List.mem_of_getElem? (i := 20) rfl)) (hw _ (List.mem_of_getElem? (i := 22) rfl)) (hw _ (List.mem_of_getElem? (i := 21) rfl)) (hw _ (List.mem_of_getElem? (i := 3) rfl)) (hw _ (List.mem_of_getElem? (i := 23) rfl)) (by decide) Ba330'h332 own_pd5 (argsL := []) (rest := []) rfl rfl rfl (W := 0) (Nat.le_of_eq rfl) rfl (by decide) (by decide) (k' := 4) (n' := 15) rfl rfl (by decide) (by decide) at_321 (q := 324) rfl ?_
              rintro _ _ ⟨zc, rfl, hzc, rfl⟩
              show X.G h332 4 15 324 #[.val (.int x0), .val (.int x1), .val (.int x2), .val (.int x3), .val (.int x4), .val (.int m), .val (.int (3 : Int32)), .val (.int l2), .val (.ref a325), .val (.int (1 : Int32)), .val (.ref a330), .val (.int zb)] [(.int zc)]
              refine X.if_ne (q' := 331) (q := 327) at_324 rfl (by decide) rfl (fun c324 => ?_) (fun c324 => ?_)
              · omega
              · refine X.iconst (q := 328) (1 : Int32) at_327 (by decide) rfl ?_
                refine X.goto (q' := 332) at_328 (by decide) ?_
                refine X.retN (t := .boolean) (z' := (1 : Int32)) at_332 rfl (by simp) (by decide) (by decide) (by decide) ?_
                rfl
          · omega
  · refine X.iconst (q := 23) (0 : Int32) at_22 (by decide) rfl ?_
    refine X.newP (q := 25) (ty := .byte) (N := 0) (cap := 0) (k' := 1) (n' := 0) (hw _ (List.mem_of_getElem? (i := 0) rfl)) at_23 rfl rfl (Nat.le_refl _) (by decide) rfl rfl (by decide) (by decide) rfl (fun h333 a334 ga334 Eh333 Aa334 => ?_)
    have gea334 : n0 ≤ a334 := by rw [ga334]; exact hn0
    have hsh333 : n0 ≤ h333.size := Nat.le_trans hn0 Eh333.1
    have Aa334 : OwA Z h333 a334 .byte [] := Aa334
    refine X.astore (q := 27) (Ls' := #[.val (.int x0), .val (.int x1), .val (.int x2), .val (.int x3), .val (.int x4), .val (.int m), .val (.int l1), .val (.int l2), .val (.ref a334), .unset, .unset, .unset]) at_25 rfl rfl rfl ?_
    refine X.iconst (q := 28) (0 : Int32) at_27 (by decide) rfl ?_
    refine X.istore (q := 30) (Ls' := #[.val (.int x0), .val (.int x1), .val (.int x2), .val (.int x3), .val (.int x4), .val (.int m), .val (.int l1), .val (.int l2), .val (.ref a334), .val (.int (0 : Int32)), .unset, .unset]) at_28 rfl rfl ?_
    refine X.goto (q' := 259) at_30 (by decide) ?_
    refine X.newO (q := 262) (k' := 2) (n' := 3) (hw _ (List.mem_of_getElem? (i := 1) rfl)) (hw _ (List.mem_of_getElem? (i := 2) rfl)) (hw _ (List.mem_of_getElem? (i := 3) rfl)) at_259 rfl rfl (by decide) (by decide) rfl (fun h335 a336 ga336 Eh335 Ba336 Da336 => ?_)
    have la334_a336 : a334 < a336 := by have := Aa334.lt; rw [← ga336] at this; exact this
    have Aa334'h335 : OwA Z h335 a334 .byte [] := OwA.ext (E := Eh335) Aa334
    have gea336 : n0 ≤ a336 := by rw [ga336]; exact hsh333
    have hsh335 : n0 ≤ h335.size := Nat.le_trans hsh333 Eh335.1
    have Fa336_bytes : Fld Z h335 a336 "com/example/dircred/dircred/credential/DerReader" "bytes" "[B" .null := Da336 (Or.inr (hw _ (List.mem_of_getElem? (i := 14) rfl))) (ty := (.array .byte)) (by decide)
    have Fa336_position : Fld Z h335 a336 "com/example/dircred/dircred/credential/DerReader" "position" "I" (.int (0 : Int32)) := Da336 (Or.inl (hw _ (List.mem_of_getElem? (i := 16) rfl))) (ty := .int) (by decide)
    have Fa336_end : Fld Z h335 a336 "com/example/dircred/dircred/credential/DerReader" "end" "I" (.int (0 : Int32)) := Da336 (Or.inr (hw _ (List.mem_of_getElem? (i := 18) rfl))) (ty := .int) (by decide)
    refine X.dup (q := 263) at_262 rfl rfl ?_
    refine X.aload (q := 265) at_263 rfl rfl rfl ?_
    obtain ⟨L, hL⟩ : ∃ L_ : List Int32, L_ = [] := ⟨_, rfl⟩
    have AL : OwA Z h335 a334 .byte (L.map Value.int) := by rw [hL]; exact Aa334'h335
    have nL : L.length = 0 := by rw [hL]; rfl
    have rL : ∀ x ∈ L, -128 ≤ x.toInt ∧ x.toInt ≤ 127 := by
      intro x hx; rw [hL] at hx
      simp at hx
    clear hL
    refine X.special (a := a336) (own_i1 l Z a0 hw h335 n0 a336 a334 L (0 : Int32) (by rw [nL]; rfl) hsh335 Ba336 Fa336_bytes Fa336_position Fa336_end AL gea336 (Nat.ne_of_gt la334_a336)) rfl (hw _ (List.mem_of_getElem? (i := 4) rfl)) (hw _ (List.mem_of_getElem? (i := 5) rfl)) (hw _ (List.mem_of_getElem? (i := 3) rfl)) (hw _ (List.mem_of_getElem? (i := 6) rfl)) (by decide) own_pd8 (argsL := [(.ref a334)]) (rest := [(.ref a336)]) rfl rfl rfl (W := 1) (Nat.le_of_eq rfl) rfl (by decide) (by decide) (k' := 2) (n' := 3) rfl rfl (by decide) (by decide) at_265 (q := 268) rfl ?_
    rintro _ h337 ⟨rfl, Kh337c, Db, Dp, De⟩
    have AL'h337 : OwA Z h337 a334 .byte (L.map Value.int) := OwA.keep AL Kh337c (ninS (Nat.ne_of_lt la334_a336) nin0)
    have Ba336'h337 : Exa Z h337 a336 "com/example/dircred/dircred/credential/DerReader" := Exa.keep Ba336 Kh337c
    have hsh337 : n0 ≤ h337.size := Nat.le_trans hsh335 Kh337c.1
    show X.G h337 2 3 268 #[.val (.int x0), .val (.int x1), .val (.int x2), .val (.int x3), .val (.int x4), .val (.int m), .val (.int l1), .val (.int l2), .val (.ref a334), .val (.int (0 : Int32)), .unset, .unset] [(.ref a336)]
    refine X.astore (q := 270) (Ls' := #[.val (.int x0), .val (.int x1), .val (.int x2), .val (.int x3), .val (.int x4), .val (.int m), .val (.int l1), .val (.int l2), .val (.ref a334), .val (.int (0 : Int32)), .val (.ref a336), .unset]) at_268 rfl rfl rfl ?_
    refine X.iload (q := 272) at_270 rfl rfl ?_
    refine X.iconst (q := 273) (1 : Int32) at_272 (by decide) rfl ?_
    refine X.icmp_lt (a := 0) (b := 1) (q' := 281) (q := 276) at_273 rfl rfl (by decide) rfl (fun c273 => ?_) (fun c273 => ?_)
    · refine X.iload (q := 283) at_281 rfl rfl ?_
      refine X.iconst (q := 284) (2 : Int32) at_283 (by decide) rfl ?_
      refine X.icmp_ne (a := 0) (b := 2) (q' := 302) (q := 287) at_284 rfl rfl (by decide) rfl (fun c284 => ?_) (fun c284 => ?_)
      · refine X.aload (q := 304) at_302 rfl rfl rfl ?_
        refine X.virtual (a := a336) (own_hm l Z a0 hw h337 n0 a336 (0 : Int32) (0 : Int32) hsh337 Dp De) (hw _ (List.mem_of_getElem? (i := 19) rfl)) (hw _ (List.mem_of_getElem? (i := 20) rfl)) (hw _ (List.mem_of_getElem? (i := 22) rfl)) (hw _ (List.mem_of_getElem? (i := 21) rfl)) (hw _ (List.mem_of_getElem? (i := 3) rfl)) (hw _ (List.mem_of_getElem? (i := 23) rfl)) (by decide) Ba336'h337 own_pd5 (argsL := []) (rest := []) rfl rfl rfl (W := 0) (Nat.le_of_eq rfl) rfl (by decide) (by decide) (k' := 2) (n' := 3) rfl rfl (by decide) (by decide) at_304 (q := 307) rfl ?_
        rintro _ _ ⟨zb, rfl, hzb, rfl⟩
        show X.G h337 2 3 307 #[.val (.int x0), .val (.int x1), .val (.int x2), .val (.int x3), .val (.int x4), .val (.int m), .val (.int l1), .val (.int l2), .val (.ref a334), .val (.int (0 : Int32)), .val (.ref a336), .unset] [(.int zb)]
        refine X.istore (q := 309) (Ls' := #[.val (.int x0), .val (.int x1), .val (.int x2), .val (.int x3), .val (.int x4), .val (.int m), .val (.int l1), .val (.int l2), .val (.ref a334), .val (.int (0 : Int32)), .val (.ref a336), .val (.int zb)]) at_307 rfl rfl ?_
        refine X.aload (q := 311) at_309 rfl rfl rfl ?_
        refine X.virtual (a := a336) (own_en l Z a0 hw h337 n0 a336 a334 (0 : Int32) (0 : Int32) (by decide) hsh337 Ba336'h337 Db Dp De) (hw _ (List.mem_of_getElem? (i := 24) rfl)) (hw _ (List.mem_of_getElem? (i := 25) rfl)) (hw _ (List.mem_of_getElem? (i := 27) rfl)) (hw _ (List.mem_of_getElem? (i := 26) rfl)) (hw _ (List.mem_of_getElem? (i := 3) rfl)) (hw _ (List.mem_of_getElem? (i := 28) rfl)) (by decide) Ba336'h337 own_pd9 (argsL := []) (rest := []) rfl rfl rfl (W := 0) (Nat.le_of_eq rfl) rfl (by decide) (by decide) (k' := 2) (n' := 3) rfl rfl (by decide) (by decide) at_311 (q := 314) rfl ?_
        rintro _ _ ⟨rfl, rfl⟩
        show X.G h337 2 3 314 #[.val (.int x0), .val (.int x1), .val (.int x2), .val (.int x3), .val (.int x4), .val (.int m), .val (.int l1), .val (.int l2), .val (.ref a334), .val (.int (0 : Int32)), .val (.ref a336), .val (.int zb)] []
        refine X.iload (q := 316) at_314 rfl rfl ?_
        refine X.if_ne (q' := 331) (q := 319) at_316 rfl (by decide) rfl (fun c316 => ?_) (fun c316 => ?_)
        · omega
        · refine X.aload (q := 321) at_319 rfl rfl rfl ?_
          refine X.virtual (a := a336) (own_hm l Z a0 hw h337 n0 a336 (0 : Int32) (0 : Int32) hsh337 Dp De) (hw _ (List.mem_of_getElem? (i := 19) rfl)) (hw _ (List.mem_of_getElem? (i := 20) rfl)) (hw _ (List.mem_of_getElem? (i := 22) rfl)) (hw _ (List.mem_of_getElem? (i := 21) rfl)) (hw _ (List.mem_of_getElem? (i := 3) rfl)) (hw _ (List.mem_of_getElem? (i := 23) rfl)) (by decide) Ba336'h337 own_pd5 (argsL := []) (rest := []) rfl rfl rfl (W := 0) (Nat.le_of_eq rfl) rfl (by decide) (by decide) (k' := 2) (n' := 3) rfl rfl (by decide) (by decide) at_321 (q := 324) rfl ?_
          rintro _ _ ⟨zc, rfl, hzc, rfl⟩
          show X.G h337 2 3 324 #[.val (.int x0), .val (.int x1), .val (.int x2), .val (.int x3), .val (.int x4), .val (.int m), .val (.int l1), .val (.int l2), .val (.ref a334), .val (.int (0 : Int32)), .val (.ref a336), .val (.int zb)] [(.int zc)]
          refine X.if_ne (q' := 331) (q := 327) at_324 rfl (by decide) rfl (fun c324 => ?_) (fun c324 => ?_)
          · omega
          · refine X.iconst (q := 328) (1 : Int32) at_327 (by decide) rfl ?_
            refine X.goto (q' := 332) at_328 (by decide) ?_
            refine X.retN (t := .boolean) (z' := (1 : Int32)) at_332 rfl (by simp) (by decide) (by decide) (by decide) ?_
            rfl
      · omega
    · omega
set_option maxRecDepth 65536 in
set_option maxHeartbeats 40000000 in
theorem comes_1 {Post : Tables → Env → Array Value → State → Outcome → State → Prop} (hpost : ∀ tb e args s v u, (limb_1_1.after args s (.returned v) u = true ∧ limb_1_2.after args s (.returned v) u = true ∧ True) → FrameEnd s (.returned v) u (Jvm.fieldLocs frame_1_writes args s ++ Jvm.arrayLocs frame_1_arrays args s ++ Jvm.staticLocs frame_1_statics s) 24 128 → Post tb e args s (.returned v) u) :
    ArmFor flags0 classFile x code maxLocals ret World_1 tables_1 room_1 Calls_1 rest_1 Pre_1 Post := by
  intro l hfl _ _ p e ha hc hk s m args below hf hA hF happ hP
  obtain ⟨hcalls, hrest, hpre⟩ := hP
  obtain ⟨-, -, -, hnamed, -, -, -, hat⟩ := (Spec.applies_iff hf).mp happ
  obtain ⟨hg, hn⟩ := and_e (Cond.before_iff.mp (show (Jvm.Cond.and given_1 narrow_1).before args s = true from hpre))
  obtain ⟨hg0, hg⟩ := and_e hg
  obtain ⟨w0, w1, w2, w3, w4, rfl⟩ : ∃ w0 w1 w2 w3 w4 : Value, args = #[w0, w1, w2, w3, w4] := by
    have hs : args.size = 5 := by simpa [Cond.value, given_1] using hg0
    obtain ⟨L⟩ := args
    match L, hs with
    | [w0, w1, w2, w3, w4], _ => exact ⟨w0, w1, w2, w3, w4, rfl⟩
  have hw := fun d (hd : d ∈ tables_1) => atoms_spec (ws := Jvm.Cond.code x code maxLocals ret :: tables_1) hat d (List.mem_cons_of_mem _ hd)
  obtain ⟨ha0, hg⟩ := and_e hg
  obtain ⟨i0, e0⟩ := is_v ha0
  obtain rfl : w0 = (.int i0) := Option.some.inj e0
  obtain ⟨ha1, hg⟩ := and_e hg
  obtain ⟨i1, e1⟩ := is_v ha1
  obtain rfl : w1 = (.int i1) := Option.some.inj e1
  obtain ⟨ha2, hg⟩ := and_e hg
  obtain ⟨i2, e2⟩ := is_v ha2
  obtain rfl : w2 = (.int i2) := Option.some.inj e2
  obtain ⟨ha3, hg⟩ := and_e hg
  obtain ⟨i3, e3⟩ := is_v ha3
  obtain rfl : w3 = (.int i3) := Option.some.inj e3
  have ha4 := hg
  obtain ⟨i4, e4⟩ := is_v ha4
  obtain rfl : w4 = (.int i4) := Option.some.inj e4
  obtain ⟨n, o, h1, h2, h3, _, L, rfl, ⟨rfl, N⟩, hq⟩ := own_law l s _ hw s.heap s.heap.size (Nat.le_refl _) i0 i1 i2 i3 i4 p e ha hc hk s m _ below hf ((Spec.applies_iff_loose hf).mp happ).1 ⟨rfl, State.Warmed39.refl s, rfl⟩ trivial
  refine ⟨n, _, h1, h2, h3, hpost _ _ _ _ _ _ ⟨Cond.after_iff.mpr rfl, Cond.after_iff.mpr (eq_i res_at (Term.int_eval (1)) rfl), trivial⟩ ⟨hq.1, hq.2.1, (hq.2.2.sift fun y hy => Or.inr (N y hy)).mono (by decide) (by decide)⟩⟩
theorem main_1_1 : Claimed_1_1 := comes_1 fun _ _ _ _ _ _ h hF => ⟨h.1, hF⟩
theorem main_1_2 : Claimed_1_2 := comes_1 fun _ _ _ _ _ _ h hF => ⟨h.2.1, hF⟩
end Jvm.Pilot.@@N@@
namespace Jvm.Pilot.@@N@@
open Jvm Jvm.ClassFile Sem Op Lib Jvm.Free Jvm.Stand Jvm.Pilot.@@N@@.Jvm.D
/-! MADE BY PROGRAM (witnessworld.py) out of the Statement's table words and the real class files: 11 classes; the members and pool entries that the words name. The judged class is class 1, her method 3. -/
namespace start1
open Jvm.ClassFile
def u (s : String) : CpInfo := .utf8 (stringToUtf16 s)
/-- a pool by its gaps: so many unusable entries, then the entry; so many at the end -/
def gap : Nat → List CpInfo → List CpInfo
  | 0, r => r
  | n + 1, r => .unusable :: gap n r
def poolList (es : List (Nat × CpInfo)) (last : Nat) : List CpInfo := es.foldr (fun e r => gap e.1 (e.2 :: r)) (gap last [])
def pool (es : List (Nat × CpInfo)) (last : Nat) : Array CpInfo := ⟨poolList es last⟩
def fileOf (pool : Array CpInfo) (this : Nat) (attrs : Array Attribute := #[]) (ms : Array MethodInfo := #[]) (fl : Nat := 33) (sup : Nat := 0) (ifs : Array Nat := #[]) (fds : Array FieldInfo := #[]) : ClassFile where
  minorVersion := 0
  majorVersion := 65
  constantPool := pool
  accessFlags := fl
  thisClass := this
  superClass := sup
  interfaces := ifs
  fields := fds
  methods := ms
  attributes := attrs
def plain (name : String) (sup : Option ClassId) : Class where
  name := name
  kind := .ordinary
  loader := none
  accessFlags := 33
  super := sup
  interfaces := #[]
  cf := none
  fields := #[]
  methods := #[]
  instanceTypes := #[]
  staticTypes := #[]
  resolved := #[]
  callSites := []
  init := .initialized
  statics := none
  mirror := none

def pool0 : Array CpInfo := pool [(5, u "<init>"), (0, u "()V"), (1, .class_ 10), (1, u "java/lang/Object")] 113

def k0c0 : Code := { maxStack := 0, maxLocals := 1, code := object_method_1_code, exceptionTable := #[], attributes := #[] }
def k0m0 : Method := { name := "<init>", desc := "()V", sig := { parameters := [], returnType := none }, accessFlags := 1, code := some k0c0 }
/-- java/lang/Object -/
def k0 : Class := { plain "java/lang/Object" none with
  accessFlags := 33
  interfaces := #[]
  cf := some (fileOf pool0 8 #[] #[{ accessFlags := 1, nameIndex := 5, descriptorIndex := 6, attributes := #[] }] 33 0 #[] #[])
  fields := #[]
  methods := #[k0m0]
  instanceTypes := #[]
  staticTypes := #[]
  resolved := Array.replicate 124 none
  statics := none }

def pool1 : Array CpInfo := pool [(2, .class_ 4), (1, u "java/lang/Object"), (0, u "<init>"), (0, u "()V"), (0, .methodref 8 9), (0, .class_ 10), (0, .nameAndType 11 12), (0, u "com/example/dircred/dircred/credential/DerReaderEndPinLaw"), (0, u "tag"), (0, u "(II)I"), (0, .methodref 8 14), (0, .nameAndType 15 16), (0, u "put"), (0, u "([BIII)V"), (0, .class_ 18), (0, u "com/example/dircred/dircred/credential/DerReader"), (0, .methodref 17 20), (0, .nameAndType 5 21), (0, u "([B)V"), (0, .methodref 17 23), (0, .nameAndType 24 6), (0, u "skip"), (0, .methodref 17 26), (0, .nameAndType 27 28), (0, u "hasMore"), (0, u "()Z"), (0, .methodref 17 30), (0, .nameAndType 31 6), (0, u "end"), (3, u "law"), (0, u "(IIIII)Z")] 7

def k1m0 : Method := { name := "<init>", desc := "()V", sig := { parameters := [], returnType := none }, accessFlags := 1, code := none }
def k1c1 : Code := { maxStack := 2, maxLocals := 3, code := method_2_code, exceptionTable := #[], attributes := #[] }
def k1m1 : Method := { name := "tag", desc := "(II)I", sig := { parameters := [.int, .int], returnType := some .int }, accessFlags := 10, code := some k1c1 }
def k1c2 : Code := { maxStack := 4, maxLocals := 4, code := method_3_code, exceptionTable := #[], attributes := #[] }
def k1m2 : Method := { name := "put", desc := "([BIII)V", sig := { parameters := [(.array .byte), .int, .int, .int], returnType := none }, accessFlags := 10, code := some k1c2 }
def k1c3 : Code := { maxStack := 5, maxLocals := 12, code := code, exceptionTable := #[], attributes := #[] }
def k1m3 : Method := { name := "law", desc := "(IIIII)Z", sig := { parameters := [.int, .int, .int, .int, .int], returnType := some .boolean }, accessFlags := 9, code := some k1c3 }
/-- com/example/dircred/dircred/credential/DerReaderEndPinLaw -/
def k1 : Class := { plain "com/example/dircred/dircred/credential/DerReaderEndPinLaw" (some 0) with
  accessFlags := 49
  interfaces := #[]
  cf := some (fileOf pool1 8 #[] #[{ accessFlags := 1, nameIndex := 5, descriptorIndex := 6, attributes := #[] }, { accessFlags := 10, nameIndex := 11, descriptorIndex := 12, attributes := #[] }, { accessFlags := 10, nameIndex := 15, descriptorIndex := 16, attributes := #[] }, { accessFlags := 9, nameIndex := 35, descriptorIndex := 36, attributes := #[] }] 49 2 #[] #[])
  fields := #[]
  methods := #[k1m0, k1m1, k1m2, k1m3]
  instanceTypes := #[]
  staticTypes := #[]
  resolved := Array.replicate 44 none
  statics := none }

def pool2 : Array CpInfo := pool [(1, .methodref 2 3), (0, .class_ 4), (0, .nameAndType 5 6), (0, u "com/example/dircred/dircred/credential/DerReader"), (0, u "<init>"), (0, u "([BII)V"), (0, .methodref 8 9), (0, .class_ 10), (0, .nameAndType 5 11), (0, u "java/lang/Object"), (0, u "()V"), (0, .fieldref 2 13), (0, .nameAndType 14 15), (0, u "bytes"), (0, u "[B"), (0, .fieldref 2 17), (0, .nameAndType 18 19), (0, u "position"), (0, u "I"), (0, .fieldref 2 21), (0, .nameAndType 22 19), (0, u "end"), (2, u "([B)V"), (2, u "skip"), (2, .methodref 2 32), (0, .nameAndType 33 34), (0, u "hasMore"), (0, u "()Z"), (0, .methodref 2 36), (0, .nameAndType 37 38), (0, u "header"), (0, u "(I)Lcom/example/dircred/dircred/credential/DerReader$Header;"), (0, .fieldref 40 41), (0, .class_ 42), (0, .nameAndType 43 19), (0, u "com/example/dircred/dircred/credential/DerReader$Header"), (0, u "tag"), (13, .class_ 59), (0, .nameAndType 60 19), (0, u "com/example/dircred/dircred/credential/DerReader$Value"), (0, u "contentStart"), (20, u "length"), (28, .methodref 2 111), (0, .nameAndType 112 113), (0, u "next"), (0, u "()Lcom/example/dircred/dircred/credential/DerReader$Value;"), (26, .fieldref 40 141), (0, .nameAndType 81 19), (0, .fieldref 40 58), (0, .methodref 57 144), (0, .nameAndType 5 145), (0, u "(IIII)V"), (24, .long 2147483647), (6, .methodref 40 178), (0, .nameAndType 5 179), (0, u "(III)V"), (0, u "INTEGER"), (2, u "OCTET_STRING"), (1, u "OBJECT_IDENTIFIER"), (1, u "SEQUENCE"), (1, u "CONSTRUCTED"), (1, u "CONTEXT_SPECIFIC"), (1, u "HIGH_TAG_NUMBER"), (1, u "MAX_LENGTH_OCTETS"), (0, u "CUT_SHORT"), (0, u "Ljava/lang/String;"), (0, u "LONGER_THAN_THE_FILE"), (0, u "MAX_SUBIDENTIFIER_OCTETS")] 42

def k2c0 : Code := { maxStack := 4, maxLocals := 2, code := prog_2_method_1_code, exceptionTable := #[], attributes := #[] }
def k2m0 : Method := { name := "<init>", desc := "([B)V", sig := { parameters := [(.array .byte)], returnType := none }, accessFlags := 0, code := some k2c0 }
def k2c1 : Code := { maxStack := 2, maxLocals := 4, code := prog_2_method_2_code, exceptionTable := #[], attributes := #[] }
def k2m1 : Method := { name := "<init>", desc := "([BII)V", sig := { parameters := [(.array .byte), .int, .int], returnType := none }, accessFlags := 2, code := some k2c1 }
def k2c2 : Code := { maxStack := 2, maxLocals := 1, code := prog_2_method_4_code, exceptionTable := #[], attributes := #[] }
def k2m2 : Method := { name := "hasMore", desc := "()Z", sig := { parameters := [], returnType := some .boolean }, accessFlags := 0, code := some k2c2 }
def k2c3 : Code := { maxStack := 1, maxLocals := 1, code := prog_2_method_14_code, exceptionTable := #[], attributes := #[] }
def k2m3 : Method := { name := "skip", desc := "()V", sig := { parameters := [], returnType := none }, accessFlags := 0, code := some k2c3 }
def k2c4 : Code := { maxStack := 4, maxLocals := 1, code := prog_2_method_15_code, exceptionTable := #[], attributes := #[] }
def k2m4 : Method := { name := "end", desc := "()V", sig := { parameters := [], returnType := none }, accessFlags := 0, code := some k2c4 }
def k2c5 : Code := { maxStack := 6, maxLocals := 5, code := prog_2_method_18_code, exceptionTable := #[], attributes := #[] }
def k2m5 : Method := { name := "next", desc := "()Lcom/example/dircred/dircred/credential/DerReader$Value;", sig := { parameters := [], returnType := some (.object "com/example/dircred/dircred/credential/DerReader$Value") }, accessFlags := 2, code := some k2c5 }
def k2c6 : Code := { maxStack := 7, maxLocals := 10, code := prog_2_method_20_code, exceptionTable := #[], attributes := #[] }
def k2m6 : Method := { name := "header", desc := "(I)Lcom/example/dircred/dircred/credential/DerReader$Header;", sig := { parameters := [.int], returnType := some (.object "com/example/dircred/dircred/credential/DerReader$Header") }, accessFlags := 2, code := some k2c6 }
/-- com/example/dircred/dircred/credential/DerReader -/
def k2 : Class := { plain "com/example/dircred/dircred/credential/DerReader" (some 0) with
  accessFlags := 48
  interfaces := #[]
  cf := some (fileOf pool2 2 #[.nestMembers #[57, 40]] #[{ accessFlags := 0, nameIndex := 5, descriptorIndex := 25, attributes := #[] }, { accessFlags := 2, nameIndex := 5, descriptorIndex := 6, attributes := #[] }, { accessFlags := 0, nameIndex := 33, descriptorIndex := 34, attributes := #[] }, { accessFlags := 0, nameIndex := 28, descriptorIndex := 11, attributes := #[] }, { accessFlags := 0, nameIndex := 22, descriptorIndex := 11, attributes := #[] }, { accessFlags := 2, nameIndex := 112, descriptorIndex := 113, attributes := #[] }, { accessFlags := 2, nameIndex := 37, descriptorIndex := 38, attributes := #[] }] 48 8 #[] #[{ accessFlags := 24, nameIndex := 180, descriptorIndex := 19, attributes := #[] }, { accessFlags := 24, nameIndex := 183, descriptorIndex := 19, attributes := #[] }, { accessFlags := 24, nameIndex := 185, descriptorIndex := 19, attributes := #[] }, { accessFlags := 24, nameIndex := 187, descriptorIndex := 19, attributes := #[] }, { accessFlags := 26, nameIndex := 189, descriptorIndex := 19, attributes := #[] }, { accessFlags := 26, nameIndex := 191, descriptorIndex := 19, attributes := #[] }, { accessFlags := 26, nameIndex := 193, descriptorIndex := 19, attributes := #[] }, { accessFlags := 26, nameIndex := 195, descriptorIndex := 19, attributes := #[] }, { accessFlags := 26, nameIndex := 196, descriptorIndex := 197, attributes := #[] }, { accessFlags := 26, nameIndex := 198, descriptorIndex := 197, attributes := #[] }, { accessFlags := 26, nameIndex := 199, descriptorIndex := 19, attributes := #[] }, { accessFlags := 18, nameIndex := 14, descriptorIndex := 15, attributes := #[] }, { accessFlags := 18, nameIndex := 22, descriptorIndex := 19, attributes := #[] }, { accessFlags := 2, nameIndex := 18, descriptorIndex := 19, attributes := #[] }])
  fields := #[{ name := "INTEGER", type := .int, accessFlags := 24, slot := 0, constantValue := 0 }, { name := "OCTET_STRING", type := .int, accessFlags := 24, slot := 1, constantValue := 0 }, { name := "OBJECT_IDENTIFIER", type := .int, accessFlags := 24, slot := 2, constantValue := 0 }, { name := "SEQUENCE", type := .int, accessFlags := 24, slot := 3, constantValue := 0 }, { name := "CONSTRUCTED", type := .int, accessFlags := 26, slot := 4, constantValue := 0 }, { name := "CONTEXT_SPECIFIC", type := .int, accessFlags := 26, slot := 5, constantValue := 0 }, { name := "HIGH_TAG_NUMBER", type := .int, accessFlags := 26, slot := 6, constantValue := 0 }, { name := "MAX_LENGTH_OCTETS", type := .int, accessFlags := 26, slot := 7, constantValue := 0 }, { name := "CUT_SHORT", type := (.object "java/lang/String"), accessFlags := 26, slot := 8, constantValue := 0 }, { name := "LONGER_THAN_THE_FILE", type := (.object "java/lang/String"), accessFlags := 26, slot := 9, constantValue := 0 }, { name := "MAX_SUBIDENTIFIER_OCTETS", type := .int, accessFlags := 26, slot := 10, constantValue := 0 }, { name := "bytes", type := (.array .byte), accessFlags := 18, slot := 0, constantValue := 0 }, { name := "end", type := .int, accessFlags := 18, slot := 1, constantValue := 0 }, { name := "position", type := .int, accessFlags := 2, slot := 2, constantValue := 0 }]
  methods := #[k2m0, k2m1, k2m2, k2m3, k2m4, k2m5, k2m6]
  instanceTypes := #[(.array .byte), .int, .int]
  staticTypes := #[.int, .int, .int, .int, .int, .int, .int, .int, (.object "java/lang/String"), (.object "java/lang/String"), .int]
  resolved := #[none, none, none, none, none, none, none, none, none, none, none, none, none, none, none, none, none, none, none, none, none, none, none, none, none, none, none, none, none, none, none, none, none, none, none, none, none, none, none, some (.field 3 0), none, none, none, none, none, none, none, none, none, none, none, none, none, none, none, none, none, none, none, none, none, none, none, none, none, none, none, none, none, none, none, none, none, none, none, none, none, none, none, none, none, none, none, none, none, none, none, none, none, none, none, none, none, none, none, none, none, none, none, none, none, none, none, none, none, none, none, none, none, none, none, none, none, none, none, none, none, none, none, none, none, none, none, none, none, none, none, none, none, none, none, none, none, none, none, none, none, none, none, none, some (.field 3 2), none, some (.field 3 1), none, none, none, none, none, none, none, none, none, none, none, none, none, none, none, none, none, none, none, none, none, none, none, none, none, none, none, none, none, none, none, none, none, none, none, none, none, none, none, none, none, none, none, none, none, none, none, none, none, none, none, none, none, none, none, none, none, none, none, none, none, none, none, none, none, none, none, none, none, none, none, none, none, none, none, none, none, none, none, none, none, none, none, none, none, none, none, none, none, none, none, none, none, none, none, none, none, none, none]
  statics := none }

def pool3 : Array CpInfo := pool [(1, .methodref 2 3), (0, .class_ 4), (0, .nameAndType 5 6), (0, u "java/lang/Object"), (0, u "<init>"), (0, u "()V"), (0, .fieldref 8 9), (0, .class_ 10), (0, .nameAndType 11 12), (0, u "com/example/dircred/dircred/credential/DerReader$Header"), (0, u "tag"), (0, u "I"), (0, .fieldref 8 14), (0, .nameAndType 15 12), (0, u "contentStart"), (0, .fieldref 8 17), (0, .nameAndType 18 12), (0, u "length"), (0, u "(III)V"), (5, .class_ 26), (0, u "com/example/dircred/dircred/credential/DerReader")] 2

def k3c0 : Code := { maxStack := 2, maxLocals := 4, code := prog_3_method_1_code, exceptionTable := #[], attributes := #[] }
def k3m0 : Method := { name := "<init>", desc := "(III)V", sig := { parameters := [.int, .int, .int], returnType := none }, accessFlags := 0, code := some k3c0 }
/-- com/example/dircred/dircred/credential/DerReader$Header -/
def k3 : Class := { plain "com/example/dircred/dircred/credential/DerReader$Header" (some 0) with
  accessFlags := 48
  interfaces := #[]
  cf := some (fileOf pool3 8 #[.nestHost 25] #[{ accessFlags := 0, nameIndex := 5, descriptorIndex := 19, attributes := #[] }] 48 2 #[] #[{ accessFlags := 18, nameIndex := 11, descriptorIndex := 12, attributes := #[] }, { accessFlags := 18, nameIndex := 15, descriptorIndex := 12, attributes := #[] }, { accessFlags := 18, nameIndex := 18, descriptorIndex := 12, attributes := #[] }])
  fields := #[{ name := "tag", type := .int, accessFlags := 18, slot := 0, constantValue := 0 }, { name := "contentStart", type := .int, accessFlags := 18, slot := 1, constantValue := 0 }, { name := "length", type := .int, accessFlags := 18, slot := 2, constantValue := 0 }]
  methods := #[k3m0]
  instanceTypes := #[.int, .int, .int]
  staticTypes := #[]
  resolved := Array.replicate 29 none
  statics := none }

def pool4 : Array CpInfo := pool [(1, .methodref 2 3), (0, .class_ 4), (0, .nameAndType 5 6), (0, u "java/lang/Object"), (0, u "<init>"), (0, u "()V"), (0, .fieldref 8 9), (0, .class_ 10), (0, .nameAndType 11 12), (0, u "com/example/dircred/dircred/credential/DerReader$Value"), (0, u "tag"), (0, u "I"), (0, .fieldref 8 14), (0, .nameAndType 15 12), (0, u "contentStart"), (0, .fieldref 8 17), (0, .nameAndType 18 12), (0, u "contentEnd"), (0, .fieldref 8 20), (0, .nameAndType 21 12), (0, u "end"), (0, u "(IIII)V"), (5, .class_ 29), (0, u "com/example/dircred/dircred/credential/DerReader")] 2

def k4c0 : Code := { maxStack := 2, maxLocals := 5, code := prog_4_method_1_code, exceptionTable := #[], attributes := #[] }
def k4m0 : Method := { name := "<init>", desc := "(IIII)V", sig := { parameters := [.int, .int, .int, .int], returnType := none }, accessFlags := 0, code := some k4c0 }
/-- com/example/dircred/dircred/credential/DerReader$Value -/
def k4 : Class := { plain "com/example/dircred/dircred/credential/DerReader$Value" (some 0) with
  accessFlags := 48
  interfaces := #[]
  cf := some (fileOf pool4 8 #[.nestHost 28] #[{ accessFlags := 0, nameIndex := 5, descriptorIndex := 22, attributes := #[] }] 48 2 #[] #[{ accessFlags := 18, nameIndex := 11, descriptorIndex := 12, attributes := #[] }, { accessFlags := 18, nameIndex := 15, descriptorIndex := 12, attributes := #[] }, { accessFlags := 18, nameIndex := 18, descriptorIndex := 12, attributes := #[] }, { accessFlags := 18, nameIndex := 21, descriptorIndex := 12, attributes := #[] }])
  fields := #[{ name := "tag", type := .int, accessFlags := 18, slot := 0, constantValue := 0 }, { name := "contentStart", type := .int, accessFlags := 18, slot := 1, constantValue := 0 }, { name := "contentEnd", type := .int, accessFlags := 18, slot := 2, constantValue := 0 }, { name := "end", type := .int, accessFlags := 18, slot := 3, constantValue := 0 }]
  methods := #[k4m0]
  instanceTypes := #[.int, .int, .int, .int]
  staticTypes := #[]
  resolved := Array.replicate 32 none
  statics := none }

def pool5 : Array CpInfo := pool [(1, u "java/lang/Cloneable"), (0, .class_ 1), (0, u "java/lang/Object"), (0, .class_ 3)] 3

/-- java/lang/Cloneable -/
def k5 : Class := { plain "java/lang/Cloneable" (some 0) with
  accessFlags := 1537
  interfaces := #[]
  cf := some (fileOf pool5 2 #[] #[] 1537 4 #[] #[])
  fields := #[]
  methods := #[]
  instanceTypes := #[]
  staticTypes := #[]
  resolved := Array.replicate 8 none
  statics := none }

def pool6 : Array CpInfo := pool [(1, u "java/io/Serializable"), (0, .class_ 1), (0, u "java/lang/Object"), (0, .class_ 3)] 3

/-- java/io/Serializable -/
def k6 : Class := { plain "java/io/Serializable" (some 0) with
  accessFlags := 1537
  interfaces := #[]
  cf := some (fileOf pool6 2 #[] #[] 1537 4 #[] #[])
  fields := #[]
  methods := #[]
  instanceTypes := #[]
  staticTypes := #[]
  resolved := Array.replicate 8 none
  statics := none }

/-- the primitive byte -/
def k7 : Class := { plain "byte" none with kind := .primitive 'B', accessFlags := 0x411 }
/-- [B -/
def k8 : Class := { plain "[B" (some 0) with kind := .array 7 .byte, interfaces := #[5, 6], accessFlags := 1041 }

/-- the primitive int -/
def k9 : Class := { plain "int" none with kind := .primitive 'I', accessFlags := 0x411 }
/-- [I -/
def k10 : Class := { plain "[I" (some 0) with kind := .array 9 .int, interfaces := #[5, 6], accessFlags := 1041 }

def heap : Heap := #[]
def classes : Array Class := #[k0, k1, k2, k3, k4, k5, k6, k7, k8, k9, k10]
def interned : List (Array UInt16 × Addr) := []
def slotsUsed : Nat := 0
def theMethod : MethodId := ⟨1, 3⟩
def args0 : Array Value := #[.int 5, .int 1, .int 2, .int 3, .int 4]
def aboutOver (below : List Frame) : State where
  vm := { classes := classes, interned := interned.toArray }
  heap := heap
  slotsUsed := slotsUsed
  threads := #[{ frames := .invoking theMethod args0 :: below }]
def below0 : List Frame := [.native { method := ⟨0, 0⟩, args := #[] }]
def about1 : State := aboutOver below0
def p0 : Program := .bare "" "" ""
def e0 : Env := launch0.env 0 0 0
theorem w_frames : about1.frames = Frame.invoking theMethod args0 :: below0 := rfl
set_option maxRecDepth 65536 in
theorem w_args : argsFit about1.vm theMethod args0 = true := by decide +kernel
set_option maxRecDepth 65536 in
theorem w_heap : heapFits about1 = true := by decide +kernel
set_option maxRecDepth 65536 in
theorem w_runnable : about1.curStatus? = some .runnable := by decide +kernel
set_option maxRecDepth 65536 in
theorem w_alone : about1.alone = true := by decide +kernel
set_option maxRecDepth 65536 in
theorem w_named : about1.methodNamed? x = some theMethod := by decide +kernel
set_option maxRecDepth 65536 in
theorem w_hears : about1.hears theMethod below0 = true := by decide +kernel
set_option maxRecDepth 65536 in
theorem w_ripe : about1.ripe theMethod args0 below0 = true := by decide +kernel
theorem w_running : about1.status = .running := rfl
set_option maxRecDepth 65536 in
theorem w_room : about1.hasRoom e0.platform room_1 = true :=
  launch0.hasRoom_least _ room_1 (by decide +kernel) (by decide +kernel) (by decide +kernel) (by decide +kernel) (by decide +kernel) (by decide +kernel)
theorem allAtoms_all (ts : List Jvm.Cond) (a : Array Jvm.Value) (st : Jvm.State) : (allAtoms ts).before a st = ts.all (fun c => c.before a st) := by
  induction ts with
  | nil => rfl
  | cons c t ih =>
    show (Jvm.Cond.and c (allAtoms t)).before a st = _
    rw [Jvm.Cond.before_and, ih, List.all_cons]
def words1 : List Jvm.Cond := Jvm.Cond.code x code maxLocals ret :: tables_1
/-- a 'code' word, met by the world's own term for the bytes: nothing is compared byte by byte -/
theorem code_word {y : MethodName} {bytes : ByteArray} {mx : Nat} {rt : Option FieldType} {a : Array Value} {s : State} {m : MethodId} {meth : Method} {c : Code} (h1 : s.methodNamed? y = some m) (h2 : s.vm.method? m = some meth) (h3 : meth.code = some c) (h4 : c.code = bytes)
    (h5 : (c.maxLocals == mx && c.exceptionTable.isEmpty && decide (c.maxStack ≤ mostOperands) && decide (meth.sig.returnType = rt) && !meth.locks && decide (parseMethodDescriptor y.desc = some meth.sig)) = true) : (Jvm.Cond.code y bytes mx rt).before a s = true := by
  simp only [Bool.and_eq_true, beq_iff_eq, Bool.not_eq_true', decide_eq_true_eq] at h5
  obtain ⟨⟨⟨⟨⟨g1, g2⟩, g3⟩, g4⟩, g5⟩, g6⟩ := h5
  simp [Cond.before, Cond.holds, Cond.value, h1, h2, h3, h4, g1, g2, g3, g4, g5, g6]
def isCode : Jvm.Cond → Bool
  | .code _ _ _ _ => true
  | _ => false
theorem all_split {L : List Jvm.Cond} {P : Jvm.Cond → Bool} (h1 : L.all (fun c => isCode c || P c) = true) (h2 : ∀ c ∈ L.filter isCode, P c = true) : L.all P = true := by
  refine List.all_eq_true.mpr fun c hc => ?_
  have h := List.all_eq_true.mp h1 c hc
  rcases Bool.eq_false_or_eq_true (isCode c) with hi | hi
  · exact h2 c (List.mem_filter.mpr ⟨hc, hi⟩)
  · simpa [hi] using h
set_option maxRecDepth 65536 in
theorem w_c0 : (Jvm.Cond.code x code maxLocals ret).before args0 about1 = true := code_word (m := ⟨1, 3⟩) (meth := k1m3) (c := k1c3) (by decide +kernel) rfl rfl rfl (by decide +kernel)
set_option maxRecDepth 65536 in
theorem w_c1 : (Jvm.Cond.code ({ cls := "com/example/dircred/dircred/credential/DerReader", name := "<init>", desc := "([B)V" } : Jvm.MethodName) prog_2_method_1_code (2 : Nat) (Option.none : Option Jvm.ClassFile.FieldType)).before args0 about1 = true := code_word (m := ⟨2, 0⟩) (meth := k2m0) (c := k2c0) (by decide +kernel) rfl rfl rfl (by decide +kernel)
set_option maxRecDepth 65536 in
theorem w_c2 : (Jvm.Cond.code ({ cls := "com/example/dircred/dircred/credential/DerReader", name := "<init>", desc := "([BII)V" } : Jvm.MethodName) prog_2_method_2_code (4 : Nat) (Option.none : Option Jvm.ClassFile.FieldType)).before args0 about1 = true := code_word (m := ⟨2, 1⟩) (meth := k2m1) (c := k2c1) (by decide +kernel) rfl rfl rfl (by decide +kernel)
set_option maxRecDepth 65536 in
theorem w_c3 : (Jvm.Cond.code ({ cls := "java/lang/Object", name := "<init>", desc := "()V" } : Jvm.MethodName) object_method_1_code (1 : Nat) (Option.none : Option Jvm.ClassFile.FieldType)).before args0 about1 = true := code_word (m := ⟨0, 0⟩) (meth := k0m0) (c := k0c0) (by decide +kernel) rfl rfl rfl (by decide +kernel)
set_option maxRecDepth 65536 in
theorem w_c4 : (Jvm.Cond.code ({ cls := "com/example/dircred/dircred/credential/DerReader", name := "hasMore", desc := "()Z" } : Jvm.MethodName) prog_2_method_4_code (1 : Nat) (Option.some Jvm.ClassFile.FieldType.boolean)).before args0 about1 = true := code_word (m := ⟨2, 2⟩) (meth := k2m2) (c := k2c2) (by decide +kernel) rfl rfl rfl (by decide +kernel)
set_option maxRecDepth 65536 in
theorem w_c5 : (Jvm.Cond.code ({ cls := "com/example/dircred/dircred/credential/DerReader", name := "end", desc := "()V" } : Jvm.MethodName) prog_2_method_15_code (1 : Nat) (Option.none : Option Jvm.ClassFile.FieldType)).before args0 about1 = true := code_word (m := ⟨2, 4⟩) (meth := k2m4) (c := k2c4) (by decide +kernel) rfl rfl rfl (by decide +kernel)
set_option maxRecDepth 65536 in
theorem w_c6 : (Jvm.Cond.code ({ cls := "com/example/dircred/dircred/credential/DerReaderEndPinLaw", name := "tag", desc := "(II)I" } : Jvm.MethodName) method_2_code (3 : Nat) (Option.some Jvm.ClassFile.FieldType.int)).before args0 about1 = true := code_word (m := ⟨1, 1⟩) (meth := k1m1) (c := k1c1) (by decide +kernel) rfl rfl rfl (by decide +kernel)
set_option maxRecDepth 65536 in
theorem w_c7 : (Jvm.Cond.code ({ cls := "com/example/dircred/dircred/credential/DerReaderEndPinLaw", name := "put", desc := "([BIII)V" } : Jvm.MethodName) method_3_code (4 : Nat) (Option.none : Option Jvm.ClassFile.FieldType)).before args0 about1 = true := code_word (m := ⟨1, 2⟩) (meth := k1m2) (c := k1c2) (by decide +kernel) rfl rfl rfl (by decide +kernel)
set_option maxRecDepth 65536 in
theorem w_c8 : (Jvm.Cond.code ({ cls := "com/example/dircred/dircred/credential/DerReader", name := "skip", desc := "()V" } : Jvm.MethodName) prog_2_method_14_code (1 : Nat) (Option.none : Option Jvm.ClassFile.FieldType)).before args0 about1 = true := code_word (m := ⟨2, 3⟩) (meth := k2m3) (c := k2c3) (by decide +kernel) rfl rfl rfl (by decide +kernel)
set_option maxRecDepth 65536 in
theorem w_c9 : (Jvm.Cond.code ({ cls := "com/example/dircred/dircred/credential/DerReader", name := "next", desc := "()Lcom/example/dircred/dircred/credential/DerReader$Value;" } : Jvm.MethodName) prog_2_method_18_code (5 : Nat) (Option.some (Jvm.ClassFile.FieldType.object "com/example/dircred/dircred/credential/DerReader$Value"))).before args0 about1 = true := code_word (m := ⟨2, 5⟩) (meth := k2m5) (c := k2c5) (by decide +kernel) rfl rfl rfl (by decide +kernel)
set_option maxRecDepth 65536 in
theorem w_c10 : (Jvm.Cond.code ({ cls := "com/example/dircred/dircred/credential/DerReader", name := "header", desc := "(I)Lcom/example/dircred/dircred/credential/DerReader$Header;" } : Jvm.MethodName) prog_2_method_20_code (10 : Nat) (Option.some (Jvm.ClassFile.FieldType.object "com/example/dircred/dircred/credential/DerReader$Header"))).before args0 about1 = true := code_word (m := ⟨2, 6⟩) (meth := k2m6) (c := k2c6) (by decide +kernel) rfl rfl rfl (by decide +kernel)
set_option maxRecDepth 65536 in
theorem w_c11 : (Jvm.Cond.code ({ cls := "com/example/dircred/dircred/credential/DerReader$Header", name := "<init>", desc := "(III)V" } : Jvm.MethodName) prog_3_method_1_code (4 : Nat) (Option.none : Option Jvm.ClassFile.FieldType)).before args0 about1 = true := code_word (m := ⟨3, 0⟩) (meth := k3m0) (c := k3c0) (by decide +kernel) rfl rfl rfl (by decide +kernel)
set_option maxRecDepth 65536 in
theorem w_c12 : (Jvm.Cond.code ({ cls := "com/example/dircred/dircred/credential/DerReader$Value", name := "<init>", desc := "(IIII)V" } : Jvm.MethodName) prog_4_method_1_code (5 : Nat) (Option.none : Option Jvm.ClassFile.FieldType)).before args0 about1 = true := code_word (m := ⟨4, 0⟩) (meth := k4m0) (c := k4c0) (by decide +kernel) rfl rfl rfl (by decide +kernel)
def codes1 : List Jvm.Cond := [Jvm.Cond.code x code maxLocals ret, Jvm.Cond.code ({ cls := "com/example/dircred/dircred/credential/DerReader", name := "<init>", desc := "([B)V" } : Jvm.MethodName) prog_2_method_1_code (2 : Nat) (Option.none : Option Jvm.ClassFile.FieldType), Jvm.Cond.code ({ cls := "com/example/dircred/dircred/credential/DerReader", name := "<init>", desc := "([BII)V" } : Jvm.MethodName) prog_2_method_2_code (4 : Nat) (Option.none : Option Jvm.ClassFile.FieldType), Jvm.Cond.code ({ cls := "java/lang/Object", name := "<init>", desc := "()V" } : Jvm.MethodName) object_method_1_code (1 : Nat) (Option.none : Option Jvm.ClassFile.FieldType), Jvm.Cond.code ({ cls := "com/example/dircred/dircred/credential/DerReader", name := "hasMore", desc := "()Z" } : Jvm.MethodName) prog_2_method_4_code (1 : Nat) (Option.some Jvm.ClassFile.FieldType.boolean), Jvm.Cond.code ({ cls := "com/example/dircred/dircred/credential/DerReader", name := "end", desc := "()V" } : Jvm.MethodName) prog_2_method_15_code (1 : Nat) (Option.none : Option Jvm.ClassFile.FieldType), Jvm.Cond.code ({ cls := "com/example/dircred/dircred/credential/DerReaderEndPinLaw", name := "tag", desc := "(II)I" } : Jvm.MethodName) method_2_code (3 : Nat) (Option.some Jvm.ClassFile.FieldType.int), Jvm.Cond.code ({ cls := "com/example/dircred/dircred/credential/DerReaderEndPinLaw", name := "put", desc := "([BIII)V" } : Jvm.MethodName) method_3_code (4 : Nat) (Option.none : Option Jvm.ClassFile.FieldType), Jvm.Cond.code ({ cls := "com/example/dircred/dircred/credential/DerReader", name := "skip", desc := "()V" } : Jvm.MethodName) prog_2_method_14_code (1 : Nat) (Option.none : Option Jvm.ClassFile.FieldType), Jvm.Cond.code ({ cls := "com/example/dircred/dircred/credential/DerReader", name := "next", desc := "()Lcom/example/dircred/dircred/credential/DerReader$Value;" } : Jvm.MethodName) prog_2_method_18_code (5 : Nat) (Option.some (Jvm.ClassFile.FieldType.object "com/example/dircred/dircred/credential/DerReader$Value")), Jvm.Cond.code ({ cls := "com/example/dircred/dircred/credential/DerReader", name := "header", desc := "(I)Lcom/example/dircred/dircred/credential/DerReader$Header;" } : Jvm.MethodName) prog_2_method_20_code (10 : Nat) (Option.some (Jvm.ClassFile.FieldType.object "com/example/dircred/dircred/credential/DerReader$Header")), Jvm.Cond.code ({ cls := "com/example/dircred/dircred/credential/DerReader$Header", name := "<init>", desc := "(III)V" } : Jvm.MethodName) prog_3_method_1_code (4 : Nat) (Option.none : Option Jvm.ClassFile.FieldType), Jvm.Cond.code ({ cls := "com/example/dircred/dircred/credential/DerReader$Value", name := "<init>", desc := "(IIII)V" } : Jvm.MethodName) prog_4_method_1_code (5 : Nat) (Option.none : Option Jvm.ClassFile.FieldType)]
set_option maxRecDepth 65536 in
theorem codes_eq : words1.filter isCode = codes1 := rfl
theorem w_codes : ∀ c ∈ words1.filter isCode, c.before args0 about1 = true := by
  rw [codes_eq]
  intro c hc
  simp only [codes1, List.mem_cons, List.not_mem_nil, or_false] at hc
  rcases hc with rfl | rfl | rfl | rfl | rfl | rfl | rfl | rfl | rfl | rfl | rfl | rfl | rfl
  · exact w_c0
  · exact w_c1
  · exact w_c2
  · exact w_c3
  · exact w_c4
  · exact w_c5
  · exact w_c6
  · exact w_c7
  · exact w_c8
  · exact w_c9
  · exact w_c10
  · exact w_c11
  · exact w_c12
set_option maxRecDepth 65536 in
theorem w_t1 : (words1.take 24).all (fun c => isCode c || c.before args0 about1) = true := by decide +kernel
set_option maxRecDepth 65536 in
theorem w_t2 : ((words1.drop 24).take 24).all (fun c => isCode c || c.before args0 about1) = true := by decide +kernel
set_option maxRecDepth 65536 in
theorem w_t3 : (((words1.drop 24).drop 24).take 24).all (fun c => isCode c || c.before args0 about1) = true := by decide +kernel
set_option maxRecDepth 65536 in
theorem w_t4 : (((words1.drop 24).drop 24).drop 24).all (fun c => isCode c || c.before args0 about1) = true := by decide +kernel
theorem w_tables : (allAtoms (Jvm.Cond.code x code maxLocals ret :: tables_1)).before args0 about1 = true := by
  rw [allAtoms_all]
  show words1.all (fun c => c.before args0 about1) = true
  refine all_split ?_ w_codes
  rw [← List.take_append_drop 24 words1, List.all_append, w_t1, ← List.take_append_drop 24 (words1.drop 24), List.all_append, w_t2, ← List.take_append_drop 24 ((words1.drop 24).drop 24), List.all_append, w_t3, w_t4]
  rfl
set_option maxRecDepth 65536 in
theorem w_case : (Jvm.Cond.and given_1 narrow_1).before args0 about1 = true := by decide +kernel
theorem w_applies : (headSpec (Jvm.Cond.code x code maxLocals ret :: tables_1) room_1).applies x e0.platform about1 = true :=
  (Spec.applies_iff w_frames).mpr ⟨w_running, w_runnable, w_alone, w_named, w_hears, w_ripe, w_room, w_tables⟩
theorem atStart : AtStart classFile x code maxLocals ret World_1 tables_1 room_1 Calls_1 rest_1 Pre_1 launch0 p0 e0 about1 theMethod args0 below0 :=
  ⟨lists_1, trivial, launch0.admits_env _ _ _, launch0.least_env, fairChoices_fair.cas, fairChoices_fair.clock, w_frames, w_args, w_heap, w_applies, trivial, trivial, w_case⟩
end start1
theorem witness_1 : WitnessClaimed_1 := ⟨start1.p0, start1.e0, start1.about1, start1.theMethod, start1.args0, start1.below0, start1.atStart⟩
end Jvm.Pilot.@@N@@
