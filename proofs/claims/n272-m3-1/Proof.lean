import JvmDerived
import JvmDerived.Pilot.@@N@@Statement
import JvmDerived.Pilot.@@N@@Code
set_option linter.unusedVariables false
set_option linter.unusedSimpArgs false
@@BLOCK:NumsL.lean.txt@@
namespace Jvm.Pilot.@@N@@
open Jvm Jvm.ClassFile Sem Op Lib Jvm.Free Jvm.Stand Jvm.LawKit Jvm.RoadKit Bundle Jvm.Pilot.@@N@@.Jvm.D
/-! ## the walk's own kit: 'from this pc on the body comes to its end, in Φ' (X.G), and one rule a step -/
def OwC (p : Program) (l : Launch) (e : Env) (R : Room) (s : State) (m : MethodId) (args : Array Value) (below : List Frame) (meth : Method) (c : Code) (Z : State) (own nm : String) (bytes : ByteArray) (mL : Nat) (ret : Option FieldType) (n0 kM nM : Nat) (Φ : Option Value → Heap → Prop) : Prop :=
  p.tables.exec = Jvm.exec ∧ c.code = bytes ∧ c.maxLocals = mL ∧ s.vm.findClass own = some m.cls ∧ Z.Warmed39 s.vm ∧ meth.sig.returnType = ret ∧ meth.locks = false ∧ meth.name = nm
section OwKit
variable {p : Program} {l : Launch} {e : Env} {R : Room} {s : State} {m : MethodId} {args : Array Value} {below : List Frame} {meth : Method} {c : Code} {Z : State} {own nm : String} {bytes : ByteArray} {mL : Nat} {ret : Option FieldType} {n0 kM nM : Nat} {Φ : Option Value → Heap → Prop}
variable {a0 : Array Value} {h : Heap} {k n pc q : Nat} {Ls Ls' : Array Slot} {st rest : List Value}
def OwC.G (_X : OwC p l e R s m args below meth c Z own nm bytes mL ret n0 kM nM Φ) (h : Heap) (k n pc : Nat) (Ls : Array Slot) (st : List Value) : Prop :=
  ∀ T locs, Stand p l e R s m args below meth c T locs k n → T.heap = h → Fr n0 locs →
    ∃ v s₂ L, Steps p.tables e below (T.setTop (mkF m pc Ls st)) s₂ ∧ s₂.status = .running ∧ Ended s₂ below (.returned v) ∧ (Φ v s₂.heap ∧ Fr n0 L) ∧ FrameEnd s (.returned v) s₂ L kM nM
variable (X : OwC p l e R s m args below meth c Z own nm bytes mL ret n0 kM nM Φ)
theorem OwC.step {pc' : Nat} {st' : List Value} (g : X.G h k n pc' Ls' st') (w : ∀ T locs, Stand p l e R s m args below meth c T locs k n → ∀ t, Steps p.tables e below (T.setTop (mkF m pc' Ls' st')) t → Steps p.tables e below (T.setTop (mkF m pc Ls st)) t) : X.G h k n pc Ls st := fun T locs Y eT N => by
  obtain ⟨v, s₂, L, r1, r⟩ := g T locs Y eT N
  exact ⟨v, s₂, L, w T locs Y _ r1, r⟩
theorem OwC.hd (X : OwC p l e R s m args below meth c Z own nm bytes mL ret n0 kM nM Φ) {i : Instr} {len : Nat} (d : decode bytes pc = .ok (i, len)) : decode c.code pc = .ok (i, len) := hb X.2.1 d
/-! a name for the top of the stack -/
theorem OwC.nmI {x : Int32} (g : ∀ v : Int32, v = x → X.G h k n pc Ls (.int v :: st)) : X.G h k n pc Ls (.int x :: st) := g x rfl
theorem OwC.nmJ {x : Int64} (g : ∀ v : Int64, v = x → X.G h k n pc Ls (.long v :: st)) : X.G h k n pc Ls (.long x :: st) := g x rfl
theorem OwC.foldI {x v : Int32} (e : x = v) (g : X.G h k n pc Ls (.int v :: st)) : X.G h k n pc Ls (.int x :: st) := by subst e; exact g
theorem OwC.foldJ {x v : Int64} (e : x = v) (g : X.G h k n pc Ls (.long v :: st)) : X.G h k n pc Ls (.long x :: st) := by subst e; exact g
/-! loads and stores -/
theorem OwC.iloadN {j : Fin 4} {v : Int32} (d : decode bytes pc = .ok (.iload_n j, 1)) (hl : Ls[j.val]? = some (.val (.int v))) (hq : pc + 1 = q) (g : X.G h k n q Ls (.int v :: st)) : X.G h k n pc Ls st := by
  subst hq; exact X.step g fun T _ Y t r => XS.iloadN Y.here X.1 rfl (X.hd d) hl r
theorem OwC.iload {j : Nat} {v : Int32} (d : decode bytes pc = .ok (.iload j, 2)) (hl : Ls[j]? = some (.val (.int v))) (hq : pc + 2 = q) (g : X.G h k n q Ls (.int v :: st)) : X.G h k n pc Ls st := by
  subst hq; exact X.step g fun T _ Y t r => XS.iload Y.here X.1 rfl (X.hd d) hl r
theorem OwC.lloadN {j : Fin 4} {v : Int64} (d : decode bytes pc = .ok (.lload_n j, 1)) (hl : Ls[j.val]? = some (.val (.long v))) (hq : pc + 1 = q) (g : X.G h k n q Ls (.long v :: st)) : X.G h k n pc Ls st := by
  subst hq; exact X.step g fun T _ Y t r => XT.lloadN Y.here X.1 rfl (X.hd d) hl r
theorem OwC.lload {j : Nat} {v : Int64} (d : decode bytes pc = .ok (.lload j, 2)) (hl : Ls[j]? = some (.val (.long v))) (hq : pc + 2 = q) (g : X.G h k n q Ls (.long v :: st)) : X.G h k n pc Ls st := by
  subst hq; exact X.step g fun T _ Y t r => XT.lload Y.here X.1 rfl (X.hd d) hl r
theorem OwC.aloadN {j : Fin 4} {v : Value} (d : decode bytes pc = .ok (.aload_n j, 1)) (hl : Ls[j.val]? = some (.val v)) (hv : v.isRef = true) (hq : pc + 1 = q) (g : X.G h k n q Ls (v :: st)) : X.G h k n pc Ls st := by
  subst hq; exact X.step g fun T _ Y t r => XS.aloadN Y.here X.1 rfl (X.hd d) hl hv r
theorem OwC.aload {j : Nat} {v : Value} (d : decode bytes pc = .ok (.aload j, 2)) (hl : Ls[j]? = some (.val v)) (hv : v.isRef = true) (hq : pc + 2 = q) (g : X.G h k n q Ls (v :: st)) : X.G h k n pc Ls st := by
  subst hq; exact X.step g fun T _ Y t r => XS.aload Y.here X.1 rfl (X.hd d) hl hv r
theorem OwC.istoreN {j : Fin 4} {x : Int32} (d : decode bytes pc = .ok (.istore_n j, 1)) (hl : storeLocals Ls j.val (.int x) = some Ls') (hq : pc + 1 = q) (g : X.G h k n q Ls' st) : X.G h k n pc Ls (.int x :: st) := by
  subst hq; exact X.step g fun T _ Y t r => XS.istoreN Y.here X.1 rfl (X.hd d) rfl hl r
theorem OwC.istore {j : Nat} {x : Int32} (d : decode bytes pc = .ok (.istore j, 2)) (hl : storeLocals Ls j (.int x) = some Ls') (hq : pc + 2 = q) (g : X.G h k n q Ls' st) : X.G h k n pc Ls (.int x :: st) := by
  subst hq; exact X.step g fun T _ Y t r => XS.istore Y.here X.1 rfl (X.hd d) rfl hl r
theorem OwC.lstoreN {j : Fin 4} {x : Int64} (d : decode bytes pc = .ok (.lstore_n j, 1)) (hl : storeLocals Ls j.val (.long x) = some Ls') (hq : pc + 1 = q) (g : X.G h k n q Ls' st) : X.G h k n pc Ls (.long x :: st) := by
  subst hq; exact X.step g fun T _ Y t r => XT.lstoreN Y.here X.1 rfl (X.hd d) rfl hl r
theorem OwC.lstore {j : Nat} {x : Int64} (d : decode bytes pc = .ok (.lstore j, 2)) (hl : storeLocals Ls j (.long x) = some Ls') (hq : pc + 2 = q) (g : X.G h k n q Ls' st) : X.G h k n pc Ls (.long x :: st) := by
  subst hq; exact X.step g fun T _ Y t r => XT.lstore Y.here X.1 rfl (X.hd d) rfl hl r
theorem OwC.astoreN {j : Fin 4} {x : Value} (d : decode bytes pc = .ok (.astore_n j, 1)) (hv : x.isRef = true) (hl : storeLocals Ls j.val x = some Ls') (hq : pc + 1 = q) (g : X.G h k n q Ls' st) : X.G h k n pc Ls (x :: st) := by
  subst hq; exact X.step g fun T _ Y t r => XS.astoreN Y.here X.1 rfl (X.hd d) rfl hv hl r
theorem OwC.astore {j : Nat} {x : Value} (d : decode bytes pc = .ok (.astore j, 2)) (hv : x.isRef = true) (hl : storeLocals Ls j x = some Ls') (hq : pc + 2 = q) (g : X.G h k n q Ls' st) : X.G h k n pc Ls (x :: st) := by
  subst hq; exact X.step g fun T _ Y t r => XS.astore Y.here X.1 rfl (X.hd d) rfl hv hl r
/-! constants -/
theorem OwC.iconst {i : Int} (v : Int32) (d : decode bytes pc = .ok (.iconst i, 1)) (hv : Int32.ofInt i = v) (hq : pc + 1 = q) (g : X.G h k n q Ls (.int v :: st)) : X.G h k n pc Ls st := by
  subst hq hv; exact X.step g fun T _ Y t r => XS.iconst Y.here X.1 rfl (X.hd d) r
theorem OwC.bipush {i : Int} (v : Int32) (d : decode bytes pc = .ok (.bipush i, 2)) (hv : (Int8.ofInt i).toInt32 = v) (hq : pc + 2 = q) (g : X.G h k n q Ls (.int v :: st)) : X.G h k n pc Ls st := by
  subst hq hv; exact X.step g fun T _ Y t r => XS.bipush Y.here X.1 rfl (X.hd d) r
theorem OwC.sipush {i : Int} (v : Int32) (d : decode bytes pc = .ok (.sipush i, 3)) (hv : (Int16.ofInt i).toInt32 = v) (hq : pc + 3 = q) (g : X.G h k n q Ls (.int v :: st)) : X.G h k n pc Ls st := by
  subst hq hv; exact X.step g fun T _ Y t r => XS.sipush Y.here X.1 rfl (X.hd d) r
theorem OwC.lconst {j : Fin 2} (v : Int64) (d : decode bytes pc = .ok (.lconst j, 1)) (hv : Int64.ofNat j = v) (hq : pc + 1 = q) (g : X.G h k n q Ls (.long v :: st)) : X.G h k n pc Ls st := by
  subst hq hv; exact X.step g fun T _ Y t r => XT.lconst Y.here X.1 rfl (X.hd d) r
theorem OwC.aconstNull (d : decode bytes pc = .ok (.aconst_null, 1)) (hq : pc + 1 = q) (g : X.G h k n q Ls (.null :: st)) : X.G h k n pc Ls st := by
  subst hq; exact X.step g fun T _ Y t r => XS.aconstNull Y.here X.1 rfl (X.hd d) r
theorem OwC.ldc {i : Nat} {v : Int32} (w : (Cond.constant own i v).before a0 Z = true) (d : decode bytes pc = .ok (.ldc i, 2)) (hq : pc + 2 = q) (g : X.G h k n q Ls (.int v :: st)) : X.G h k n pc Ls st := by
  subst hq; exact X.step g fun T _ Y t r => Y.ldcI X.1 X.2.2.2.1 (mvT X.2.2.2.2.1 w) rfl (X.hd d) r
theorem OwC.ldc_w {i : Nat} {v : Int32} (w : (Cond.constant own i v).before a0 Z = true) (d : decode bytes pc = .ok (.ldc_w i, 3)) (hq : pc + 3 = q) (g : X.G h k n q Ls (.int v :: st)) : X.G h k n pc Ls st := by
  subst hq; exact X.step g fun T _ Y t r => Y.ldcWI X.1 X.2.2.2.1 (mvT X.2.2.2.2.1 w) rfl (X.hd d) r
theorem OwC.ldc2_w {i : Nat} {v : Int64} (w : (Cond.constantLong own i v).before a0 Z = true) (d : decode bytes pc = .ok (.ldc2_w i, 3)) (hq : pc + 3 = q) (g : X.G h k n q Ls (.long v :: st)) : X.G h k n pc Ls st := by
  subst hq; exact X.step g fun T _ Y t r => Y.ldc2J X.1 X.2.2.2.1 (mvT X.2.2.2.2.1 w) rfl (X.hd d) r
/-! arithmetic -/
theorem OwC.iadd {x y : Int32} (d : decode bytes pc = .ok (.iadd, 1)) (hq : pc + 1 = q) (g : X.G h k n q Ls (.int (x + y) :: st)) : X.G h k n pc Ls (.int y :: .int x :: st) := by
  subst hq; exact X.step g fun T _ Y t r => XS.iadd Y.here X.1 rfl (X.hd d) rfl r
theorem OwC.isub {x y : Int32} (d : decode bytes pc = .ok (.isub, 1)) (hq : pc + 1 = q) (g : X.G h k n q Ls (.int (x - y) :: st)) : X.G h k n pc Ls (.int y :: .int x :: st) := by
  subst hq; exact X.step g fun T _ Y t r => XS.isub Y.here X.1 rfl (X.hd d) rfl r
theorem OwC.imul {x y : Int32} (d : decode bytes pc = .ok (.imul, 1)) (hq : pc + 1 = q) (g : X.G h k n q Ls (.int (x * y) :: st)) : X.G h k n pc Ls (.int y :: .int x :: st) := by
  subst hq; exact X.step g fun T _ Y t r => XS.imul Y.here X.1 rfl (X.hd d) rfl r
theorem OwC.iand {x y : Int32} (d : decode bytes pc = .ok (.iand, 1)) (hq : pc + 1 = q) (g : X.G h k n q Ls (.int (x &&& y) :: st)) : X.G h k n pc Ls (.int y :: .int x :: st) := by
  subst hq; exact X.step g fun T _ Y t r => XS.iand Y.here X.1 rfl (X.hd d) rfl r
theorem OwC.ixor {x y : Int32} (d : decode bytes pc = .ok (.ixor, 1)) (hq : pc + 1 = q) (g : X.G h k n q Ls (.int (x ^^^ y) :: st)) : X.G h k n pc Ls (.int y :: .int x :: st) := by
  subst hq; exact X.step g fun T _ Y t r => XT.ixor Y.here X.1 rfl (X.hd d) rfl r
theorem OwC.ior {x y : Int32} (d : decode bytes pc = .ok (.ior, 1)) (hq : pc + 1 = q) (g : X.G h k n q Ls (.int (x ||| y) :: st)) : X.G h k n pc Ls (.int y :: .int x :: st) := by
  subst hq; exact X.step g fun T _ Y t r => XT.ior Y.here X.1 rfl (X.hd d) rfl r
theorem OwC.ishl {x y : Int32} (d : decode bytes pc = .ok (.ishl, 1)) (hq : pc + 1 = q) (g : X.G h k n q Ls (.int (x <<< (y &&& 31)) :: st)) : X.G h k n pc Ls (.int y :: .int x :: st) := by
  subst hq; exact X.step g fun T _ Y t r => XT.ishl Y.here X.1 rfl (X.hd d) rfl r
theorem OwC.ishr {x y : Int32} (d : decode bytes pc = .ok (.ishr, 1)) (hq : pc + 1 = q) (g : X.G h k n q Ls (.int (x >>> (y &&& 31)) :: st)) : X.G h k n pc Ls (.int y :: .int x :: st) := by
  subst hq; exact X.step g fun T _ Y t r => XT.ishr Y.here X.1 rfl (X.hd d) rfl r
theorem OwC.iushr {x y : Int32} (d : decode bytes pc = .ok (.iushr, 1)) (hq : pc + 1 = q) (g : X.G h k n q Ls (.int (XT.ushr x y) :: st)) : X.G h k n pc Ls (.int y :: .int x :: st) := by
  subst hq; exact X.step g fun T _ Y t r => XT.iushr Y.here X.1 rfl (X.hd d) rfl r
theorem OwC.ladd {x y : Int64} (d : decode bytes pc = .ok (.ladd, 1)) (hq : pc + 1 = q) (g : X.G h k n q Ls (.long (x + y) :: st)) : X.G h k n pc Ls (.long y :: .long x :: st) := by
  subst hq; exact X.step g fun T _ Y t r => XT.ladd Y.here X.1 rfl (X.hd d) rfl r
theorem OwC.lsub {x y : Int64} (d : decode bytes pc = .ok (.lsub, 1)) (hq : pc + 1 = q) (g : X.G h k n q Ls (.long (x - y) :: st)) : X.G h k n pc Ls (.long y :: .long x :: st) := by
  subst hq; exact X.step g fun T _ Y t r => XT.lsub Y.here X.1 rfl (X.hd d) rfl r
theorem OwC.lmul {x y : Int64} (d : decode bytes pc = .ok (.lmul, 1)) (hq : pc + 1 = q) (g : X.G h k n q Ls (.long (x * y) :: st)) : X.G h k n pc Ls (.long y :: .long x :: st) := by
  subst hq; exact X.step g fun T _ Y t r => XT.lmul Y.here X.1 rfl (X.hd d) rfl r
theorem OwC.land {x y : Int64} (d : decode bytes pc = .ok (.land, 1)) (hq : pc + 1 = q) (g : X.G h k n q Ls (.long (x &&& y) :: st)) : X.G h k n pc Ls (.long y :: .long x :: st) := by
  subst hq; exact X.step g fun T _ Y t r => XT.land Y.here X.1 rfl (X.hd d) rfl r
theorem OwC.lxor {x y : Int64} (d : decode bytes pc = .ok (.lxor, 1)) (hq : pc + 1 = q) (g : X.G h k n q Ls (.long (x ^^^ y) :: st)) : X.G h k n pc Ls (.long y :: .long x :: st) := by
  subst hq; exact X.step g fun T _ Y t r => XT.lxor Y.here X.1 rfl (X.hd d) rfl r
theorem OwC.lor {x y : Int64} (d : decode bytes pc = .ok (.lor, 1)) (hq : pc + 1 = q) (g : X.G h k n q Ls (.long (x ||| y) :: st)) : X.G h k n pc Ls (.long y :: .long x :: st) := by
  subst hq; exact X.step g fun T _ Y t r => XT.lor Y.here X.1 rfl (X.hd d) rfl r
theorem OwC.lshl {x : Int64} {y : Int32} (d : decode bytes pc = .ok (.lshl, 1)) (hq : pc + 1 = q) (g : X.G h k n q Ls (.long (x <<< (y.toInt64 &&& 63)) :: st)) : X.G h k n pc Ls (.int y :: .long x :: st) := by
  subst hq; exact X.step g fun T _ Y t r => XT.lshl Y.here X.1 rfl (X.hd d) rfl r
theorem OwC.lshr {x : Int64} {y : Int32} (d : decode bytes pc = .ok (.lshr, 1)) (hq : pc + 1 = q) (g : X.G h k n q Ls (.long (x >>> (y.toInt64 &&& 63)) :: st)) : X.G h k n pc Ls (.int y :: .long x :: st) := by
  subst hq; exact X.step g fun T _ Y t r => XT.lshr Y.here X.1 rfl (X.hd d) rfl r
theorem OwC.lushr {x : Int64} {y : Int32} (d : decode bytes pc = .ok (.lushr, 1)) (hq : pc + 1 = q) (g : X.G h k n q Ls (.long (XT.ushrL x y) :: st)) : X.G h k n pc Ls (.int y :: .long x :: st) := by
  subst hq; exact X.step g fun T _ Y t r => XT.lushr Y.here X.1 rfl (X.hd d) rfl r
theorem OwC.idiv {x y : Int32} (d : decode bytes pc = .ok (.idiv, 1)) (hy : y ≠ 0) (hq : pc + 1 = q) (g : X.G h k n q Ls (.int (x / y) :: st)) : X.G h k n pc Ls (.int y :: .int x :: st) := by
  subst hq; exact X.step g fun T _ Y t r => XS.idiv Y.here X.1 rfl (X.hd d) rfl hy r
theorem OwC.ldiv {x y : Int64} (d : decode bytes pc = .ok (.ldiv, 1)) (hy : y ≠ 0) (hq : pc + 1 = q) (g : X.G h k n q Ls (.long (x / y) :: st)) : X.G h k n pc Ls (.long y :: .long x :: st) := by
  subst hq; exact X.step g fun T _ Y t r => XT.ldiv Y.here X.1 rfl (X.hd d) rfl hy r
theorem OwC.irem {x y : Int32} (d : decode bytes pc = .ok (.irem, 1)) (hy : y ≠ 0) (hq : pc + 1 = q) (g : X.G h k n q Ls (.int (x % y) :: st)) : X.G h k n pc Ls (.int y :: .int x :: st) := by
  subst hq; exact X.step g fun T _ Y t r => iremM Y X.1 rfl (X.hd d) rfl hy r
theorem ow_lrem (x y : Int64) : x - (x / y) * y = x % y := by
  rw [← Int64.toInt_inj, Int64.toInt_sub, Int64.toInt_mul, Int64.toInt_mod, Int64.toInt_div]
  have h1 : (((x.toInt.tdiv y.toInt).bmod (2 ^ 64) * y.toInt).bmod (2 ^ 64)) = (x.toInt.tdiv y.toInt * y.toInt).bmod (2 ^ 64) := by simp [Int.bmod_mul_bmod]
  rw [h1, Int.sub_bmod_bmod]
  have h2 : x.toInt - x.toInt.tdiv y.toInt * y.toInt = x.toInt.tmod y.toInt := by
    have := Int.mul_tdiv_add_tmod x.toInt y.toInt
    rw [Int.mul_comm] at this; omega
  rw [h2, ← Int64.toInt_mod, Int64.toInt_bmod]
theorem OwC.lrem {x y : Int64} (d : decode bytes pc = .ok (.lrem, 1)) (hy : y ≠ 0) (hq : pc + 1 = q) (g : X.G h k n q Ls (.long (x % y) :: st)) : X.G h k n pc Ls (.long y :: .long x :: st) := by
  subst hq; exact X.step g fun T _ Y t r => XT.lrem Y.here X.1 rfl (X.hd d) rfl hy (by rw [ow_lrem]; exact r)
theorem OwC.ineg {x : Int32} (d : decode bytes pc = .ok (.ineg, 1)) (hq : pc + 1 = q) (g : X.G h k n q Ls (.int (-x) :: st)) : X.G h k n pc Ls (.int x :: st) := by
  subst hq; exact X.step g fun T _ Y t r => XS.ineg Y.here X.1 rfl (X.hd d) rfl r
theorem OwC.lneg {x : Int64} (d : decode bytes pc = .ok (.lneg, 1)) (hq : pc + 1 = q) (g : X.G h k n q Ls (.long (-x) :: st)) : X.G h k n pc Ls (.long x :: st) := by
  subst hq; exact X.step g fun T _ Y t r => XT.lneg Y.here X.1 rfl (X.hd d) rfl r
theorem OwC.i2l {x : Int32} (d : decode bytes pc = .ok (.i2l, 1)) (hq : pc + 1 = q) (g : X.G h k n q Ls (.long (x.toInt64) :: st)) : X.G h k n pc Ls (.int x :: st) := by
  subst hq; exact X.step g fun T _ Y t r => XT.i2l Y.here X.1 rfl (X.hd d) rfl r
theorem OwC.l2i {x : Int64} (d : decode bytes pc = .ok (.l2i, 1)) (hq : pc + 1 = q) (g : X.G h k n q Ls (.int (x.toInt32) :: st)) : X.G h k n pc Ls (.long x :: st) := by
  subst hq; exact X.step g fun T _ Y t r => XT.l2i Y.here X.1 rfl (X.hd d) rfl r
theorem OwC.i2b {x : Int32} (d : decode bytes pc = .ok (.i2b, 1)) (hq : pc + 1 = q) (g : X.G h k n q Ls (.int (x.toInt8.toInt32) :: st)) : X.G h k n pc Ls (.int x :: st) := by
  subst hq; exact X.step g fun T _ Y t r => XT.i2b Y.here X.1 rfl (X.hd d) rfl r
theorem OwC.i2c {x : Int32} (d : decode bytes pc = .ok (.i2c, 1)) (hq : pc + 1 = q) (g : X.G h k n q Ls (.int (x.toUInt32.toUInt16.toUInt32.toInt32) :: st)) : X.G h k n pc Ls (.int x :: st) := by
  subst hq; exact X.step g fun T _ Y t r => XT.i2c Y.here X.1 rfl (X.hd d) rfl r
theorem OwC.iinc {j : Nat} {cst : Int} {x : Int32} (v : Int32) (d : decode bytes pc = .ok (.iinc j cst, 3)) (hv : Int32.ofInt cst = v) (hl : Ls[j]? = some (.val (.int x))) (hl' : storeLocals Ls j (.int (x + v)) = some Ls') (hq : pc + 3 = q) (g : X.G h k n q Ls' st) : X.G h k n pc Ls st := by
  subst hq hv; exact X.step g fun T _ Y t r => XS.iinc Y.here X.1 rfl (X.hd d) hl hl' r
/-! the stack -/
theorem OwC.dup {x : Value} (d : decode bytes pc = .ok (.dup, 1)) (hc : x.category = 1) (hq : pc + 1 = q) (g : X.G h k n q Ls (x :: x :: st)) : X.G h k n pc Ls (x :: st) := by
  subst hq; exact X.step g fun T _ Y t r => XS.dup Y.here X.1 rfl (X.hd d) rfl hc r
theorem OwC.pop {x : Value} (d : decode bytes pc = .ok (.pop, 1)) (hc : x.category = 1) (hq : pc + 1 = q) (g : X.G h k n q Ls st) : X.G h k n pc Ls (x :: st) := by
  subst hq; exact X.step g fun T _ Y t r => XT.pop Y.here X.1 rfl (X.hd d) rfl hc r
theorem OwC.dup_x1 {x y : Value} (d : decode bytes pc = .ok (.dup_x1, 1)) (hc : x.category = 1) (hc' : y.category = 1) (hq : pc + 1 = q) (g : X.G h k n q Ls (x :: y :: x :: st)) : X.G h k n pc Ls (x :: y :: st) := by
  subst hq; exact X.step g fun T _ Y t r => XT.dupX1 Y.here X.1 rfl (X.hd d) rfl hc hc' r
theorem OwC.dup2 {x y : Value} (d : decode bytes pc = .ok (.dup2, 1)) (hc : x.category = 1) (hc' : y.category = 1) (hq : pc + 1 = q) (g : X.G h k n q Ls (x :: y :: x :: y :: st)) : X.G h k n pc Ls (x :: y :: st) := by
  subst hq; exact X.step g fun T _ Y t r => XT.dup2 Y.here X.1 rfl (X.hd d) rfl hc hc' r
theorem OwC.dup2L {x : Int64} (d : decode bytes pc = .ok (.dup2, 1)) (hq : pc + 1 = q) (g : X.G h k n q Ls (.long x :: .long x :: st)) : X.G h k n pc Ls (.long x :: st) := by
  subst hq; exact X.step g fun T _ Y t r => XT.dup2L Y.here X.1 rfl (X.hd d) rfl r
/-! branches -/
theorem OwC.goto {o : Int} {q' : Nat} (d : decode bytes pc = .ok (.goto o, 3)) (hp : 0 ≤ (pc : Int) + o ∧ ((pc : Int) + o).toNat = q') (g : X.G h k n q' Ls st) : X.G h k n pc Ls st :=
  X.step g fun T _ Y t r => XS.goto Y.here X.1 rfl rfl (X.hd d) hp.1 hp.2 r
theorem OwC.icmpB {cd : ClassFile.Cond} {o : Int} {q' : Nat} {x y : Int32} (d : decode bytes pc = .ok (.if_icmp cd o, 3)) (hp : 0 ≤ (pc : Int) + o ∧ ((pc : Int) + o).toNat = q') (hq : pc + 3 = q) (g1 : if_icmp.holds cd x y = true → X.G h k n q' Ls st) (g0 : if_icmp.holds cd x y = false → X.G h k n q Ls st) : X.G h k n pc Ls (.int y :: .int x :: st) := by
  subst hq
  cases hc : if_icmp.holds cd x y with
  | true => exact X.step (g1 hc) fun T _ Y t r => XS.icmpYes Y.here X.1 rfl rfl (X.hd d) rfl hc hp.1 hp.2 r
  | false => exact X.step (g0 hc) fun T _ Y t r => XS.icmpNo Y.here X.1 rfl (X.hd d) rfl hc r
theorem OwC.ifB {cd : ClassFile.Cond} {o : Int} {q' : Nat} {x : Int32} (d : decode bytes pc = .ok (.ifCond cd o, 3)) (hp : 0 ≤ (pc : Int) + o ∧ ((pc : Int) + o).toNat = q') (hq : pc + 3 = q) (g1 : ifCond.holds cd x = true → X.G h k n q' Ls st) (g0 : ifCond.holds cd x = false → X.G h k n q Ls st) : X.G h k n pc Ls (.int x :: st) := by
  subst hq
  cases hc : ifCond.holds cd x with
  | true => exact X.step (g1 hc) fun T _ Y t r => XS.ifYes Y.here X.1 rfl rfl (X.hd d) rfl hc hp.1 hp.2 r
  | false => exact X.step (g0 hc) fun T _ Y t r => XS.ifNo Y.here X.1 rfl (X.hd d) rfl hc r
def owCd : ClassFile.Cond → Int → Int → Prop
  | .eq, a, b => a = b | .ne, a, b => ¬ a = b | .lt, a, b => a < b | .ge, a, b => b ≤ a | .gt, a, b => b < a | .le, a, b => a ≤ b
theorem ow_icmp (cd : ClassFile.Cond) (x y : Int32) : if_icmp.holds cd x y = true ↔ owCd cd x.toInt y.toInt := by
  cases cd <;> simp [if_icmp.holds, owCd, ← Int32.toInt_inj, Int32.lt_iff_toInt_lt, Int32.le_iff_toInt_le]
theorem ow_if (cd : ClassFile.Cond) (x : Int32) : ifCond.holds cd x = true ↔ owCd cd x.toInt 0 := by rw [if0, ow_icmp]; rfl
theorem ow_icmpF {cd : ClassFile.Cond} {x y : Int32} (hc : if_icmp.holds cd x y = false) : ¬ owCd cd x.toInt y.toInt := fun q => by rw [(ow_icmp cd x y).mpr q] at hc; cases hc
theorem ow_ifF {cd : ClassFile.Cond} {x : Int32} (hc : ifCond.holds cd x = false) : ¬ owCd cd x.toInt 0 := fun q => by rw [(ow_if cd x).mpr q] at hc; cases hc
theorem ow_lc (cd : ClassFile.Cond) (x y : Int64) : owCd cd (XT.cmpL x y).toInt 0 ↔ owCd cd x.toInt y.toInt := by
  have e1 : (1 : Int32).toInt = 1 := rfl
  have e0 : (0 : Int32).toInt = 0 := rfl
  have em : (-1 : Int32).toInt = -1 := rfl
  unfold XT.cmpL
  split
  · rename_i h1; rw [Int64.lt_iff_toInt_lt] at h1; cases cd <;> simp only [owCd, e1] <;> omega
  · rename_i h1; rw [Int64.lt_iff_toInt_lt] at h1
    split
    · rename_i h2; subst h2; cases cd <;> simp only [owCd, e0] <;> omega
    · rename_i h2; rw [← Int64.toInt_inj] at h2; cases cd <;> simp only [owCd, em] <;> omega
theorem OwC.icmp_eq {o : Int} {q' : Nat} {x y : Int32} {a b : Int} (d : decode bytes pc = .ok (.if_icmp .eq o, 3)) (hx : x.toInt = a) (hy : y.toInt = b) (hp : 0 ≤ (pc : Int) + o ∧ ((pc : Int) + o).toNat = q') (hq : pc + 3 = q) (g1 : a = b → X.G h k n q' Ls st) (g0 : ¬ a = b → X.G h k n q Ls st) : X.G h k n pc Ls (.int y :: .int x :: st) := by
  subst hx hy; exact X.icmpB d hp hq (fun hc => g1 ((ow_icmp _ _ _).mp hc)) (fun hc => g0 (by have := ow_icmpF hc; simp only [owCd] at this; omega))
theorem OwC.if_eq {o : Int} {q' : Nat} {x : Int32} {a : Int} (d : decode bytes pc = .ok (.ifCond .eq o, 3)) (hx : x.toInt = a) (hp : 0 ≤ (pc : Int) + o ∧ ((pc : Int) + o).toNat = q') (hq : pc + 3 = q) (g1 : a = 0 → X.G h k n q' Ls st) (g0 : ¬ a = 0 → X.G h k n q Ls st) : X.G h k n pc Ls (.int x :: st) := by
  subst hx; exact X.ifB d hp hq (fun hc => g1 ((ow_if _ _).mp hc)) (fun hc => g0 (by have := ow_ifF hc; simp only [owCd] at this; omega))
theorem OwC.lcmp_eq {o : Int} {q1 q' : Nat} {x y : Int64} {a b : Int} (d1 : decode bytes pc = .ok (.lcmp, 1)) (hq1 : pc + 1 = q1) (d : decode bytes q1 = .ok (.ifCond .eq o, 3)) (hx : x.toInt = a) (hy : y.toInt = b) (hp : 0 ≤ (q1 : Int) + o ∧ ((q1 : Int) + o).toNat = q') (hq : q1 + 3 = q) (g1 : a = b → X.G h k n q' Ls st) (g0 : ¬ a = b → X.G h k n q Ls st) : X.G h k n pc Ls (.long y :: .long x :: st) := by
  subst hx hy hq1; refine X.step (X.ifB d hp hq (fun hc => g1 ((ow_lc _ _ _).mp ((ow_if _ _).mp hc))) (fun hc => g0 (by have := mt (ow_lc _ _ _).mpr (ow_ifF hc); simp only [owCd] at this; omega))) fun T _ Y t r => XT.lcmp Y.here X.1 rfl (X.hd d1) rfl r
theorem OwC.icmp_ne {o : Int} {q' : Nat} {x y : Int32} {a b : Int} (d : decode bytes pc = .ok (.if_icmp .ne o, 3)) (hx : x.toInt = a) (hy : y.toInt = b) (hp : 0 ≤ (pc : Int) + o ∧ ((pc : Int) + o).toNat = q') (hq : pc + 3 = q) (g1 : ¬ a = b → X.G h k n q' Ls st) (g0 : a = b → X.G h k n q Ls st) : X.G h k n pc Ls (.int y :: .int x :: st) := by
  subst hx hy; exact X.icmpB d hp hq (fun hc => g1 ((ow_icmp _ _ _).mp hc)) (fun hc => g0 (by have := ow_icmpF hc; simp only [owCd] at this; omega))
theorem OwC.if_ne {o : Int} {q' : Nat} {x : Int32} {a : Int} (d : decode bytes pc = .ok (.ifCond .ne o, 3)) (hx : x.toInt = a) (hp : 0 ≤ (pc : Int) + o ∧ ((pc : Int) + o).toNat = q') (hq : pc + 3 = q) (g1 : ¬ a = 0 → X.G h k n q' Ls st) (g0 : a = 0 → X.G h k n q Ls st) : X.G h k n pc Ls (.int x :: st) := by
  subst hx; exact X.ifB d hp hq (fun hc => g1 ((ow_if _ _).mp hc)) (fun hc => g0 (by have := ow_ifF hc; simp only [owCd] at this; omega))
theorem OwC.lcmp_ne {o : Int} {q1 q' : Nat} {x y : Int64} {a b : Int} (d1 : decode bytes pc = .ok (.lcmp, 1)) (hq1 : pc + 1 = q1) (d : decode bytes q1 = .ok (.ifCond .ne o, 3)) (hx : x.toInt = a) (hy : y.toInt = b) (hp : 0 ≤ (q1 : Int) + o ∧ ((q1 : Int) + o).toNat = q') (hq : q1 + 3 = q) (g1 : ¬ a = b → X.G h k n q' Ls st) (g0 : a = b → X.G h k n q Ls st) : X.G h k n pc Ls (.long y :: .long x :: st) := by
  subst hx hy hq1; refine X.step (X.ifB d hp hq (fun hc => g1 ((ow_lc _ _ _).mp ((ow_if _ _).mp hc))) (fun hc => g0 (by have := mt (ow_lc _ _ _).mpr (ow_ifF hc); simp only [owCd] at this; omega))) fun T _ Y t r => XT.lcmp Y.here X.1 rfl (X.hd d1) rfl r
theorem OwC.icmp_lt {o : Int} {q' : Nat} {x y : Int32} {a b : Int} (d : decode bytes pc = .ok (.if_icmp .lt o, 3)) (hx : x.toInt = a) (hy : y.toInt = b) (hp : 0 ≤ (pc : Int) + o ∧ ((pc : Int) + o).toNat = q') (hq : pc + 3 = q) (g1 : a < b → X.G h k n q' Ls st) (g0 : b ≤ a → X.G h k n q Ls st) : X.G h k n pc Ls (.int y :: .int x :: st) := by
  subst hx hy; exact X.icmpB d hp hq (fun hc => g1 ((ow_icmp _ _ _).mp hc)) (fun hc => g0 (by have := ow_icmpF hc; simp only [owCd] at this; omega))
theorem OwC.if_lt {o : Int} {q' : Nat} {x : Int32} {a : Int} (d : decode bytes pc = .ok (.ifCond .lt o, 3)) (hx : x.toInt = a) (hp : 0 ≤ (pc : Int) + o ∧ ((pc : Int) + o).toNat = q') (hq : pc + 3 = q) (g1 : a < 0 → X.G h k n q' Ls st) (g0 : 0 ≤ a → X.G h k n q Ls st) : X.G h k n pc Ls (.int x :: st) := by
  subst hx; exact X.ifB d hp hq (fun hc => g1 ((ow_if _ _).mp hc)) (fun hc => g0 (by have := ow_ifF hc; simp only [owCd] at this; omega))
theorem OwC.lcmp_lt {o : Int} {q1 q' : Nat} {x y : Int64} {a b : Int} (d1 : decode bytes pc = .ok (.lcmp, 1)) (hq1 : pc + 1 = q1) (d : decode bytes q1 = .ok (.ifCond .lt o, 3)) (hx : x.toInt = a) (hy : y.toInt = b) (hp : 0 ≤ (q1 : Int) + o ∧ ((q1 : Int) + o).toNat = q') (hq : q1 + 3 = q) (g1 : a < b → X.G h k n q' Ls st) (g0 : b ≤ a → X.G h k n q Ls st) : X.G h k n pc Ls (.long y :: .long x :: st) := by
  subst hx hy hq1; refine X.step (X.ifB d hp hq (fun hc => g1 ((ow_lc _ _ _).mp ((ow_if _ _).mp hc))) (fun hc => g0 (by have := mt (ow_lc _ _ _).mpr (ow_ifF hc); simp only [owCd] at this; omega))) fun T _ Y t r => XT.lcmp Y.here X.1 rfl (X.hd d1) rfl r
theorem OwC.icmp_ge {o : Int} {q' : Nat} {x y : Int32} {a b : Int} (d : decode bytes pc = .ok (.if_icmp .ge o, 3)) (hx : x.toInt = a) (hy : y.toInt = b) (hp : 0 ≤ (pc : Int) + o ∧ ((pc : Int) + o).toNat = q') (hq : pc + 3 = q) (g1 : b ≤ a → X.G h k n q' Ls st) (g0 : a < b → X.G h k n q Ls st) : X.G h k n pc Ls (.int y :: .int x :: st) := by
  subst hx hy; exact X.icmpB d hp hq (fun hc => g1 ((ow_icmp _ _ _).mp hc)) (fun hc => g0 (by have := ow_icmpF hc; simp only [owCd] at this; omega))
theorem OwC.if_ge {o : Int} {q' : Nat} {x : Int32} {a : Int} (d : decode bytes pc = .ok (.ifCond .ge o, 3)) (hx : x.toInt = a) (hp : 0 ≤ (pc : Int) + o ∧ ((pc : Int) + o).toNat = q') (hq : pc + 3 = q) (g1 : 0 ≤ a → X.G h k n q' Ls st) (g0 : a < 0 → X.G h k n q Ls st) : X.G h k n pc Ls (.int x :: st) := by
  subst hx; exact X.ifB d hp hq (fun hc => g1 ((ow_if _ _).mp hc)) (fun hc => g0 (by have := ow_ifF hc; simp only [owCd] at this; omega))
theorem OwC.lcmp_ge {o : Int} {q1 q' : Nat} {x y : Int64} {a b : Int} (d1 : decode bytes pc = .ok (.lcmp, 1)) (hq1 : pc + 1 = q1) (d : decode bytes q1 = .ok (.ifCond .ge o, 3)) (hx : x.toInt = a) (hy : y.toInt = b) (hp : 0 ≤ (q1 : Int) + o ∧ ((q1 : Int) + o).toNat = q') (hq : q1 + 3 = q) (g1 : b ≤ a → X.G h k n q' Ls st) (g0 : a < b → X.G h k n q Ls st) : X.G h k n pc Ls (.long y :: .long x :: st) := by
  subst hx hy hq1; refine X.step (X.ifB d hp hq (fun hc => g1 ((ow_lc _ _ _).mp ((ow_if _ _).mp hc))) (fun hc => g0 (by have := mt (ow_lc _ _ _).mpr (ow_ifF hc); simp only [owCd] at this; omega))) fun T _ Y t r => XT.lcmp Y.here X.1 rfl (X.hd d1) rfl r
theorem OwC.icmp_gt {o : Int} {q' : Nat} {x y : Int32} {a b : Int} (d : decode bytes pc = .ok (.if_icmp .gt o, 3)) (hx : x.toInt = a) (hy : y.toInt = b) (hp : 0 ≤ (pc : Int) + o ∧ ((pc : Int) + o).toNat = q') (hq : pc + 3 = q) (g1 : b < a → X.G h k n q' Ls st) (g0 : a ≤ b → X.G h k n q Ls st) : X.G h k n pc Ls (.int y :: .int x :: st) := by
  subst hx hy; exact X.icmpB d hp hq (fun hc => g1 ((ow_icmp _ _ _).mp hc)) (fun hc => g0 (by have := ow_icmpF hc; simp only [owCd] at this; omega))
theorem OwC.if_gt {o : Int} {q' : Nat} {x : Int32} {a : Int} (d : decode bytes pc = .ok (.ifCond .gt o, 3)) (hx : x.toInt = a) (hp : 0 ≤ (pc : Int) + o ∧ ((pc : Int) + o).toNat = q') (hq : pc + 3 = q) (g1 : 0 < a → X.G h k n q' Ls st) (g0 : a ≤ 0 → X.G h k n q Ls st) : X.G h k n pc Ls (.int x :: st) := by
  subst hx; exact X.ifB d hp hq (fun hc => g1 ((ow_if _ _).mp hc)) (fun hc => g0 (by have := ow_ifF hc; simp only [owCd] at this; omega))
theorem OwC.lcmp_gt {o : Int} {q1 q' : Nat} {x y : Int64} {a b : Int} (d1 : decode bytes pc = .ok (.lcmp, 1)) (hq1 : pc + 1 = q1) (d : decode bytes q1 = .ok (.ifCond .gt o, 3)) (hx : x.toInt = a) (hy : y.toInt = b) (hp : 0 ≤ (q1 : Int) + o ∧ ((q1 : Int) + o).toNat = q') (hq : q1 + 3 = q) (g1 : b < a → X.G h k n q' Ls st) (g0 : a ≤ b → X.G h k n q Ls st) : X.G h k n pc Ls (.long y :: .long x :: st) := by
  subst hx hy hq1; refine X.step (X.ifB d hp hq (fun hc => g1 ((ow_lc _ _ _).mp ((ow_if _ _).mp hc))) (fun hc => g0 (by have := mt (ow_lc _ _ _).mpr (ow_ifF hc); simp only [owCd] at this; omega))) fun T _ Y t r => XT.lcmp Y.here X.1 rfl (X.hd d1) rfl r
theorem OwC.icmp_le {o : Int} {q' : Nat} {x y : Int32} {a b : Int} (d : decode bytes pc = .ok (.if_icmp .le o, 3)) (hx : x.toInt = a) (hy : y.toInt = b) (hp : 0 ≤ (pc : Int) + o ∧ ((pc : Int) + o).toNat = q') (hq : pc + 3 = q) (g1 : a ≤ b → X.G h k n q' Ls st) (g0 : b < a → X.G h k n q Ls st) : X.G h k n pc Ls (.int y :: .int x :: st) := by
  subst hx hy; exact X.icmpB d hp hq (fun hc => g1 ((ow_icmp _ _ _).mp hc)) (fun hc => g0 (by have := ow_icmpF hc; simp only [owCd] at this; omega))
theorem OwC.if_le {o : Int} {q' : Nat} {x : Int32} {a : Int} (d : decode bytes pc = .ok (.ifCond .le o, 3)) (hx : x.toInt = a) (hp : 0 ≤ (pc : Int) + o ∧ ((pc : Int) + o).toNat = q') (hq : pc + 3 = q) (g1 : a ≤ 0 → X.G h k n q' Ls st) (g0 : 0 < a → X.G h k n q Ls st) : X.G h k n pc Ls (.int x :: st) := by
  subst hx; exact X.ifB d hp hq (fun hc => g1 ((ow_if _ _).mp hc)) (fun hc => g0 (by have := ow_ifF hc; simp only [owCd] at this; omega))
theorem OwC.lcmp_le {o : Int} {q1 q' : Nat} {x y : Int64} {a b : Int} (d1 : decode bytes pc = .ok (.lcmp, 1)) (hq1 : pc + 1 = q1) (d : decode bytes q1 = .ok (.ifCond .le o, 3)) (hx : x.toInt = a) (hy : y.toInt = b) (hp : 0 ≤ (q1 : Int) + o ∧ ((q1 : Int) + o).toNat = q') (hq : q1 + 3 = q) (g1 : a ≤ b → X.G h k n q' Ls st) (g0 : b < a → X.G h k n q Ls st) : X.G h k n pc Ls (.long y :: .long x :: st) := by
  subst hx hy hq1; refine X.step (X.ifB d hp hq (fun hc => g1 ((ow_lc _ _ _).mp ((ow_if _ _).mp hc))) (fun hc => g0 (by have := mt (ow_lc _ _ _).mpr (ow_ifF hc); simp only [owCd] at this; omega))) fun T _ Y t r => XT.lcmp Y.here X.1 rfl (X.hd d1) rfl r
theorem OwC.ifnullT {o : Int} {q' : Nat} (d : decode bytes pc = .ok (.ifnull o, 3)) (hp : 0 ≤ (pc : Int) + o ∧ ((pc : Int) + o).toNat = q') (g : X.G h k n q' Ls st) : X.G h k n pc Ls (.null :: st) :=
  X.step g fun T _ Y t r => XS.ifnullYes Y.here X.1 rfl rfl (X.hd d) rfl hp.1 hp.2 r
theorem OwC.ifnullF {o : Int} {b : Addr} (d : decode bytes pc = .ok (.ifnull o, 3)) (hq : pc + 3 = q) (g : X.G h k n q Ls st) : X.G h k n pc Ls (.ref b :: st) := by
  subst hq; exact X.step g fun T _ Y t r => XS.ifnullNo Y.here X.1 rfl (X.hd d) rfl r
theorem OwC.ifnonnullT {o : Int} {q' : Nat} {b : Addr} (d : decode bytes pc = .ok (.ifnonnull o, 3)) (hp : 0 ≤ (pc : Int) + o ∧ ((pc : Int) + o).toNat = q') (g : X.G h k n q' Ls st) : X.G h k n pc Ls (.ref b :: st) :=
  X.step g fun T _ Y t r => XT.ifnonnullYes Y.here X.1 rfl rfl (X.hd d) rfl hp.1 hp.2 r
theorem OwC.ifnonnullF {o : Int} (d : decode bytes pc = .ok (.ifnonnull o, 3)) (hq : pc + 3 = q) (g : X.G h k n q Ls st) : X.G h k n pc Ls (.null :: st) := by
  subst hq; exact X.step g fun T _ Y t r => XT.ifnonnullNo Y.here X.1 rfl (X.hd d) rfl r
theorem OwC.acmp_ne {o : Int} {q' : Nat} {x y : Addr} (d : decode bytes pc = .ok (.if_acmp .ne o, 3)) (hp : 0 ≤ (pc : Int) + o ∧ ((pc : Int) + o).toNat = q') (hq : pc + 3 = q) (g1 : ¬ x = y → X.G h k n q' Ls st) (g0 : x = y → X.G h k n q Ls st) : X.G h k n pc Ls (.ref y :: .ref x :: st) := by
  subst hq
  by_cases hc : x = y
  · exact X.step (g0 hc) fun T _ Y t r => XT.acmpNo Y.here X.1 rfl (X.hd d) rfl rfl rfl (by simp [XT.acmp, hc]) r
  · exact X.step (g1 hc) fun T _ Y t r => XT.acmpYes Y.here X.1 rfl rfl (X.hd d) rfl rfl rfl (by simp [XT.acmp, hc]) hp.1 hp.2 r
theorem OwC.acmp_eq {o : Int} {q' : Nat} {x y : Addr} (d : decode bytes pc = .ok (.if_acmp .eq o, 3)) (hp : 0 ≤ (pc : Int) + o ∧ ((pc : Int) + o).toNat = q') (hq : pc + 3 = q) (g1 : x = y → X.G h k n q' Ls st) (g0 : ¬ x = y → X.G h k n q Ls st) : X.G h k n pc Ls (.ref y :: .ref x :: st) := by
  subst hq
  by_cases hc : x = y
  · exact X.step (g1 hc) fun T _ Y t r => XT.acmpYes Y.here X.1 rfl rfl (X.hd d) rfl rfl rfl (by simp [XT.acmp, hc]) hp.1 hp.2 r
  · exact X.step (g0 hc) fun T _ Y t r => XT.acmpNo Y.here X.1 rfl (X.hd d) rfl rfl rfl (by simp [XT.acmp, hc]) r
/-! returns -/
theorem OwC.fin {v : Option Value} (hv : meth.sig.returnType = none → v = none) (w : ∀ T locs, Stand p l e R s m args below meth c T locs k n → ∀ fs, (∀ (f : JFrame) (acts : List Action), f.method = m → f.locked = none → f.entered = [] → (doReturn e (T.setTop f) acts v).1 = T.setFrames fs) → Steps p.tables e below (T.setTop (mkF m pc Ls st)) (T.setFrames fs)) (hk : k ≤ kM) (hn : n ≤ nM) (hΦ : Φ v h) : X.G h k n pc Ls st := fun T locs Y eT N => by
  obtain ⟨fs, hr, hrun, hended, hW, hsame⟩ := Y.leave (v := v) hv X.2.2.2.2.2.2.1
  exact ⟨v, _, locs, w T locs Y fs hr, hrun, hended, ⟨by show Φ v T.heap; rw [eT]; exact hΦ, N⟩, ⟨_, rfl⟩, hW, hsame.mono hk hn⟩
theorem OwC.retV (d : decode bytes pc = .ok (.return_, 1)) (hret : ret = none) (hk : k ≤ kM) (hn : n ≤ nM) (hΦ : Φ none h) : X.G h k n pc Ls [] :=
  X.fin (fun _ => rfl) (fun T _ Y fs hr => Y.returnOut X.1 (X.2.2.2.2.2.1.trans hret) (X.hd d) hr) hk hn hΦ
theorem OwC.retI {z : Int32} (d : decode bytes pc = .ok (.ireturn, 1)) (hret : ret = some .int) (hk : k ≤ kM) (hn : n ≤ nM) (hΦ : Φ (some (.int z)) h) : X.G h k n pc Ls (.int z :: st) :=
  X.fin (fun q => by rw [X.2.2.2.2.2.1, hret] at q; cases q) (fun T _ Y fs hr => retOut Y X.1 (X.2.2.2.2.2.1.trans hret) rfl (Or.inl ⟨rfl, Or.inl rfl, z, rfl⟩) (X.hd d) hr) hk hn hΦ
theorem OwC.retN {z z' : Int32} {t : FieldType} (d : decode bytes pc = .ok (.ireturn, 1)) (hret : ret = some t) (ht : t = .boolean ∨ t = .byte ∨ t = .char ∨ t = .short) (hz : nar t z = z') (hk : k ≤ kM) (hn : n ≤ nM) (hΦ : Φ (some (.int z')) h) : X.G h k n pc Ls (.int z :: st) := by
  subst hz
  exact X.fin (fun q => by rw [X.2.2.2.2.2.1, hret] at q; cases q) (fun T _ Y fs hr => RoadKit.retN Y X.1 (X.2.2.2.2.2.1.trans hret) ht (X.hd d) hr) hk hn hΦ
theorem OwC.retJ {z : Int64} (d : decode bytes pc = .ok (.lreturn, 1)) (hret : ret = some .long) (hk : k ≤ kM) (hn : n ≤ nM) (hΦ : Φ (some (.long z)) h) : X.G h k n pc Ls (.long z :: st) :=
  X.fin (fun q => by rw [X.2.2.2.2.2.1, hret] at q; cases q) (fun T _ Y fs hr => retOut Y X.1 (X.2.2.2.2.2.1.trans hret) rfl (Or.inr (Or.inl ⟨rfl, rfl, z, rfl⟩)) (X.hd d) hr) hk hn hΦ
theorem OwC.retA {v : Value} {t : FieldType} (d : decode bytes pc = .ok (.areturn, 1)) (hret : ret = some t) (ht : t.isReference = true) (hv : v.isRef = true) (hnv : narrow t v = v) (hk : k ≤ kM) (hn : n ≤ nM) (hΦ : Φ (some v) h) : X.G h k n pc Ls (v :: st) :=
  X.fin (fun q => by rw [X.2.2.2.2.2.1, hret] at q; cases q) (fun T _ Y fs hr => retOut Y X.1 (X.2.2.2.2.2.1.trans hret) hnv (Or.inr (Or.inr (Or.inr (Or.inr ⟨rfl, ht, hv⟩)))) (X.hd d) hr) hk hn hΦ
/-! the heap -/
theorem OwC.getF {R0 O fn d0 host : String} {i : Nat} {a : Addr} {v : Value} (w : (Cond.fieldLink own i R0 fn d0).before a0 Z = true ∨ (Cond.fieldLinkNest own i R0 fn d0 host).before a0 Z = true) (via : Via Z R0 O fn d0) (F : Fld Z h a O fn d0 v) (d : decode bytes pc = .ok (.getfield i, 3)) (hq : pc + 3 = q) (g : X.G h k n q Ls (v :: st)) : X.G h k n pc Ls (.ref a :: st) := fun T locs Y eT N => by
  subst hq
  obtain ⟨T', Y', eT', w'⟩ := RoadKit.getF Y X.1 X.2.2.2.2.1 X.2.2.2.1 w via eT F (g := mkF m pc Ls (.ref a :: st)) rfl rfl (X.hd d)
  obtain ⟨v, s₂, L, r1, r⟩ := g T' locs Y' eT' N
  exact ⟨v, s₂, L, w' _ r1, r⟩
theorem OwC.getR {R0 fn d0 : String} {i : Nat} {a : Addr} {v : Value} (w : (Cond.fieldRef own i R0 fn d0).before a0 Z = true) (F : Fld Z h a R0 fn d0 v) (d : decode bytes pc = .ok (.getfield i, 3)) (hq : pc + 3 = q) (g : X.G h k n q Ls (v :: st)) : X.G h k n pc Ls (.ref a :: st) := fun T locs Y eT N => by
  subst hq
  have hT : Z.Warmed39 T.vm := wtrans X.2.2.2.2.1 Y.warmed
  have w' := Cond.fieldRef_warmed39 hT w
  have hcur : (Z.setVm T.vm).vm.findClass own = some m.cls := by rw [State.vm_setVm, Y.warmed.alike.findClass]; exact X.2.2.2.1
  obtain ⟨c1, k1, i1, f1, e1, e2⟩ := Cond.fieldRef_spec hcur w'
  obtain ⟨cell, cf, k, j, f, h1, h2, h3, h4, h5, h6, h7⟩ := F
  obtain ⟨k', q1, -⟩ := State.fieldFound?_setVm (s := Z) hT.alike h2
  cases q1.symm.trans e1
  obtain ⟨v', s₂, L, r1, r⟩ := g T locs Y eT N
  exact ⟨v', s₂, L, (Y.getfieldR X.1 (g := mkF m pc Ls (.ref a :: st)) rfl e2 h3 rfl (by rw [eT]; exact h1) h4 h7 (X.hd d) (Steps.refl _)).trans r1, r⟩
theorem OwC.getS {R0 O fn d0 : String} {i : Nat} {v : Value} (w : (Cond.fieldLink own i R0 fn d0).before a0 Z = true) (via : Via Z R0 O fn d0) (F : Sta Z h O fn d0 v) (d : decode bytes pc = .ok (.getstatic i, 3)) (hq : pc + 3 = q) (g : X.G h k n q Ls (v :: st)) : X.G h k n pc Ls st := fun T locs Y eT N => by
  subst hq
  obtain ⟨T', Y', eT', w'⟩ := RoadKit.getS (host := "") Y X.1 X.2.2.2.2.1 X.2.2.2.1 w via eT F (g := mkF m pc Ls st) rfl (X.hd d)
  obtain ⟨v, s₂, L, r1, r⟩ := g T' locs Y' eT' N
  exact ⟨v, s₂, L, w' _ r1, r⟩
theorem OwC.putF {R0 O fn d0 host C : String} {i kk : Nat} {a : Addr} {v old : Value} {ty : FieldType} (w : (Cond.fieldLink own i R0 fn d0).before a0 Z = true ∨ (Cond.fieldLinkNest own i R0 fn d0 host).before a0 Z = true) (via : Via Z R0 O fn d0) (F : Fld Z h a O fn d0 old) (E : Exa Z h a C)
    (L : (Cond.lays C O fn d0).before a0 Z = true ∨ ((Cond.laysFinal C O fn d0).before a0 Z = true ∧ own = O ∧ nm = "<init>")) (wi : (Cond.instantiable C kk).before a0 Z = true) (hty : parseFieldDescriptor d0 = some ty) (hnv : narrow ty v = v) (hf : fits ty v = true) (ge : n0 ≤ a)
    (d : decode bytes pc = .ok (.putfield i, 3)) (hq : pc + 3 = q) (g : ∀ h', Wr h h' a (RoadKit.slotOf Z O fn d0) v → X.G h' k n q Ls st) : X.G h k n pc Ls (v :: .ref a :: st) := fun T locs Y eT N => by
  subst hq
  obtain ⟨T', h', Y', eT', W, w'⟩ := RoadKit.putF Y X.1 X.2.2.2.2.1 X.2.2.2.1 w via eT F E (L.imp_right fun z => ⟨z.1, z.2.1, X.2.2.2.2.2.2.2.trans z.2.2⟩) wi hty hnv hf (g := mkF m pc Ls (v :: .ref a :: st)) rfl rfl (X.hd d)
  obtain ⟨v, s₂, L, r1, r⟩ := g h' W T' _ Y' eT' (Fr.snoc Y' N ge)
  exact ⟨v, s₂, L, w' _ r1, r⟩
theorem OwC.newO {C : String} {i N k' n' : Nat} (w : (Cond.classLink own i C).before a0 Z = true) (wi : (Cond.instantiable C N).before a0 Z = true) (wz : (Cond.initialized C).before a0 Z = true) (d : decode bytes pc = .ok (.new i, 3)) (hk : k + 1 = k') (hn : n + N = n') (hc : k' ≤ R.cells) (hs : n' ≤ R.slots) (hq : pc + 3 = q)
    (g : ∀ h' a, a = h.size → Ext h h' → Exa Z h' a C → (∀ {O fn d0 : String} {ty : FieldType}, Laid Z a0 C O fn d0 → parseFieldDescriptor d0 = some ty → Fld Z h' a O fn d0 (defaultValue ty)) → X.G h' k' n' q Ls (.ref a :: st)) : X.G h k n pc Ls st := fun T locs Y eT Nf => by
  subst hq hk hn
  obtain ⟨T', h', Y', eT', E, A, D, -, w'⟩ := RoadKit.newO Y X.1 X.2.2.2.2.1 X.2.2.2.1 w wi wz eT (g := mkF m pc Ls st) rfl (X.hd d) hc hs
  obtain ⟨v, s₂, L, r1, r⟩ := g h' h.size rfl E A D T' _ Y' eT' Nf
  exact ⟨v, s₂, L, w' _ r1, r⟩
theorem OwC.initO {i W : Nat} {a : Addr} (w1 : (Cond.methodLink own i Lib.objectInit).before a0 Z = true) (w2 : (Cond.instanceMethod Lib.objectInit).before a0 Z = true) (w3 : (Cond.code Lib.objectInit ⟨#[0xb1]⟩ 1 none).before a0 Z = true) (d : decode bytes pc = .ok (.invokespecial i, 3)) (hsz : Ls.size = mL) (hf : 1 ≤ R.frames) (hW : (st.map fun v => v.category).sum ≤ W) (hl : W + 12 ≤ R.locals) (hq : pc + 3 = q)
    (g : X.G h k n q Ls st) : X.G h k n pc Ls (.ref a :: st) := fun T locs Y eT N => by
  subst hq
  obtain ⟨T', Y', eT', w'⟩ := RoadKit.initO Y X.1 X.2.2.2.2.1 X.2.2.2.1 w1 w2 w3 eT (g := mkF m pc Ls (.ref a :: st)) rfl (hsz.trans X.2.2.1.symm) rfl (X.hd d) hf (W := W) (by show 2 * 0 + _ ≤ _; omega) hl
  obtain ⟨v, s₂, L, r1, r⟩ := g T' locs Y' eT' N
  exact ⟨v, s₂, L, w' _ r1, r⟩
/-! arrays: what stands in one, as a list -/
def OwA (Z : State) (h : Heap) (a : Addr) (ty : FieldType) (vs : List Value) : Prop := ∃ cl : Cell, Arr Z h a cl ty ∧ cl.slots.toList = vs ∧ vs.length < 2 ^ 31
variable {a : Addr} {ty : FieldType} {vs : List Value}
theorem OwA.lt (A : OwA Z h a ty vs) : a < h.size := by obtain ⟨cl, A, -⟩ := A; exact A.lt
theorem OwA.len (A : OwA Z h a ty vs) : vs.length < 2 ^ 31 := by obtain ⟨cl, A, -, r⟩ := A; exact r
theorem OwA.ext {h' : Heap} (A : OwA Z h a ty vs) (E : Ext h h') : OwA Z h' a ty vs := by obtain ⟨cl, A, r⟩ := A; exact ⟨cl, A.ext E, r⟩
theorem OwA.other {h' : Heap} {b : Addr} {sl : Nat} {v : Value} (A : OwA Z h a ty vs) (W : Wr h h' b sl v) (ne : a ≠ b) : OwA Z h' a ty vs := by obtain ⟨cl, A, r⟩ := A; exact ⟨cl, A.other W ne, r⟩
theorem OwA.keep {h' : Heap} {ws : List Addr} (A : OwA Z h a ty vs) (K : Keep h h' ws) (ni : a ∉ ws) : OwA Z h' a ty vs := by obtain ⟨cl, A, r⟩ := A; exact ⟨cl, ⟨K.2.1 a cl A.1 ni, A.2⟩, r⟩
theorem OwA.set {h' : Heap} {j : Nat} {v : Value} (A : OwA Z h a ty vs) (W : Wr h h' a j v) : OwA Z h' a ty (vs.set j v) := by
  obtain ⟨cl, A, r1, r2⟩ := A
  exact ⟨cl.setSlot j v, A.same W, by simp [Cell.setSlot, r1], by simpa using r2⟩
theorem ow_idx {i : Int32} {j : Nat} (hi : i.toInt = (j : Int)) : ¬ i < 0 ∧ i.toNatClampNeg = j := by
  refine ⟨?_, ?_⟩
  · rw [Int32.lt_iff_toInt_lt]; have : (0 : Int32).toInt = 0 := rfl; omega
  · have : i.toNatClampNeg = i.toInt.toNat := rfl
    omega
theorem OwA.inb {cl : Cell} {i : Int32} {j : Nat} (e : cl.slots.toList = vs) (hi : i.toInt = (j : Int)) (hj : j < vs.length) : ¬ (i < 0 ∨ cl.slots.size ≤ i.toNatClampNeg) := by
  obtain ⟨h1, h2⟩ := ow_idx hi
  have : cl.slots.size = vs.length := by rw [← e]; simp
  rintro (q | q)
  · exact h1 q
  · omega
theorem OwA.at {cl : Cell} {i : Int32} {j : Nat} {v : Value} (e : cl.slots.toList = vs) (hi : i.toInt = (j : Int)) (hv : vs[j]? = some v) : cl.slots[i.toNatClampNeg]? = some v := by
  rw [(ow_idx hi).2, ← hv, ← e]; simp
theorem ow_getlt {j : Nat} {v : Value} (hv : vs[j]? = some v) : j < vs.length := (List.getElem?_eq_some_iff.mp hv).1
theorem OwC.newP {aty : ArrayType} {z : Int32} {N k' n' : Nat} (w : (Cond.arrayClass (newarray.typeOf aty)).before a0 Z = true) (d : decode bytes pc = .ok (.newarray aty, 2)) (ht : newarray.typeOf aty = ty) (hz : z.toInt = (N : Int)) {cap : Nat} (hcap : N ≤ cap) (hb : cap * 8 ≤ 536870912) (hk : k + 1 = k') (hn : n + cap = n') (hc : k' ≤ R.cells) (hs : n' ≤ R.slots) (hq : pc + 2 = q)
    (g : ∀ h' a, a = h.size → Ext h h' → OwA Z h' a ty (List.replicate N (defaultValue ty)) → X.G h' k' n' q Ls (.ref a :: st)) : X.G h k n pc Ls (.int z :: st) := fun T locs Y eT Nf => by
  subst hq hk hn ht
  obtain ⟨z1, z2⟩ := ow_idx hz
  obtain ⟨T', h', cA, Y', eT', E, A, w'⟩ := RoadKit.newP Y X.1 X.2.2.2.2.1 w eT (g := mkF m pc Ls (.int z :: st)) rfl (X.hd d) rfl z1 (cap := cap) (by omega) hb hc hs
  obtain ⟨v, s₂, L, r1, r⟩ := g h' h.size rfl E ⟨_, A, by simp [newA, z2], by have := z.toInt_lt; simp; omega⟩ T' _ Y' eT' Nf
  exact ⟨v, s₂, L, w' _ r1, r⟩
theorem OwC.alen {z : Int32} (A : OwA Z h a ty vs) (hz : z.toInt = (vs.length : Int)) (d : decode bytes pc = .ok (.arraylength, 1)) (hq : pc + 1 = q) (g : X.G h k n q Ls (.int z :: st)) : X.G h k n pc Ls (.ref a :: st) := fun T locs Y eT N => by
  subst hq
  obtain ⟨cl, A, e, hl⟩ := A
  obtain ⟨v, s₂, L, r1, r⟩ := g T locs Y eT N
  have hsz : cl.slots.size = vs.length := by rw [← e]; simp
  have ez : cl.slots.size.toInt32 = z := by rw [hsz, ← Int32.toInt_inj, len_toInt hl, hz]
  exact ⟨v, s₂, L, Y.arraylength X.1 (by rw [eT]; exact A.1) (State.isArrayOf_alike X.2.2.2.2.1.alike A.2.1) (g := mkF m pc Ls (.ref a :: st)) rfl rfl (X.hd d) _ (by rw [ez]; exact r1), r⟩
theorem OwC.iaload {i : Int32} {j : Nat} {v : Value} (A : OwA Z h a .int vs) (hi : i.toInt = (j : Int)) (hv : vs[j]? = some v) (d : decode bytes pc = .ok (.iaload, 1)) (hq : pc + 1 = q) (g : X.G h k n q Ls (v :: st)) : X.G h k n pc Ls (.int i :: .ref a :: st) := fun T locs Y eT N => by
  subst hq
  obtain ⟨cl, A, e, -⟩ := A
  obtain ⟨v, s₂, L, r1, r⟩ := g T locs Y eT N
  exact ⟨v, s₂, L, Y.iaload X.1 (by rw [eT]; exact A.1) (State.isArrayOf_alike X.2.2.2.2.1.alike A.2.1) A.2.2 (OwA.inb e hi (ow_getlt hv)) (OwA.at e hi hv) (g := mkF m pc Ls (.int i :: .ref a :: st)) rfl rfl (X.hd d) _ r1, r⟩
theorem OwC.laload {i : Int32} {j : Nat} {v : Value} (A : OwA Z h a .long vs) (hi : i.toInt = (j : Int)) (hv : vs[j]? = some v) (d : decode bytes pc = .ok (.laload, 1)) (hq : pc + 1 = q) (g : X.G h k n q Ls (v :: st)) : X.G h k n pc Ls (.int i :: .ref a :: st) := fun T locs Y eT N => by
  subst hq
  obtain ⟨cl, A, e, -⟩ := A
  obtain ⟨v, s₂, L, r1, r⟩ := g T locs Y eT N
  exact ⟨v, s₂, L, Y.laload X.1 (by rw [eT]; exact A.1) (State.isArrayOf_alike X.2.2.2.2.1.alike A.2.1) A.2.2 (OwA.inb e hi (ow_getlt hv)) (OwA.at e hi hv) (g := mkF m pc Ls (.int i :: .ref a :: st)) rfl rfl (X.hd d) _ r1, r⟩
theorem OwC.baload {i : Int32} {j : Nat} {v : Value} (A : OwA Z h a .byte vs) (hi : i.toInt = (j : Int)) (hv : vs[j]? = some v) (d : decode bytes pc = .ok (.baload, 1)) (hq : pc + 1 = q) (g : X.G h k n q Ls (v :: st)) : X.G h k n pc Ls (.int i :: .ref a :: st) := fun T locs Y eT N => by
  subst hq
  obtain ⟨cl, A, e, -⟩ := A
  obtain ⟨v, s₂, L, r1, r⟩ := g T locs Y eT N
  exact ⟨v, s₂, L, Y.baloadBytes X.1 (by rw [eT]; exact A.1) (State.isArrayOf_alike X.2.2.2.2.1.alike A.2.1) A.2.2 (OwA.inb e hi (ow_getlt hv)) (OwA.at e hi hv) (g := mkF m pc Ls (.int i :: .ref a :: st)) rfl rfl (X.hd d) _ r1, r⟩
theorem OwC.caload {i : Int32} {j : Nat} {v : Value} (A : OwA Z h a .char vs) (hi : i.toInt = (j : Int)) (hv : vs[j]? = some v) (d : decode bytes pc = .ok (.caload, 1)) (hq : pc + 1 = q) (g : X.G h k n q Ls (v :: st)) : X.G h k n pc Ls (.int i :: .ref a :: st) := fun T locs Y eT N => by
  subst hq
  obtain ⟨cl, A, e, -⟩ := A
  obtain ⟨v, s₂, L, r1, r⟩ := g T locs Y eT N
  exact ⟨v, s₂, L, Y.caload X.1 (by rw [eT]; exact A.1) (State.isArrayOf_alike X.2.2.2.2.1.alike A.2.1) A.2.2 (OwA.inb e hi (ow_getlt hv)) (OwA.at e hi hv) (g := mkF m pc Ls (.int i :: .ref a :: st)) rfl rfl (X.hd d) _ r1, r⟩
theorem OwC.iastore {i : Int32} {j : Nat} {x : Int32} (A : OwA Z h a .int vs) (hi : i.toInt = (j : Int)) (hj : j < vs.length) (ge : n0 ≤ a) (d : decode bytes pc = .ok (.iastore, 1)) (hq : pc + 1 = q) (g : ∀ h', Wr h h' a j (.int x) → OwA Z h' a .int (vs.set j (.int x)) → X.G h' k n q Ls st) : X.G h k n pc Ls (.int x :: .int i :: .ref a :: st) := fun T locs Y eT N => by
  subst hq
  obtain ⟨cl, A1, e, hl⟩ := id A
  obtain ⟨T', h', Y', eT', W, w'⟩ := RoadKit.stI Y X.1 X.2.2.2.2.1 eT A1 (OwA.inb e hi hj) (g := mkF m pc Ls (.int x :: .int i :: .ref a :: st)) rfl rfl (X.hd d)
  have N' := Fr.snoc Y' N ge
  rw [(ow_idx hi).2] at W
  obtain ⟨v, s₂, L, r1, r⟩ := g h' W (A.set W) T' _ Y' eT' N'
  exact ⟨v, s₂, L, w' _ r1, r⟩
theorem OwC.lastore {i : Int32} {j : Nat} {x : Int64} (A : OwA Z h a .long vs) (hi : i.toInt = (j : Int)) (hj : j < vs.length) (ge : n0 ≤ a) (d : decode bytes pc = .ok (.lastore, 1)) (hq : pc + 1 = q) (g : ∀ h', Wr h h' a j (.long x) → OwA Z h' a .long (vs.set j (.long x)) → X.G h' k n q Ls st) : X.G h k n pc Ls (.long x :: .int i :: .ref a :: st) := fun T locs Y eT N => by
  subst hq
  obtain ⟨cl, A1, e, hl⟩ := id A
  obtain ⟨T', h', Y', eT', W, w'⟩ := RoadKit.stJ Y X.1 X.2.2.2.2.1 eT A1 (OwA.inb e hi hj) (g := mkF m pc Ls (.long x :: .int i :: .ref a :: st)) rfl rfl (X.hd d)
  have N' := Fr.snoc Y' N ge
  rw [(ow_idx hi).2] at W
  obtain ⟨v, s₂, L, r1, r⟩ := g h' W (A.set W) T' _ Y' eT' N'
  exact ⟨v, s₂, L, w' _ r1, r⟩
theorem OwC.bastore {i : Int32} {j : Nat} {x : Int32} (A : OwA Z h a .byte vs) (hi : i.toInt = (j : Int)) (hj : j < vs.length) (ge : n0 ≤ a) (d : decode bytes pc = .ok (.bastore, 1)) (hq : pc + 1 = q) (g : ∀ h', Wr h h' a j (.int (nar .byte x)) → OwA Z h' a .byte (vs.set j (.int (nar .byte x))) → X.G h' k n q Ls st) : X.G h k n pc Ls (.int x :: .int i :: .ref a :: st) := fun T locs Y eT N => by
  subst hq
  obtain ⟨cl, A1, e, hl⟩ := id A
  obtain ⟨T', h', Y', eT', W, w'⟩ := RoadKit.stB Y X.1 X.2.2.2.2.1 eT A1 (OwA.inb e hi hj) (g := mkF m pc Ls (.int x :: .int i :: .ref a :: st)) rfl rfl (X.hd d)
  have N' := Fr.snoc Y' N ge
  rw [(ow_idx hi).2] at W
  obtain ⟨v, s₂, L, r1, r⟩ := g h' W (A.set W) T' _ Y' eT' N'
  exact ⟨v, s₂, L, w' _ r1, r⟩
theorem OwC.castore {i : Int32} {j : Nat} {x : Int32} (A : OwA Z h a .char vs) (hi : i.toInt = (j : Int)) (hj : j < vs.length) (ge : n0 ≤ a) (d : decode bytes pc = .ok (.castore, 1)) (hq : pc + 1 = q) (g : ∀ h', Wr h h' a j (.int (nar .char x)) → OwA Z h' a .char (vs.set j (.int (nar .char x))) → X.G h' k n q Ls st) : X.G h k n pc Ls (.int x :: .int i :: .ref a :: st) := fun T locs Y eT N => by
  subst hq
  obtain ⟨cl, A1, e, hl⟩ := id A
  obtain ⟨T', h', Y', eT', W, w'⟩ := RoadKit.stC Y X.1 X.2.2.2.2.1 eT A1 (OwA.inb e hi hj) (g := mkF m pc Ls (.int x :: .int i :: .ref a :: st)) rfl rfl (X.hd d)
  have N' := Fr.snoc Y' N ge
  rw [(ow_idx hi).2] at W
  obtain ⟨v, s₂, L, r1, r⟩ := g h' W (A.set W) T' _ Y' eT' N'
  exact ⟨v, s₂, L, w' _ r1, r⟩
/-! contracts and calls -/
def OwM (l : Launch) (Z : State) (y : MethodName) (bytes : ByteArray) (mL : Nat) (ret : Option FieldType) (rm : Room) (kM nM : Nat) (ws : List Cond) (as : Array Value) (h0 : Heap) (n0 : Nat) (Φ : Option Value → Heap → Prop) : Prop :=
  MetFree l y (head1 (Cond.code y bytes mL ret :: ws) rm) (fun a U => a = as ∧ Z.Warmed39 U.vm ∧ U.heap = h0) (fun _ _ _ _ _ => True) (fun _ U o U' => ∃ v L, o = .returned v ∧ (Φ v U'.heap ∧ Fr n0 L) ∧ FrameEnd U o U' L kM nM)
theorem OwM.of {y : MethodName} {rm : Room} {ws : List Cond} {as : Array Value} {h0 : Heap} (hpn : plainFor y = true) (hef : ∀ m, entryFrame m as mL = mkF m 0 Ls [])
    (body : ∀ p e s m below meth c (X : OwC p l e rm s m as below meth c Z y.cls y.name bytes mL ret n0 kM nM Φ), X.G h0 0 0 0 Ls []) : OwM l Z y bytes mL ret rm kM nM ws as h0 n0 Φ := by
  refine MetFree.of_bodySF hpn hisR ?_
  intro p e s m args below meth c s₁ Bd hml0 hP hK
  obtain ⟨rfl, hZ, hh⟩ := hP
  have X : OwC p l e rm s m args below meth c Z y.cls y.name bytes mL ret n0 kM nM Φ := ⟨Bd.exec, Bd.bytes, hml0, findClass_of_methodNamed Bd.named, hZ, Bd.returns, Bd.notSynchronized, (name_of_methodNamed Bd.named Bd.method).1⟩
  obtain ⟨v, s₂, L, r1, r2, r3, r4, r5⟩ := body p e s m below meth c X s₁ [] (Stand.of_body Bd) (by rw [← hh, Bd.state]; rfl) (Fr.nil n0)
  exact ⟨s₂, _, castTop (hef m) r1, r2, r3, v, L, rfl, r4, r5⟩
variable {y : MethodName} {by' : ByteArray} {mL' : Nat} {ret' : Option FieldType} {rm : Room} {as : Array Value} {Ψ : Option Value → Heap → Prop}
theorem OwC.back (X : OwC p l e R s m args below meth c Z own nm bytes mL ret n0 kM nM Φ) {len W : Nat} (K : OwM l Z y by' mL' ret' rm rm.cells rm.slots [] as h n0 Ψ) (wc : (Cond.code y by' mL' ret').before a0 Z = true) (wz : (Cond.initialized y.cls).before a0 Z = true) (hf : rm.frames + 1 ≤ R.frames) (hl : W + (mL' + 11) + rm.locals ≤ R.locals) :
    Back l R p e below s args y len W (fun A a => a = as ∧ A.U.heap = h ∧ A.cells + rm.cells ≤ R.cells ∧ A.slots + rm.slots ≤ R.slots)
      (fun A _ v B => ∃ L, (Ψ v B.U.heap ∧ Fr n0 L) ∧ B.locs = A.locs ++ L ∧ B.cells = A.cells + rm.cells ∧ B.slots = A.slots + rm.slots) :=
  backOf (Q := fun v h L => Ψ v h ∧ Fr n0 L) K X.2.2.2.2.1 wc wz hf hl
theorem OwC.callS {i W k' n' : Nat} {argsL : List Value} {ps : List FieldType} {rt : Option FieldType} (K : OwM l Z y by' mL' ret' rm rm.cells rm.slots [] as h n0 Ψ) (w1 : (Cond.methodLink own i y).before a0 Z = true) (w2 : (Cond.static y).before a0 Z = true) (w3 : (Cond.initialized y.cls).before a0 Z = true) (w4 : (Cond.code y by' mL' ret').before a0 Z = true) (hy : y.cls ≠ "java/lang/invoke/MethodHandle" ∧ y.cls ≠ "java/lang/invoke/VarHandle")
    (pd : parseMethodDescriptor y.desc = some ⟨ps, rt⟩) (hlen : argsL.length = ps.length) (has : argsL.toArray = as) (hst : st = argsL.reverse ++ rest) (hW : (rest.map fun v => v.category).sum ≤ W) (hsz : Ls.size = mL) (hf : rm.frames + 1 ≤ R.frames) (hl : W + (mL' + 11) + rm.locals ≤ R.locals) (hk : k + rm.cells = k') (hn : n + rm.slots = n') (hc : k' ≤ R.cells) (hs : n' ≤ R.slots)
    (d : decode bytes pc = .ok (.invokestatic i, 3)) (hq : pc + 3 = q) (g : ∀ v h', Ψ v h' → X.G h' k' n' q Ls (v.toList ++ rest)) : X.G h k n pc Ls st := fun T locs Y eT N => by
  subst hq hk hn has
  obtain ⟨v, vm1, B, -, Y', ⟨L0, ⟨hΨ, N0⟩, l1, l2, l3⟩, w'⟩ := Jvm.LawKit.callS Y X.1 (y := y) X.2.2.2.1 (mvT X.2.2.2.2.1 w1) (mvT X.2.2.2.2.1 w2) (mvT X.2.2.2.2.1 w3) (mvT X.2.2.2.2.1 w4) hy (X.back K w4 w3 hf hl) (g := mkF m pc Ls st) rfl (hsz.trans X.2.2.1.symm) (argsL := argsL) (rest := rest) (lenOf pd hlen) hst (by show 2 * 0 + _ ≤ _; omega) (X.hd d) (fun _ _ => ⟨rfl, eT, hc, hs⟩)
  obtain ⟨T', L', k', n'⟩ := B
  dsimp only [Pt.U, Pt.locs, Pt.cells, Pt.slots] at Y' l1 l2 l3 w' hΨ
  subst l1 l2 l3
  obtain ⟨v, s₂, L, r1, r⟩ := g v _ hΨ T' _ Y' rfl (N.app N0)
  exact ⟨v, s₂, L, w' _ r1, r⟩
theorem OwC.special {i W k' n' : Nat} {a : Addr} {argsL : List Value} {ps : List FieldType} {rt : Option FieldType} (K : OwM l Z y by' mL' none rm rm.cells rm.slots [] as h n0 Ψ) (hin : y.name = "<init>") (w1 : (Cond.methodLink own i y).before a0 Z = true) (w2 : (Cond.instanceMethod y).before a0 Z = true) (w3 : (Cond.initialized y.cls).before a0 Z = true) (w4 : (Cond.code y by' mL' none).before a0 Z = true) (hy : y.cls ≠ "java/lang/invoke/MethodHandle" ∧ y.cls ≠ "java/lang/invoke/VarHandle")
    (pd : parseMethodDescriptor y.desc = some ⟨ps, rt⟩) (hlen : argsL.length = ps.length) (has : (.ref a :: argsL).toArray = as) (hst : st = argsL.reverse ++ .ref a :: rest) (hW : (rest.map fun v => v.category).sum ≤ W) (hsz : Ls.size = mL) (hf : rm.frames + 1 ≤ R.frames) (hl : W + (mL' + 11) + rm.locals ≤ R.locals) (hk : k + rm.cells = k') (hn : n + rm.slots = n') (hc : k' ≤ R.cells) (hs : n' ≤ R.slots)
    (d : decode bytes pc = .ok (.invokespecial i, 3)) (hq : pc + 3 = q) (g : ∀ v h', Ψ v h' → X.G h' k' n' q Ls (v.toList ++ rest)) : X.G h k n pc Ls st := fun T locs Y eT N => by
  subst hq hk hn has
  obtain ⟨v, vm1, B, -, Y', ⟨L0, ⟨hΨ, N0⟩, l1, l2, l3⟩, w'⟩ := Y.specialBack X.1 (y := y) hin X.2.2.2.1 (mvT X.2.2.2.2.1 w1) (mvT X.2.2.2.2.1 w2) (mvT X.2.2.2.2.1 w4) hy (X.back K w4 w3 hf hl) (g := mkF m pc Ls st) rfl (hsz.trans X.2.2.1.symm) (Steps.refl _) (a := a) (argsL := argsL) (rest := rest) (lenOf pd hlen) hst (by show 2 * 0 + _ ≤ _; omega) (X.hd d) (fun _ _ => ⟨rfl, eT, hc, hs⟩)
  obtain ⟨T', L', k', n'⟩ := B
  dsimp only [Pt.U, Pt.locs, Pt.cells, Pt.slots] at Y' l1 l2 l3 w' hΨ
  subst l1 l2 l3
  obtain ⟨v, s₂, L, r1, r⟩ := g v _ hΨ T' _ Y' rfl (N.app N0)
  exact ⟨v, s₂, L, w'.trans r1, r⟩
theorem OwC.virtual {C : String} {i W k' n' : Nat} {a : Addr} {argsL : List Value} {ps : List FieldType} {rt : Option FieldType} (K : OwM l Z y by' mL' ret' rm rm.cells rm.slots [] as h n0 Ψ) (w1 : (Cond.methodLink own i y).before a0 Z = true) (w2 : (Cond.declares y).before a0 Z = true) (w5 : (Cond.selects C y y).before a0 Z = true) (w6 : (Cond.instanceMethod y).before a0 Z = true) (w3 : (Cond.initialized y.cls).before a0 Z = true) (w4 : (Cond.code y by' mL' ret').before a0 Z = true) (hy : y.cls ≠ "java/lang/invoke/MethodHandle" ∧ y.cls ≠ "java/lang/invoke/VarHandle") (E : Exa Z h a C)
    (pd : parseMethodDescriptor y.desc = some ⟨ps, rt⟩) (hlen : argsL.length = ps.length) (has : (.ref a :: argsL).toArray = as) (hst : st = argsL.reverse ++ .ref a :: rest) (hW : (rest.map fun v => v.category).sum ≤ W) (hsz : Ls.size = mL) (hf : rm.frames + 1 ≤ R.frames) (hl : W + (mL' + 11) + rm.locals ≤ R.locals) (hk : k + rm.cells = k') (hn : n + rm.slots = n') (hc : k' ≤ R.cells) (hs : n' ≤ R.slots)
    (d : decode bytes pc = .ok (.invokevirtual i, 3)) (hq : pc + 3 = q) (g : ∀ v h', Ψ v h' → X.G h' k' n' q Ls (v.toList ++ rest)) : X.G h k n pc Ls st := fun T locs Y eT N => by
  subst hq hk hn has
  obtain ⟨cB, kB, q1, q2, q3⟩ := isOf (T := T) X.2.2.2.2.1 eT E
  obtain ⟨v, vm1, B, -, Y', ⟨L0, ⟨hΨ, N0⟩, l1, l2, l3⟩, w'⟩ := Y.virtualBack X.1 (y := y) (z := y) X.2.2.2.1 (mvT X.2.2.2.2.1 w1) (mvT X.2.2.2.2.1 w2) (notFace_of_selects (args := #[]) (mvT X.2.2.2.2.1 w5)) (mvT X.2.2.2.2.1 w5) (mvT X.2.2.2.2.1 w6) hy (X.back K w4 w3 hf hl) q1 q3 (g := mkF m pc Ls st) rfl (hsz.trans X.2.2.1.symm) (Steps.refl _) (argsL := argsL) (rest := rest) (lenOf pd hlen) hst (by show 2 * 0 + _ ≤ _; omega) (X.hd d) (fun _ _ => ⟨rfl, eT, hc, hs⟩)
  obtain ⟨T', L', k', n'⟩ := B
  dsimp only [Pt.U, Pt.locs, Pt.cells, Pt.slots] at Y' l1 l2 l3 w' hΨ
  subst l1 l2 l3
  obtain ⟨v, s₂, L, r1, r⟩ := g v _ hΨ T' _ Y' rfl (N.app N0)
  exact ⟨v, s₂, L, w'.trans r1, r⟩
theorem OwC.private {C : String} {i W k' n' kk : Nat} {a : Addr} {argsL : List Value} {ps : List FieldType} {rt : Option FieldType} (K : OwM l Z y by' mL' ret' rm rm.cells rm.slots [] as h n0 Ψ) (w1 : (Cond.methodLink own i y).before a0 Z = true) (w6 : (Cond.instanceMethod y).before a0 Z = true) (w7 : (Cond.privateMethod y).before a0 Z = true) (w8 : (Cond.instantiable y.cls kk).before a0 Z = true) (w3 : (Cond.initialized y.cls).before a0 Z = true) (w4 : (Cond.code y by' mL' ret').before a0 Z = true) (hy : y.cls ≠ "java/lang/invoke/MethodHandle" ∧ y.cls ≠ "java/lang/invoke/VarHandle") (E : Exa Z h a C)
    (pd : parseMethodDescriptor y.desc = some ⟨ps, rt⟩) (hlen : argsL.length = ps.length) (has : (.ref a :: argsL).toArray = as) (hst : st = argsL.reverse ++ .ref a :: rest) (hW : (rest.map fun v => v.category).sum ≤ W) (hsz : Ls.size = mL) (hf : rm.frames + 1 ≤ R.frames) (hl : W + (mL' + 11) + rm.locals ≤ R.locals) (hk : k + rm.cells = k') (hn : n + rm.slots = n') (hc : k' ≤ R.cells) (hs : n' ≤ R.slots)
    (d : decode bytes pc = .ok (.invokevirtual i, 3)) (hq : pc + 3 = q) (g : ∀ v h', Ψ v h' → X.G h' k' n' q Ls (v.toList ++ rest)) : X.G h k n pc Ls st := fun T locs Y eT N => by
  subst hq hk hn has
  obtain ⟨cell, e1, e2⟩ := E.cell
  obtain ⟨c8, k8, f1, f2, -, f4, -⟩ := Cond.instantiable_spec (mvT (args := #[]) X.2.2.2.2.1 w8)
  have hni : k8.isInterface = false := by cases hh : k8.isInterface with
    | false => rfl
    | true => rw [hh] at f4; cases f4
  have hpr := Cond.privateMethod_at (mvP X.2.2.2.2.1 w7 (args := #[]))
  obtain ⟨v, vm1, B, -, Y', ⟨L0, ⟨hΨ, N0⟩, l1, l2, l3⟩, w'⟩ := Y.privateBack X.1 (y := y) X.2.2.2.1 (mvT X.2.2.2.2.1 w1) (mvT X.2.2.2.2.1 w6) (Jvm.Stand.selects_self_of_private f1 f2 hni hpr (mvT X.2.2.2.2.1 w6) hy) hpr (mvT X.2.2.2.2.1 w4) hy (X.back K w4 w3 hf hl) (g := mkF m pc Ls st) rfl (hsz.trans X.2.2.1.symm) (Steps.refl _) (a := a) (cell := cell) (by rw [eT]; exact e1) e2 (argsL := argsL) (rest := rest) (lenOf pd hlen) hst (by show 2 * 0 + _ ≤ _; omega) (X.hd d) (fun _ _ => ⟨rfl, eT, hc, hs⟩)
  obtain ⟨T', L', k', n'⟩ := B
  dsimp only [Pt.U, Pt.locs, Pt.cells, Pt.slots] at Y' l1 l2 l3 w' hΨ
  subst l1 l2 l3
  obtain ⟨v, s₂, L, r1, r⟩ := g v _ hΨ T' _ Y' rfl (N.app N0)
  exact ⟨v, s₂, L, w'.trans r1, r⟩
end OwKit
/-! numbers -/
theorem own_ofNat {c : Int32} (h1 : 0 ≤ c.toInt) (h2 : c.toInt < 2147483648) : c = Int32.ofNat c.toInt.toNat := by
  rw [← Int32.toInt_inj, Int32.toInt_ofNat_small (by omega)]; omega
theorem own_natInt (x : Int32) : x.toInt = if x.toBitVec.toNat < 2147483648 then (x.toBitVec.toNat : Int) else (x.toBitVec.toNat : Int) - 4294967296 := by
  show x.toBitVec.toInt = _
  rw [BitVec.toInt_eq_toNat_cond]
  split <;> split <;> omega
theorem own_c16 (x : Int32) : x.toUInt32.toUInt16.toUInt32.toInt32.toInt = x.toInt % 65536 := by
  have e : x.toUInt32.toUInt16.toUInt32.toInt32.toBitVec.toNat = x.toBitVec.toNat % 65536 := rfl
  have h1 := own_natInt x.toUInt32.toUInt16.toUInt32.toInt32
  have h2 := own_natInt x
  have h3 := x.toBitVec.isLt
  rw [e] at h1
  split at h1 <;> split at h2 <;> omega

theorem own_sub {x y : Int32} {b : Int} (hy : y.toInt = b) (h1 : -2147483648 ≤ x.toInt - b) (h2 : x.toInt - b < 2147483648) : (x - y).toInt = x.toInt - b := by
  subst hy; rw [Int32.toInt_sub]; exact Int.bmod_eq_of_le (by omega) (by omega)
theorem own_add {x y : Int32} {b : Int} (hy : y.toInt = b) (h1 : -2147483648 ≤ x.toInt + b) (h2 : x.toInt + b < 2147483648) : (x + y).toInt = x.toInt + b := by
  subst hy; rw [Int32.toInt_add]; exact Int.bmod_eq_of_le (by omega) (by omega)
theorem own_nor32 (n : Nat) : n ||| 32 = n + 32 * (1 - n / 32 % 2) := by
  have h1 : (n ||| 32) / 64 = n / 64 := by
    have := Nat.or_div_two_pow (a := n) (b := 32) (n := 6)
    simpa using this
  have h2 : (n ||| 32) % 64 = (n % 64) ||| 32 := by
    have := Nat.or_mod_two_pow (a := n) (b := 32) (n := 6)
    simpa using this
  have key : ∀ k : Fin 64, k.val ||| 32 = k.val + 32 * (1 - k.val / 32 % 2) := by decide
  have h3 := key ⟨n % 64, Nat.mod_lt _ (by omega)⟩
  simp only at h3
  rw [h3] at h2
  omega
theorem own_or32 (c : Int32) (h0 : 0 ≤ c.toInt) : (c ||| 32).toInt = c.toInt + 32 * (1 - c.toInt / 32 % 2) := by
  have e : (c ||| 32).toBitVec.toNat = c.toBitVec.toNat ||| 32 := rfl
  have h1 := own_natInt (c ||| 32)
  have h2 := own_natInt c
  have h3 := c.toBitVec.isLt
  rw [e, own_nor32] at h1
  split at h1 <;> split at h2 <;> omega

theorem own_nbt (x : Int32) : (nar .byte x.toInt8.toInt32).toInt = (x.toInt + 128) % 256 - 128 := by
  show (x.toInt8.toInt32.toInt8.toInt32).toInt = _
  simp only [Int8.toInt_toInt32, Int32.toInt_toInt8]
  have h1 : x.toInt.bmod (2 ^ 8) = (x.toInt + 128) % 256 - 128 := by
    have q1 := Int.bmod_emod (x := x.toInt) (m := 2 ^ 8)
    have q2 := Int.bmod_lt (x := x.toInt) (m := 2 ^ 8) (by decide)
    have q3 := Int.le_bmod (x := x.toInt) (m := 2 ^ 8) (by decide)
    omega
  rw [h1]; exact Int.bmod_eq_of_le (by omega) (by omega)
theorem own_hB (L : List Int32) (j : Nat) (h : j < L.length) : (L.map Value.int)[j]? = some (.int (L.getD j 0)) := by
  rw [List.getElem?_map, List.getElem?_eq_getElem h, List.getD_eq_getElem?_getD, List.getElem?_eq_getElem h]; rfl
theorem own_rng {L : List Int32} (hr : ∀ x ∈ L, -128 ≤ x.toInt ∧ x.toInt ≤ 127) (j : Nat) : -128 ≤ (L.getD j 0).toInt ∧ (L.getD j 0).toInt ≤ 127 := by
  rcases Nat.lt_or_ge j L.length with h | h
  · rw [List.getD_eq_getElem?_getD, List.getElem?_eq_getElem h]
    exact hr _ (List.getElem_mem h)
  · rw [List.getD_eq_getElem?_getD, List.getElem?_eq_none h]
    exact ⟨by decide, by decide⟩
theorem own_b7 (b : Int32) (h1 : -128 ≤ b.toInt) (h2 : b.toInt ≤ 127) : (b &&& 128).toInt = 0 ↔ 0 ≤ b.toInt := by
  have key : ∀ k : Fin 256, ((Int32.ofInt ((k.val : Int) - 128)) &&& 128).toInt = 0 ↔ 0 ≤ (k.val : Int) - 128 := by decide +kernel
  have e : b = Int32.ofInt (((b.toInt + 128).toNat : Int) - 128) := by
    rw [show ((b.toInt + 128).toNat : Int) - 128 = b.toInt by omega, Int32.ofInt_toInt]
  have := key ⟨(b.toInt + 128).toNat, by omega⟩
  simp only at this
  rw [← e] at this
  rw [this]; omega
theorem own_b5 (t : Int32) (h1 : 0 ≤ t.toInt) (h2 : t.toInt ≤ 255) : (t &&& 32).toInt = 0 ↔ t.toInt / 32 % 2 = 0 := by
  have key : ∀ k : Fin 256, ((Int32.ofNat k.val) &&& 32).toInt = 0 ↔ (k.val : Int) / 32 % 2 = 0 := by decide +kernel
  have e := own_ofNat h1 (by omega)
  have := key ⟨t.toInt.toNat, by omega⟩
  simp only at this
  rw [← e] at this
  rw [this]; omega
theorem own_acc (b : Int32) : (((0 : Int64) <<< ((8 : Int32).toInt64 &&& 63)) ||| (b &&& 255).toInt64).toInt = b.toInt % 256 := by
  have e : ((0 : Int64) <<< ((8 : Int32).toInt64 &&& 63)) = 0 := by decide
  have e2 : (0 : Int64) ||| (b &&& 255).toInt64 = (b &&& 255).toInt64 := by
    rw [← Int64.toBitVec_inj, Int64.toBitVec_or]; exact BitVec.zero_or
  rw [e, e2, Int32.toInt_toInt64, Jvm.Kit.i32_mask (k := 8) _ _ (by decide) (by decide)]
  omega
/-- what stands at p of the bytes: a header with tag T, its content from s on, of length Ln -/
def own_hdr (L : List Int32) (p : Nat) (T : Int32) (q s : Nat) (S Ln : Int32) : Prop :=
  p < L.length ∧ T.toInt = (L.getD p 0).toInt % 256 ∧
  ((¬ T.toInt % 32 = 31 ∧ q = p + 1) ∨ (T.toInt % 32 = 31 ∧ p + 1 < L.length ∧ 0 ≤ (L.getD (p + 1) 0).toInt ∧ q = p + 2) ∨ (T.toInt % 32 = 31 ∧ p + 2 < L.length ∧ (L.getD (p + 1) 0).toInt < 0 ∧ 0 ≤ (L.getD (p + 2) 0).toInt ∧ q = p + 3)) ∧
  q < L.length ∧ S.toInt = (s : Int) ∧
  ((0 ≤ (L.getD q 0).toInt ∧ Ln.toInt = (L.getD q 0).toInt ∧ s = q + 1) ∨ ((L.getD q 0).toInt = -128 ∧ T.toInt / 32 % 2 = 1 ∧ Ln.toInt = -1 ∧ s = q + 1) ∨ ((L.getD q 0).toInt = -127 ∧ q + 1 < L.length ∧ Ln.toInt = (L.getD (q + 1) 0).toInt % 256 ∧ s = q + 2)) ∧
  Ln.toInt ≤ (L.length : Int) - s ∧ (¬ T.toInt = 0 ∨ Ln.toInt = 0)

theorem own_d_prog_2_method_2_0 : decode prog_2_method_2_code 0 = .ok (.aload_n 0, 1) := by decide +kernel
theorem own_d_prog_2_method_2_1 : decode prog_2_method_2_code 1 = .ok (.invokespecial 7, 3) := by decide +kernel
theorem own_d_prog_2_method_2_4 : decode prog_2_method_2_code 4 = .ok (.aload_n 0, 1) := by decide +kernel
theorem own_d_prog_2_method_2_5 : decode prog_2_method_2_code 5 = .ok (.aload_n 1, 1) := by decide +kernel
theorem own_d_prog_2_method_2_6 : decode prog_2_method_2_code 6 = .ok (.putfield 12, 3) := by decide +kernel
theorem own_d_prog_2_method_2_9 : decode prog_2_method_2_code 9 = .ok (.aload_n 0, 1) := by decide +kernel
theorem own_d_prog_2_method_2_10 : decode prog_2_method_2_code 10 = .ok (.iload_n 2, 1) := by decide +kernel
theorem own_d_prog_2_method_2_11 : decode prog_2_method_2_code 11 = .ok (.putfield 16, 3) := by decide +kernel
theorem own_d_prog_2_method_2_14 : decode prog_2_method_2_code 14 = .ok (.aload_n 0, 1) := by decide +kernel
theorem own_d_prog_2_method_2_15 : decode prog_2_method_2_code 15 = .ok (.iload_n 3, 1) := by decide +kernel
theorem own_d_prog_2_method_2_16 : decode prog_2_method_2_code 16 = .ok (.putfield 20, 3) := by decide +kernel
theorem own_d_prog_2_method_2_19 : decode prog_2_method_2_code 19 = .ok (.return_, 1) := by decide +kernel
def own_rm_own_i2 : Room := ({ frames := 1, cells := 0, slots := 0, locals := 12 } : Room)
set_option maxRecDepth 65536 in
set_option maxHeartbeats 1000000 in
theorem own_i2 (l : Launch) (Z : State) (a0 : Array Value) (hw : ∀ d ∈ tables_1, d.before a0 Z = true) (h : Heap) (n0 : Nat) (a b : Addr) (i j : Int32)  (hn0 : n0 ≤ h.size) (B : Exa Z h a "com/example/dircred/dircred/credential/DerReader") (Fb : Fld Z h a "com/example/dircred/dircred/credential/DerReader" "bytes" "[B" .null) (Fp : Fld Z h a "com/example/dircred/dircred/credential/DerReader" "position" "I" (.int (0 : Int32))) (Fe : Fld Z h a "com/example/dircred/dircred/credential/DerReader" "end" "I" (.int (0 : Int32))) (gea : n0 ≤ a) :
    OwM l Z (⟨"com/example/dircred/dircred/credential/DerReader", "<init>", "([BII)V"⟩ : MethodName) prog_2_method_2_code 4 none own_rm_own_i2 0 0 [] #[(.ref a), (.ref b), (.int i), (.int j)] h n0 (fun r h' => r = none ∧ Keep h h' [a] ∧ Fld Z h' a "com/example/dircred/dircred/credential/DerReader" "bytes" "[B" (.ref b) ∧ Fld Z h' a "com/example/dircred/dircred/credential/DerReader" "position" "I" (.int i) ∧ Fld Z h' a "com/example/dircred/dircred/credential/DerReader" "end" "I" (.int j)) := by
  refine OwM.of (Ls := #[.val (.ref a), .val (.ref b), .val (.int i), .val (.int j)]) (by decide +kernel) (fun m => by first | (simp [entryFrame, mkF, argsToLocals, Value.category]; done) | rfl) ?_
  intro _ _ _ _ _ _ _ X
  have K0 : Keep h h [a] := Keep.refl _ _
  refine X.aloadN (q := 1) own_d_prog_2_method_2_0 rfl rfl rfl ?_
  refine X.initO (q := 4) (W := 0) (hw _ (List.mem_of_getElem? (i := 10) rfl)) (hw _ (List.mem_of_getElem? (i := 11) rfl)) (hw _ (List.mem_of_getElem? (i := 12) rfl)) own_d_prog_2_method_2_1 rfl (by decide) (Nat.le_of_eq rfl) (by decide) rfl ?_
  refine X.aloadN (q := 5) own_d_prog_2_method_2_4 rfl rfl rfl ?_
  refine X.aloadN (q := 6) own_d_prog_2_method_2_5 rfl rfl rfl ?_
  refine X.putF (q := 9) (host := "") (Or.inl (hw _ (List.mem_of_getElem? (i := 13) rfl))) Via.refl Fb B (Or.inr ⟨(hw _ (List.mem_of_getElem? (i := 14) rfl)), rfl, rfl⟩) (hw _ (List.mem_of_getElem? (i := 2) rfl)) (ty := (.array .byte)) (by decide) rfl rfl gea own_d_prog_2_method_2_6 rfl (fun h1 Wh1 => ?_)
  have B'h1 : Exa Z h1 a "com/example/dircred/dircred/credential/DerReader" := Exa.wr Wh1 B
  have Fb'h1 : Fld Z h1 a "com/example/dircred/dircred/credential/DerReader" "bytes" "[B" (.ref b) := Fld.same Wh1 Fb
  have Fp'h1 : Fld Z h1 a "com/example/dircred/dircred/credential/DerReader" "position" "I" (.int (0 : Int32)) := Fld.other Wh1 Fp (Or.inr (slot_ne (Or.inl (hw _ (List.mem_of_getElem? (i := 16) rfl))) (Or.inr (hw _ (List.mem_of_getElem? (i := 14) rfl))) (by decide) (ht := (by decide : _ = some .int)) (ht' := (by decide : _ = some (.array .byte)))))
  have Fe'h1 : Fld Z h1 a "com/example/dircred/dircred/credential/DerReader" "end" "I" (.int (0 : Int32)) := Fld.other Wh1 Fe (Or.inr (slot_ne (Or.inr (hw _ (List.mem_of_getElem? (i := 18) rfl))) (Or.inr (hw _ (List.mem_of_getElem? (i := 14) rfl))) (by decide) (ht := (by decide : _ = some .int)) (ht' := (by decide : _ = some (.array .byte)))))
  have hsh1 : n0 ≤ h1.size := by rw [Wr.size Wh1]; exact hn0
  have Kh1 : Keep h h1 [a] := Keep.wr K0 Wh1 (Or.inl (List.mem_of_getElem? (i := 0) rfl))
  refine X.aloadN (q := 10) own_d_prog_2_method_2_9 rfl rfl rfl ?_
  refine X.iloadN (q := 11) own_d_prog_2_method_2_10 rfl rfl ?_
  refine X.putF (q := 14) (host := "") (Or.inl (hw _ (List.mem_of_getElem? (i := 15) rfl))) Via.refl Fp'h1 B'h1 (Or.inl (hw _ (List.mem_of_getElem? (i := 16) rfl))) (hw _ (List.mem_of_getElem? (i := 2) rfl)) (ty := .int) (by decide) rfl rfl gea own_d_prog_2_method_2_11 rfl (fun h2 Wh2 => ?_)
  have B'h2 : Exa Z h2 a "com/example/dircred/dircred/credential/DerReader" := Exa.wr Wh2 B'h1
  have Fb'h2 : Fld Z h2 a "com/example/dircred/dircred/credential/DerReader" "bytes" "[B" (.ref b) := Fld.other Wh2 Fb'h1 (Or.inr (slot_ne (Or.inr (hw _ (List.mem_of_getElem? (i := 14) rfl))) (Or.inl (hw _ (List.mem_of_getElem? (i := 16) rfl))) (by decide) (ht := (by decide : _ = some (.array .byte))) (ht' := (by decide : _ = some .int))))
  have Fp'h2 : Fld Z h2 a "com/example/dircred/dircred/credential/DerReader" "position" "I" (.int i) := Fld.same Wh2 Fp'h1
  have Fe'h2 : Fld Z h2 a "com/example/dircred/dircred/credential/DerReader" "end" "I" (.int (0 : Int32)) := Fld.other Wh2 Fe'h1 (Or.inr (slot_ne (Or.inr (hw _ (List.mem_of_getElem? (i := 18) rfl))) (Or.inl (hw _ (List.mem_of_getElem? (i := 16) rfl))) (by decide) (ht := (by decide : _ = some .int)) (ht' := (by decide : _ = some .int))))
  have hsh2 : n0 ≤ h2.size := by rw [Wr.size Wh2]; exact hsh1
  have Kh2 : Keep h h2 [a] := Keep.wr Kh1 Wh2 (Or.inl (List.mem_of_getElem? (i := 0) rfl))
  refine X.aloadN (q := 15) own_d_prog_2_method_2_14 rfl rfl rfl ?_
  refine X.iloadN (q := 16) own_d_prog_2_method_2_15 rfl rfl ?_
  refine X.putF (q := 19) (host := "") (Or.inl (hw _ (List.mem_of_getElem? (i := 17) rfl))) Via.refl Fe'h2 B'h2 (Or.inr ⟨(hw _ (List.mem_of_getElem? (i := 18) rfl)), rfl, rfl⟩) (hw _ (List.mem_of_getElem? (i := 2) rfl)) (ty := .int) (by decide) rfl rfl gea own_d_prog_2_method_2_16 rfl (fun h3 Wh3 => ?_)
  have B'h3 : Exa Z h3 a "com/example/dircred/dircred/credential/DerReader" := Exa.wr Wh3 B'h2
  have Fb'h3 : Fld Z h3 a "com/example/dircred/dircred/credential/DerReader" "bytes" "[B" (.ref b) := Fld.other Wh3 Fb'h2 (Or.inr (slot_ne (Or.inr (hw _ (List.mem_of_getElem? (i := 14) rfl))) (Or.inr (hw _ (List.mem_of_getElem? (i := 18) rfl))) (by decide) (ht := (by decide : _ = some (.array .byte))) (ht' := (by decide : _ = some .int))))
  have Fp'h3 : Fld Z h3 a "com/example/dircred/dircred/credential/DerReader" "position" "I" (.int i) := Fld.other Wh3 Fp'h2 (Or.inr (slot_ne (Or.inl (hw _ (List.mem_of_getElem? (i := 16) rfl))) (Or.inr (hw _ (List.mem_of_getElem? (i := 18) rfl))) (by decide) (ht := (by decide : _ = some .int)) (ht' := (by decide : _ = some .int))))
  have Fe'h3 : Fld Z h3 a "com/example/dircred/dircred/credential/DerReader" "end" "I" (.int j) := Fld.same Wh3 Fe'h2
  have hsh3 : n0 ≤ h3.size := by rw [Wr.size Wh3]; exact hsh2
  have Kh3 : Keep h h3 [a] := Keep.wr Kh2 Wh3 (Or.inl (List.mem_of_getElem? (i := 0) rfl))
  refine X.retV own_d_prog_2_method_2_19 rfl (by decide) (by decide) ?_
  exact ⟨rfl, Kh3, Fb'h3, Fp'h3, Fe'h3⟩
theorem own_d_prog_3_method_1_0 : decode prog_3_method_1_code 0 = .ok (.aload_n 0, 1) := by decide +kernel
theorem own_d_prog_3_method_1_1 : decode prog_3_method_1_code 1 = .ok (.invokespecial 1, 3) := by decide +kernel
theorem own_d_prog_3_method_1_4 : decode prog_3_method_1_code 4 = .ok (.aload_n 0, 1) := by decide +kernel
theorem own_d_prog_3_method_1_5 : decode prog_3_method_1_code 5 = .ok (.iload_n 1, 1) := by decide +kernel
theorem own_d_prog_3_method_1_6 : decode prog_3_method_1_code 6 = .ok (.putfield 7, 3) := by decide +kernel
theorem own_d_prog_3_method_1_9 : decode prog_3_method_1_code 9 = .ok (.aload_n 0, 1) := by decide +kernel
theorem own_d_prog_3_method_1_10 : decode prog_3_method_1_code 10 = .ok (.iload_n 2, 1) := by decide +kernel
theorem own_d_prog_3_method_1_11 : decode prog_3_method_1_code 11 = .ok (.putfield 13, 3) := by decide +kernel
theorem own_d_prog_3_method_1_14 : decode prog_3_method_1_code 14 = .ok (.aload_n 0, 1) := by decide +kernel
theorem own_d_prog_3_method_1_15 : decode prog_3_method_1_code 15 = .ok (.iload_n 3, 1) := by decide +kernel
theorem own_d_prog_3_method_1_16 : decode prog_3_method_1_code 16 = .ok (.putfield 16, 3) := by decide +kernel
theorem own_d_prog_3_method_1_19 : decode prog_3_method_1_code 19 = .ok (.return_, 1) := by decide +kernel
def own_rm_own_hi : Room := ({ frames := 1, cells := 0, slots := 0, locals := 12 } : Room)
set_option maxRecDepth 65536 in
set_option maxHeartbeats 1000000 in
theorem own_hi (l : Launch) (Z : State) (a0 : Array Value) (hw : ∀ d ∈ tables_1, d.before a0 Z = true) (h : Heap) (n0 : Nat) (a : Addr) (i j k : Int32)  (hn0 : n0 ≤ h.size) (B : Exa Z h a "com/example/dircred/dircred/credential/DerReader$Header") (Ft : Fld Z h a "com/example/dircred/dircred/credential/DerReader$Header" "tag" "I" (.int (0 : Int32))) (Fs : Fld Z h a "com/example/dircred/dircred/credential/DerReader$Header" "contentStart" "I" (.int (0 : Int32))) (Fl : Fld Z h a "com/example/dircred/dircred/credential/DerReader$Header" "length" "I" (.int (0 : Int32))) (gea : n0 ≤ a) :
    OwM l Z (⟨"com/example/dircred/dircred/credential/DerReader$Header", "<init>", "(III)V"⟩ : MethodName) prog_3_method_1_code 4 none own_rm_own_hi 0 0 [] #[(.ref a), (.int i), (.int j), (.int k)] h n0 (fun r h' => r = none ∧ Keep h h' [a] ∧ Fld Z h' a "com/example/dircred/dircred/credential/DerReader$Header" "tag" "I" (.int i) ∧ Fld Z h' a "com/example/dircred/dircred/credential/DerReader$Header" "contentStart" "I" (.int j) ∧ Fld Z h' a "com/example/dircred/dircred/credential/DerReader$Header" "length" "I" (.int k)) := by
  refine OwM.of (Ls := #[.val (.ref a), .val (.int i), .val (.int j), .val (.int k)]) (by decide +kernel) (fun m => by first | (simp [entryFrame, mkF, argsToLocals, Value.category]; done) | rfl) ?_
  intro _ _ _ _ _ _ _ X
  have K0 : Keep h h [a] := Keep.refl _ _
  refine X.aloadN (q := 1) own_d_prog_3_method_1_0 rfl rfl rfl ?_
  refine X.initO (q := 4) (W := 0) (hw _ (List.mem_of_getElem? (i := 48) rfl)) (hw _ (List.mem_of_getElem? (i := 11) rfl)) (hw _ (List.mem_of_getElem? (i := 12) rfl)) own_d_prog_3_method_1_1 rfl (by decide) (Nat.le_of_eq rfl) (by decide) rfl ?_
  refine X.aloadN (q := 5) own_d_prog_3_method_1_4 rfl rfl rfl ?_
  refine X.iloadN (q := 6) own_d_prog_3_method_1_5 rfl rfl ?_
  refine X.putF (q := 9) (host := "") (Or.inl (hw _ (List.mem_of_getElem? (i := 49) rfl))) Via.refl Ft B (Or.inr ⟨(hw _ (List.mem_of_getElem? (i := 50) rfl)), rfl, rfl⟩) (hw _ (List.mem_of_getElem? (i := 43) rfl)) (ty := .int) (by decide) rfl rfl gea own_d_prog_3_method_1_6 rfl (fun h1 Wh1 => ?_)
  have B'h1 : Exa Z h1 a "com/example/dircred/dircred/credential/DerReader$Header" := Exa.wr Wh1 B
  have Ft'h1 : Fld Z h1 a "com/example/dircred/dircred/credential/DerReader$Header" "tag" "I" (.int i) := Fld.same Wh1 Ft
  have Fs'h1 : Fld Z h1 a "com/example/dircred/dircred/credential/DerReader$Header" "contentStart" "I" (.int (0 : Int32)) := Fld.other Wh1 Fs (Or.inr (slot_ne (Or.inr (hw _ (List.mem_of_getElem? (i := 52) rfl))) (Or.inr (hw _ (List.mem_of_getElem? (i := 50) rfl))) (by decide) (ht := (by decide : _ = some .int)) (ht' := (by decide : _ = some .int))))
  have Fl'h1 : Fld Z h1 a "com/example/dircred/dircred/credential/DerReader$Header" "length" "I" (.int (0 : Int32)) := Fld.other Wh1 Fl (Or.inr (slot_ne (Or.inr (hw _ (List.mem_of_getElem? (i := 54) rfl))) (Or.inr (hw _ (List.mem_of_getElem? (i := 50) rfl))) (by decide) (ht := (by decide : _ = some .int)) (ht' := (by decide : _ = some .int))))
  have hsh1 : n0 ≤ h1.size := by rw [Wr.size Wh1]; exact hn0
  have Kh1 : Keep h h1 [a] := Keep.wr K0 Wh1 (Or.inl (List.mem_of_getElem? (i := 0) rfl))
  refine X.aloadN (q := 10) own_d_prog_3_method_1_9 rfl rfl rfl ?_
  refine X.iloadN (q := 11) own_d_prog_3_method_1_10 rfl rfl ?_
  refine X.putF (q := 14) (host := "") (Or.inl (hw _ (List.mem_of_getElem? (i := 51) rfl))) Via.refl Fs'h1 B'h1 (Or.inr ⟨(hw _ (List.mem_of_getElem? (i := 52) rfl)), rfl, rfl⟩) (hw _ (List.mem_of_getElem? (i := 43) rfl)) (ty := .int) (by decide) rfl rfl gea own_d_prog_3_method_1_11 rfl (fun h2 Wh2 => ?_)
  have B'h2 : Exa Z h2 a "com/example/dircred/dircred/credential/DerReader$Header" := Exa.wr Wh2 B'h1
  have Ft'h2 : Fld Z h2 a "com/example/dircred/dircred/credential/DerReader$Header" "tag" "I" (.int i) := Fld.other Wh2 Ft'h1 (Or.inr (slot_ne (Or.inr (hw _ (List.mem_of_getElem? (i := 50) rfl))) (Or.inr (hw _ (List.mem_of_getElem? (i := 52) rfl))) (by decide) (ht := (by decide : _ = some .int)) (ht' := (by decide : _ = some .int))))
  have Fs'h2 : Fld Z h2 a "com/example/dircred/dircred/credential/DerReader$Header" "contentStart" "I" (.int j) := Fld.same Wh2 Fs'h1
  have Fl'h2 : Fld Z h2 a "com/example/dircred/dircred/credential/DerReader$Header" "length" "I" (.int (0 : Int32)) := Fld.other Wh2 Fl'h1 (Or.inr (slot_ne (Or.inr (hw _ (List.mem_of_getElem? (i := 54) rfl))) (Or.inr (hw _ (List.mem_of_getElem? (i := 52) rfl))) (by decide) (ht := (by decide : _ = some .int)) (ht' := (by decide : _ = some .int))))
  have hsh2 : n0 ≤ h2.size := by rw [Wr.size Wh2]; exact hsh1
  have Kh2 : Keep h h2 [a] := Keep.wr Kh1 Wh2 (Or.inl (List.mem_of_getElem? (i := 0) rfl))
  refine X.aloadN (q := 15) own_d_prog_3_method_1_14 rfl rfl rfl ?_
  refine X.iloadN (q := 16) own_d_prog_3_method_1_15 rfl rfl ?_
  refine X.putF (q := 19) (host := "") (Or.inl (hw _ (List.mem_of_getElem? (i := 53) rfl))) Via.refl Fl'h2 B'h2 (Or.inr ⟨(hw _ (List.mem_of_getElem? (i := 54) rfl)), rfl, rfl⟩) (hw _ (List.mem_of_getElem? (i := 43) rfl)) (ty := .int) (by decide) rfl rfl gea own_d_prog_3_method_1_16 rfl (fun h3 Wh3 => ?_)
  have B'h3 : Exa Z h3 a "com/example/dircred/dircred/credential/DerReader$Header" := Exa.wr Wh3 B'h2
  have Ft'h3 : Fld Z h3 a "com/example/dircred/dircred/credential/DerReader$Header" "tag" "I" (.int i) := Fld.other Wh3 Ft'h2 (Or.inr (slot_ne (Or.inr (hw _ (List.mem_of_getElem? (i := 50) rfl))) (Or.inr (hw _ (List.mem_of_getElem? (i := 54) rfl))) (by decide) (ht := (by decide : _ = some .int)) (ht' := (by decide : _ = some .int))))
  have Fs'h3 : Fld Z h3 a "com/example/dircred/dircred/credential/DerReader$Header" "contentStart" "I" (.int j) := Fld.other Wh3 Fs'h2 (Or.inr (slot_ne (Or.inr (hw _ (List.mem_of_getElem? (i := 52) rfl))) (Or.inr (hw _ (List.mem_of_getElem? (i := 54) rfl))) (by decide) (ht := (by decide : _ = some .int)) (ht' := (by decide : _ = some .int))))
  have Fl'h3 : Fld Z h3 a "com/example/dircred/dircred/credential/DerReader$Header" "length" "I" (.int k) := Fld.same Wh3 Fl'h2
  have hsh3 : n0 ≤ h3.size := by rw [Wr.size Wh3]; exact hsh2
  have Kh3 : Keep h h3 [a] := Keep.wr Kh2 Wh3 (Or.inl (List.mem_of_getElem? (i := 0) rfl))
  refine X.retV own_d_prog_3_method_1_19 rfl (by decide) (by decide) ?_
  exact ⟨rfl, Kh3, Ft'h3, Fs'h3, Fl'h3⟩
theorem own_d_prog_4_method_1_0 : decode prog_4_method_1_code 0 = .ok (.aload_n 0, 1) := by decide +kernel
theorem own_d_prog_4_method_1_1 : decode prog_4_method_1_code 1 = .ok (.invokespecial 1, 3) := by decide +kernel
theorem own_d_prog_4_method_1_4 : decode prog_4_method_1_code 4 = .ok (.aload_n 0, 1) := by decide +kernel
theorem own_d_prog_4_method_1_5 : decode prog_4_method_1_code 5 = .ok (.iload_n 1, 1) := by decide +kernel
theorem own_d_prog_4_method_1_6 : decode prog_4_method_1_code 6 = .ok (.putfield 7, 3) := by decide +kernel
theorem own_d_prog_4_method_1_9 : decode prog_4_method_1_code 9 = .ok (.aload_n 0, 1) := by decide +kernel
theorem own_d_prog_4_method_1_10 : decode prog_4_method_1_code 10 = .ok (.iload_n 2, 1) := by decide +kernel
theorem own_d_prog_4_method_1_11 : decode prog_4_method_1_code 11 = .ok (.putfield 13, 3) := by decide +kernel
theorem own_d_prog_4_method_1_14 : decode prog_4_method_1_code 14 = .ok (.aload_n 0, 1) := by decide +kernel
theorem own_d_prog_4_method_1_15 : decode prog_4_method_1_code 15 = .ok (.iload_n 3, 1) := by decide +kernel
theorem own_d_prog_4_method_1_16 : decode prog_4_method_1_code 16 = .ok (.putfield 16, 3) := by decide +kernel
theorem own_d_prog_4_method_1_19 : decode prog_4_method_1_code 19 = .ok (.aload_n 0, 1) := by decide +kernel
theorem own_d_prog_4_method_1_20 : decode prog_4_method_1_code 20 = .ok (.iload 4, 2) := by decide +kernel
theorem own_d_prog_4_method_1_22 : decode prog_4_method_1_code 22 = .ok (.putfield 19, 3) := by decide +kernel
theorem own_d_prog_4_method_1_25 : decode prog_4_method_1_code 25 = .ok (.return_, 1) := by decide +kernel
def own_rm_own_vi : Room := ({ frames := 1, cells := 0, slots := 0, locals := 12 } : Room)
set_option maxRecDepth 65536 in
set_option maxHeartbeats 1000000 in
theorem own_vi (l : Launch) (Z : State) (a0 : Array Value) (hw : ∀ d ∈ tables_1, d.before a0 Z = true) (h : Heap) (n0 : Nat) (a : Addr) (i j k m : Int32)  (hn0 : n0 ≤ h.size) (B : Exa Z h a "com/example/dircred/dircred/credential/DerReader$Value") (Ft : Fld Z h a "com/example/dircred/dircred/credential/DerReader$Value" "tag" "I" (.int (0 : Int32))) (Fs : Fld Z h a "com/example/dircred/dircred/credential/DerReader$Value" "contentStart" "I" (.int (0 : Int32))) (Fc : Fld Z h a "com/example/dircred/dircred/credential/DerReader$Value" "contentEnd" "I" (.int (0 : Int32))) (Fe : Fld Z h a "com/example/dircred/dircred/credential/DerReader$Value" "end" "I" (.int (0 : Int32))) (gea : n0 ≤ a) :
    OwM l Z (⟨"com/example/dircred/dircred/credential/DerReader$Value", "<init>", "(IIII)V"⟩ : MethodName) prog_4_method_1_code 5 none own_rm_own_vi 0 0 [] #[(.ref a), (.int i), (.int j), (.int k), (.int m)] h n0 (fun r h' => r = none ∧ Keep h h' [a] ∧ Fld Z h' a "com/example/dircred/dircred/credential/DerReader$Value" "tag" "I" (.int i) ∧ Fld Z h' a "com/example/dircred/dircred/credential/DerReader$Value" "contentStart" "I" (.int j) ∧ Fld Z h' a "com/example/dircred/dircred/credential/DerReader$Value" "contentEnd" "I" (.int k) ∧ Fld Z h' a "com/example/dircred/dircred/credential/DerReader$Value" "end" "I" (.int m)) := by
  refine OwM.of (Ls := #[.val (.ref a), .val (.int i), .val (.int j), .val (.int k), .val (.int m)]) (by decide +kernel) (fun m => by first | (simp [entryFrame, mkF, argsToLocals, Value.category]; done) | rfl) ?_
  intro _ _ _ _ _ _ _ X
  have K0 : Keep h h [a] := Keep.refl _ _
  refine X.aloadN (q := 1) own_d_prog_4_method_1_0 rfl rfl rfl ?_
  refine X.initO (q := 4) (W := 0) (hw _ (List.mem_of_getElem? (i := 64) rfl)) (hw _ (List.mem_of_getElem? (i := 11) rfl)) (hw _ (List.mem_of_getElem? (i := 12) rfl)) own_d_prog_4_method_1_1 rfl (by decide) (Nat.le_of_eq rfl) (by decide) rfl ?_
  refine X.aloadN (q := 5) own_d_prog_4_method_1_4 rfl rfl rfl ?_
  refine X.iloadN (q := 6) own_d_prog_4_method_1_5 rfl rfl ?_
  refine X.putF (q := 9) (host := "") (Or.inl (hw _ (List.mem_of_getElem? (i := 65) rfl))) Via.refl Ft B (Or.inr ⟨(hw _ (List.mem_of_getElem? (i := 66) rfl)), rfl, rfl⟩) (hw _ (List.mem_of_getElem? (i := 58) rfl)) (ty := .int) (by decide) rfl rfl gea own_d_prog_4_method_1_6 rfl (fun h1 Wh1 => ?_)
  have B'h1 : Exa Z h1 a "com/example/dircred/dircred/credential/DerReader$Value" := Exa.wr Wh1 B
  have Ft'h1 : Fld Z h1 a "com/example/dircred/dircred/credential/DerReader$Value" "tag" "I" (.int i) := Fld.same Wh1 Ft
  have Fs'h1 : Fld Z h1 a "com/example/dircred/dircred/credential/DerReader$Value" "contentStart" "I" (.int (0 : Int32)) := Fld.other Wh1 Fs (Or.inr (slot_ne (Or.inr (hw _ (List.mem_of_getElem? (i := 68) rfl))) (Or.inr (hw _ (List.mem_of_getElem? (i := 66) rfl))) (by decide) (ht := (by decide : _ = some .int)) (ht' := (by decide : _ = some .int))))
  have Fc'h1 : Fld Z h1 a "com/example/dircred/dircred/credential/DerReader$Value" "contentEnd" "I" (.int (0 : Int32)) := Fld.other Wh1 Fc (Or.inr (slot_ne (Or.inr (hw _ (List.mem_of_getElem? (i := 70) rfl))) (Or.inr (hw _ (List.mem_of_getElem? (i := 66) rfl))) (by decide) (ht := (by decide : _ = some .int)) (ht' := (by decide : _ = some .int))))
  have Fe'h1 : Fld Z h1 a "com/example/dircred/dircred/credential/DerReader$Value" "end" "I" (.int (0 : Int32)) := Fld.other Wh1 Fe (Or.inr (slot_ne (Or.inr (hw _ (List.mem_of_getElem? (i := 72) rfl))) (Or.inr (hw _ (List.mem_of_getElem? (i := 66) rfl))) (by decide) (ht := (by decide : _ = some .int)) (ht' := (by decide : _ = some .int))))
  have hsh1 : n0 ≤ h1.size := by rw [Wr.size Wh1]; exact hn0
  have Kh1 : Keep h h1 [a] := Keep.wr K0 Wh1 (Or.inl (List.mem_of_getElem? (i := 0) rfl))
  refine X.aloadN (q := 10) own_d_prog_4_method_1_9 rfl rfl rfl ?_
  refine X.iloadN (q := 11) own_d_prog_4_method_1_10 rfl rfl ?_
  refine X.putF (q := 14) (host := "") (Or.inl (hw _ (List.mem_of_getElem? (i := 67) rfl))) Via.refl Fs'h1 B'h1 (Or.inr ⟨(hw _ (List.mem_of_getElem? (i := 68) rfl)), rfl, rfl⟩) (hw _ (List.mem_of_getElem? (i := 58) rfl)) (ty := .int) (by decide) rfl rfl gea own_d_prog_4_method_1_11 rfl (fun h2 Wh2 => ?_)
  have B'h2 : Exa Z h2 a "com/example/dircred/dircred/credential/DerReader$Value" := Exa.wr Wh2 B'h1
  have Ft'h2 : Fld Z h2 a "com/example/dircred/dircred/credential/DerReader$Value" "tag" "I" (.int i) := Fld.other Wh2 Ft'h1 (Or.inr (slot_ne (Or.inr (hw _ (List.mem_of_getElem? (i := 66) rfl))) (Or.inr (hw _ (List.mem_of_getElem? (i := 68) rfl))) (by decide) (ht := (by decide : _ = some .int)) (ht' := (by decide : _ = some .int))))
  have Fs'h2 : Fld Z h2 a "com/example/dircred/dircred/credential/DerReader$Value" "contentStart" "I" (.int j) := Fld.same Wh2 Fs'h1
  have Fc'h2 : Fld Z h2 a "com/example/dircred/dircred/credential/DerReader$Value" "contentEnd" "I" (.int (0 : Int32)) := Fld.other Wh2 Fc'h1 (Or.inr (slot_ne (Or.inr (hw _ (List.mem_of_getElem? (i := 70) rfl))) (Or.inr (hw _ (List.mem_of_getElem? (i := 68) rfl))) (by decide) (ht := (by decide : _ = some .int)) (ht' := (by decide : _ = some .int))))
  have Fe'h2 : Fld Z h2 a "com/example/dircred/dircred/credential/DerReader$Value" "end" "I" (.int (0 : Int32)) := Fld.other Wh2 Fe'h1 (Or.inr (slot_ne (Or.inr (hw _ (List.mem_of_getElem? (i := 72) rfl))) (Or.inr (hw _ (List.mem_of_getElem? (i := 68) rfl))) (by decide) (ht := (by decide : _ = some .int)) (ht' := (by decide : _ = some .int))))
  have hsh2 : n0 ≤ h2.size := by rw [Wr.size Wh2]; exact hsh1
  have Kh2 : Keep h h2 [a] := Keep.wr Kh1 Wh2 (Or.inl (List.mem_of_getElem? (i := 0) rfl))
  refine X.aloadN (q := 15) own_d_prog_4_method_1_14 rfl rfl rfl ?_
  refine X.iloadN (q := 16) own_d_prog_4_method_1_15 rfl rfl ?_
  refine X.putF (q := 19) (host := "") (Or.inl (hw _ (List.mem_of_getElem? (i := 69) rfl))) Via.refl Fc'h2 B'h2 (Or.inr ⟨(hw _ (List.mem_of_getElem? (i := 70) rfl)), rfl, rfl⟩) (hw _ (List.mem_of_getElem? (i := 58) rfl)) (ty := .int) (by decide) rfl rfl gea own_d_prog_4_method_1_16 rfl (fun h3 Wh3 => ?_)
  have B'h3 : Exa Z h3 a "com/example/dircred/dircred/credential/DerReader$Value" := Exa.wr Wh3 B'h2
  have Ft'h3 : Fld Z h3 a "com/example/dircred/dircred/credential/DerReader$Value" "tag" "I" (.int i) := Fld.other Wh3 Ft'h2 (Or.inr (slot_ne (Or.inr (hw _ (List.mem_of_getElem? (i := 66) rfl))) (Or.inr (hw _ (List.mem_of_getElem? (i := 70) rfl))) (by decide) (ht := (by decide : _ = some .int)) (ht' := (by decide : _ = some .int))))
  have Fs'h3 : Fld Z h3 a "com/example/dircred/dircred/credential/DerReader$Value" "contentStart" "I" (.int j) := Fld.other Wh3 Fs'h2 (Or.inr (slot_ne (Or.inr (hw _ (List.mem_of_getElem? (i := 68) rfl))) (Or.inr (hw _ (List.mem_of_getElem? (i := 70) rfl))) (by decide) (ht := (by decide : _ = some .int)) (ht' := (by decide : _ = some .int))))
  have Fc'h3 : Fld Z h3 a "com/example/dircred/dircred/credential/DerReader$Value" "contentEnd" "I" (.int k) := Fld.same Wh3 Fc'h2
  have Fe'h3 : Fld Z h3 a "com/example/dircred/dircred/credential/DerReader$Value" "end" "I" (.int (0 : Int32)) := Fld.other Wh3 Fe'h2 (Or.inr (slot_ne (Or.inr (hw _ (List.mem_of_getElem? (i := 72) rfl))) (Or.inr (hw _ (List.mem_of_getElem? (i := 70) rfl))) (by decide) (ht := (by decide : _ = some .int)) (ht' := (by decide : _ = some .int))))
  have hsh3 : n0 ≤ h3.size := by rw [Wr.size Wh3]; exact hsh2
  have Kh3 : Keep h h3 [a] := Keep.wr Kh2 Wh3 (Or.inl (List.mem_of_getElem? (i := 0) rfl))
  refine X.aloadN (q := 20) own_d_prog_4_method_1_19 rfl rfl rfl ?_
  refine X.iload (q := 22) own_d_prog_4_method_1_20 rfl rfl ?_
  refine X.putF (q := 25) (host := "") (Or.inl (hw _ (List.mem_of_getElem? (i := 71) rfl))) Via.refl Fe'h3 B'h3 (Or.inr ⟨(hw _ (List.mem_of_getElem? (i := 72) rfl)), rfl, rfl⟩) (hw _ (List.mem_of_getElem? (i := 58) rfl)) (ty := .int) (by decide) rfl rfl gea own_d_prog_4_method_1_22 rfl (fun h4 Wh4 => ?_)
  have B'h4 : Exa Z h4 a "com/example/dircred/dircred/credential/DerReader$Value" := Exa.wr Wh4 B'h3
  have Ft'h4 : Fld Z h4 a "com/example/dircred/dircred/credential/DerReader$Value" "tag" "I" (.int i) := Fld.other Wh4 Ft'h3 (Or.inr (slot_ne (Or.inr (hw _ (List.mem_of_getElem? (i := 66) rfl))) (Or.inr (hw _ (List.mem_of_getElem? (i := 72) rfl))) (by decide) (ht := (by decide : _ = some .int)) (ht' := (by decide : _ = some .int))))
  have Fs'h4 : Fld Z h4 a "com/example/dircred/dircred/credential/DerReader$Value" "contentStart" "I" (.int j) := Fld.other Wh4 Fs'h3 (Or.inr (slot_ne (Or.inr (hw _ (List.mem_of_getElem? (i := 68) rfl))) (Or.inr (hw _ (List.mem_of_getElem? (i := 72) rfl))) (by decide) (ht := (by decide : _ = some .int)) (ht' := (by decide : _ = some .int))))
  have Fc'h4 : Fld Z h4 a "com/example/dircred/dircred/credential/DerReader$Value" "contentEnd" "I" (.int k) := Fld.other Wh4 Fc'h3 (Or.inr (slot_ne (Or.inr (hw _ (List.mem_of_getElem? (i := 70) rfl))) (Or.inr (hw _ (List.mem_of_getElem? (i := 72) rfl))) (by decide) (ht := (by decide : _ = some .int)) (ht' := (by decide : _ = some .int))))
  have Fe'h4 : Fld Z h4 a "com/example/dircred/dircred/credential/DerReader$Value" "end" "I" (.int m) := Fld.same Wh4 Fe'h3
  have hsh4 : n0 ≤ h4.size := by rw [Wr.size Wh4]; exact hsh3
  have Kh4 : Keep h h4 [a] := Keep.wr Kh3 Wh4 (Or.inl (List.mem_of_getElem? (i := 0) rfl))
  refine X.retV own_d_prog_4_method_1_25 rfl (by decide) (by decide) ?_
  exact ⟨rfl, Kh4, Ft'h4, Fs'h4, Fc'h4, Fe'h4⟩
theorem own_d_prog_2_method_1_0 : decode prog_2_method_1_code 0 = .ok (.aload_n 0, 1) := by decide +kernel
theorem own_d_prog_2_method_1_1 : decode prog_2_method_1_code 1 = .ok (.aload_n 1, 1) := by decide +kernel
theorem own_d_prog_2_method_1_2 : decode prog_2_method_1_code 2 = .ok (.iconst 0, 1) := by decide +kernel
theorem own_d_prog_2_method_1_3 : decode prog_2_method_1_code 3 = .ok (.aload_n 1, 1) := by decide +kernel
theorem own_d_prog_2_method_1_4 : decode prog_2_method_1_code 4 = .ok (.arraylength, 1) := by decide +kernel
theorem own_d_prog_2_method_1_5 : decode prog_2_method_1_code 5 = .ok (.invokespecial 1, 3) := by decide +kernel
theorem own_pd0 : parseMethodDescriptor "([BII)V" = some ⟨[(.array .byte), .int, .int], none⟩ := by decide +kernel
theorem own_d_prog_2_method_1_8 : decode prog_2_method_1_code 8 = .ok (.return_, 1) := by decide +kernel
def own_rm_own_i1 : Room := ({ frames := 2, cells := 0, slots := 0, locals := 27 } : Room)
set_option maxRecDepth 65536 in
set_option maxHeartbeats 1000000 in
theorem own_i1 (l : Launch) (Z : State) (a0 : Array Value) (hw : ∀ d ∈ tables_1, d.before a0 Z = true) (h : Heap) (n0 : Nat) (a b : Addr) (L : List Int32) (E : Int32) (hE : E.toInt = (L.length : Int))  (hn0 : n0 ≤ h.size) (B : Exa Z h a "com/example/dircred/dircred/credential/DerReader") (Fb : Fld Z h a "com/example/dircred/dircred/credential/DerReader" "bytes" "[B" .null) (Fp : Fld Z h a "com/example/dircred/dircred/credential/DerReader" "position" "I" (.int (0 : Int32))) (Fe : Fld Z h a "com/example/dircred/dircred/credential/DerReader" "end" "I" (.int (0 : Int32))) (A1 : OwA Z h b .byte (L.map Value.int)) (gea : n0 ≤ a) (neab : a ≠ b) :
    OwM l Z (⟨"com/example/dircred/dircred/credential/DerReader", "<init>", "([B)V"⟩ : MethodName) prog_2_method_1_code 2 none own_rm_own_i1 0 0 [] #[(.ref a), (.ref b)] h n0 (fun r h' => r = none ∧ Keep h h' [a] ∧ Fld Z h' a "com/example/dircred/dircred/credential/DerReader" "bytes" "[B" (.ref b) ∧ Fld Z h' a "com/example/dircred/dircred/credential/DerReader" "position" "I" (.int (0 : Int32)) ∧ Fld Z h' a "com/example/dircred/dircred/credential/DerReader" "end" "I" (.int E)) := by
  refine OwM.of (Ls := #[.val (.ref a), .val (.ref b)]) (by decide +kernel) (fun m => by first | (simp [entryFrame, mkF, argsToLocals, Value.category]; done) | rfl) ?_
  intro _ _ _ _ _ _ _ X
  have K0 : Keep h h [a] := Keep.refl _ _
  refine X.aloadN (q := 1) own_d_prog_2_method_1_0 rfl rfl rfl ?_
  refine X.aloadN (q := 2) own_d_prog_2_method_1_1 rfl rfl rfl ?_
  refine X.iconst (q := 3) (0 : Int32) own_d_prog_2_method_1_2 (by decide) rfl ?_
  refine X.aloadN (q := 4) own_d_prog_2_method_1_3 rfl rfl rfl ?_
  refine X.alen (q := 5) (z := E) A1 (by rw [hE]; simp) own_d_prog_2_method_1_4 rfl ?_
  refine X.special (a := a) (own_i2 l Z a0 hw h n0 a b 0 E hn0 B Fb Fp Fe gea) rfl (hw _ (List.mem_of_getElem? (i := 7) rfl)) (hw _ (List.mem_of_getElem? (i := 8) rfl)) (hw _ (List.mem_of_getElem? (i := 3) rfl)) (hw _ (List.mem_of_getElem? (i := 9) rfl)) (by decide) own_pd0 (argsL := [(.ref b), (.int (0 : Int32)), (.int E)]) (rest := []) rfl rfl rfl (W := 0) (Nat.le_of_eq rfl) rfl (by decide) (by decide) (k' := 0) (n' := 0) rfl rfl (by decide) (by decide) own_d_prog_2_method_1_5 (q := 8) rfl ?_
  rintro _ h1 ⟨rfl, Kh1c, Gb, Gp, Ge⟩
  have B'h1 : Exa Z h1 a "com/example/dircred/dircred/credential/DerReader" := Exa.keep B Kh1c
  have A1'h1 : OwA Z h1 b .byte (L.map Value.int) := OwA.keep A1 Kh1c (ninS (Ne.symm neab) nin0)
  have hsh1 : n0 ≤ h1.size := Nat.le_trans hn0 Kh1c.1
  have Kh1 : Keep h h1 [a] := Keep.trans K0 Kh1c (allS (Or.inl (List.mem_of_getElem? (i := 0) rfl)) all0)
  show X.G h1 0 0 8 #[.val (.ref a), .val (.ref b)] []
  refine X.retV own_d_prog_2_method_1_8 rfl (by decide) (by decide) ?_
  exact ⟨rfl, Kh1, Gb, Gp, Ge⟩
theorem own_d_prog_2_method_4_0 : decode prog_2_method_4_code 0 = .ok (.aload_n 0, 1) := by decide +kernel
theorem own_d_prog_2_method_4_1 : decode prog_2_method_4_code 1 = .ok (.getfield 16, 3) := by decide +kernel
theorem own_d_prog_2_method_4_4 : decode prog_2_method_4_code 4 = .ok (.aload_n 0, 1) := by decide +kernel
theorem own_d_prog_2_method_4_5 : decode prog_2_method_4_code 5 = .ok (.getfield 20, 3) := by decide +kernel
theorem own_d_prog_2_method_4_8 : decode prog_2_method_4_code 8 = .ok (.if_icmp .ge 7, 3) := by decide +kernel
theorem own_d_prog_2_method_4_15 : decode prog_2_method_4_code 15 = .ok (.iconst 0, 1) := by decide +kernel
theorem own_d_prog_2_method_4_16 : decode prog_2_method_4_code 16 = .ok (.ireturn, 1) := by decide +kernel
theorem own_d_prog_2_method_4_11 : decode prog_2_method_4_code 11 = .ok (.iconst 1, 1) := by decide +kernel
theorem own_d_prog_2_method_4_12 : decode prog_2_method_4_code 12 = .ok (.goto 4, 3) := by decide +kernel
def own_rm_own_hm : Room := ({ frames := 0, cells := 0, slots := 0, locals := 0 } : Room)
set_option maxRecDepth 65536 in
set_option maxHeartbeats 1000000 in
theorem own_hm (l : Launch) (Z : State) (a0 : Array Value) (hw : ∀ d ∈ tables_1, d.before a0 Z = true) (h : Heap) (n0 : Nat) (a : Addr) (P E : Int32)  (hn0 : n0 ≤ h.size) (Fp : Fld Z h a "com/example/dircred/dircred/credential/DerReader" "position" "I" (.int P)) (Fe : Fld Z h a "com/example/dircred/dircred/credential/DerReader" "end" "I" (.int E)) :
    OwM l Z (⟨"com/example/dircred/dircred/credential/DerReader", "hasMore", "()Z"⟩ : MethodName) prog_2_method_4_code 1 (some .boolean) own_rm_own_hm 0 0 [] #[(.ref a)] h n0 (fun r h' => ∃ z : Int32, r = some (.int z) ∧ ((z.toInt = 1 ∧ (P.toInt < E.toInt)) ∨ (z.toInt = 0 ∧ ¬ (P.toInt < E.toInt))) ∧ h = h') := by
  refine OwM.of (Ls := #[.val (.ref a)]) (by decide +kernel) (fun m => by first | (simp [entryFrame, mkF, argsToLocals, Value.category]; done) | rfl) ?_
  intro _ _ _ _ _ _ _ X
  have e0 : (0 : Int32).toInt = 0 := rfl
  have e1 : (1 : Int32).toInt = 1 := rfl
  refine X.aloadN (q := 1) own_d_prog_2_method_4_0 rfl rfl rfl ?_
  refine X.getF (q := 4) (host := "") (Or.inl (hw _ (List.mem_of_getElem? (i := 15) rfl))) Via.refl Fp own_d_prog_2_method_4_1 rfl ?_
  refine X.aloadN (q := 5) own_d_prog_2_method_4_4 rfl rfl rfl ?_
  refine X.getF (q := 8) (host := "") (Or.inl (hw _ (List.mem_of_getElem? (i := 17) rfl))) Via.refl Fe own_d_prog_2_method_4_5 rfl ?_
  refine X.icmp_ge (q' := 15) (q := 11) own_d_prog_2_method_4_8 rfl rfl (by decide) rfl (fun c8 => ?_) (fun c8 => ?_)
  · refine X.iconst (q := 16) (0 : Int32) own_d_prog_2_method_4_15 (by decide) rfl ?_
    refine X.retN (t := .boolean) (z' := (0 : Int32)) own_d_prog_2_method_4_16 rfl (by simp) (by decide) (by decide) (by decide) ?_
    exact ⟨_, rfl, by omega, rfl⟩
  · refine X.iconst (q := 12) (1 : Int32) own_d_prog_2_method_4_11 (by decide) rfl ?_
    refine X.goto (q' := 16) own_d_prog_2_method_4_12 (by decide) ?_
    refine X.retN (t := .boolean) (z' := (1 : Int32)) own_d_prog_2_method_4_16 rfl (by simp) (by decide) (by decide) (by decide) ?_
    exact ⟨_, rfl, by omega, rfl⟩
theorem own_d_prog_2_method_20_0 : decode prog_2_method_20_code 0 = .ok (.iload_n 1, 1) := by decide +kernel
theorem own_d_prog_2_method_20_1 : decode prog_2_method_20_code 1 = .ok (.istore_n 2, 1) := by decide +kernel
theorem own_d_prog_2_method_20_2 : decode prog_2_method_20_code 2 = .ok (.iload_n 2, 1) := by decide +kernel
theorem own_d_prog_2_method_20_3 : decode prog_2_method_20_code 3 = .ok (.aload_n 0, 1) := by decide +kernel
theorem own_d_prog_2_method_20_4 : decode prog_2_method_20_code 4 = .ok (.getfield 20, 3) := by decide +kernel
theorem own_d_prog_2_method_20_7 : decode prog_2_method_20_code 7 = .ok (.if_icmp .lt 13, 3) := by decide +kernel
theorem own_d_prog_2_method_20_20 : decode prog_2_method_20_code 20 = .ok (.aload_n 0, 1) := by decide +kernel
theorem own_d_prog_2_method_20_21 : decode prog_2_method_20_code 21 = .ok (.getfield 12, 3) := by decide +kernel
theorem own_d_prog_2_method_20_24 : decode prog_2_method_20_code 24 = .ok (.iload_n 2, 1) := by decide +kernel
theorem own_d_prog_2_method_20_25 : decode prog_2_method_20_code 25 = .ok (.iinc 2 1, 3) := by decide +kernel
theorem own_d_prog_2_method_20_28 : decode prog_2_method_20_code 28 = .ok (.baload, 1) := by decide +kernel
theorem own_d_prog_2_method_20_29 : decode prog_2_method_20_code 29 = .ok (.sipush 255, 3) := by decide +kernel
theorem own_d_prog_2_method_20_32 : decode prog_2_method_20_code 32 = .ok (.iand, 1) := by decide +kernel
theorem own_d_prog_2_method_20_33 : decode prog_2_method_20_code 33 = .ok (.istore_n 3, 1) := by decide +kernel
theorem own_d_prog_2_method_20_73 : decode prog_2_method_20_code 73 = .ok (.iload_n 2, 1) := by decide +kernel
theorem own_d_prog_2_method_20_74 : decode prog_2_method_20_code 74 = .ok (.aload_n 0, 1) := by decide +kernel
theorem own_d_prog_2_method_20_75 : decode prog_2_method_20_code 75 = .ok (.getfield 20, 3) := by decide +kernel
theorem own_d_prog_2_method_20_78 : decode prog_2_method_20_code 78 = .ok (.if_icmp .lt 13, 3) := by decide +kernel
theorem own_d_prog_2_method_20_91 : decode prog_2_method_20_code 91 = .ok (.aload_n 0, 1) := by decide +kernel
theorem own_d_prog_2_method_20_92 : decode prog_2_method_20_code 92 = .ok (.getfield 12, 3) := by decide +kernel
theorem own_d_prog_2_method_20_95 : decode prog_2_method_20_code 95 = .ok (.iload_n 2, 1) := by decide +kernel
theorem own_d_prog_2_method_20_96 : decode prog_2_method_20_code 96 = .ok (.iinc 2 1, 3) := by decide +kernel
theorem own_d_prog_2_method_20_99 : decode prog_2_method_20_code 99 = .ok (.baload, 1) := by decide +kernel
theorem own_d_prog_2_method_20_100 : decode prog_2_method_20_code 100 = .ok (.sipush 255, 3) := by decide +kernel
theorem own_d_prog_2_method_20_103 : decode prog_2_method_20_code 103 = .ok (.iand, 1) := by decide +kernel
theorem own_d_prog_2_method_20_104 : decode prog_2_method_20_code 104 = .ok (.istore 4, 2) := by decide +kernel
theorem own_d_prog_2_method_20_106 : decode prog_2_method_20_code 106 = .ok (.iload 4, 2) := by decide +kernel
theorem own_d_prog_2_method_20_108 : decode prog_2_method_20_code 108 = .ok (.sipush 128, 3) := by decide +kernel
theorem own_d_prog_2_method_20_111 : decode prog_2_method_20_code 111 = .ok (.if_icmp .ge 10, 3) := by decide +kernel
theorem own_d_prog_2_method_20_121 : decode prog_2_method_20_code 121 = .ok (.iload 4, 2) := by decide +kernel
theorem own_d_prog_2_method_20_123 : decode prog_2_method_20_code 123 = .ok (.sipush 128, 3) := by decide +kernel
theorem own_d_prog_2_method_20_126 : decode prog_2_method_20_code 126 = .ok (.if_icmp .ne 40, 3) := by decide +kernel
theorem own_d_prog_2_method_20_166 : decode prog_2_method_20_code 166 = .ok (.iload 4, 2) := by decide +kernel
theorem own_d_prog_2_method_20_168 : decode prog_2_method_20_code 168 = .ok (.bipush 127, 2) := by decide +kernel
theorem own_d_prog_2_method_20_170 : decode prog_2_method_20_code 170 = .ok (.iand, 1) := by decide +kernel
theorem own_d_prog_2_method_20_171 : decode prog_2_method_20_code 171 = .ok (.istore 6, 2) := by decide +kernel
theorem own_d_prog_2_method_20_173 : decode prog_2_method_20_code 173 = .ok (.iload 6, 2) := by decide +kernel
theorem own_d_prog_2_method_20_175 : decode prog_2_method_20_code 175 = .ok (.iconst 4, 1) := by decide +kernel
theorem own_d_prog_2_method_20_176 : decode prog_2_method_20_code 176 = .ok (.if_icmp .gt 14, 3) := by decide +kernel
theorem own_d_prog_2_method_20_179 : decode prog_2_method_20_code 179 = .ok (.iload 6, 2) := by decide +kernel
theorem own_d_prog_2_method_20_181 : decode prog_2_method_20_code 181 = .ok (.aload_n 0, 1) := by decide +kernel
theorem own_d_prog_2_method_20_182 : decode prog_2_method_20_code 182 = .ok (.getfield 20, 3) := by decide +kernel
theorem own_d_prog_2_method_20_185 : decode prog_2_method_20_code 185 = .ok (.iload_n 2, 1) := by decide +kernel
theorem own_d_prog_2_method_20_186 : decode prog_2_method_20_code 186 = .ok (.isub, 1) := by decide +kernel
theorem own_d_prog_2_method_20_187 : decode prog_2_method_20_code 187 = .ok (.if_icmp .le 13, 3) := by decide +kernel
theorem own_d_prog_2_method_20_200 : decode prog_2_method_20_code 200 = .ok (.lconst 0, 1) := by decide +kernel
theorem own_d_prog_2_method_20_201 : decode prog_2_method_20_code 201 = .ok (.lstore 7, 2) := by decide +kernel
theorem own_d_prog_2_method_20_203 : decode prog_2_method_20_code 203 = .ok (.iconst 0, 1) := by decide +kernel
theorem own_d_prog_2_method_20_204 : decode prog_2_method_20_code 204 = .ok (.istore 9, 2) := by decide +kernel
theorem own_d_prog_2_method_20_206 : decode prog_2_method_20_code 206 = .ok (.iload 9, 2) := by decide +kernel
theorem own_d_prog_2_method_20_208 : decode prog_2_method_20_code 208 = .ok (.iload 6, 2) := by decide +kernel
theorem own_d_prog_2_method_20_210 : decode prog_2_method_20_code 210 = .ok (.if_icmp .ge 31, 3) := by decide +kernel
theorem own_d_prog_2_method_20_213 : decode prog_2_method_20_code 213 = .ok (.lload 7, 2) := by decide +kernel
theorem own_d_prog_2_method_20_215 : decode prog_2_method_20_code 215 = .ok (.bipush 8, 2) := by decide +kernel
theorem own_d_prog_2_method_20_217 : decode prog_2_method_20_code 217 = .ok (.lshl, 1) := by decide +kernel
theorem own_d_prog_2_method_20_218 : decode prog_2_method_20_code 218 = .ok (.aload_n 0, 1) := by decide +kernel
theorem own_d_prog_2_method_20_219 : decode prog_2_method_20_code 219 = .ok (.getfield 12, 3) := by decide +kernel
theorem own_d_prog_2_method_20_222 : decode prog_2_method_20_code 222 = .ok (.iload_n 2, 1) := by decide +kernel
theorem own_d_prog_2_method_20_223 : decode prog_2_method_20_code 223 = .ok (.iinc 2 1, 3) := by decide +kernel
theorem own_d_prog_2_method_20_226 : decode prog_2_method_20_code 226 = .ok (.baload, 1) := by decide +kernel
theorem own_d_prog_2_method_20_227 : decode prog_2_method_20_code 227 = .ok (.sipush 255, 3) := by decide +kernel
theorem own_d_prog_2_method_20_230 : decode prog_2_method_20_code 230 = .ok (.iand, 1) := by decide +kernel
theorem own_d_prog_2_method_20_231 : decode prog_2_method_20_code 231 = .ok (.i2l, 1) := by decide +kernel
theorem own_d_prog_2_method_20_232 : decode prog_2_method_20_code 232 = .ok (.lor, 1) := by decide +kernel
theorem own_d_prog_2_method_20_233 : decode prog_2_method_20_code 233 = .ok (.lstore 7, 2) := by decide +kernel
theorem own_d_prog_2_method_20_235 : decode prog_2_method_20_code 235 = .ok (.iinc 9 1, 3) := by decide +kernel
theorem own_d_prog_2_method_20_238 : decode prog_2_method_20_code 238 = .ok (.goto (-32), 3) := by decide +kernel
theorem own_d_prog_2_method_20_241 : decode prog_2_method_20_code 241 = .ok (.lload 7, 2) := by decide +kernel
theorem own_d_prog_2_method_20_243 : decode prog_2_method_20_code 243 = .ok (.ldc2_w 170, 3) := by decide +kernel
theorem own_d_prog_2_method_20_246 : decode prog_2_method_20_code 246 = .ok (.lcmp, 1) := by decide +kernel
theorem own_d_prog_2_method_20_247 : decode prog_2_method_20_code 247 = .ok (.ifCond .le 13, 3) := by decide +kernel
theorem own_d_prog_2_method_20_260 : decode prog_2_method_20_code 260 = .ok (.lload 7, 2) := by decide +kernel
theorem own_d_prog_2_method_20_262 : decode prog_2_method_20_code 262 = .ok (.l2i, 1) := by decide +kernel
theorem own_d_prog_2_method_20_263 : decode prog_2_method_20_code 263 = .ok (.istore 5, 2) := by decide +kernel
theorem own_d_prog_2_method_20_265 : decode prog_2_method_20_code 265 = .ok (.iload 5, 2) := by decide +kernel
theorem own_d_prog_2_method_20_267 : decode prog_2_method_20_code 267 = .ok (.aload_n 0, 1) := by decide +kernel
theorem own_d_prog_2_method_20_268 : decode prog_2_method_20_code 268 = .ok (.getfield 20, 3) := by decide +kernel
theorem own_d_prog_2_method_20_271 : decode prog_2_method_20_code 271 = .ok (.iload_n 2, 1) := by decide +kernel
theorem own_d_prog_2_method_20_272 : decode prog_2_method_20_code 272 = .ok (.isub, 1) := by decide +kernel
theorem own_d_prog_2_method_20_273 : decode prog_2_method_20_code 273 = .ok (.if_icmp .le 24, 3) := by decide +kernel
theorem own_d_prog_2_method_20_297 : decode prog_2_method_20_code 297 = .ok (.iload_n 3, 1) := by decide +kernel
theorem own_d_prog_2_method_20_298 : decode prog_2_method_20_code 298 = .ok (.ifCond .ne 18, 3) := by decide +kernel
theorem own_d_prog_2_method_20_316 : decode prog_2_method_20_code 316 = .ok (.new 40, 3) := by decide +kernel
theorem own_d_prog_2_method_20_319 : decode prog_2_method_20_code 319 = .ok (.dup, 1) := by decide +kernel
theorem own_d_prog_2_method_20_320 : decode prog_2_method_20_code 320 = .ok (.iload_n 3, 1) := by decide +kernel
theorem own_d_prog_2_method_20_321 : decode prog_2_method_20_code 321 = .ok (.iload_n 2, 1) := by decide +kernel
theorem own_d_prog_2_method_20_322 : decode prog_2_method_20_code 322 = .ok (.iload 5, 2) := by decide +kernel
theorem own_d_prog_2_method_20_324 : decode prog_2_method_20_code 324 = .ok (.invokespecial 177, 3) := by decide +kernel
theorem own_pd1 : parseMethodDescriptor "(III)V" = some ⟨[.int, .int, .int], none⟩ := by decide +kernel
theorem own_d_prog_2_method_20_327 : decode prog_2_method_20_code 327 = .ok (.areturn, 1) := by decide +kernel
theorem own_d_prog_2_method_20_301 : decode prog_2_method_20_code 301 = .ok (.iload 5, 2) := by decide +kernel
theorem own_d_prog_2_method_20_303 : decode prog_2_method_20_code 303 = .ok (.ifCond .eq 13, 3) := by decide +kernel
theorem own_d_prog_2_method_20_129 : decode prog_2_method_20_code 129 = .ok (.iload_n 3, 1) := by decide +kernel
theorem own_d_prog_2_method_20_130 : decode prog_2_method_20_code 130 = .ok (.bipush 32, 2) := by decide +kernel
theorem own_d_prog_2_method_20_132 : decode prog_2_method_20_code 132 = .ok (.iand, 1) := by decide +kernel
theorem own_d_prog_2_method_20_133 : decode prog_2_method_20_code 133 = .ok (.ifCond .ne 27, 3) := by decide +kernel
theorem own_d_prog_2_method_20_160 : decode prog_2_method_20_code 160 = .ok (.iconst (-1), 1) := by decide +kernel
theorem own_d_prog_2_method_20_161 : decode prog_2_method_20_code 161 = .ok (.istore 5, 2) := by decide +kernel
theorem own_d_prog_2_method_20_163 : decode prog_2_method_20_code 163 = .ok (.goto 102, 3) := by decide +kernel
theorem own_d_prog_2_method_20_114 : decode prog_2_method_20_code 114 = .ok (.iload 4, 2) := by decide +kernel
theorem own_d_prog_2_method_20_116 : decode prog_2_method_20_code 116 = .ok (.istore 5, 2) := by decide +kernel
theorem own_d_prog_2_method_20_118 : decode prog_2_method_20_code 118 = .ok (.goto 147, 3) := by decide +kernel
theorem own_d_prog_2_method_20_34 : decode prog_2_method_20_code 34 = .ok (.iload_n 3, 1) := by decide +kernel
theorem own_d_prog_2_method_20_35 : decode prog_2_method_20_code 35 = .ok (.bipush 31, 2) := by decide +kernel
theorem own_d_prog_2_method_20_37 : decode prog_2_method_20_code 37 = .ok (.iand, 1) := by decide +kernel
theorem own_d_prog_2_method_20_38 : decode prog_2_method_20_code 38 = .ok (.bipush 31, 2) := by decide +kernel
theorem own_d_prog_2_method_20_40 : decode prog_2_method_20_code 40 = .ok (.if_icmp .ne 33, 3) := by decide +kernel
theorem own_d_prog_2_method_20_43 : decode prog_2_method_20_code 43 = .ok (.iload_n 2, 1) := by decide +kernel
theorem own_d_prog_2_method_20_44 : decode prog_2_method_20_code 44 = .ok (.aload_n 0, 1) := by decide +kernel
theorem own_d_prog_2_method_20_45 : decode prog_2_method_20_code 45 = .ok (.getfield 20, 3) := by decide +kernel
theorem own_d_prog_2_method_20_48 : decode prog_2_method_20_code 48 = .ok (.if_icmp .ge 22, 3) := by decide +kernel
theorem own_d_prog_2_method_20_51 : decode prog_2_method_20_code 51 = .ok (.aload_n 0, 1) := by decide +kernel
theorem own_d_prog_2_method_20_52 : decode prog_2_method_20_code 52 = .ok (.getfield 12, 3) := by decide +kernel
theorem own_d_prog_2_method_20_55 : decode prog_2_method_20_code 55 = .ok (.iload_n 2, 1) := by decide +kernel
theorem own_d_prog_2_method_20_56 : decode prog_2_method_20_code 56 = .ok (.baload, 1) := by decide +kernel
theorem own_d_prog_2_method_20_57 : decode prog_2_method_20_code 57 = .ok (.sipush 128, 3) := by decide +kernel
theorem own_d_prog_2_method_20_60 : decode prog_2_method_20_code 60 = .ok (.iand, 1) := by decide +kernel
theorem own_d_prog_2_method_20_61 : decode prog_2_method_20_code 61 = .ok (.ifCond .eq 9, 3) := by decide +kernel
theorem own_d_prog_2_method_20_70 : decode prog_2_method_20_code 70 = .ok (.iinc 2 1, 3) := by decide +kernel
theorem own_d_prog_2_method_20_64 : decode prog_2_method_20_code 64 = .ok (.iinc 2 1, 3) := by decide +kernel
theorem own_d_prog_2_method_20_67 : decode prog_2_method_20_code 67 = .ok (.goto (-24), 3) := by decide +kernel
def own_rm_own_header : Room := ({ frames := 2, cells := 1, slots := 3, locals := 28 } : Room)
set_option maxRecDepth 65536 in
set_option maxHeartbeats 1000000 in
theorem own_header (l : Launch) (Z : State) (a0 : Array Value) (hw : ∀ d ∈ tables_1, d.before a0 Z = true) (h : Heap) (n0 : Nat) (a b : Addr) (L : List Int32) (P E : Int32) (p : Nat) (T : Int32) (q s : Nat) (S Ln : Int32) (hr : ∀ x ∈ L, -128 ≤ x.toInt ∧ x.toInt ≤ 127) (hE : E.toInt = (L.length : Int)) (hN : L.length < 1000) (hP : P.toInt = (p : Int)) (H : own_hdr L p T q s S Ln)  (hn0 : n0 ≤ h.size) (Fb : Fld Z h a "com/example/dircred/dircred/credential/DerReader" "bytes" "[B" (.ref b)) (Fe : Fld Z h a "com/example/dircred/dircred/credential/DerReader" "end" "I" (.int E)) (A1 : OwA Z h b .byte (L.map Value.int)) :
    OwM l Z (⟨"com/example/dircred/dircred/credential/DerReader", "header", "(I)Lcom/example/dircred/dircred/credential/DerReader$Header;"⟩ : MethodName) prog_2_method_20_code 10 (some (.object "com/example/dircred/dircred/credential/DerReader$Header")) own_rm_own_header 1 3 [] #[(.ref a), (.int P)] h n0 (fun r h' => ∃ b', r = some (.ref b') ∧ Keep h h' [] ∧ h.size ≤ b' ∧ Fld Z h' b' "com/example/dircred/dircred/credential/DerReader$Header" "tag" "I" (.int T) ∧ Fld Z h' b' "com/example/dircred/dircred/credential/DerReader$Header" "contentStart" "I" (.int S) ∧ Fld Z h' b' "com/example/dircred/dircred/credential/DerReader$Header" "length" "I" (.int Ln)) := by
  refine OwM.of (Ls := #[.val (.ref a), .val (.int P), .unset, .unset, .unset, .unset, .unset, .unset, .unset, .unset]) (by decide +kernel) (fun m => by first | (simp [entryFrame, mkF, argsToLocals, Value.category]; done) | rfl) ?_
  intro _ _ _ _ _ _ _ X
  have K0 : Keep h h [] := Keep.refl _ _
  have e0 : (0 : Int32).toInt = 0 := rfl
  have e1 : (1 : Int32).toInt = 1 := rfl
  have em1 : (-1 : Int32).toInt = -1 := rfl
  have e31 : (31 : Int32).toInt = 31 := rfl
  have e32 : (32 : Int32).toInt = 32 := rfl
  have e127 : (127 : Int32).toInt = 127 := rfl
  have e128 : (128 : Int32).toInt = 128 := rfl
  have e129 : (129 : Int32).toInt = 129 := rfl
  have em127 : (-127 : Int32).toInt = -127 := rfl
  have em128 : (-128 : Int32).toInt = -128 := rfl
  obtain ⟨H1, H2, H3, H4, H5, H6, H7, H8⟩ := H
  have rp := own_rng hr p
  have rp1 := own_rng hr (p + 1)
  have rp2 := own_rng hr (p + 2)
  have rq := own_rng hr q
  have rq1 := own_rng hr (q + 1)
  refine X.iloadN (q := 1) own_d_prog_2_method_20_0 rfl rfl ?_
  refine X.istoreN (q := 2) (Ls' := #[.val (.ref a), .val (.int P), .val (.int P), .unset, .unset, .unset, .unset, .unset, .unset, .unset]) own_d_prog_2_method_20_1 rfl rfl ?_
  refine X.iloadN (q := 3) own_d_prog_2_method_20_2 rfl rfl ?_
  refine X.aloadN (q := 4) own_d_prog_2_method_20_3 rfl rfl rfl ?_
  refine X.getF (q := 7) (host := "") (Or.inl (hw _ (List.mem_of_getElem? (i := 17) rfl))) Via.refl Fe own_d_prog_2_method_20_4 rfl ?_
  refine X.icmp_lt (q' := 20) (q := 10) own_d_prog_2_method_20_7 rfl rfl (by decide) rfl (fun c7 => ?_) (fun c7 => ?_)
  · refine X.aloadN (q := 21) own_d_prog_2_method_20_20 rfl rfl rfl ?_
    refine X.getF (q := 24) (host := "") (Or.inl (hw _ (List.mem_of_getElem? (i := 13) rfl))) Via.refl Fb own_d_prog_2_method_20_21 rfl ?_
    refine X.iloadN (q := 25) own_d_prog_2_method_20_24 rfl rfl ?_
    refine X.iinc (q := 28) (Ls' := #[.val (.ref a), .val (.int P), .val (.int (P + (1 : Int32))), .unset, .unset, .unset, .unset, .unset, .unset, .unset]) (1 : Int32) own_d_prog_2_method_20_25 (by decide) rfl rfl rfl ?_
    have hP1_ : (P + (1 : Int32)).toInt = P.toInt + 1 := own_add (b := 1) rfl (by omega) (by omega)
    obtain ⟨P1, hdP1⟩ : ∃ v_ : Int32, v_ = (P + (1 : Int32)) := ⟨_, rfl⟩
    rw [← hdP1]
    rw [← hdP1] at hP1_
    clear hdP1
    have hP1_ : P1.toInt = ((p + 1 : Nat) : Int) := by omega
    refine X.baload (q := 29) (j := p) (v := (.int (L.getD (p) 0))) A1 hP (own_hB L _ (by omega)) own_d_prog_2_method_20_28 rfl ?_
    refine X.sipush (q := 32) (255 : Int32) own_d_prog_2_method_20_29 (by decide) rfl ?_
    refine X.iand (q := 33) own_d_prog_2_method_20_32 rfl ?_
    refine X.foldI (v := T) (Int32.toInt_inj.mp (by rw [Jvm.Kit.i32_mask (k := 8) _ _ (by decide) (by decide)]; omega)) ?_
    refine X.istoreN (q := 34) (Ls' := #[.val (.ref a), .val (.int P), .val (.int P1), .val (.int T), .unset, .unset, .unset, .unset, .unset, .unset]) own_d_prog_2_method_20_33 rfl rfl ?_
    have J73 : ∀ (Q : Int32), (Q.toInt = (q : Int)) →  X.G h 0 0 73 #[.val (.ref a), .val (.int P), .val (.int Q), .val (.int T), .unset, .unset, .unset, .unset, .unset, .unset] [] := by
      intro Q hQ
      refine X.iloadN (q := 74) own_d_prog_2_method_20_73 rfl rfl ?_
      refine X.aloadN (q := 75) own_d_prog_2_method_20_74 rfl rfl rfl ?_
      refine X.getF (q := 78) (host := "") (Or.inl (hw _ (List.mem_of_getElem? (i := 17) rfl))) Via.refl Fe own_d_prog_2_method_20_75 rfl ?_
      refine X.icmp_lt (q' := 91) (q := 81) own_d_prog_2_method_20_78 rfl rfl (by decide) rfl (fun c78 => ?_) (fun c78 => ?_)
      · refine X.aloadN (q := 92) own_d_prog_2_method_20_91 rfl rfl rfl ?_
        refine X.getF (q := 95) (host := "") (Or.inl (hw _ (List.mem_of_getElem? (i := 13) rfl))) Via.refl Fb own_d_prog_2_method_20_92 rfl ?_
        refine X.iloadN (q := 96) own_d_prog_2_method_20_95 rfl rfl ?_
        refine X.iinc (q := 99) (Ls' := #[.val (.ref a), .val (.int P), .val (.int (Q + (1 : Int32))), .val (.int T), .unset, .unset, .unset, .unset, .unset, .unset]) (1 : Int32) own_d_prog_2_method_20_96 (by decide) rfl rfl rfl ?_
        have hQ1_ : (Q + (1 : Int32)).toInt = Q.toInt + 1 := own_add (b := 1) rfl (by omega) (by omega)
        obtain ⟨Q1, hdQ1⟩ : ∃ v_ : Int32, v_ = (Q + (1 : Int32)) := ⟨_, rfl⟩
        rw [← hdQ1]
        rw [← hdQ1] at hQ1_
        clear hdQ1
        have hQ1_ : Q1.toInt = ((q + 1 : Nat) : Int) := by omega
        refine X.baload (q := 100) (j := q) (v := (.int (L.getD (q) 0))) A1 hQ (own_hB L _ (by omega)) own_d_prog_2_method_20_99 rfl ?_
        refine X.sipush (q := 103) (255 : Int32) own_d_prog_2_method_20_100 (by decide) rfl ?_
        refine X.iand (q := 104) own_d_prog_2_method_20_103 rfl ?_
        refine X.nmI (fun L0 hL0 => ?_)
        have hL0_ : L0.toInt = (L.getD q 0).toInt % 256 := by rw [hL0, Jvm.Kit.i32_mask (k := 8) _ _ (by decide) (by decide)]; rfl
        clear hL0
        refine X.istore (q := 106) (Ls' := #[.val (.ref a), .val (.int P), .val (.int Q1), .val (.int T), .val (.int L0), .unset, .unset, .unset, .unset, .unset]) own_d_prog_2_method_20_104 rfl rfl ?_
        refine X.iload (q := 108) own_d_prog_2_method_20_106 rfl rfl ?_
        refine X.sipush (q := 111) (128 : Int32) own_d_prog_2_method_20_108 (by decide) rfl ?_
        refine X.icmp_ge (b := 128) (q' := 121) (q := 114) own_d_prog_2_method_20_111 rfl rfl (by decide) rfl (fun c111 => ?_) (fun c111 => ?_)
        · refine X.iload (q := 123) own_d_prog_2_method_20_121 rfl rfl ?_
          refine X.sipush (q := 126) (128 : Int32) own_d_prog_2_method_20_123 (by decide) rfl ?_
          refine X.icmp_ne (b := 128) (q' := 166) (q := 129) own_d_prog_2_method_20_126 rfl rfl (by decide) rfl (fun c126 => ?_) (fun c126 => ?_)
          · refine X.iload (q := 168) own_d_prog_2_method_20_166 rfl rfl ?_
            refine X.bipush (q := 170) (127 : Int32) own_d_prog_2_method_20_168 (by decide) rfl ?_
            refine X.iand (q := 171) own_d_prog_2_method_20_170 rfl ?_
            refine X.foldI (v := (1 : Int32)) (Int32.toInt_inj.mp (by rw [Jvm.Kit.i32_mask (k := 7) _ _ (by decide) (by decide)]; omega)) ?_
            refine X.istore (q := 173) (Ls' := #[.val (.ref a), .val (.int P), .val (.int Q1), .val (.int T), .val (.int L0), .unset, .val (.int (1 : Int32)), .unset, .unset, .unset]) own_d_prog_2_method_20_171 rfl rfl ?_
            refine X.iload (q := 175) own_d_prog_2_method_20_173 rfl rfl ?_
            refine X.iconst (q := 176) (4 : Int32) own_d_prog_2_method_20_175 (by decide) rfl ?_
            refine X.icmp_gt (a := 1) (b := 4) (q' := 190) (q := 179) own_d_prog_2_method_20_176 rfl rfl (by decide) rfl (fun c176 => ?_) (fun c176 => ?_)
            · omega
            · refine X.iload (q := 181) own_d_prog_2_method_20_179 rfl rfl ?_
              refine X.aloadN (q := 182) own_d_prog_2_method_20_181 rfl rfl rfl ?_
              refine X.getF (q := 185) (host := "") (Or.inl (hw _ (List.mem_of_getElem? (i := 17) rfl))) Via.refl Fe own_d_prog_2_method_20_182 rfl ?_
              refine X.iloadN (q := 186) own_d_prog_2_method_20_185 rfl rfl ?_
              refine X.isub (q := 187) own_d_prog_2_method_20_186 rfl ?_
              refine X.nmI (fun av hav => ?_)
              have hav_ : av.toInt = E.toInt - Q1.toInt := by rw [hav, Int32.toInt_sub]; exact Int.bmod_eq_of_le (by omega) (by omega)
              clear hav
              refine X.icmp_le (a := 1) (q' := 200) (q := 190) own_d_prog_2_method_20_187 rfl rfl (by decide) rfl (fun c187 => ?_) (fun c187 => ?_)
              · refine X.lconst (q := 201) (0 : Int64) own_d_prog_2_method_20_200 (by decide) rfl ?_
                refine X.lstore (q := 203) (Ls' := #[.val (.ref a), .val (.int P), .val (.int Q1), .val (.int T), .val (.int L0), .unset, .val (.int (1 : Int32)), .val (.long (0 : Int64)), .second, .unset]) own_d_prog_2_method_20_201 rfl rfl ?_
                refine X.iconst (q := 204) (0 : Int32) own_d_prog_2_method_20_203 (by decide) rfl ?_
                refine X.istore (q := 206) (Ls' := #[.val (.ref a), .val (.int P), .val (.int Q1), .val (.int T), .val (.int L0), .unset, .val (.int (1 : Int32)), .val (.long (0 : Int64)), .second, .val (.int (0 : Int32))]) own_d_prog_2_method_20_204 rfl rfl ?_
                refine X.iload (q := 208) own_d_prog_2_method_20_206 rfl rfl ?_
                refine X.iload (q := 210) own_d_prog_2_method_20_208 rfl rfl ?_
                refine X.icmp_ge (a := 0) (b := 1) (q' := 241) (q := 213) own_d_prog_2_method_20_210 rfl rfl (by decide) rfl (fun c210 => ?_) (fun c210 => ?_)
                · omega
                · refine X.lload (q := 215) own_d_prog_2_method_20_213 rfl rfl ?_
                  refine X.bipush (q := 217) (8 : Int32) own_d_prog_2_method_20_215 (by decide) rfl ?_
                  refine X.lshl (q := 218) own_d_prog_2_method_20_217 rfl ?_
                  refine X.aloadN (q := 219) own_d_prog_2_method_20_218 rfl rfl rfl ?_
                  refine X.getF (q := 222) (host := "") (Or.inl (hw _ (List.mem_of_getElem? (i := 13) rfl))) Via.refl Fb own_d_prog_2_method_20_219 rfl ?_
                  refine X.iloadN (q := 223) own_d_prog_2_method_20_222 rfl rfl ?_
                  refine X.iinc (q := 226) (Ls' := #[.val (.ref a), .val (.int P), .val (.int (Q1 + (1 : Int32))), .val (.int T), .val (.int L0), .unset, .val (.int (1 : Int32)), .val (.long (0 : Int64)), .second, .val (.int (0 : Int32))]) (1 : Int32) own_d_prog_2_method_20_223 (by decide) rfl rfl rfl ?_
                  have hQ2_ : (Q1 + (1 : Int32)).toInt = Q1.toInt + 1 := own_add (b := 1) rfl (by omega) (by omega)
                  obtain ⟨Q2, hdQ2⟩ : ∃ v_ : Int32, v_ = (Q1 + (1 : Int32)) := ⟨_, rfl⟩
                  rw [← hdQ2]
                  rw [← hdQ2] at hQ2_
                  clear hdQ2
                  have hQ2_ : Q2.toInt = ((q + 2 : Nat) : Int) := by omega
                  refine X.baload (q := 227) (j := q + 1) (v := (.int (L.getD (q + 1) 0))) A1 hQ1_ (own_hB L _ (by omega)) own_d_prog_2_method_20_226 rfl ?_
                  refine X.sipush (q := 230) (255 : Int32) own_d_prog_2_method_20_227 (by decide) rfl ?_
                  refine X.iand (q := 231) own_d_prog_2_method_20_230 rfl ?_
                  refine X.i2l (q := 232) own_d_prog_2_method_20_231 rfl ?_
                  refine X.lor (q := 233) own_d_prog_2_method_20_232 rfl ?_
                  refine X.nmJ (fun acc hacc => ?_)
                  have hacc_ : acc.toInt = (L.getD (q + 1) 0).toInt % 256 := by rw [hacc]; exact own_acc _
                  clear hacc
                  refine X.lstore (q := 235) (Ls' := #[.val (.ref a), .val (.int P), .val (.int Q2), .val (.int T), .val (.int L0), .unset, .val (.int (1 : Int32)), .val (.long acc), .second, .val (.int (0 : Int32))]) own_d_prog_2_method_20_233 rfl rfl ?_
                  refine X.iinc (q := 238) (Ls' := #[.val (.ref a), .val (.int P), .val (.int Q2), .val (.int T), .val (.int L0), .unset, .val (.int (1 : Int32)), .val (.long acc), .second, .val (.int (1 : Int32))]) (1 : Int32) own_d_prog_2_method_20_235 (by decide) rfl rfl rfl ?_
                  refine X.goto (q' := 206) own_d_prog_2_method_20_238 (by decide) ?_
                  refine X.iload (q := 208) own_d_prog_2_method_20_206 rfl rfl ?_
                  refine X.iload (q := 210) own_d_prog_2_method_20_208 rfl rfl ?_
                  refine X.icmp_ge (a := 1) (b := 1) (q' := 241) (q := 213) own_d_prog_2_method_20_210 rfl rfl (by decide) rfl (fun c210 => ?_) (fun c210 => ?_)
                  · refine X.lload (q := 243) own_d_prog_2_method_20_241 rfl rfl ?_
                    refine X.ldc2_w (q := 246) (v := (2147483647 : Int64)) (hw _ (List.mem_of_getElem? (i := 73) rfl)) own_d_prog_2_method_20_243 rfl ?_
                    refine X.lcmp_le (b := 2147483647) (q1 := 247) (q' := 260) (q := 250) own_d_prog_2_method_20_246 rfl own_d_prog_2_method_20_247 rfl rfl (by decide) rfl (fun c246 => ?_) (fun c246 => ?_)
                    · refine X.lload (q := 262) own_d_prog_2_method_20_260 rfl rfl ?_
                      refine X.l2i (q := 263) own_d_prog_2_method_20_262 rfl ?_
                      refine X.foldI (v := Ln) (Int32.toInt_inj.mp (by rw [Int64.toInt_toInt32, Int.bmod_eq_of_le (by omega) (by omega)]; omega)) ?_
                      refine X.istore (q := 265) (Ls' := #[.val (.ref a), .val (.int P), .val (.int Q2), .val (.int T), .val (.int L0), .val (.int Ln), .val (.int (1 : Int32)), .val (.long acc), .second, .val (.int (1 : Int32))]) own_d_prog_2_method_20_263 rfl rfl ?_
                      refine X.iload (q := 267) own_d_prog_2_method_20_265 rfl rfl ?_
                      refine X.aloadN (q := 268) own_d_prog_2_method_20_267 rfl rfl rfl ?_
                      refine X.getF (q := 271) (host := "") (Or.inl (hw _ (List.mem_of_getElem? (i := 17) rfl))) Via.refl Fe own_d_prog_2_method_20_268 rfl ?_
                      refine X.iloadN (q := 272) own_d_prog_2_method_20_271 rfl rfl ?_
                      refine X.isub (q := 273) own_d_prog_2_method_20_272 rfl ?_
                      refine X.nmI (fun av2 hav2 => ?_)
                      have hav2_ : av2.toInt = E.toInt - Q2.toInt := by rw [hav2, Int32.toInt_sub]; exact Int.bmod_eq_of_le (by omega) (by omega)
                      clear hav2
                      refine X.icmp_le (q' := 297) (q := 276) own_d_prog_2_method_20_273 rfl rfl (by decide) rfl (fun c273 => ?_) (fun c273 => ?_)
                      · refine X.iloadN (q := 298) own_d_prog_2_method_20_297 rfl rfl ?_
                        refine X.if_ne (q' := 316) (q := 301) own_d_prog_2_method_20_298 rfl (by decide) rfl (fun c298 => ?_) (fun c298 => ?_)
                        · refine X.newO (q := 319) (k' := 1) (n' := 3) (hw _ (List.mem_of_getElem? (i := 42) rfl)) (hw _ (List.mem_of_getElem? (i := 43) rfl)) (hw _ (List.mem_of_getElem? (i := 44) rfl)) own_d_prog_2_method_20_316 rfl rfl (by decide) (by decide) rfl (fun h1 a2 ga2 Eh1 Ba2 Da2 => ?_)
                          have la_a2 : a < a2 := by have := Fb.lt; rw [← ga2] at this; exact this
                          have lb_a2 : b < a2 := by have := A1.lt; rw [← ga2] at this; exact this
                          have Fb'h1 : Fld Z h1 a "com/example/dircred/dircred/credential/DerReader" "bytes" "[B" (.ref b) := Fld.ext Eh1 Fb
                          have Fe'h1 : Fld Z h1 a "com/example/dircred/dircred/credential/DerReader" "end" "I" (.int E) := Fld.ext Eh1 Fe
                          have A1'h1 : OwA Z h1 b .byte (L.map Value.int) := OwA.ext (E := Eh1) A1
                          have gea2 : n0 ≤ a2 := by rw [ga2]; exact hn0
                          have hsh1 : n0 ≤ h1.size := Nat.le_trans hn0 Eh1.1
                          have fra2 : h.size ≤ a2 := by rw [ga2]; exact K0.1
                          have Kh1 : Keep h h1 [] := Keep.ext K0 Eh1
                          have Fa2_tag : Fld Z h1 a2 "com/example/dircred/dircred/credential/DerReader$Header" "tag" "I" (.int (0 : Int32)) := Da2 (Or.inr (hw _ (List.mem_of_getElem? (i := 50) rfl))) (ty := .int) (by decide)
                          have Fa2_contentStart : Fld Z h1 a2 "com/example/dircred/dircred/credential/DerReader$Header" "contentStart" "I" (.int (0 : Int32)) := Da2 (Or.inr (hw _ (List.mem_of_getElem? (i := 52) rfl))) (ty := .int) (by decide)
                          have Fa2_length : Fld Z h1 a2 "com/example/dircred/dircred/credential/DerReader$Header" "length" "I" (.int (0 : Int32)) := Da2 (Or.inr (hw _ (List.mem_of_getElem? (i := 54) rfl))) (ty := .int) (by decide)
                          refine X.dup (q := 320) own_d_prog_2_method_20_319 rfl rfl ?_
                          refine X.iloadN (q := 321) own_d_prog_2_method_20_320 rfl rfl ?_
                          refine X.iloadN (q := 322) own_d_prog_2_method_20_321 rfl rfl ?_
                          refine X.foldI (v := S) (Int32.toInt_inj.mp (by omega)) ?_
                          refine X.iload (q := 324) own_d_prog_2_method_20_322 rfl rfl ?_
                          refine X.special (a := a2) (own_hi l Z a0 hw h1 n0 a2 T S Ln hsh1 Ba2 Fa2_tag Fa2_contentStart Fa2_length gea2) rfl (hw _ (List.mem_of_getElem? (i := 45) rfl)) (hw _ (List.mem_of_getElem? (i := 46) rfl)) (hw _ (List.mem_of_getElem? (i := 44) rfl)) (hw _ (List.mem_of_getElem? (i := 47) rfl)) (by decide) own_pd1 (argsL := [(.int T), (.int S), (.int Ln)]) (rest := [(.ref a2)]) rfl rfl rfl (W := 1) (Nat.le_of_eq rfl) rfl (by decide) (by decide) (k' := 1) (n' := 3) rfl rfl (by decide) (by decide) own_d_prog_2_method_20_324 (q := 327) rfl ?_
                          rintro _ h3 ⟨rfl, Kh3c, Gt, Gs, Gl⟩
                          have Fb'h3 : Fld Z h3 a "com/example/dircred/dircred/credential/DerReader" "bytes" "[B" (.ref b) := Fld.keep Fb'h1 Kh3c (ninS (Nat.ne_of_lt la_a2) nin0)
                          have Fe'h3 : Fld Z h3 a "com/example/dircred/dircred/credential/DerReader" "end" "I" (.int E) := Fld.keep Fe'h1 Kh3c (ninS (Nat.ne_of_lt la_a2) nin0)
                          have A1'h3 : OwA Z h3 b .byte (L.map Value.int) := OwA.keep A1'h1 Kh3c (ninS (Nat.ne_of_lt lb_a2) nin0)
                          have Ba2'h3 : Exa Z h3 a2 "com/example/dircred/dircred/credential/DerReader$Header" := Exa.keep Ba2 Kh3c
                          have hsh3 : n0 ≤ h3.size := Nat.le_trans hsh1 Kh3c.1
                          have Kh3 : Keep h h3 [] := Keep.trans Kh1 Kh3c (allS (Or.inr fra2) all0)
                          show X.G h3 1 3 327 #[.val (.ref a), .val (.int P), .val (.int Q2), .val (.int T), .val (.int L0), .val (.int Ln), .val (.int (1 : Int32)), .val (.long acc), .second, .val (.int (1 : Int32))] [(.ref a2)]
                          refine X.retA (t := (.object "com/example/dircred/dircred/credential/DerReader$Header")) own_d_prog_2_method_20_327 rfl rfl rfl rfl (by decide) (by decide) ?_
                          exact ⟨a2, rfl, Kh3, fra2, Gt, Gs, Gl⟩
                        · refine X.iload (q := 303) own_d_prog_2_method_20_301 rfl rfl ?_
                          refine X.if_eq (q' := 316) (q := 306) own_d_prog_2_method_20_303 rfl (by decide) rfl (fun c303 => ?_) (fun c303 => ?_)
                          · refine X.newO (q := 319) (k' := 1) (n' := 3) (hw _ (List.mem_of_getElem? (i := 42) rfl)) (hw _ (List.mem_of_getElem? (i := 43) rfl)) (hw _ (List.mem_of_getElem? (i := 44) rfl)) own_d_prog_2_method_20_316 rfl rfl (by decide) (by decide) rfl (fun h4 a5 ga5 Eh4 Ba5 Da5 => ?_)
                            have la_a5 : a < a5 := by have := Fb.lt; rw [← ga5] at this; exact this
                            have lb_a5 : b < a5 := by have := A1.lt; rw [← ga5] at this; exact this
                            have Fb'h4 : Fld Z h4 a "com/example/dircred/dircred/credential/DerReader" "bytes" "[B" (.ref b) := Fld.ext Eh4 Fb
                            have Fe'h4 : Fld Z h4 a "com/example/dircred/dircred/credential/DerReader" "end" "I" (.int E) := Fld.ext Eh4 Fe
                            have A1'h4 : OwA Z h4 b .byte (L.map Value.int) := OwA.ext (E := Eh4) A1
                            have gea5 : n0 ≤ a5 := by rw [ga5]; exact hn0
                            have hsh4 : n0 ≤ h4.size := Nat.le_trans hn0 Eh4.1
                            have fra5 : h.size ≤ a5 := by rw [ga5]; exact K0.1
                            have Kh4 : Keep h h4 [] := Keep.ext K0 Eh4
                            have Fa5_tag : Fld Z h4 a5 "com/example/dircred/dircred/credential/DerReader$Header" "tag" "I" (.int (0 : Int32)) := Da5 (Or.inr (hw _ (List.mem_of_getElem? (i := 50) rfl))) (ty := .int) (by decide)
                            have Fa5_contentStart : Fld Z h4 a5 "com/example/dircred/dircred/credential/DerReader$Header" "contentStart" "I" (.int (0 : Int32)) := Da5 (Or.inr (hw _ (List.mem_of_getElem? (i := 52) rfl))) (ty := .int) (by decide)
                            have Fa5_length : Fld Z h4 a5 "com/example/dircred/dircred/credential/DerReader$Header" "length" "I" (.int (0 : Int32)) := Da5 (Or.inr (hw _ (List.mem_of_getElem? (i := 54) rfl))) (ty := .int) (by decide)
                            refine X.dup (q := 320) own_d_prog_2_method_20_319 rfl rfl ?_
                            refine X.iloadN (q := 321) own_d_prog_2_method_20_320 rfl rfl ?_
                            refine X.iloadN (q := 322) own_d_prog_2_method_20_321 rfl rfl ?_
                            refine X.foldI (v := S) (Int32.toInt_inj.mp (by omega)) ?_
                            refine X.iload (q := 324) own_d_prog_2_method_20_322 rfl rfl ?_
                            refine X.special (a := a5) (own_hi l Z a0 hw h4 n0 a5 T S Ln hsh4 Ba5 Fa5_tag Fa5_contentStart Fa5_length gea5) rfl (hw _ (List.mem_of_getElem? (i := 45) rfl)) (hw _ (List.mem_of_getElem? (i := 46) rfl)) (hw _ (List.mem_of_getElem? (i := 44) rfl)) (hw _ (List.mem_of_getElem? (i := 47) rfl)) (by decide) own_pd1 (argsL := [(.int T), (.int S), (.int Ln)]) (rest := [(.ref a5)]) rfl rfl rfl (W := 1) (Nat.le_of_eq rfl) rfl (by decide) (by decide) (k' := 1) (n' := 3) rfl rfl (by decide) (by decide) own_d_prog_2_method_20_324 (q := 327) rfl ?_
                            rintro _ h6 ⟨rfl, Kh6c, Gt, Gs, Gl⟩
                            have Fb'h6 : Fld Z h6 a "com/example/dircred/dircred/credential/DerReader" "bytes" "[B" (.ref b) := Fld.keep Fb'h4 Kh6c (ninS (Nat.ne_of_lt la_a5) nin0)
                            have Fe'h6 : Fld Z h6 a "com/example/dircred/dircred/credential/DerReader" "end" "I" (.int E) := Fld.keep Fe'h4 Kh6c (ninS (Nat.ne_of_lt la_a5) nin0)
                            have A1'h6 : OwA Z h6 b .byte (L.map Value.int) := OwA.keep A1'h4 Kh6c (ninS (Nat.ne_of_lt lb_a5) nin0)
                            have Ba5'h6 : Exa Z h6 a5 "com/example/dircred/dircred/credential/DerReader$Header" := Exa.keep Ba5 Kh6c
                            have hsh6 : n0 ≤ h6.size := Nat.le_trans hsh4 Kh6c.1
                            have Kh6 : Keep h h6 [] := Keep.trans Kh4 Kh6c (allS (Or.inr fra5) all0)
                            show X.G h6 1 3 327 #[.val (.ref a), .val (.int P), .val (.int Q2), .val (.int T), .val (.int L0), .val (.int Ln), .val (.int (1 : Int32)), .val (.long acc), .second, .val (.int (1 : Int32))] [(.ref a5)]
                            refine X.retA (t := (.object "com/example/dircred/dircred/credential/DerReader$Header")) own_d_prog_2_method_20_327 rfl rfl rfl rfl (by decide) (by decide) ?_
                            exact ⟨a5, rfl, Kh6, fra5, Gt, Gs, Gl⟩
                          · omega
                      · omega
                    · omega
                  · omega
              · omega
          · refine X.iloadN (q := 130) own_d_prog_2_method_20_129 rfl rfl ?_
            refine X.bipush (q := 132) (32 : Int32) own_d_prog_2_method_20_130 (by decide) rfl ?_
            refine X.iand (q := 133) own_d_prog_2_method_20_132 rfl ?_
            refine X.nmI (fun t32 ht32 => ?_)
            have ht32_ := own_b5 T (by omega) (by omega)
            rw [← ht32] at ht32_
            clear ht32
            refine X.if_ne (q' := 160) (q := 136) own_d_prog_2_method_20_133 rfl (by decide) rfl (fun c133 => ?_) (fun c133 => ?_)
            · refine X.iconst (q := 161) (-1 : Int32) own_d_prog_2_method_20_160 (by decide) rfl ?_
              refine X.foldI (v := Ln) (Int32.toInt_inj.mp (by omega)) ?_
              refine X.istore (q := 163) (Ls' := #[.val (.ref a), .val (.int P), .val (.int Q1), .val (.int T), .val (.int L0), .val (.int Ln), .unset, .unset, .unset, .unset]) own_d_prog_2_method_20_161 rfl rfl ?_
              refine X.goto (q' := 265) own_d_prog_2_method_20_163 (by decide) ?_
              refine X.iload (q := 267) own_d_prog_2_method_20_265 rfl rfl ?_
              refine X.aloadN (q := 268) own_d_prog_2_method_20_267 rfl rfl rfl ?_
              refine X.getF (q := 271) (host := "") (Or.inl (hw _ (List.mem_of_getElem? (i := 17) rfl))) Via.refl Fe own_d_prog_2_method_20_268 rfl ?_
              refine X.iloadN (q := 272) own_d_prog_2_method_20_271 rfl rfl ?_
              refine X.isub (q := 273) own_d_prog_2_method_20_272 rfl ?_
              refine X.nmI (fun av2 hav2 => ?_)
              have hav2_ : av2.toInt = E.toInt - Q1.toInt := by rw [hav2, Int32.toInt_sub]; exact Int.bmod_eq_of_le (by omega) (by omega)
              clear hav2
              refine X.icmp_le (q' := 297) (q := 276) own_d_prog_2_method_20_273 rfl rfl (by decide) rfl (fun c273 => ?_) (fun c273 => ?_)
              · refine X.iloadN (q := 298) own_d_prog_2_method_20_297 rfl rfl ?_
                refine X.if_ne (q' := 316) (q := 301) own_d_prog_2_method_20_298 rfl (by decide) rfl (fun c298 => ?_) (fun c298 => ?_)
                · refine X.newO (q := 319) (k' := 1) (n' := 3) (hw _ (List.mem_of_getElem? (i := 42) rfl)) (hw _ (List.mem_of_getElem? (i := 43) rfl)) (hw _ (List.mem_of_getElem? (i := 44) rfl)) own_d_prog_2_method_20_316 rfl rfl (by decide) (by decide) rfl (fun h7 a8 ga8 Eh7 Ba8 Da8 => ?_)
                  have la_a8 : a < a8 := by have := Fb.lt; rw [← ga8] at this; exact this
                  have lb_a8 : b < a8 := by have := A1.lt; rw [← ga8] at this; exact this
                  have Fb'h7 : Fld Z h7 a "com/example/dircred/dircred/credential/DerReader" "bytes" "[B" (.ref b) := Fld.ext Eh7 Fb
                  have Fe'h7 : Fld Z h7 a "com/example/dircred/dircred/credential/DerReader" "end" "I" (.int E) := Fld.ext Eh7 Fe
                  have A1'h7 : OwA Z h7 b .byte (L.map Value.int) := OwA.ext (E := Eh7) A1
                  have gea8 : n0 ≤ a8 := by rw [ga8]; exact hn0
                  have hsh7 : n0 ≤ h7.size := Nat.le_trans hn0 Eh7.1
                  have fra8 : h.size ≤ a8 := by rw [ga8]; exact K0.1
                  have Kh7 : Keep h h7 [] := Keep.ext K0 Eh7
                  have Fa8_tag : Fld Z h7 a8 "com/example/dircred/dircred/credential/DerReader$Header" "tag" "I" (.int (0 : Int32)) := Da8 (Or.inr (hw _ (List.mem_of_getElem? (i := 50) rfl))) (ty := .int) (by decide)
                  have Fa8_contentStart : Fld Z h7 a8 "com/example/dircred/dircred/credential/DerReader$Header" "contentStart" "I" (.int (0 : Int32)) := Da8 (Or.inr (hw _ (List.mem_of_getElem? (i := 52) rfl))) (ty := .int) (by decide)
                  have Fa8_length : Fld Z h7 a8 "com/example/dircred/dircred/credential/DerReader$Header" "length" "I" (.int (0 : Int32)) := Da8 (Or.inr (hw _ (List.mem_of_getElem? (i := 54) rfl))) (ty := .int) (by decide)
                  refine X.dup (q := 320) own_d_prog_2_method_20_319 rfl rfl ?_
                  refine X.iloadN (q := 321) own_d_prog_2_method_20_320 rfl rfl ?_
                  refine X.iloadN (q := 322) own_d_prog_2_method_20_321 rfl rfl ?_
                  refine X.foldI (v := S) (Int32.toInt_inj.mp (by omega)) ?_
                  refine X.iload (q := 324) own_d_prog_2_method_20_322 rfl rfl ?_
                  refine X.special (a := a8) (own_hi l Z a0 hw h7 n0 a8 T S Ln hsh7 Ba8 Fa8_tag Fa8_contentStart Fa8_length gea8) rfl (hw _ (List.mem_of_getElem? (i := 45) rfl)) (hw _ (List.mem_of_getElem? (i := 46) rfl)) (hw _ (List.mem_of_getElem? (i := 44) rfl)) (hw _ (List.mem_of_getElem? (i := 47) rfl)) (by decide) own_pd1 (argsL := [(.int T), (.int S), (.int Ln)]) (rest := [(.ref a8)]) rfl rfl rfl (W := 1) (Nat.le_of_eq rfl) rfl (by decide) (by decide) (k' := 1) (n' := 3) rfl rfl (by decide) (by decide) own_d_prog_2_method_20_324 (q := 327) rfl ?_
                  rintro _ h9 ⟨rfl, Kh9c, Gt, Gs, Gl⟩
                  have Fb'h9 : Fld Z h9 a "com/example/dircred/dircred/credential/DerReader" "bytes" "[B" (.ref b) := Fld.keep Fb'h7 Kh9c (ninS (Nat.ne_of_lt la_a8) nin0)
                  have Fe'h9 : Fld Z h9 a "com/example/dircred/dircred/credential/DerReader" "end" "I" (.int E) := Fld.keep Fe'h7 Kh9c (ninS (Nat.ne_of_lt la_a8) nin0)
                  have A1'h9 : OwA Z h9 b .byte (L.map Value.int) := OwA.keep A1'h7 Kh9c (ninS (Nat.ne_of_lt lb_a8) nin0)
                  have Ba8'h9 : Exa Z h9 a8 "com/example/dircred/dircred/credential/DerReader$Header" := Exa.keep Ba8 Kh9c
                  have hsh9 : n0 ≤ h9.size := Nat.le_trans hsh7 Kh9c.1
                  have Kh9 : Keep h h9 [] := Keep.trans Kh7 Kh9c (allS (Or.inr fra8) all0)
                  show X.G h9 1 3 327 #[.val (.ref a), .val (.int P), .val (.int Q1), .val (.int T), .val (.int L0), .val (.int Ln), .unset, .unset, .unset, .unset] [(.ref a8)]
                  refine X.retA (t := (.object "com/example/dircred/dircred/credential/DerReader$Header")) own_d_prog_2_method_20_327 rfl rfl rfl rfl (by decide) (by decide) ?_
                  exact ⟨a8, rfl, Kh9, fra8, Gt, Gs, Gl⟩
                · refine X.iload (q := 303) own_d_prog_2_method_20_301 rfl rfl ?_
                  refine X.if_eq (q' := 316) (q := 306) own_d_prog_2_method_20_303 rfl (by decide) rfl (fun c303 => ?_) (fun c303 => ?_)
                  · refine X.newO (q := 319) (k' := 1) (n' := 3) (hw _ (List.mem_of_getElem? (i := 42) rfl)) (hw _ (List.mem_of_getElem? (i := 43) rfl)) (hw _ (List.mem_of_getElem? (i := 44) rfl)) own_d_prog_2_method_20_316 rfl rfl (by decide) (by decide) rfl (fun h10 a11 ga11 Eh10 Ba11 Da11 => ?_)
                    have la_a11 : a < a11 := by have := Fb.lt; rw [← ga11] at this; exact this
                    have lb_a11 : b < a11 := by have := A1.lt; rw [← ga11] at this; exact this
                    have Fb'h10 : Fld Z h10 a "com/example/dircred/dircred/credential/DerReader" "bytes" "[B" (.ref b) := Fld.ext Eh10 Fb
                    have Fe'h10 : Fld Z h10 a "com/example/dircred/dircred/credential/DerReader" "end" "I" (.int E) := Fld.ext Eh10 Fe
                    have A1'h10 : OwA Z h10 b .byte (L.map Value.int) := OwA.ext (E := Eh10) A1
                    have gea11 : n0 ≤ a11 := by rw [ga11]; exact hn0
                    have hsh10 : n0 ≤ h10.size := Nat.le_trans hn0 Eh10.1
                    have fra11 : h.size ≤ a11 := by rw [ga11]; exact K0.1
                    have Kh10 : Keep h h10 [] := Keep.ext K0 Eh10
                    have Fa11_tag : Fld Z h10 a11 "com/example/dircred/dircred/credential/DerReader$Header" "tag" "I" (.int (0 : Int32)) := Da11 (Or.inr (hw _ (List.mem_of_getElem? (i := 50) rfl))) (ty := .int) (by decide)
                    have Fa11_contentStart : Fld Z h10 a11 "com/example/dircred/dircred/credential/DerReader$Header" "contentStart" "I" (.int (0 : Int32)) := Da11 (Or.inr (hw _ (List.mem_of_getElem? (i := 52) rfl))) (ty := .int) (by decide)
                    have Fa11_length : Fld Z h10 a11 "com/example/dircred/dircred/credential/DerReader$Header" "length" "I" (.int (0 : Int32)) := Da11 (Or.inr (hw _ (List.mem_of_getElem? (i := 54) rfl))) (ty := .int) (by decide)
                    refine X.dup (q := 320) own_d_prog_2_method_20_319 rfl rfl ?_
                    refine X.iloadN (q := 321) own_d_prog_2_method_20_320 rfl rfl ?_
                    refine X.iloadN (q := 322) own_d_prog_2_method_20_321 rfl rfl ?_
                    refine X.foldI (v := S) (Int32.toInt_inj.mp (by omega)) ?_
                    refine X.iload (q := 324) own_d_prog_2_method_20_322 rfl rfl ?_
                    refine X.special (a := a11) (own_hi l Z a0 hw h10 n0 a11 T S Ln hsh10 Ba11 Fa11_tag Fa11_contentStart Fa11_length gea11) rfl (hw _ (List.mem_of_getElem? (i := 45) rfl)) (hw _ (List.mem_of_getElem? (i := 46) rfl)) (hw _ (List.mem_of_getElem? (i := 44) rfl)) (hw _ (List.mem_of_getElem? (i := 47) rfl)) (by decide) own_pd1 (argsL := [(.int T), (.int S), (.int Ln)]) (rest := [(.ref a11)]) rfl rfl rfl (W := 1) (Nat.le_of_eq rfl) rfl (by decide) (by decide) (k' := 1) (n' := 3) rfl rfl (by decide) (by decide) own_d_prog_2_method_20_324 (q := 327) rfl ?_
                    rintro _ h12 ⟨rfl, Kh12c, Gt, Gs, Gl⟩
                    have Fb'h12 : Fld Z h12 a "com/example/dircred/dircred/credential/DerReader" "bytes" "[B" (.ref b) := Fld.keep Fb'h10 Kh12c (ninS (Nat.ne_of_lt la_a11) nin0)
                    have Fe'h12 : Fld Z h12 a "com/example/dircred/dircred/credential/DerReader" "end" "I" (.int E) := Fld.keep Fe'h10 Kh12c (ninS (Nat.ne_of_lt la_a11) nin0)
                    have A1'h12 : OwA Z h12 b .byte (L.map Value.int) := OwA.keep A1'h10 Kh12c (ninS (Nat.ne_of_lt lb_a11) nin0)
                    have Ba11'h12 : Exa Z h12 a11 "com/example/dircred/dircred/credential/DerReader$Header" := Exa.keep Ba11 Kh12c
                    have hsh12 : n0 ≤ h12.size := Nat.le_trans hsh10 Kh12c.1
                    have Kh12 : Keep h h12 [] := Keep.trans Kh10 Kh12c (allS (Or.inr fra11) all0)
                    show X.G h12 1 3 327 #[.val (.ref a), .val (.int P), .val (.int Q1), .val (.int T), .val (.int L0), .val (.int Ln), .unset, .unset, .unset, .unset] [(.ref a11)]
                    refine X.retA (t := (.object "com/example/dircred/dircred/credential/DerReader$Header")) own_d_prog_2_method_20_327 rfl rfl rfl rfl (by decide) (by decide) ?_
                    exact ⟨a11, rfl, Kh12, fra11, Gt, Gs, Gl⟩
                  · omega
              · omega
            · omega
        · refine X.iload (q := 116) own_d_prog_2_method_20_114 rfl rfl ?_
          refine X.foldI (v := Ln) (Int32.toInt_inj.mp (by omega)) ?_
          refine X.istore (q := 118) (Ls' := #[.val (.ref a), .val (.int P), .val (.int Q1), .val (.int T), .val (.int L0), .val (.int Ln), .unset, .unset, .unset, .unset]) own_d_prog_2_method_20_116 rfl rfl ?_
          refine X.goto (q' := 265) own_d_prog_2_method_20_118 (by decide) ?_
          refine X.iload (q := 267) own_d_prog_2_method_20_265 rfl rfl ?_
          refine X.aloadN (q := 268) own_d_prog_2_method_20_267 rfl rfl rfl ?_
          refine X.getF (q := 271) (host := "") (Or.inl (hw _ (List.mem_of_getElem? (i := 17) rfl))) Via.refl Fe own_d_prog_2_method_20_268 rfl ?_
          refine X.iloadN (q := 272) own_d_prog_2_method_20_271 rfl rfl ?_
          refine X.isub (q := 273) own_d_prog_2_method_20_272 rfl ?_
          refine X.nmI (fun av2 hav2 => ?_)
          have hav2_ : av2.toInt = E.toInt - Q1.toInt := by rw [hav2, Int32.toInt_sub]; exact Int.bmod_eq_of_le (by omega) (by omega)
          clear hav2
          refine X.icmp_le (q' := 297) (q := 276) own_d_prog_2_method_20_273 rfl rfl (by decide) rfl (fun c273 => ?_) (fun c273 => ?_)
          · refine X.iloadN (q := 298) own_d_prog_2_method_20_297 rfl rfl ?_
            refine X.if_ne (q' := 316) (q := 301) own_d_prog_2_method_20_298 rfl (by decide) rfl (fun c298 => ?_) (fun c298 => ?_)
            · refine X.newO (q := 319) (k' := 1) (n' := 3) (hw _ (List.mem_of_getElem? (i := 42) rfl)) (hw _ (List.mem_of_getElem? (i := 43) rfl)) (hw _ (List.mem_of_getElem? (i := 44) rfl)) own_d_prog_2_method_20_316 rfl rfl (by decide) (by decide) rfl (fun h13 a14 ga14 Eh13 Ba14 Da14 => ?_)
              have la_a14 : a < a14 := by have := Fb.lt; rw [← ga14] at this; exact this
              have lb_a14 : b < a14 := by have := A1.lt; rw [← ga14] at this; exact this
              have Fb'h13 : Fld Z h13 a "com/example/dircred/dircred/credential/DerReader" "bytes" "[B" (.ref b) := Fld.ext Eh13 Fb
              have Fe'h13 : Fld Z h13 a "com/example/dircred/dircred/credential/DerReader" "end" "I" (.int E) := Fld.ext Eh13 Fe
              have A1'h13 : OwA Z h13 b .byte (L.map Value.int) := OwA.ext (E := Eh13) A1
              have gea14 : n0 ≤ a14 := by rw [ga14]; exact hn0
              have hsh13 : n0 ≤ h13.size := Nat.le_trans hn0 Eh13.1
              have fra14 : h.size ≤ a14 := by rw [ga14]; exact K0.1
              have Kh13 : Keep h h13 [] := Keep.ext K0 Eh13
              have Fa14_tag : Fld Z h13 a14 "com/example/dircred/dircred/credential/DerReader$Header" "tag" "I" (.int (0 : Int32)) := Da14 (Or.inr (hw _ (List.mem_of_getElem? (i := 50) rfl))) (ty := .int) (by decide)
              have Fa14_contentStart : Fld Z h13 a14 "com/example/dircred/dircred/credential/DerReader$Header" "contentStart" "I" (.int (0 : Int32)) := Da14 (Or.inr (hw _ (List.mem_of_getElem? (i := 52) rfl))) (ty := .int) (by decide)
              have Fa14_length : Fld Z h13 a14 "com/example/dircred/dircred/credential/DerReader$Header" "length" "I" (.int (0 : Int32)) := Da14 (Or.inr (hw _ (List.mem_of_getElem? (i := 54) rfl))) (ty := .int) (by decide)
              refine X.dup (q := 320) own_d_prog_2_method_20_319 rfl rfl ?_
              refine X.iloadN (q := 321) own_d_prog_2_method_20_320 rfl rfl ?_
              refine X.iloadN (q := 322) own_d_prog_2_method_20_321 rfl rfl ?_
              refine X.foldI (v := S) (Int32.toInt_inj.mp (by omega)) ?_
              refine X.iload (q := 324) own_d_prog_2_method_20_322 rfl rfl ?_
              refine X.special (a := a14) (own_hi l Z a0 hw h13 n0 a14 T S Ln hsh13 Ba14 Fa14_tag Fa14_contentStart Fa14_length gea14) rfl (hw _ (List.mem_of_getElem? (i := 45) rfl)) (hw _ (List.mem_of_getElem? (i := 46) rfl)) (hw _ (List.mem_of_getElem? (i := 44) rfl)) (hw _ (List.mem_of_getElem? (i := 47) rfl)) (by decide) own_pd1 (argsL := [(.int T), (.int S), (.int Ln)]) (rest := [(.ref a14)]) rfl rfl rfl (W := 1) (Nat.le_of_eq rfl) rfl (by decide) (by decide) (k' := 1) (n' := 3) rfl rfl (by decide) (by decide) own_d_prog_2_method_20_324 (q := 327) rfl ?_
              rintro _ h15 ⟨rfl, Kh15c, Gt, Gs, Gl⟩
              have Fb'h15 : Fld Z h15 a "com/example/dircred/dircred/credential/DerReader" "bytes" "[B" (.ref b) := Fld.keep Fb'h13 Kh15c (ninS (Nat.ne_of_lt la_a14) nin0)
              have Fe'h15 : Fld Z h15 a "com/example/dircred/dircred/credential/DerReader" "end" "I" (.int E) := Fld.keep Fe'h13 Kh15c (ninS (Nat.ne_of_lt la_a14) nin0)
              have A1'h15 : OwA Z h15 b .byte (L.map Value.int) := OwA.keep A1'h13 Kh15c (ninS (Nat.ne_of_lt lb_a14) nin0)
              have Ba14'h15 : Exa Z h15 a14 "com/example/dircred/dircred/credential/DerReader$Header" := Exa.keep Ba14 Kh15c
              have hsh15 : n0 ≤ h15.size := Nat.le_trans hsh13 Kh15c.1
              have Kh15 : Keep h h15 [] := Keep.trans Kh13 Kh15c (allS (Or.inr fra14) all0)
              show X.G h15 1 3 327 #[.val (.ref a), .val (.int P), .val (.int Q1), .val (.int T), .val (.int L0), .val (.int Ln), .unset, .unset, .unset, .unset] [(.ref a14)]
              refine X.retA (t := (.object "com/example/dircred/dircred/credential/DerReader$Header")) own_d_prog_2_method_20_327 rfl rfl rfl rfl (by decide) (by decide) ?_
              exact ⟨a14, rfl, Kh15, fra14, Gt, Gs, Gl⟩
            · refine X.iload (q := 303) own_d_prog_2_method_20_301 rfl rfl ?_
              refine X.if_eq (q' := 316) (q := 306) own_d_prog_2_method_20_303 rfl (by decide) rfl (fun c303 => ?_) (fun c303 => ?_)
              · refine X.newO (q := 319) (k' := 1) (n' := 3) (hw _ (List.mem_of_getElem? (i := 42) rfl)) (hw _ (List.mem_of_getElem? (i := 43) rfl)) (hw _ (List.mem_of_getElem? (i := 44) rfl)) own_d_prog_2_method_20_316 rfl rfl (by decide) (by decide) rfl (fun h16 a17 ga17 Eh16 Ba17 Da17 => ?_)
                have la_a17 : a < a17 := by have := Fb.lt; rw [← ga17] at this; exact this
                have lb_a17 : b < a17 := by have := A1.lt; rw [← ga17] at this; exact this
                have Fb'h16 : Fld Z h16 a "com/example/dircred/dircred/credential/DerReader" "bytes" "[B" (.ref b) := Fld.ext Eh16 Fb
                have Fe'h16 : Fld Z h16 a "com/example/dircred/dircred/credential/DerReader" "end" "I" (.int E) := Fld.ext Eh16 Fe
                have A1'h16 : OwA Z h16 b .byte (L.map Value.int) := OwA.ext (E := Eh16) A1
                have gea17 : n0 ≤ a17 := by rw [ga17]; exact hn0
                have hsh16 : n0 ≤ h16.size := Nat.le_trans hn0 Eh16.1
                have fra17 : h.size ≤ a17 := by rw [ga17]; exact K0.1
                have Kh16 : Keep h h16 [] := Keep.ext K0 Eh16
                have Fa17_tag : Fld Z h16 a17 "com/example/dircred/dircred/credential/DerReader$Header" "tag" "I" (.int (0 : Int32)) := Da17 (Or.inr (hw _ (List.mem_of_getElem? (i := 50) rfl))) (ty := .int) (by decide)
                have Fa17_contentStart : Fld Z h16 a17 "com/example/dircred/dircred/credential/DerReader$Header" "contentStart" "I" (.int (0 : Int32)) := Da17 (Or.inr (hw _ (List.mem_of_getElem? (i := 52) rfl))) (ty := .int) (by decide)
                have Fa17_length : Fld Z h16 a17 "com/example/dircred/dircred/credential/DerReader$Header" "length" "I" (.int (0 : Int32)) := Da17 (Or.inr (hw _ (List.mem_of_getElem? (i := 54) rfl))) (ty := .int) (by decide)
                refine X.dup (q := 320) own_d_prog_2_method_20_319 rfl rfl ?_
                refine X.iloadN (q := 321) own_d_prog_2_method_20_320 rfl rfl ?_
                refine X.iloadN (q := 322) own_d_prog_2_method_20_321 rfl rfl ?_
                refine X.foldI (v := S) (Int32.toInt_inj.mp (by omega)) ?_
                refine X.iload (q := 324) own_d_prog_2_method_20_322 rfl rfl ?_
                refine X.special (a := a17) (own_hi l Z a0 hw h16 n0 a17 T S Ln hsh16 Ba17 Fa17_tag Fa17_contentStart Fa17_length gea17) rfl (hw _ (List.mem_of_getElem? (i := 45) rfl)) (hw _ (List.mem_of_getElem? (i := 46) rfl)) (hw _ (List.mem_of_getElem? (i := 44) rfl)) (hw _ (List.mem_of_getElem? (i := 47) rfl)) (by decide) own_pd1 (argsL := [(.int T), (.int S), (.int Ln)]) (rest := [(.ref a17)]) rfl rfl rfl (W := 1) (Nat.le_of_eq rfl) rfl (by decide) (by decide) (k' := 1) (n' := 3) rfl rfl (by decide) (by decide) own_d_prog_2_method_20_324 (q := 327) rfl ?_
                rintro _ h18 ⟨rfl, Kh18c, Gt, Gs, Gl⟩
                have Fb'h18 : Fld Z h18 a "com/example/dircred/dircred/credential/DerReader" "bytes" "[B" (.ref b) := Fld.keep Fb'h16 Kh18c (ninS (Nat.ne_of_lt la_a17) nin0)
                have Fe'h18 : Fld Z h18 a "com/example/dircred/dircred/credential/DerReader" "end" "I" (.int E) := Fld.keep Fe'h16 Kh18c (ninS (Nat.ne_of_lt la_a17) nin0)
                have A1'h18 : OwA Z h18 b .byte (L.map Value.int) := OwA.keep A1'h16 Kh18c (ninS (Nat.ne_of_lt lb_a17) nin0)
                have Ba17'h18 : Exa Z h18 a17 "com/example/dircred/dircred/credential/DerReader$Header" := Exa.keep Ba17 Kh18c
                have hsh18 : n0 ≤ h18.size := Nat.le_trans hsh16 Kh18c.1
                have Kh18 : Keep h h18 [] := Keep.trans Kh16 Kh18c (allS (Or.inr fra17) all0)
                show X.G h18 1 3 327 #[.val (.ref a), .val (.int P), .val (.int Q1), .val (.int T), .val (.int L0), .val (.int Ln), .unset, .unset, .unset, .unset] [(.ref a17)]
                refine X.retA (t := (.object "com/example/dircred/dircred/credential/DerReader$Header")) own_d_prog_2_method_20_327 rfl rfl rfl rfl (by decide) (by decide) ?_
                exact ⟨a17, rfl, Kh18, fra17, Gt, Gs, Gl⟩
              · omega
          · omega
      · omega
    refine X.iloadN (q := 35) own_d_prog_2_method_20_34 rfl rfl ?_
    refine X.bipush (q := 37) (31 : Int32) own_d_prog_2_method_20_35 (by decide) rfl ?_
    refine X.iand (q := 38) own_d_prog_2_method_20_37 rfl ?_
    refine X.nmI (fun t31 ht31 => ?_)
    have ht31_ : t31.toInt = T.toInt % 32 := by rw [ht31, Jvm.Kit.i32_mask (k := 5) _ _ (by decide) (by decide)]; rfl
    clear ht31
    refine X.bipush (q := 40) (31 : Int32) own_d_prog_2_method_20_38 (by decide) rfl ?_
    refine X.icmp_ne (b := 31) (q' := 73) (q := 43) own_d_prog_2_method_20_40 rfl rfl (by decide) rfl (fun c40 => ?_) (fun c40 => ?_)
    · exact J73 _ (by first | omega | (rw [own_add (b := 1) rfl (by omega) (by omega)]; omega))
    · refine X.iloadN (q := 44) own_d_prog_2_method_20_43 rfl rfl ?_
      refine X.aloadN (q := 45) own_d_prog_2_method_20_44 rfl rfl rfl ?_
      refine X.getF (q := 48) (host := "") (Or.inl (hw _ (List.mem_of_getElem? (i := 17) rfl))) Via.refl Fe own_d_prog_2_method_20_45 rfl ?_
      refine X.icmp_ge (q' := 70) (q := 51) own_d_prog_2_method_20_48 rfl rfl (by decide) rfl (fun c48 => ?_) (fun c48 => ?_)
      · omega
      · refine X.aloadN (q := 52) own_d_prog_2_method_20_51 rfl rfl rfl ?_
        refine X.getF (q := 55) (host := "") (Or.inl (hw _ (List.mem_of_getElem? (i := 13) rfl))) Via.refl Fb own_d_prog_2_method_20_52 rfl ?_
        refine X.iloadN (q := 56) own_d_prog_2_method_20_55 rfl rfl ?_
        refine X.baload (q := 57) (j := p + 1) (v := (.int (L.getD (p + 1) 0))) A1 hP1_ (own_hB L _ (by omega)) own_d_prog_2_method_20_56 rfl ?_
        refine X.sipush (q := 60) (128 : Int32) own_d_prog_2_method_20_57 (by decide) rfl ?_
        refine X.iand (q := 61) own_d_prog_2_method_20_60 rfl ?_
        refine X.nmI (fun b7P1 hb7P1 => ?_)
        have hb7P1_ := own_b7 (L.getD (p + 1) 0) (own_rng hr _).1 (own_rng hr _).2
        rw [← hb7P1] at hb7P1_
        clear hb7P1
        refine X.if_eq (q' := 70) (q := 64) own_d_prog_2_method_20_61 rfl (by decide) rfl (fun c61 => ?_) (fun c61 => ?_)
        · refine X.iinc (q := 73) (Ls' := #[.val (.ref a), .val (.int P), .val (.int (P1 + (1 : Int32))), .val (.int T), .unset, .unset, .unset, .unset, .unset, .unset]) (1 : Int32) own_d_prog_2_method_20_70 (by decide) rfl rfl rfl ?_
          exact J73 _ (by first | omega | (rw [own_add (b := 1) rfl (by omega) (by omega)]; omega))
        · refine X.iinc (q := 67) (Ls' := #[.val (.ref a), .val (.int P), .val (.int (P1 + (1 : Int32))), .val (.int T), .unset, .unset, .unset, .unset, .unset, .unset]) (1 : Int32) own_d_prog_2_method_20_64 (by decide) rfl rfl rfl ?_
          have hP2_ : (P1 + (1 : Int32)).toInt = P1.toInt + 1 := own_add (b := 1) rfl (by omega) (by omega)
          obtain ⟨P2, hdP2⟩ : ∃ v_ : Int32, v_ = (P1 + (1 : Int32)) := ⟨_, rfl⟩
          rw [← hdP2]
          rw [← hdP2] at hP2_
          clear hdP2
          have hP2_ : P2.toInt = ((p + 2 : Nat) : Int) := by omega
          refine X.goto (q' := 43) own_d_prog_2_method_20_67 (by decide) ?_
          refine X.iloadN (q := 44) own_d_prog_2_method_20_43 rfl rfl ?_
          refine X.aloadN (q := 45) own_d_prog_2_method_20_44 rfl rfl rfl ?_
          refine X.getF (q := 48) (host := "") (Or.inl (hw _ (List.mem_of_getElem? (i := 17) rfl))) Via.refl Fe own_d_prog_2_method_20_45 rfl ?_
          refine X.icmp_ge (q' := 70) (q := 51) own_d_prog_2_method_20_48 rfl rfl (by decide) rfl (fun c48 => ?_) (fun c48 => ?_)
          · omega
          · refine X.aloadN (q := 52) own_d_prog_2_method_20_51 rfl rfl rfl ?_
            refine X.getF (q := 55) (host := "") (Or.inl (hw _ (List.mem_of_getElem? (i := 13) rfl))) Via.refl Fb own_d_prog_2_method_20_52 rfl ?_
            refine X.iloadN (q := 56) own_d_prog_2_method_20_55 rfl rfl ?_
            refine X.baload (q := 57) (j := p + 2) (v := (.int (L.getD (p + 2) 0))) A1 hP2_ (own_hB L _ (by omega)) own_d_prog_2_method_20_56 rfl ?_
            refine X.sipush (q := 60) (128 : Int32) own_d_prog_2_method_20_57 (by decide) rfl ?_
            refine X.iand (q := 61) own_d_prog_2_method_20_60 rfl ?_
            refine X.nmI (fun b7P2 hb7P2 => ?_)
            have hb7P2_ := own_b7 (L.getD (p + 2) 0) (own_rng hr _).1 (own_rng hr _).2
            rw [← hb7P2] at hb7P2_
            clear hb7P2
            refine X.if_eq (q' := 70) (q := 64) own_d_prog_2_method_20_61 rfl (by decide) rfl (fun c61 => ?_) (fun c61 => ?_)
            · refine X.iinc (q := 73) (Ls' := #[.val (.ref a), .val (.int P), .val (.int (P2 + (1 : Int32))), .val (.int T), .unset, .unset, .unset, .unset, .unset, .unset]) (1 : Int32) own_d_prog_2_method_20_70 (by decide) rfl rfl rfl ?_
              exact J73 _ (by first | omega | (rw [own_add (b := 1) rfl (by omega) (by omega)]; omega))
            · omega
  · omega
theorem own_d_prog_2_method_18_0 : decode prog_2_method_18_code 0 = .ok (.aload_n 0, 1) := by decide +kernel
theorem own_d_prog_2_method_18_1 : decode prog_2_method_18_code 1 = .ok (.aload_n 0, 1) := by decide +kernel
theorem own_d_prog_2_method_18_2 : decode prog_2_method_18_code 2 = .ok (.getfield 16, 3) := by decide +kernel
theorem own_d_prog_2_method_18_5 : decode prog_2_method_18_code 5 = .ok (.invokevirtual 35, 3) := by decide +kernel
theorem own_pd2 : parseMethodDescriptor "(I)Lcom/example/dircred/dircred/credential/DerReader$Header;" = some ⟨[.int], some (.object "com/example/dircred/dircred/credential/DerReader$Header")⟩ := by decide +kernel
theorem own_d_prog_2_method_18_8 : decode prog_2_method_18_code 8 = .ok (.astore_n 1, 1) := by decide +kernel
theorem own_d_prog_2_method_18_9 : decode prog_2_method_18_code 9 = .ok (.aload_n 1, 1) := by decide +kernel
theorem own_d_prog_2_method_18_10 : decode prog_2_method_18_code 10 = .ok (.getfield 140, 3) := by decide +kernel
theorem own_d_prog_2_method_18_13 : decode prog_2_method_18_code 13 = .ok (.ifCond .lt 36, 3) := by decide +kernel
theorem own_d_prog_2_method_18_16 : decode prog_2_method_18_code 16 = .ok (.aload_n 1, 1) := by decide +kernel
theorem own_d_prog_2_method_18_17 : decode prog_2_method_18_code 17 = .ok (.getfield 142, 3) := by decide +kernel
theorem own_d_prog_2_method_18_20 : decode prog_2_method_18_code 20 = .ok (.aload_n 1, 1) := by decide +kernel
theorem own_d_prog_2_method_18_21 : decode prog_2_method_18_code 21 = .ok (.getfield 140, 3) := by decide +kernel
theorem own_d_prog_2_method_18_24 : decode prog_2_method_18_code 24 = .ok (.iadd, 1) := by decide +kernel
theorem own_d_prog_2_method_18_25 : decode prog_2_method_18_code 25 = .ok (.istore_n 2, 1) := by decide +kernel
theorem own_d_prog_2_method_18_26 : decode prog_2_method_18_code 26 = .ok (.aload_n 0, 1) := by decide +kernel
theorem own_d_prog_2_method_18_27 : decode prog_2_method_18_code 27 = .ok (.iload_n 2, 1) := by decide +kernel
theorem own_d_prog_2_method_18_28 : decode prog_2_method_18_code 28 = .ok (.putfield 16, 3) := by decide +kernel
theorem own_d_prog_2_method_18_31 : decode prog_2_method_18_code 31 = .ok (.new 57, 3) := by decide +kernel
theorem own_d_prog_2_method_18_34 : decode prog_2_method_18_code 34 = .ok (.dup, 1) := by decide +kernel
theorem own_d_prog_2_method_18_35 : decode prog_2_method_18_code 35 = .ok (.aload_n 1, 1) := by decide +kernel
theorem own_d_prog_2_method_18_36 : decode prog_2_method_18_code 36 = .ok (.getfield 39, 3) := by decide +kernel
theorem own_d_prog_2_method_18_39 : decode prog_2_method_18_code 39 = .ok (.aload_n 1, 1) := by decide +kernel
theorem own_d_prog_2_method_18_40 : decode prog_2_method_18_code 40 = .ok (.getfield 142, 3) := by decide +kernel
theorem own_d_prog_2_method_18_43 : decode prog_2_method_18_code 43 = .ok (.iload_n 2, 1) := by decide +kernel
theorem own_d_prog_2_method_18_44 : decode prog_2_method_18_code 44 = .ok (.iload_n 2, 1) := by decide +kernel
theorem own_d_prog_2_method_18_45 : decode prog_2_method_18_code 45 = .ok (.invokespecial 143, 3) := by decide +kernel
theorem own_pd3 : parseMethodDescriptor "(IIII)V" = some ⟨[.int, .int, .int, .int], none⟩ := by decide +kernel
theorem own_d_prog_2_method_18_48 : decode prog_2_method_18_code 48 = .ok (.areturn, 1) := by decide +kernel
def own_rm_own_next : Room := ({ frames := 3, cells := 2, slots := 7, locals := 49 } : Room)
set_option maxRecDepth 65536 in
set_option maxHeartbeats 1000000 in
theorem own_next (l : Launch) (Z : State) (a0 : Array Value) (hw : ∀ d ∈ tables_1, d.before a0 Z = true) (h : Heap) (n0 : Nat) (a b : Addr) (L : List Int32) (P E : Int32) (p : Nat) (T : Int32) (q s : Nat) (S Ln : Int32) (hr : ∀ x ∈ L, -128 ≤ x.toInt ∧ x.toInt ≤ 127) (hE : E.toInt = (L.length : Int)) (hN : L.length < 1000) (hP : P.toInt = (p : Int)) (H : own_hdr L p T q s S Ln) (E2 : Int32) (hE2 : E2.toInt = (s : Int) + Ln.toInt) (hLn : 0 ≤ Ln.toInt)  (hn0 : n0 ≤ h.size) (B : Exa Z h a "com/example/dircred/dircred/credential/DerReader") (Fb : Fld Z h a "com/example/dircred/dircred/credential/DerReader" "bytes" "[B" (.ref b)) (Fp : Fld Z h a "com/example/dircred/dircred/credential/DerReader" "position" "I" (.int P)) (Fe : Fld Z h a "com/example/dircred/dircred/credential/DerReader" "end" "I" (.int E)) (A1 : OwA Z h b .byte (L.map Value.int)) (gea : n0 ≤ a) (neab : a ≠ b) :
    OwM l Z (⟨"com/example/dircred/dircred/credential/DerReader", "next", "()Lcom/example/dircred/dircred/credential/DerReader$Value;"⟩ : MethodName) prog_2_method_18_code 5 (some (.object "com/example/dircred/dircred/credential/DerReader$Value")) own_rm_own_next 2 7 [] #[(.ref a)] h n0 (fun r h' => ∃ b', r = some (.ref b') ∧ Keep h h' [a] ∧ h.size ≤ b' ∧ Fld Z h' b' "com/example/dircred/dircred/credential/DerReader$Value" "tag" "I" (.int T) ∧ Fld Z h' b' "com/example/dircred/dircred/credential/DerReader$Value" "contentStart" "I" (.int S) ∧ Fld Z h' b' "com/example/dircred/dircred/credential/DerReader$Value" "contentEnd" "I" (.int E2) ∧ Fld Z h' b' "com/example/dircred/dircred/credential/DerReader$Value" "end" "I" (.int E2) ∧ Fld Z h' a "com/example/dircred/dircred/credential/DerReader" "bytes" "[B" (.ref b) ∧ Fld Z h' a "com/example/dircred/dircred/credential/DerReader" "position" "I" (.int E2) ∧ Fld Z h' a "com/example/dircred/dircred/credential/DerReader" "end" "I" (.int E)) := by
  refine OwM.of (Ls := #[.val (.ref a), .unset, .unset, .unset, .unset]) (by decide +kernel) (fun m => by first | (simp [entryFrame, mkF, argsToLocals, Value.category]; done) | rfl) ?_
  intro _ _ _ _ _ _ _ X
  have K0 : Keep h h [a] := Keep.refl _ _
  have H5 : S.toInt = (s : Int) := H.2.2.2.2.1
  have H7 : Ln.toInt ≤ (L.length : Int) - s := H.2.2.2.2.2.2.1
  refine X.aloadN (q := 1) own_d_prog_2_method_18_0 rfl rfl rfl ?_
  refine X.aloadN (q := 2) own_d_prog_2_method_18_1 rfl rfl rfl ?_
  refine X.getF (q := 5) (host := "") (Or.inl (hw _ (List.mem_of_getElem? (i := 15) rfl))) Via.refl Fp own_d_prog_2_method_18_2 rfl ?_
  refine X.private (a := a) (own_header l Z a0 hw h n0 a b L P E p T q s S Ln hr hE hN hP H hn0 Fb Fe A1) (hw _ (List.mem_of_getElem? (i := 38) rfl)) (hw _ (List.mem_of_getElem? (i := 39) rfl)) (hw _ (List.mem_of_getElem? (i := 40) rfl)) (hw _ (List.mem_of_getElem? (i := 2) rfl)) (hw _ (List.mem_of_getElem? (i := 3) rfl)) (hw _ (List.mem_of_getElem? (i := 41) rfl)) (by decide) B own_pd2 (argsL := [(.int P)]) (rest := []) rfl rfl rfl (W := 0) (Nat.le_of_eq rfl) rfl (by decide) (by decide) (k' := 1) (n' := 3) rfl rfl (by decide) (by decide) own_d_prog_2_method_18_5 (q := 8) rfl ?_
  rintro _ h1 ⟨hb, rfl, Kh1c, frhb, Ghbt, Ghbs, Ghbl⟩
  have B'h1 : Exa Z h1 a "com/example/dircred/dircred/credential/DerReader" := Exa.keep B Kh1c
  have Fb'h1 : Fld Z h1 a "com/example/dircred/dircred/credential/DerReader" "bytes" "[B" (.ref b) := Fld.keep Fb Kh1c nin0
  have Fp'h1 : Fld Z h1 a "com/example/dircred/dircred/credential/DerReader" "position" "I" (.int P) := Fld.keep Fp Kh1c nin0
  have Fe'h1 : Fld Z h1 a "com/example/dircred/dircred/credential/DerReader" "end" "I" (.int E) := Fld.keep Fe Kh1c nin0
  have A1'h1 : OwA Z h1 b .byte (L.map Value.int) := OwA.keep A1 Kh1c nin0
  have hsh1 : n0 ≤ h1.size := Nat.le_trans hn0 Kh1c.1
  have Kh1 : Keep h h1 [a] := Keep.trans K0 Kh1c all0
  show X.G h1 1 3 8 #[.val (.ref a), .unset, .unset, .unset, .unset] [(.ref hb)]
  have lahb : a < hb := Nat.lt_of_lt_of_le B.lt frhb
  have lbhb : b < hb := Nat.lt_of_lt_of_le A1.lt frhb
  have fr0hb : h.size ≤ hb := Nat.le_trans K0.1 frhb
  have gehb : n0 ≤ hb := Nat.le_trans hn0 frhb
  refine X.astoreN (q := 9) (Ls' := #[.val (.ref a), .val (.ref hb), .unset, .unset, .unset]) own_d_prog_2_method_18_8 rfl rfl rfl ?_
  refine X.aloadN (q := 10) own_d_prog_2_method_18_9 rfl rfl rfl ?_
  refine X.getR (q := 13) (hw _ (List.mem_of_getElem? (i := 55) rfl)) Ghbl own_d_prog_2_method_18_10 rfl ?_
  refine X.if_lt (q' := 49) (q := 16) own_d_prog_2_method_18_13 rfl (by decide) rfl (fun c13 => ?_) (fun c13 => ?_)
  · omega
  · refine X.aloadN (q := 17) own_d_prog_2_method_18_16 rfl rfl rfl ?_
    refine X.getR (q := 20) (hw _ (List.mem_of_getElem? (i := 56) rfl)) Ghbs own_d_prog_2_method_18_17 rfl ?_
    refine X.aloadN (q := 21) own_d_prog_2_method_18_20 rfl rfl rfl ?_
    refine X.getR (q := 24) (hw _ (List.mem_of_getElem? (i := 55) rfl)) Ghbl own_d_prog_2_method_18_21 rfl ?_
    refine X.iadd (q := 25) own_d_prog_2_method_18_24 rfl ?_
    refine X.foldI (v := E2) (Int32.toInt_inj.mp (by rw [own_add rfl (by omega) (by omega)]; omega)) ?_
    refine X.istoreN (q := 26) (Ls' := #[.val (.ref a), .val (.ref hb), .val (.int E2), .unset, .unset]) own_d_prog_2_method_18_25 rfl rfl ?_
    refine X.aloadN (q := 27) own_d_prog_2_method_18_26 rfl rfl rfl ?_
    refine X.iloadN (q := 28) own_d_prog_2_method_18_27 rfl rfl ?_
    refine X.putF (q := 31) (host := "") (Or.inl (hw _ (List.mem_of_getElem? (i := 15) rfl))) Via.refl Fp'h1 B'h1 (Or.inl (hw _ (List.mem_of_getElem? (i := 16) rfl))) (hw _ (List.mem_of_getElem? (i := 2) rfl)) (ty := .int) (by decide) rfl rfl gea own_d_prog_2_method_18_28 rfl (fun h2 Wh2 => ?_)
    have B'h2 : Exa Z h2 a "com/example/dircred/dircred/credential/DerReader" := Exa.wr Wh2 B'h1
    have Fb'h2 : Fld Z h2 a "com/example/dircred/dircred/credential/DerReader" "bytes" "[B" (.ref b) := Fld.other Wh2 Fb'h1 (Or.inr (slot_ne (Or.inr (hw _ (List.mem_of_getElem? (i := 14) rfl))) (Or.inl (hw _ (List.mem_of_getElem? (i := 16) rfl))) (by decide) (ht := (by decide : _ = some (.array .byte))) (ht' := (by decide : _ = some .int))))
    have Fp'h2 : Fld Z h2 a "com/example/dircred/dircred/credential/DerReader" "position" "I" (.int E2) := Fld.same Wh2 Fp'h1
    have Fe'h2 : Fld Z h2 a "com/example/dircred/dircred/credential/DerReader" "end" "I" (.int E) := Fld.other Wh2 Fe'h1 (Or.inr (slot_ne (Or.inr (hw _ (List.mem_of_getElem? (i := 18) rfl))) (Or.inl (hw _ (List.mem_of_getElem? (i := 16) rfl))) (by decide) (ht := (by decide : _ = some .int)) (ht' := (by decide : _ = some .int))))
    have A1'h2 : OwA Z h2 b .byte (L.map Value.int) := OwA.other A1'h1 Wh2 (Ne.symm neab)
    have Ghbt'h2 : Fld Z h2 hb "com/example/dircred/dircred/credential/DerReader$Header" "tag" "I" (.int T) := Fld.other Wh2 Ghbt (Or.inl (Nat.ne_of_gt lahb))
    have Ghbs'h2 : Fld Z h2 hb "com/example/dircred/dircred/credential/DerReader$Header" "contentStart" "I" (.int S) := Fld.other Wh2 Ghbs (Or.inl (Nat.ne_of_gt lahb))
    have Ghbl'h2 : Fld Z h2 hb "com/example/dircred/dircred/credential/DerReader$Header" "length" "I" (.int Ln) := Fld.other Wh2 Ghbl (Or.inl (Nat.ne_of_gt lahb))
    have hsh2 : n0 ≤ h2.size := by rw [Wr.size Wh2]; exact hsh1
    have Kh2 : Keep h h2 [a] := Keep.wr Kh1 Wh2 (Or.inl (List.mem_of_getElem? (i := 0) rfl))
    refine X.newO (q := 34) (k' := 2) (n' := 7) (hw _ (List.mem_of_getElem? (i := 57) rfl)) (hw _ (List.mem_of_getElem? (i := 58) rfl)) (hw _ (List.mem_of_getElem? (i := 59) rfl)) own_d_prog_2_method_18_31 rfl rfl (by decide) (by decide) rfl (fun h3 a4 ga4 Eh3 Ba4 Da4 => ?_)
    have la_a4 : a < a4 := by have := B'h2.lt; rw [← ga4] at this; exact this
    have lb_a4 : b < a4 := by have := A1'h2.lt; rw [← ga4] at this; exact this
    have lhb_a4 : hb < a4 := by have := Ghbt'h2.lt; rw [← ga4] at this; exact this
    have B'h3 : Exa Z h3 a "com/example/dircred/dircred/credential/DerReader" := Exa.ext Eh3 B'h2
    have Fb'h3 : Fld Z h3 a "com/example/dircred/dircred/credential/DerReader" "bytes" "[B" (.ref b) := Fld.ext Eh3 Fb'h2
    have Fp'h3 : Fld Z h3 a "com/example/dircred/dircred/credential/DerReader" "position" "I" (.int E2) := Fld.ext Eh3 Fp'h2
    have Fe'h3 : Fld Z h3 a "com/example/dircred/dircred/credential/DerReader" "end" "I" (.int E) := Fld.ext Eh3 Fe'h2
    have A1'h3 : OwA Z h3 b .byte (L.map Value.int) := OwA.ext (E := Eh3) A1'h2
    have Ghbt'h3 : Fld Z h3 hb "com/example/dircred/dircred/credential/DerReader$Header" "tag" "I" (.int T) := Fld.ext Eh3 Ghbt'h2
    have Ghbs'h3 : Fld Z h3 hb "com/example/dircred/dircred/credential/DerReader$Header" "contentStart" "I" (.int S) := Fld.ext Eh3 Ghbs'h2
    have Ghbl'h3 : Fld Z h3 hb "com/example/dircred/dircred/credential/DerReader$Header" "length" "I" (.int Ln) := Fld.ext Eh3 Ghbl'h2
    have gea4 : n0 ≤ a4 := by rw [ga4]; exact hsh2
    have hsh3 : n0 ≤ h3.size := Nat.le_trans hsh2 Eh3.1
    have fra4 : h.size ≤ a4 := by rw [ga4]; exact Kh2.1
    have Kh3 : Keep h h3 [a] := Keep.ext Kh2 Eh3
    have Fa4_tag : Fld Z h3 a4 "com/example/dircred/dircred/credential/DerReader$Value" "tag" "I" (.int (0 : Int32)) := Da4 (Or.inr (hw _ (List.mem_of_getElem? (i := 66) rfl))) (ty := .int) (by decide)
    have Fa4_contentStart : Fld Z h3 a4 "com/example/dircred/dircred/credential/DerReader$Value" "contentStart" "I" (.int (0 : Int32)) := Da4 (Or.inr (hw _ (List.mem_of_getElem? (i := 68) rfl))) (ty := .int) (by decide)
    have Fa4_contentEnd : Fld Z h3 a4 "com/example/dircred/dircred/credential/DerReader$Value" "contentEnd" "I" (.int (0 : Int32)) := Da4 (Or.inr (hw _ (List.mem_of_getElem? (i := 70) rfl))) (ty := .int) (by decide)
    have Fa4_end : Fld Z h3 a4 "com/example/dircred/dircred/credential/DerReader$Value" "end" "I" (.int (0 : Int32)) := Da4 (Or.inr (hw _ (List.mem_of_getElem? (i := 72) rfl))) (ty := .int) (by decide)
    refine X.dup (q := 35) own_d_prog_2_method_18_34 rfl rfl ?_
    refine X.aloadN (q := 36) own_d_prog_2_method_18_35 rfl rfl rfl ?_
    refine X.getR (q := 39) (hw _ (List.mem_of_getElem? (i := 60) rfl)) Ghbt'h3 own_d_prog_2_method_18_36 rfl ?_
    refine X.aloadN (q := 40) own_d_prog_2_method_18_39 rfl rfl rfl ?_
    refine X.getR (q := 43) (hw _ (List.mem_of_getElem? (i := 56) rfl)) Ghbs'h3 own_d_prog_2_method_18_40 rfl ?_
    refine X.iloadN (q := 44) own_d_prog_2_method_18_43 rfl rfl ?_
    refine X.iloadN (q := 45) own_d_prog_2_method_18_44 rfl rfl ?_
    refine X.special (a := a4) (own_vi l Z a0 hw h3 n0 a4 T S E2 E2 hsh3 Ba4 Fa4_tag Fa4_contentStart Fa4_contentEnd Fa4_end gea4) rfl (hw _ (List.mem_of_getElem? (i := 61) rfl)) (hw _ (List.mem_of_getElem? (i := 62) rfl)) (hw _ (List.mem_of_getElem? (i := 59) rfl)) (hw _ (List.mem_of_getElem? (i := 63) rfl)) (by decide) own_pd3 (argsL := [(.int T), (.int S), (.int E2), (.int E2)]) (rest := [(.ref a4)]) rfl rfl rfl (W := 1) (Nat.le_of_eq rfl) rfl (by decide) (by decide) (k' := 2) (n' := 7) rfl rfl (by decide) (by decide) own_d_prog_2_method_18_45 (q := 48) rfl ?_
    rintro _ h5 ⟨rfl, Kh5c, Vt, Vs, Vc, Ve⟩
    have B'h5 : Exa Z h5 a "com/example/dircred/dircred/credential/DerReader" := Exa.keep B'h3 Kh5c
    have Fb'h5 : Fld Z h5 a "com/example/dircred/dircred/credential/DerReader" "bytes" "[B" (.ref b) := Fld.keep Fb'h3 Kh5c (ninS (Nat.ne_of_lt la_a4) nin0)
    have Fp'h5 : Fld Z h5 a "com/example/dircred/dircred/credential/DerReader" "position" "I" (.int E2) := Fld.keep Fp'h3 Kh5c (ninS (Nat.ne_of_lt la_a4) nin0)
    have Fe'h5 : Fld Z h5 a "com/example/dircred/dircred/credential/DerReader" "end" "I" (.int E) := Fld.keep Fe'h3 Kh5c (ninS (Nat.ne_of_lt la_a4) nin0)
    have A1'h5 : OwA Z h5 b .byte (L.map Value.int) := OwA.keep A1'h3 Kh5c (ninS (Nat.ne_of_lt lb_a4) nin0)
    have Ghbt'h5 : Fld Z h5 hb "com/example/dircred/dircred/credential/DerReader$Header" "tag" "I" (.int T) := Fld.keep Ghbt'h3 Kh5c (ninS (Nat.ne_of_lt lhb_a4) nin0)
    have Ghbs'h5 : Fld Z h5 hb "com/example/dircred/dircred/credential/DerReader$Header" "contentStart" "I" (.int S) := Fld.keep Ghbs'h3 Kh5c (ninS (Nat.ne_of_lt lhb_a4) nin0)
    have Ghbl'h5 : Fld Z h5 hb "com/example/dircred/dircred/credential/DerReader$Header" "length" "I" (.int Ln) := Fld.keep Ghbl'h3 Kh5c (ninS (Nat.ne_of_lt lhb_a4) nin0)
    have Ba4'h5 : Exa Z h5 a4 "com/example/dircred/dircred/credential/DerReader$Value" := Exa.keep Ba4 Kh5c
    have hsh5 : n0 ≤ h5.size := Nat.le_trans hsh3 Kh5c.1
    have Kh5 : Keep h h5 [a] := Keep.trans Kh3 Kh5c (allS (Or.inr fra4) all0)
    show X.G h5 2 7 48 #[.val (.ref a), .val (.ref hb), .val (.int E2), .unset, .unset] [(.ref a4)]
    refine X.retA (t := (.object "com/example/dircred/dircred/credential/DerReader$Value")) own_d_prog_2_method_18_48 rfl rfl rfl rfl (by decide) (by decide) ?_
    exact ⟨a4, rfl, Kh5, fra4, Vt, Vs, Vc, Ve, Fb'h5, Fp'h5, Fe'h5⟩
theorem own_d_prog_2_method_14_0 : decode prog_2_method_14_code 0 = .ok (.aload_n 0, 1) := by decide +kernel
theorem own_d_prog_2_method_14_1 : decode prog_2_method_14_code 1 = .ok (.invokevirtual 110, 3) := by decide +kernel
theorem own_pd4 : parseMethodDescriptor "()Lcom/example/dircred/dircred/credential/DerReader$Value;" = some ⟨[], some (.object "com/example/dircred/dircred/credential/DerReader$Value")⟩ := by decide +kernel
theorem own_d_prog_2_method_14_4 : decode prog_2_method_14_code 4 = .ok (.pop, 1) := by decide +kernel
theorem own_d_prog_2_method_14_5 : decode prog_2_method_14_code 5 = .ok (.return_, 1) := by decide +kernel
def own_rm_own_skip : Room := ({ frames := 4, cells := 2, slots := 7, locals := 65 } : Room)
set_option maxRecDepth 65536 in
set_option maxHeartbeats 1000000 in
theorem own_skip (l : Launch) (Z : State) (a0 : Array Value) (hw : ∀ d ∈ tables_1, d.before a0 Z = true) (h : Heap) (n0 : Nat) (a b : Addr) (L : List Int32) (P E : Int32) (p : Nat) (T : Int32) (q s : Nat) (S Ln : Int32) (hr : ∀ x ∈ L, -128 ≤ x.toInt ∧ x.toInt ≤ 127) (hE : E.toInt = (L.length : Int)) (hN : L.length < 1000) (hP : P.toInt = (p : Int)) (H : own_hdr L p T q s S Ln) (E2 : Int32) (hE2 : E2.toInt = (s : Int) + Ln.toInt) (hLn : 0 ≤ Ln.toInt)  (hn0 : n0 ≤ h.size) (B : Exa Z h a "com/example/dircred/dircred/credential/DerReader") (Fb : Fld Z h a "com/example/dircred/dircred/credential/DerReader" "bytes" "[B" (.ref b)) (Fp : Fld Z h a "com/example/dircred/dircred/credential/DerReader" "position" "I" (.int P)) (Fe : Fld Z h a "com/example/dircred/dircred/credential/DerReader" "end" "I" (.int E)) (A1 : OwA Z h b .byte (L.map Value.int)) (gea : n0 ≤ a) (neab : a ≠ b) :
    OwM l Z (⟨"com/example/dircred/dircred/credential/DerReader", "skip", "()V"⟩ : MethodName) prog_2_method_14_code 1 none own_rm_own_skip 2 7 [] #[(.ref a)] h n0 (fun r h' => r = none ∧ Keep h h' [a] ∧ Fld Z h' a "com/example/dircred/dircred/credential/DerReader" "bytes" "[B" (.ref b) ∧ Fld Z h' a "com/example/dircred/dircred/credential/DerReader" "position" "I" (.int E2) ∧ Fld Z h' a "com/example/dircred/dircred/credential/DerReader" "end" "I" (.int E)) := by
  refine OwM.of (Ls := #[.val (.ref a)]) (by decide +kernel) (fun m => by first | (simp [entryFrame, mkF, argsToLocals, Value.category]; done) | rfl) ?_
  intro _ _ _ _ _ _ _ X
  have K0 : Keep h h [a] := Keep.refl _ _
  refine X.aloadN (q := 1) own_d_prog_2_method_14_0 rfl rfl rfl ?_
  refine X.private (a := a) (own_next l Z a0 hw h n0 a b L P E p T q s S Ln hr hE hN hP H E2 hE2 hLn hn0 B Fb Fp Fe A1 gea neab) (hw _ (List.mem_of_getElem? (i := 34) rfl)) (hw _ (List.mem_of_getElem? (i := 35) rfl)) (hw _ (List.mem_of_getElem? (i := 36) rfl)) (hw _ (List.mem_of_getElem? (i := 2) rfl)) (hw _ (List.mem_of_getElem? (i := 3) rfl)) (hw _ (List.mem_of_getElem? (i := 37) rfl)) (by decide) B own_pd4 (argsL := []) (rest := []) rfl rfl rfl (W := 0) (Nat.le_of_eq rfl) rfl (by decide) (by decide) (k' := 2) (n' := 7) rfl rfl (by decide) (by decide) own_d_prog_2_method_14_1 (q := 4) rfl ?_
  rintro _ h1 ⟨vb, rfl, Kh1c, frvb, _, _, _, _, Gb, Gp, Ge⟩
  have B'h1 : Exa Z h1 a "com/example/dircred/dircred/credential/DerReader" := Exa.keep B Kh1c
  have A1'h1 : OwA Z h1 b .byte (L.map Value.int) := OwA.keep A1 Kh1c (ninS (Ne.symm neab) nin0)
  have hsh1 : n0 ≤ h1.size := Nat.le_trans hn0 Kh1c.1
  have Kh1 : Keep h h1 [a] := Keep.trans K0 Kh1c (allS (Or.inl (List.mem_of_getElem? (i := 0) rfl)) all0)
  show X.G h1 2 7 4 #[.val (.ref a)] [(.ref vb)]
  refine X.pop (q := 5) own_d_prog_2_method_14_4 rfl rfl ?_
  refine X.retV own_d_prog_2_method_14_5 rfl (by decide) (by decide) ?_
  exact ⟨rfl, Kh1, Gb, Gp, Ge⟩
theorem own_or128 (y : Int32) : 128 ≤ ((128 : Int32) ||| (y &&& 127)).toInt ∧ ((128 : Int32) ||| (y &&& 127)).toInt ≤ 255 := by
  have key : ∀ k : Fin 128, 128 ≤ ((128 : Int32) ||| Int32.ofNat k.val).toInt ∧ ((128 : Int32) ||| Int32.ofNat k.val).toInt ≤ 255 := by decide +kernel
  have m := Jvm.Kit.i32_mask y 127 (k := 7) (by decide) (by decide)
  have e := own_ofNat (c := y &&& 127) (by omega) (by omega)
  rw [e]; exact key ⟨(y &&& 127).toInt.toNat, by omega⟩
theorem own_d_prog_2_method_5_0 : decode prog_2_method_5_code 0 = .ok (.aload_n 0, 1) := by decide +kernel
theorem own_d_prog_2_method_5_1 : decode prog_2_method_5_code 1 = .ok (.invokevirtual 31, 3) := by decide +kernel
theorem own_pd5 : parseMethodDescriptor "()Z" = some ⟨[], some .boolean⟩ := by decide +kernel
theorem own_d_prog_2_method_5_4 : decode prog_2_method_5_code 4 = .ok (.ifCond .eq 22, 3) := by decide +kernel
theorem own_d_prog_2_method_5_7 : decode prog_2_method_5_code 7 = .ok (.aload_n 0, 1) := by decide +kernel
theorem own_d_prog_2_method_5_8 : decode prog_2_method_5_code 8 = .ok (.aload_n 0, 1) := by decide +kernel
theorem own_d_prog_2_method_5_9 : decode prog_2_method_5_code 9 = .ok (.getfield 16, 3) := by decide +kernel
theorem own_d_prog_2_method_5_12 : decode prog_2_method_5_code 12 = .ok (.invokevirtual 35, 3) := by decide +kernel
theorem own_d_prog_2_method_5_15 : decode prog_2_method_5_code 15 = .ok (.getfield 39, 3) := by decide +kernel
theorem own_d_prog_2_method_5_18 : decode prog_2_method_5_code 18 = .ok (.iload_n 1, 1) := by decide +kernel
theorem own_d_prog_2_method_5_19 : decode prog_2_method_5_code 19 = .ok (.if_icmp .ne 7, 3) := by decide +kernel
theorem own_d_prog_2_method_5_26 : decode prog_2_method_5_code 26 = .ok (.iconst 0, 1) := by decide +kernel
theorem own_d_prog_2_method_5_27 : decode prog_2_method_5_code 27 = .ok (.ireturn, 1) := by decide +kernel
theorem own_d_prog_2_method_5_22 : decode prog_2_method_5_code 22 = .ok (.iconst 1, 1) := by decide +kernel
theorem own_d_prog_2_method_5_23 : decode prog_2_method_5_code 23 = .ok (.goto 4, 3) := by decide +kernel
def own_rm_own_nx : Room := ({ frames := 3, cells := 1, slots := 3, locals := 51 } : Room)
set_option maxRecDepth 65536 in
set_option maxHeartbeats 1000000 in
theorem own_nx (l : Launch) (Z : State) (a0 : Array Value) (hw : ∀ d ∈ tables_1, d.before a0 Z = true) (h : Heap) (n0 : Nat) (a b : Addr) (L : List Int32) (P E : Int32) (p : Nat) (T : Int32) (q s : Nat) (S Ln : Int32) (hr : ∀ x ∈ L, -128 ≤ x.toInt ∧ x.toInt ≤ 127) (hE : E.toInt = (L.length : Int)) (hN : L.length < 1000) (hP : P.toInt = (p : Int)) (H : own_hdr L p T q s S Ln) (g : Int32)  (hn0 : n0 ≤ h.size) (B : Exa Z h a "com/example/dircred/dircred/credential/DerReader") (Fb : Fld Z h a "com/example/dircred/dircred/credential/DerReader" "bytes" "[B" (.ref b)) (Fp : Fld Z h a "com/example/dircred/dircred/credential/DerReader" "position" "I" (.int P)) (Fe : Fld Z h a "com/example/dircred/dircred/credential/DerReader" "end" "I" (.int E)) (A1 : OwA Z h b .byte (L.map Value.int)) :
    OwM l Z (⟨"com/example/dircred/dircred/credential/DerReader", "nextIs", "(I)Z"⟩ : MethodName) prog_2_method_5_code 2 (some .boolean) own_rm_own_nx 1 3 [] #[(.ref a), (.int g)] h n0 (fun r h' => ∃ z : Int32, r = some (.int z) ∧ Keep h h' [] ∧ ((z.toInt = 1 ∧ T.toInt = g.toInt) ∨ (z.toInt = 0 ∧ ¬ T.toInt = g.toInt))) := by
  refine OwM.of (Ls := #[.val (.ref a), .val (.int g)]) (by decide +kernel) (fun m => by first | (simp [entryFrame, mkF, argsToLocals, Value.category]; done) | rfl) ?_
  intro _ _ _ _ _ _ _ X
  have K0 : Keep h h [] := Keep.refl _ _
  have e0 : (0 : Int32).toInt = 0 := rfl
  have e1 : (1 : Int32).toInt = 1 := rfl
  have H1 : p < L.length := H.1
  refine X.aloadN (q := 1) own_d_prog_2_method_5_0 rfl rfl rfl ?_
  refine X.virtual (a := a) (own_hm l Z a0 hw h n0 a P E hn0 Fp Fe) (hw _ (List.mem_of_getElem? (i := 24) rfl)) (hw _ (List.mem_of_getElem? (i := 25) rfl)) (hw _ (List.mem_of_getElem? (i := 27) rfl)) (hw _ (List.mem_of_getElem? (i := 26) rfl)) (hw _ (List.mem_of_getElem? (i := 3) rfl)) (hw _ (List.mem_of_getElem? (i := 28) rfl)) (by decide) B own_pd5 (argsL := []) (rest := []) rfl rfl rfl (W := 0) (Nat.le_of_eq rfl) rfl (by decide) (by decide) (k' := 0) (n' := 0) rfl rfl (by decide) (by decide) own_d_prog_2_method_5_1 (q := 4) rfl ?_
  rintro _ _ ⟨z, rfl, hz, rfl⟩
  show X.G h 0 0 4 #[.val (.ref a), .val (.int g)] [(.int z)]
  refine X.if_eq (q' := 26) (q := 7) own_d_prog_2_method_5_4 rfl (by decide) rfl (fun c4 => ?_) (fun c4 => ?_)
  · omega
  · refine X.aloadN (q := 8) own_d_prog_2_method_5_7 rfl rfl rfl ?_
    refine X.aloadN (q := 9) own_d_prog_2_method_5_8 rfl rfl rfl ?_
    refine X.getF (q := 12) (host := "") (Or.inl (hw _ (List.mem_of_getElem? (i := 15) rfl))) Via.refl Fp own_d_prog_2_method_5_9 rfl ?_
    refine X.private (a := a) (own_header l Z a0 hw h n0 a b L P E p T q s S Ln hr hE hN hP H hn0 Fb Fe A1) (hw _ (List.mem_of_getElem? (i := 38) rfl)) (hw _ (List.mem_of_getElem? (i := 39) rfl)) (hw _ (List.mem_of_getElem? (i := 40) rfl)) (hw _ (List.mem_of_getElem? (i := 2) rfl)) (hw _ (List.mem_of_getElem? (i := 3) rfl)) (hw _ (List.mem_of_getElem? (i := 41) rfl)) (by decide) B own_pd2 (argsL := [(.int P)]) (rest := []) rfl rfl rfl (W := 0) (Nat.le_of_eq rfl) rfl (by decide) (by decide) (k' := 1) (n' := 3) rfl rfl (by decide) (by decide) own_d_prog_2_method_5_12 (q := 15) rfl ?_
    rintro _ h1 ⟨hb, rfl, Kh1c, frhb, Ghbt, Ghbs, Ghbl⟩
    have B'h1 : Exa Z h1 a "com/example/dircred/dircred/credential/DerReader" := Exa.keep B Kh1c
    have Fb'h1 : Fld Z h1 a "com/example/dircred/dircred/credential/DerReader" "bytes" "[B" (.ref b) := Fld.keep Fb Kh1c nin0
    have Fp'h1 : Fld Z h1 a "com/example/dircred/dircred/credential/DerReader" "position" "I" (.int P) := Fld.keep Fp Kh1c nin0
    have Fe'h1 : Fld Z h1 a "com/example/dircred/dircred/credential/DerReader" "end" "I" (.int E) := Fld.keep Fe Kh1c nin0
    have A1'h1 : OwA Z h1 b .byte (L.map Value.int) := OwA.keep A1 Kh1c nin0
    have hsh1 : n0 ≤ h1.size := Nat.le_trans hn0 Kh1c.1
    have Kh1 : Keep h h1 [] := Keep.trans K0 Kh1c all0
    show X.G h1 1 3 15 #[.val (.ref a), .val (.int g)] [(.ref hb)]
    have lahb : a < hb := Nat.lt_of_lt_of_le B.lt frhb
    have lbhb : b < hb := Nat.lt_of_lt_of_le A1.lt frhb
    have fr0hb : h.size ≤ hb := Nat.le_trans K0.1 frhb
    have gehb : n0 ≤ hb := Nat.le_trans hn0 frhb
    refine X.getR (q := 18) (hw _ (List.mem_of_getElem? (i := 60) rfl)) Ghbt own_d_prog_2_method_5_15 rfl ?_
    refine X.iloadN (q := 19) own_d_prog_2_method_5_18 rfl rfl ?_
    refine X.icmp_ne (q' := 26) (q := 22) own_d_prog_2_method_5_19 rfl rfl (by decide) rfl (fun c19 => ?_) (fun c19 => ?_)
    · refine X.iconst (q := 27) (0 : Int32) own_d_prog_2_method_5_26 (by decide) rfl ?_
      refine X.retN (t := .boolean) (z' := (0 : Int32)) own_d_prog_2_method_5_27 rfl (by simp) (by decide) (by decide) (by decide) ?_
      exact ⟨_, rfl, Kh1, by omega⟩
    · refine X.iconst (q := 23) (1 : Int32) own_d_prog_2_method_5_22 (by decide) rfl ?_
      refine X.goto (q' := 27) own_d_prog_2_method_5_23 (by decide) ?_
      refine X.retN (t := .boolean) (z' := (1 : Int32)) own_d_prog_2_method_5_27 rfl (by simp) (by decide) (by decide) (by decide) ?_
      exact ⟨_, rfl, Kh1, by omega⟩
def own_rm_own_n0 : Room := ({ frames := 3, cells := 1, slots := 3, locals := 51 } : Room)
set_option maxRecDepth 65536 in
set_option maxHeartbeats 1000000 in
theorem own_n0 (l : Launch) (Z : State) (a0 : Array Value) (hw : ∀ d ∈ tables_1, d.before a0 Z = true) (h : Heap) (n0 : Nat) (a b : Addr) (P E g : Int32) (hPE : E.toInt ≤ P.toInt)  (hn0 : n0 ≤ h.size) (B : Exa Z h a "com/example/dircred/dircred/credential/DerReader") (Fb : Fld Z h a "com/example/dircred/dircred/credential/DerReader" "bytes" "[B" (.ref b)) (Fp : Fld Z h a "com/example/dircred/dircred/credential/DerReader" "position" "I" (.int P)) (Fe : Fld Z h a "com/example/dircred/dircred/credential/DerReader" "end" "I" (.int E)) :
    OwM l Z (⟨"com/example/dircred/dircred/credential/DerReader", "nextIs", "(I)Z"⟩ : MethodName) prog_2_method_5_code 2 (some .boolean) own_rm_own_n0 1 3 [] #[(.ref a), (.int g)] h n0 (fun r h' => r = some (.int 0) ∧ h = h') := by
  refine OwM.of (Ls := #[.val (.ref a), .val (.int g)]) (by decide +kernel) (fun m => by first | (simp [entryFrame, mkF, argsToLocals, Value.category]; done) | rfl) ?_
  intro _ _ _ _ _ _ _ X
  have e0 : (0 : Int32).toInt = 0 := rfl
  have e1 : (1 : Int32).toInt = 1 := rfl
  refine X.aloadN (q := 1) own_d_prog_2_method_5_0 rfl rfl rfl ?_
  refine X.virtual (a := a) (own_hm l Z a0 hw h n0 a P E hn0 Fp Fe) (hw _ (List.mem_of_getElem? (i := 24) rfl)) (hw _ (List.mem_of_getElem? (i := 25) rfl)) (hw _ (List.mem_of_getElem? (i := 27) rfl)) (hw _ (List.mem_of_getElem? (i := 26) rfl)) (hw _ (List.mem_of_getElem? (i := 3) rfl)) (hw _ (List.mem_of_getElem? (i := 28) rfl)) (by decide) B own_pd5 (argsL := []) (rest := []) rfl rfl rfl (W := 0) (Nat.le_of_eq rfl) rfl (by decide) (by decide) (k' := 0) (n' := 0) rfl rfl (by decide) (by decide) own_d_prog_2_method_5_1 (q := 4) rfl ?_
  rintro _ _ ⟨z, rfl, hz, rfl⟩
  show X.G h 0 0 4 #[.val (.ref a), .val (.int g)] [(.int z)]
  refine X.if_eq (q' := 26) (q := 7) own_d_prog_2_method_5_4 rfl (by decide) rfl (fun c4 => ?_) (fun c4 => ?_)
  · refine X.iconst (q := 27) (0 : Int32) own_d_prog_2_method_5_26 (by decide) rfl ?_
    refine X.retN (t := .boolean) (z' := (0 : Int32)) own_d_prog_2_method_5_27 rfl (by simp) (by decide) (by decide) (by decide) ?_
    exact ⟨rfl, rfl⟩
  · omega
theorem own_pd6 : parseMethodDescriptor "([B)V" = some ⟨[(.array .byte)], none⟩ := by decide +kernel
theorem own_pd7 : parseMethodDescriptor "(I)Z" = some ⟨[.int], some .boolean⟩ := by decide +kernel
theorem own_pd8 : parseMethodDescriptor "()V" = some ⟨[], none⟩ := by decide +kernel
set_option maxRecDepth 65536 in
set_option maxHeartbeats 1000000 in
theorem own_law (l : Launch) (Z : State) (a0 : Array Value) (hw : ∀ d ∈ tables_1, d.before a0 Z = true) (h : Heap) (n0 : Nat) (hn0 : n0 ≤ h.size) (x0 x1 x2 x3 x4 : Int32)  :
    OwM l Z (⟨"com/example/dircred/dircred/credential/DerReaderNextIsPinLaw", "law", "(IIIII)Z"⟩ : MethodName) code 13 (some .boolean) room_1 24 128 tables_1 #[(.int x0), (.int x1), (.int x2), (.int x3), (.int x4)] h n0 (fun r h' => r = some (.int 1)) := by
  refine OwM.of (Ls := #[.val (.int x0), .val (.int x1), .val (.int x2), .val (.int x3), .val (.int x4), .unset, .unset, .unset, .unset, .unset, .unset, .unset, .unset]) (by decide +kernel) (fun m => by first | (simp [entryFrame, mkF, argsToLocals, Value.category]; done) | rfl) ?_
  intro _ _ _ _ _ _ _ X
  have e0 : (0 : Int32).toInt = 0 := rfl
  have e1 : (1 : Int32).toInt = 1 := rfl
  have e2 : (2 : Int32).toInt = 2 := rfl
  have e3 : (3 : Int32).toInt = 3 := rfl
  have em1 : (-1 : Int32).toInt = -1 := rfl
  have e4 : (4 : Int32).toInt = 4 := rfl
  have e5 : (5 : Int32).toInt = 5 := rfl
  have e6 : (6 : Int32).toInt = 6 := rfl
  have e7 : (7 : Int32).toInt = 7 := rfl
  refine X.iloadN (q := 1) at_0 rfl rfl ?_
  refine X.iconst (q := 2) (1 : Int32) at_1 (by decide) rfl ?_
  refine X.iand (q := 3) at_2 rfl ?_
  refine X.if_eq (q' := 10) (q := 6) at_3 rfl (by decide) rfl (fun c3 => ?_) (fun c3 => ?_)
  · refine X.iconst (q := 11) (0 : Int32) at_10 (by decide) rfl ?_
    refine X.istore (q := 13) (Ls' := #[.val (.int x0), .val (.int x1), .val (.int x2), .val (.int x3), .val (.int x4), .val (.int (0 : Int32)), .unset, .unset, .unset, .unset, .unset, .unset, .unset]) at_11 rfl rfl ?_
    refine X.iloadN (q := 14) at_13 rfl rfl ?_
    refine X.iconst (q := 15) (1 : Int32) at_14 (by decide) rfl ?_
    refine X.ishr (q := 16) at_15 rfl ?_
    refine X.iconst (q := 17) (3 : Int32) at_16 (by decide) rfl ?_
    refine X.iand (q := 18) at_17 rfl ?_
    refine X.if_ne (q' := 25) (q := 21) at_18 rfl (by decide) rfl (fun c18 => ?_) (fun c18 => ?_)
    · refine X.iconst (q := 26) (0 : Int32) at_25 (by decide) rfl ?_
      refine X.istore (q := 28) (Ls' := #[.val (.int x0), .val (.int x1), .val (.int x2), .val (.int x3), .val (.int x4), .val (.int (0 : Int32)), .val (.int (0 : Int32)), .unset, .unset, .unset, .unset, .unset, .unset]) at_26 rfl rfl ?_
      refine X.iload (q := 30) at_28 rfl rfl ?_
      refine X.if_eq (a := 0) (q' := 37) (q := 33) at_30 rfl (by decide) rfl (fun c30 => ?_) (fun c30 => ?_)
      · refine X.iconst (q := 38) (0 : Int32) at_37 (by decide) rfl ?_
        refine X.istore (q := 40) (Ls' := #[.val (.int x0), .val (.int x1), .val (.int x2), .val (.int x3), .val (.int x4), .val (.int (0 : Int32)), .val (.int (0 : Int32)), .val (.int (0 : Int32)), .unset, .unset, .unset, .unset, .unset]) at_38 rfl rfl ?_
        refine X.iloadN (q := 41) at_40 rfl rfl ?_
        refine X.sipush (q := 44) (255 : Int32) at_41 (by decide) rfl ?_
        refine X.iand (q := 45) at_44 rfl ?_
        refine X.nmI (fun t ht => ?_)
        have htr : 0 ≤ t.toInt ∧ t.toInt ≤ 255 := by rw [ht, Jvm.Kit.i32_mask (k := 8) _ _ (by decide) (by decide)]; omega
        clear ht
        refine X.istore (q := 47) (Ls' := #[.val (.int x0), .val (.int x1), .val (.int x2), .val (.int x3), .val (.int x4), .val (.int (0 : Int32)), .val (.int (0 : Int32)), .val (.int (0 : Int32)), .val (.int t), .unset, .unset, .unset, .unset]) at_45 rfl rfl ?_
        refine X.iload (q := 49) at_47 rfl rfl ?_
        refine X.if_eq (a := 0) (q' := 59) (q := 52) at_49 rfl (by decide) rfl (fun c49 => ?_) (fun c49 => ?_)
        · refine X.iload (q := 61) at_59 rfl rfl ?_
          refine X.bipush (q := 63) (6 : Int32) at_61 (by decide) rfl ?_
          refine X.iadd (q := 64) at_63 rfl ?_
          refine X.foldI (v := (6 : Int32)) (by decide) ?_
          refine X.newP (q := 66) (ty := .byte) (N := 6) (cap := 6) (k' := 1) (n' := 6) (hw _ (List.mem_of_getElem? (i := 0) rfl)) at_64 rfl rfl (Nat.le_refl _) (by decide) rfl rfl (by decide) (by decide) rfl (fun h1 a2 ga2 Eh1 Aa2 => ?_)
          have gea2 : n0 ≤ a2 := by rw [ga2]; exact hn0
          have hsh1 : n0 ≤ h1.size := Nat.le_trans hn0 Eh1.1
          have Aa2 : OwA Z h1 a2 .byte [(.int (0 : Int32)), (.int (0 : Int32)), (.int (0 : Int32)), (.int (0 : Int32)), (.int (0 : Int32)), (.int (0 : Int32))] := Aa2
          refine X.astore (q := 68) (Ls' := #[.val (.int x0), .val (.int x1), .val (.int x2), .val (.int x3), .val (.int x4), .val (.int (0 : Int32)), .val (.int (0 : Int32)), .val (.int (0 : Int32)), .val (.int t), .val (.ref a2), .unset, .unset, .unset]) at_66 rfl rfl rfl ?_
          refine X.iload (q := 70) at_68 rfl rfl ?_
          refine X.if_eq (a := 0) (q' := 83) (q := 73) at_70 rfl (by decide) rfl (fun c70 => ?_) (fun c70 => ?_)
          · refine X.iload (q := 85) at_83 rfl rfl ?_
            refine X.if_ne (a := 0) (q' := 276) (q := 88) at_85 rfl (by decide) rfl (fun c85 => ?_) (fun c85 => ?_)
            · omega
            · refine X.iload (q := 90) at_88 rfl rfl ?_
              refine X.istore (q := 92) (Ls' := #[.val (.int x0), .val (.int x1), .val (.int x2), .val (.int x3), .val (.int x4), .val (.int (0 : Int32)), .val (.int (0 : Int32)), .val (.int (0 : Int32)), .val (.int t), .val (.ref a2), .val (.int (0 : Int32)), .unset, .unset]) at_90 rfl rfl ?_
              have J276 : ∀ (L : List Int32) (q : Nat) (s : Nat) (S : Int32) (Ln : Int32) (v10 : Int32) (v11 : Int32) (v12 : Int32) (hh : Heap), (L.length = 6) → (∀ x ∈ L, -128 ≤ x.toInt ∧ x.toInt ≤ 127) → (own_hdr L 0 t q s S Ln) → (n0 ≤ hh.size) → (OwA Z hh a2 .byte (L.map Value.int)) →  X.G hh 1 6 276 #[.val (.int x0), .val (.int x1), .val (.int x2), .val (.int x3), .val (.int x4), .val (.int (0 : Int32)), .val (.int (0 : Int32)), .val (.int (0 : Int32)), .val (.int t), .val (.ref a2), .val (.int v10), .val (.int v11), .val (.int v12)] [] := by
                intro L q s S Ln v10 v11 v12 hh nL rL HH hshh AL
                refine X.newO (q := 279) (k' := 2) (n' := 9) (hw _ (List.mem_of_getElem? (i := 1) rfl)) (hw _ (List.mem_of_getElem? (i := 2) rfl)) (hw _ (List.mem_of_getElem? (i := 3) rfl)) at_276 rfl rfl (by decide) (by decide) rfl (fun h3 a4 ga4 Eh3 Ba4 Da4 => ?_)
                have la2_a4 : a2 < a4 := by have := AL.lt; rw [← ga4] at this; exact this
                have AL'h3 : OwA Z h3 a2 .byte (L.map Value.int) := OwA.ext (E := Eh3) AL
                have gea4 : n0 ≤ a4 := by rw [ga4]; exact hshh
                have hsh3 : n0 ≤ h3.size := Nat.le_trans hshh Eh3.1
                have Fa4_bytes : Fld Z h3 a4 "com/example/dircred/dircred/credential/DerReader" "bytes" "[B" .null := Da4 (Or.inr (hw _ (List.mem_of_getElem? (i := 14) rfl))) (ty := (.array .byte)) (by decide)
                have Fa4_position : Fld Z h3 a4 "com/example/dircred/dircred/credential/DerReader" "position" "I" (.int (0 : Int32)) := Da4 (Or.inl (hw _ (List.mem_of_getElem? (i := 16) rfl))) (ty := .int) (by decide)
                have Fa4_end : Fld Z h3 a4 "com/example/dircred/dircred/credential/DerReader" "end" "I" (.int (0 : Int32)) := Da4 (Or.inr (hw _ (List.mem_of_getElem? (i := 18) rfl))) (ty := .int) (by decide)
                refine X.dup (q := 280) at_279 rfl rfl ?_
                refine X.aload (q := 282) at_280 rfl rfl rfl ?_
                refine X.special (a := a4) (own_i1 l Z a0 hw h3 n0 a4 a2 L (6 : Int32) (by rw [nL]; rfl) hsh3 Ba4 Fa4_bytes Fa4_position Fa4_end AL'h3 gea4 (Nat.ne_of_gt la2_a4)) rfl (hw _ (List.mem_of_getElem? (i := 4) rfl)) (hw _ (List.mem_of_getElem? (i := 5) rfl)) (hw _ (List.mem_of_getElem? (i := 3) rfl)) (hw _ (List.mem_of_getElem? (i := 6) rfl)) (by decide) own_pd6 (argsL := [(.ref a2)]) (rest := [(.ref a4)]) rfl rfl rfl (W := 1) (Nat.le_of_eq rfl) rfl (by decide) (by decide) (k' := 2) (n' := 9) rfl rfl (by decide) (by decide) at_282 (q := 285) rfl ?_
                rintro _ h5 ⟨rfl, Kh5c, Db, Dp, De⟩
                have AL'h5 : OwA Z h5 a2 .byte (L.map Value.int) := OwA.keep AL'h3 Kh5c (ninS (Nat.ne_of_lt la2_a4) nin0)
                have Ba4'h5 : Exa Z h5 a4 "com/example/dircred/dircred/credential/DerReader" := Exa.keep Ba4 Kh5c
                have hsh5 : n0 ≤ h5.size := Nat.le_trans hsh3 Kh5c.1
                show X.G h5 2 9 285 #[.val (.int x0), .val (.int x1), .val (.int x2), .val (.int x3), .val (.int x4), .val (.int (0 : Int32)), .val (.int (0 : Int32)), .val (.int (0 : Int32)), .val (.int t), .val (.ref a2), .val (.int v10), .val (.int v11), .val (.int v12)] [(.ref a4)]
                refine X.astore (q := 287) (Ls' := #[.val (.int x0), .val (.int x1), .val (.int x2), .val (.int x3), .val (.int x4), .val (.int (0 : Int32)), .val (.int (0 : Int32)), .val (.int (0 : Int32)), .val (.int t), .val (.ref a2), .val (.ref a4), .val (.int v11), .val (.int v12)]) at_285 rfl rfl rfl ?_
                refine X.iload (q := 289) at_287 rfl rfl ?_
                refine X.if_eq (a := 0) (q' := 297) (q := 292) at_289 rfl (by decide) rfl (fun c289 => ?_) (fun c289 => ?_)
                · refine X.aload (q := 299) at_297 rfl rfl rfl ?_
                  refine X.iloadN (q := 300) at_299 rfl rfl ?_
                  refine X.virtual (a := a4) (own_nx l Z a0 hw h5 n0 a4 a2 L (0 : Int32) (6 : Int32) 0 t q s S Ln rL (by rw [nL]; rfl) (by rw [nL]; decide) rfl HH x2 hsh5 Ba4'h5 Db Dp De AL'h5) (hw _ (List.mem_of_getElem? (i := 19) rfl)) (hw _ (List.mem_of_getElem? (i := 20) rfl)) (hw _ (List.mem_of_getElem? (i := 22) rfl)) (hw _ (List.mem_of_getElem? (i := 21) rfl)) (hw _ (List.mem_of_getElem? (i := 3) rfl)) (hw _ (List.mem_of_getElem? (i := 23) rfl)) (by decide) Ba4'h5 own_pd7 (argsL := [(.int x2)]) (rest := []) rfl rfl rfl (W := 0) (Nat.le_of_eq rfl) rfl (by decide) (by decide) (k' := 3) (n' := 12) rfl rfl (by decide) (by decide) at_300 (q := 303) rfl ?_
                  rintro _ h6 ⟨z, rfl, Kh6c, hz⟩
                  have AL'h6 : OwA Z h6 a2 .byte (L.map Value.int) := OwA.keep AL'h5 Kh6c nin0
                  have Ba4'h6 : Exa Z h6 a4 "com/example/dircred/dircred/credential/DerReader" := Exa.keep Ba4'h5 Kh6c
                  have Db'h6 : Fld Z h6 a4 "com/example/dircred/dircred/credential/DerReader" "bytes" "[B" (.ref a2) := Fld.keep Db Kh6c nin0
                  have Dp'h6 : Fld Z h6 a4 "com/example/dircred/dircred/credential/DerReader" "position" "I" (.int (0 : Int32)) := Fld.keep Dp Kh6c nin0
                  have De'h6 : Fld Z h6 a4 "com/example/dircred/dircred/credential/DerReader" "end" "I" (.int (6 : Int32)) := Fld.keep De Kh6c nin0
                  have hsh6 : n0 ≤ h6.size := Nat.le_trans hsh5 Kh6c.1
                  show X.G h6 3 12 303 #[.val (.int x0), .val (.int x1), .val (.int x2), .val (.int x3), .val (.int x4), .val (.int (0 : Int32)), .val (.int (0 : Int32)), .val (.int (0 : Int32)), .val (.int t), .val (.ref a2), .val (.ref a4), .val (.int v11), .val (.int v12)] [(.int z)]
                  refine X.istore (q := 305) (Ls' := #[.val (.int x0), .val (.int x1), .val (.int x2), .val (.int x3), .val (.int x4), .val (.int (0 : Int32)), .val (.int (0 : Int32)), .val (.int (0 : Int32)), .val (.int t), .val (.ref a2), .val (.ref a4), .val (.int z), .val (.int v12)]) at_303 rfl rfl ?_
                  refine X.iload (q := 307) at_305 rfl rfl ?_
                  refine X.if_ne (a := 0) (q' := 320) (q := 310) at_307 rfl (by decide) rfl (fun c307 => ?_) (fun c307 => ?_)
                  · omega
                  · refine X.iload (q := 312) at_310 rfl rfl ?_
                    refine X.iloadN (q := 313) at_312 rfl rfl ?_
                    refine X.icmp_ne (q' := 320) (q := 316) at_313 rfl rfl (by decide) rfl (fun c313 => ?_) (fun c313 => ?_)
                    · refine X.iconst (q := 321) (0 : Int32) at_320 (by decide) rfl ?_
                      refine X.istore (q := 323) (Ls' := #[.val (.int x0), .val (.int x1), .val (.int x2), .val (.int x3), .val (.int x4), .val (.int (0 : Int32)), .val (.int (0 : Int32)), .val (.int (0 : Int32)), .val (.int t), .val (.ref a2), .val (.ref a4), .val (.int z), .val (.int (0 : Int32))]) at_321 rfl rfl ?_
                      refine X.iload (q := 325) at_323 rfl rfl ?_
                      refine X.iload (q := 327) at_325 rfl rfl ?_
                      refine X.icmp_ne (b := 0) (q' := 334) (q := 330) at_327 rfl rfl (by decide) rfl (fun c327 => ?_) (fun c327 => ?_)
                      · omega
                      · refine X.iconst (q := 331) (1 : Int32) at_330 (by decide) rfl ?_
                        refine X.goto (q' := 335) at_331 (by decide) ?_
                        refine X.retN (t := .boolean) (z' := (1 : Int32)) at_335 rfl (by simp) (by decide) (by decide) (by decide) ?_
                        rfl
                    · refine X.iconst (q := 317) (1 : Int32) at_316 (by decide) rfl ?_
                      refine X.goto (q' := 321) at_317 (by decide) ?_
                      refine X.istore (q := 323) (Ls' := #[.val (.int x0), .val (.int x1), .val (.int x2), .val (.int x3), .val (.int x4), .val (.int (0 : Int32)), .val (.int (0 : Int32)), .val (.int (0 : Int32)), .val (.int t), .val (.ref a2), .val (.ref a4), .val (.int z), .val (.int (1 : Int32))]) at_321 rfl rfl ?_
                      refine X.iload (q := 325) at_323 rfl rfl ?_
                      refine X.iload (q := 327) at_325 rfl rfl ?_
                      refine X.icmp_ne (b := 1) (q' := 334) (q := 330) at_327 rfl rfl (by decide) rfl (fun c327 => ?_) (fun c327 => ?_)
                      · omega
                      · refine X.iconst (q := 331) (1 : Int32) at_330 (by decide) rfl ?_
                        refine X.goto (q' := 335) at_331 (by decide) ?_
                        refine X.retN (t := .boolean) (z' := (1 : Int32)) at_335 rfl (by simp) (by decide) (by decide) (by decide) ?_
                        rfl
                · omega
              refine X.aload (q := 94) at_92 rfl rfl rfl ?_
              refine X.iload (q := 96) at_94 rfl rfl ?_
              refine X.iload (q := 98) at_96 rfl rfl ?_
              refine X.i2b (q := 99) at_98 rfl ?_
              refine X.bastore (q := 100) (j := 0) Aa2 rfl (by simp) gea2 at_99 rfl (fun h7 Wh7 Ah7 => ?_)
              have hsh7 : n0 ≤ h7.size := by rw [Wr.size Wh7]; exact hsh1
              have Ah7_ : OwA Z h7 a2 .byte [(.int (nar .byte t.toInt8.toInt32)), (.int (0 : Int32)), (.int (0 : Int32)), (.int (0 : Int32)), (.int (0 : Int32)), (.int (0 : Int32))] := Ah7
              refine X.iinc (q := 103) (Ls' := #[.val (.int x0), .val (.int x1), .val (.int x2), .val (.int x3), .val (.int x4), .val (.int (0 : Int32)), .val (.int (0 : Int32)), .val (.int (0 : Int32)), .val (.int t), .val (.ref a2), .val (.int (1 : Int32)), .unset, .unset]) (1 : Int32) at_100 (by decide) rfl rfl rfl ?_
              refine X.iload (q := 105) at_103 rfl rfl ?_
              refine X.bipush (q := 107) (31 : Int32) at_105 (by decide) rfl ?_
              refine X.iand (q := 108) at_107 rfl ?_
              refine X.nmI (fun t31 ht31 => ?_)
              have ht31_ : t31.toInt = t.toInt % 32 := by rw [ht31, Jvm.Kit.i32_mask (k := 5) _ _ (by decide) (by decide)]; rfl
              clear ht31
              refine X.bipush (q := 110) (31 : Int32) at_108 (by decide) rfl ?_
              refine X.icmp_ne (b := 31) (q' := 154) (q := 113) at_110 rfl rfl (by decide) rfl (fun c110 => ?_) (fun c110 => ?_)
              · refine X.iload (q := 156) at_154 rfl rfl ?_
                refine X.iconst (q := 157) (3 : Int32) at_156 (by decide) rfl ?_
                refine X.iand (q := 158) at_157 rfl ?_
                refine X.nmI (fun ls hls => ?_)
                have hlsr : 0 ≤ ls.toInt ∧ ls.toInt ≤ 3 := by rw [hls, Jvm.Kit.i32_mask (k := 2) _ _ (by decide) (by decide)]; omega
                clear hls
                refine X.istore (q := 160) (Ls' := #[.val (.int x0), .val (.int x1), .val (.int x2), .val (.int x3), .val (.int x4), .val (.int (0 : Int32)), .val (.int (0 : Int32)), .val (.int (0 : Int32)), .val (.int t), .val (.ref a2), .val (.int (1 : Int32)), .val (.int ls), .unset]) at_158 rfl rfl ?_
                refine X.iload (q := 162) at_160 rfl rfl ?_
                refine X.if_ne (q' := 169) (q := 165) at_162 rfl (by decide) rfl (fun c162 => ?_) (fun c162 => ?_)
                · refine X.iconst (q := 170) (1 : Int32) at_169 (by decide) rfl ?_
                  refine X.istore (q := 172) (Ls' := #[.val (.int x0), .val (.int x1), .val (.int x2), .val (.int x3), .val (.int x4), .val (.int (0 : Int32)), .val (.int (0 : Int32)), .val (.int (0 : Int32)), .val (.int t), .val (.ref a2), .val (.int (1 : Int32)), .val (.int ls), .val (.int (1 : Int32))]) at_170 rfl rfl ?_
                  refine X.iload (q := 174) at_172 rfl rfl ?_
                  refine X.if_ne (q' := 189) (q := 177) at_174 rfl (by decide) rfl (fun c174 => ?_) (fun c174 => ?_)
                  · refine X.iload (q := 191) at_189 rfl rfl ?_
                    refine X.iconst (q := 192) (1 : Int32) at_191 (by decide) rfl ?_
                    refine X.icmp_ne (b := 1) (q' := 209) (q := 195) at_192 rfl rfl (by decide) rfl (fun c192 => ?_) (fun c192 => ?_)
                    · refine X.iload (q := 211) at_209 rfl rfl ?_
                      refine X.iconst (q := 212) (2 : Int32) at_211 (by decide) rfl ?_
                      refine X.icmp_ne (b := 2) (q' := 239) (q := 215) at_212 rfl rfl (by decide) rfl (fun c212 => ?_) (fun c212 => ?_)
                      · refine X.iload (q := 241) at_239 rfl rfl ?_
                        refine X.bipush (q := 243) (32 : Int32) at_241 (by decide) rfl ?_
                        refine X.iand (q := 244) at_243 rfl ?_
                        refine X.nmI (fun t32 ht32 => ?_)
                        have ht32a := own_b5 t (by omega) (by omega)
                        rw [← ht32] at ht32a
                        clear ht32
                        have ht32_ : (t32.toInt = 0 ∧ t.toInt / 32 % 2 = 0) ∨ (¬ t32.toInt = 0 ∧ t.toInt / 32 % 2 = 1) := by omega
                        clear ht32a
                        refine X.if_eq (q' := 257) (q := 247) at_244 rfl (by decide) rfl (fun c244 => ?_) (fun c244 => ?_)
                        · refine X.aload (q := 259) at_257 rfl rfl rfl ?_
                          refine X.iload (q := 261) at_259 rfl rfl ?_
                          refine X.iconst (q := 262) (0 : Int32) at_261 (by decide) rfl ?_
                          refine X.bastore (q := 263) (j := 1) Ah7_ rfl (by simp) gea2 at_262 rfl (fun h8 Wh8 Ah8 => ?_)
                          have hsh8 : n0 ≤ h8.size := by rw [Wr.size Wh8]; exact hsh7
                          have Ah8_ : OwA Z h8 a2 .byte [(.int (nar .byte t.toInt8.toInt32)), (.int (nar .byte (0 : Int32))), (.int (0 : Int32)), (.int (0 : Int32)), (.int (0 : Int32)), (.int (0 : Int32))] := Ah8
                          refine X.iinc (q := 266) (Ls' := #[.val (.int x0), .val (.int x1), .val (.int x2), .val (.int x3), .val (.int x4), .val (.int (0 : Int32)), .val (.int (0 : Int32)), .val (.int (0 : Int32)), .val (.int t), .val (.ref a2), .val (.int (2 : Int32)), .val (.int ls), .val (.int (1 : Int32))]) (1 : Int32) at_263 (by decide) rfl rfl rfl ?_
                          refine X.aload (q := 268) at_266 rfl rfl rfl ?_
                          refine X.iload (q := 270) at_268 rfl rfl ?_
                          refine X.iloadN (q := 271) at_270 rfl rfl ?_
                          refine X.bipush (q := 273) (16 : Int32) at_271 (by decide) rfl ?_
                          refine X.ishr (q := 274) at_273 rfl ?_
                          refine X.nmI (fun xc hxc => ?_)
                          clear hxc
                          refine X.i2b (q := 275) at_274 rfl ?_
                          refine X.bastore (q := 276) (j := 2) Ah8_ rfl (by simp) gea2 at_275 rfl (fun h9 Wh9 Ah9 => ?_)
                          have hsh9 : n0 ≤ h9.size := by rw [Wr.size Wh9]; exact hsh8
                          have Ah9_ : OwA Z h9 a2 .byte [(.int (nar .byte t.toInt8.toInt32)), (.int (nar .byte (0 : Int32))), (.int (nar .byte xc.toInt8.toInt32)), (.int (0 : Int32)), (.int (0 : Int32)), (.int (0 : Int32))] := Ah9
                          obtain ⟨L, hL⟩ : ∃ L_ : List Int32, L_ = [(nar .byte t.toInt8.toInt32), (nar .byte (0 : Int32)), (nar .byte xc.toInt8.toInt32), (0 : Int32), (0 : Int32), (0 : Int32)] := ⟨_, rfl⟩
                          have AL : OwA Z h9 a2 .byte (L.map Value.int) := by rw [hL]; exact Ah9_
                          have nL : L.length = 6 := by rw [hL]; rfl
                          have gL0 : (L.getD 0 0).toInt = (t.toInt + 128) % 256 - 128 := by rw [hL]; exact own_nbt _
                          have gL1 : (L.getD 1 0).toInt = 0 := by rw [hL]; rfl
                          have gL2 : (L.getD 2 0).toInt = (xc.toInt + 128) % 256 - 128 := by rw [hL]; exact own_nbt _
                          have gL3 : (L.getD 3 0).toInt = 0 := by rw [hL]; rfl
                          have gL4 : (L.getD 4 0).toInt = 0 := by rw [hL]; rfl
                          have gL5 : (L.getD 5 0).toInt = 0 := by rw [hL]; rfl
                          have rL : ∀ x ∈ L, -128 ≤ x.toInt ∧ x.toInt ≤ 127 := by
                            intro x hx; rw [hL] at hx
                            simp only [List.mem_cons, List.not_mem_nil, or_false] at hx
                            rcases hx with rfl | rfl | rfl | rfl | rfl | rfl
                            · rw [own_nbt]; omega
                            · exact ⟨by decide, by decide⟩
                            · rw [own_nbt]; omega
                            · exact ⟨by decide, by decide⟩
                            · exact ⟨by decide, by decide⟩
                            · exact ⟨by decide, by decide⟩
                          clear hL
                          exact J276 L 1 2 (2 : Int32) (0 : Int32) _ _ _ _ (by exact nL) (by exact rL) (by unfold own_hdr; simp only [nL, Nat.reduceAdd, and_true]; refine ⟨?_, ?_, ?_, ?_, ?_, ?_, ?_, ?_⟩ <;> first | omega | rfl) hsh9 AL
                        · refine X.aload (q := 249) at_247 rfl rfl rfl ?_
                          refine X.iload (q := 251) at_249 rfl rfl ?_
                          refine X.bipush (q := 253) (-128 : Int32) at_251 (by decide) rfl ?_
                          refine X.bastore (q := 254) (j := 1) Ah7_ rfl (by simp) gea2 at_253 rfl (fun h10 Wh10 Ah10 => ?_)
                          have hsh10 : n0 ≤ h10.size := by rw [Wr.size Wh10]; exact hsh7
                          have Ah10_ : OwA Z h10 a2 .byte [(.int (nar .byte t.toInt8.toInt32)), (.int (nar .byte (-128 : Int32))), (.int (0 : Int32)), (.int (0 : Int32)), (.int (0 : Int32)), (.int (0 : Int32))] := Ah10
                          refine X.goto (q' := 263) at_254 (by decide) ?_
                          refine X.iinc (q := 266) (Ls' := #[.val (.int x0), .val (.int x1), .val (.int x2), .val (.int x3), .val (.int x4), .val (.int (0 : Int32)), .val (.int (0 : Int32)), .val (.int (0 : Int32)), .val (.int t), .val (.ref a2), .val (.int (2 : Int32)), .val (.int ls), .val (.int (1 : Int32))]) (1 : Int32) at_263 (by decide) rfl rfl rfl ?_
                          refine X.aload (q := 268) at_266 rfl rfl rfl ?_
                          refine X.iload (q := 270) at_268 rfl rfl ?_
                          refine X.iloadN (q := 271) at_270 rfl rfl ?_
                          refine X.bipush (q := 273) (16 : Int32) at_271 (by decide) rfl ?_
                          refine X.ishr (q := 274) at_273 rfl ?_
                          refine X.nmI (fun xc hxc => ?_)
                          clear hxc
                          refine X.i2b (q := 275) at_274 rfl ?_
                          refine X.bastore (q := 276) (j := 2) Ah10_ rfl (by simp) gea2 at_275 rfl (fun h11 Wh11 Ah11 => ?_)
                          have hsh11 : n0 ≤ h11.size := by rw [Wr.size Wh11]; exact hsh10
                          have Ah11_ : OwA Z h11 a2 .byte [(.int (nar .byte t.toInt8.toInt32)), (.int (nar .byte (-128 : Int32))), (.int (nar .byte xc.toInt8.toInt32)), (.int (0 : Int32)), (.int (0 : Int32)), (.int (0 : Int32))] := Ah11
                          obtain ⟨L, hL⟩ : ∃ L_ : List Int32, L_ = [(nar .byte t.toInt8.toInt32), (nar .byte (-128 : Int32)), (nar .byte xc.toInt8.toInt32), (0 : Int32), (0 : Int32), (0 : Int32)] := ⟨_, rfl⟩
                          have AL : OwA Z h11 a2 .byte (L.map Value.int) := by rw [hL]; exact Ah11_
                          have nL : L.length = 6 := by rw [hL]; rfl
                          have gL0 : (L.getD 0 0).toInt = (t.toInt + 128) % 256 - 128 := by rw [hL]; exact own_nbt _
                          have gL1 : (L.getD 1 0).toInt = -128 := by rw [hL]; rfl
                          have gL2 : (L.getD 2 0).toInt = (xc.toInt + 128) % 256 - 128 := by rw [hL]; exact own_nbt _
                          have gL3 : (L.getD 3 0).toInt = 0 := by rw [hL]; rfl
                          have gL4 : (L.getD 4 0).toInt = 0 := by rw [hL]; rfl
                          have gL5 : (L.getD 5 0).toInt = 0 := by rw [hL]; rfl
                          have rL : ∀ x ∈ L, -128 ≤ x.toInt ∧ x.toInt ≤ 127 := by
                            intro x hx; rw [hL] at hx
                            simp only [List.mem_cons, List.not_mem_nil, or_false] at hx
                            rcases hx with rfl | rfl | rfl | rfl | rfl | rfl
                            · rw [own_nbt]; omega
                            · exact ⟨by decide, by decide⟩
                            · rw [own_nbt]; omega
                            · exact ⟨by decide, by decide⟩
                            · exact ⟨by decide, by decide⟩
                            · exact ⟨by decide, by decide⟩
                          clear hL
                          exact J276 L 1 2 (2 : Int32) (-1 : Int32) _ _ _ _ (by exact nL) (by exact rL) (by unfold own_hdr; simp only [nL, Nat.reduceAdd, and_true]; refine ⟨?_, ?_, ?_, ?_, ?_, ?_, ?_, ?_⟩ <;> first | omega | rfl) hsh11 AL
                      · refine X.aload (q := 217) at_215 rfl rfl rfl ?_
                        refine X.iload (q := 219) at_217 rfl rfl ?_
                        refine X.bipush (q := 221) (-127 : Int32) at_219 (by decide) rfl ?_
                        refine X.bastore (q := 222) (j := 1) Ah7_ rfl (by simp) gea2 at_221 rfl (fun h12 Wh12 Ah12 => ?_)
                        have hsh12 : n0 ≤ h12.size := by rw [Wr.size Wh12]; exact hsh7
                        have Ah12_ : OwA Z h12 a2 .byte [(.int (nar .byte t.toInt8.toInt32)), (.int (nar .byte (-127 : Int32))), (.int (0 : Int32)), (.int (0 : Int32)), (.int (0 : Int32)), (.int (0 : Int32))] := Ah12
                        refine X.iinc (q := 225) (Ls' := #[.val (.int x0), .val (.int x1), .val (.int x2), .val (.int x3), .val (.int x4), .val (.int (0 : Int32)), .val (.int (0 : Int32)), .val (.int (0 : Int32)), .val (.int t), .val (.ref a2), .val (.int (2 : Int32)), .val (.int ls), .val (.int (1 : Int32))]) (1 : Int32) at_222 (by decide) rfl rfl rfl ?_
                        refine X.aload (q := 227) at_225 rfl rfl rfl ?_
                        refine X.iload (q := 229) at_227 rfl rfl ?_
                        refine X.iload (q := 231) at_229 rfl rfl ?_
                        refine X.i2b (q := 232) at_231 rfl ?_
                        refine X.bastore (q := 233) (j := 2) Ah12_ rfl (by simp) gea2 at_232 rfl (fun h13 Wh13 Ah13 => ?_)
                        have hsh13 : n0 ≤ h13.size := by rw [Wr.size Wh13]; exact hsh12
                        have Ah13_ : OwA Z h13 a2 .byte [(.int (nar .byte t.toInt8.toInt32)), (.int (nar .byte (-127 : Int32))), (.int (nar .byte (1 : Int32).toInt8.toInt32)), (.int (0 : Int32)), (.int (0 : Int32)), (.int (0 : Int32))] := Ah13
                        refine X.iinc (q := 236) (Ls' := #[.val (.int x0), .val (.int x1), .val (.int x2), .val (.int x3), .val (.int x4), .val (.int (0 : Int32)), .val (.int (0 : Int32)), .val (.int (0 : Int32)), .val (.int t), .val (.ref a2), .val (.int (3 : Int32)), .val (.int ls), .val (.int (1 : Int32))]) (1 : Int32) at_233 (by decide) rfl rfl rfl ?_
                        refine X.goto (q' := 266) at_236 (by decide) ?_
                        refine X.aload (q := 268) at_266 rfl rfl rfl ?_
                        refine X.iload (q := 270) at_268 rfl rfl ?_
                        refine X.iloadN (q := 271) at_270 rfl rfl ?_
                        refine X.bipush (q := 273) (16 : Int32) at_271 (by decide) rfl ?_
                        refine X.ishr (q := 274) at_273 rfl ?_
                        refine X.nmI (fun xc hxc => ?_)
                        clear hxc
                        refine X.i2b (q := 275) at_274 rfl ?_
                        refine X.bastore (q := 276) (j := 3) Ah13_ rfl (by simp) gea2 at_275 rfl (fun h14 Wh14 Ah14 => ?_)
                        have hsh14 : n0 ≤ h14.size := by rw [Wr.size Wh14]; exact hsh13
                        have Ah14_ : OwA Z h14 a2 .byte [(.int (nar .byte t.toInt8.toInt32)), (.int (nar .byte (-127 : Int32))), (.int (nar .byte (1 : Int32).toInt8.toInt32)), (.int (nar .byte xc.toInt8.toInt32)), (.int (0 : Int32)), (.int (0 : Int32))] := Ah14
                        obtain ⟨L, hL⟩ : ∃ L_ : List Int32, L_ = [(nar .byte t.toInt8.toInt32), (nar .byte (-127 : Int32)), (nar .byte (1 : Int32).toInt8.toInt32), (nar .byte xc.toInt8.toInt32), (0 : Int32), (0 : Int32)] := ⟨_, rfl⟩
                        have AL : OwA Z h14 a2 .byte (L.map Value.int) := by rw [hL]; exact Ah14_
                        have nL : L.length = 6 := by rw [hL]; rfl
                        have gL0 : (L.getD 0 0).toInt = (t.toInt + 128) % 256 - 128 := by rw [hL]; exact own_nbt _
                        have gL1 : (L.getD 1 0).toInt = -127 := by rw [hL]; rfl
                        have gL2 : (L.getD 2 0).toInt = ((1 : Int32).toInt + 128) % 256 - 128 := by rw [hL]; exact own_nbt _
                        have gL3 : (L.getD 3 0).toInt = (xc.toInt + 128) % 256 - 128 := by rw [hL]; exact own_nbt _
                        have gL4 : (L.getD 4 0).toInt = 0 := by rw [hL]; rfl
                        have gL5 : (L.getD 5 0).toInt = 0 := by rw [hL]; rfl
                        have rL : ∀ x ∈ L, -128 ≤ x.toInt ∧ x.toInt ≤ 127 := by
                          intro x hx; rw [hL] at hx
                          simp only [List.mem_cons, List.not_mem_nil, or_false] at hx
                          rcases hx with rfl | rfl | rfl | rfl | rfl | rfl
                          · rw [own_nbt]; omega
                          · exact ⟨by decide, by decide⟩
                          · rw [own_nbt]; omega
                          · rw [own_nbt]; omega
                          · exact ⟨by decide, by decide⟩
                          · exact ⟨by decide, by decide⟩
                        clear hL
                        exact J276 L 1 3 (3 : Int32) (1 : Int32) _ _ _ _ (by exact nL) (by exact rL) (by unfold own_hdr; simp only [nL, Nat.reduceAdd, and_true]; refine ⟨?_, ?_, ?_, ?_, ?_, ?_, ?_, ?_⟩ <;> first | omega | rfl) hsh14 AL
                    · refine X.aload (q := 197) at_195 rfl rfl rfl ?_
                      refine X.iload (q := 199) at_197 rfl rfl ?_
                      refine X.iload (q := 201) at_199 rfl rfl ?_
                      refine X.i2b (q := 202) at_201 rfl ?_
                      refine X.bastore (q := 203) (j := 1) Ah7_ rfl (by simp) gea2 at_202 rfl (fun h15 Wh15 Ah15 => ?_)
                      have hsh15 : n0 ≤ h15.size := by rw [Wr.size Wh15]; exact hsh7
                      have Ah15_ : OwA Z h15 a2 .byte [(.int (nar .byte t.toInt8.toInt32)), (.int (nar .byte (1 : Int32).toInt8.toInt32)), (.int (0 : Int32)), (.int (0 : Int32)), (.int (0 : Int32)), (.int (0 : Int32))] := Ah15
                      refine X.iinc (q := 206) (Ls' := #[.val (.int x0), .val (.int x1), .val (.int x2), .val (.int x3), .val (.int x4), .val (.int (0 : Int32)), .val (.int (0 : Int32)), .val (.int (0 : Int32)), .val (.int t), .val (.ref a2), .val (.int (2 : Int32)), .val (.int ls), .val (.int (1 : Int32))]) (1 : Int32) at_203 (by decide) rfl rfl rfl ?_
                      refine X.goto (q' := 266) at_206 (by decide) ?_
                      refine X.aload (q := 268) at_266 rfl rfl rfl ?_
                      refine X.iload (q := 270) at_268 rfl rfl ?_
                      refine X.iloadN (q := 271) at_270 rfl rfl ?_
                      refine X.bipush (q := 273) (16 : Int32) at_271 (by decide) rfl ?_
                      refine X.ishr (q := 274) at_273 rfl ?_
                      refine X.nmI (fun xc hxc => ?_)
                      clear hxc
                      refine X.i2b (q := 275) at_274 rfl ?_
                      refine X.bastore (q := 276) (j := 2) Ah15_ rfl (by simp) gea2 at_275 rfl (fun h16 Wh16 Ah16 => ?_)
                      have hsh16 : n0 ≤ h16.size := by rw [Wr.size Wh16]; exact hsh15
                      have Ah16_ : OwA Z h16 a2 .byte [(.int (nar .byte t.toInt8.toInt32)), (.int (nar .byte (1 : Int32).toInt8.toInt32)), (.int (nar .byte xc.toInt8.toInt32)), (.int (0 : Int32)), (.int (0 : Int32)), (.int (0 : Int32))] := Ah16
                      obtain ⟨L, hL⟩ : ∃ L_ : List Int32, L_ = [(nar .byte t.toInt8.toInt32), (nar .byte (1 : Int32).toInt8.toInt32), (nar .byte xc.toInt8.toInt32), (0 : Int32), (0 : Int32), (0 : Int32)] := ⟨_, rfl⟩
                      have AL : OwA Z h16 a2 .byte (L.map Value.int) := by rw [hL]; exact Ah16_
                      have nL : L.length = 6 := by rw [hL]; rfl
                      have gL0 : (L.getD 0 0).toInt = (t.toInt + 128) % 256 - 128 := by rw [hL]; exact own_nbt _
                      have gL1 : (L.getD 1 0).toInt = ((1 : Int32).toInt + 128) % 256 - 128 := by rw [hL]; exact own_nbt _
                      have gL2 : (L.getD 2 0).toInt = (xc.toInt + 128) % 256 - 128 := by rw [hL]; exact own_nbt _
                      have gL3 : (L.getD 3 0).toInt = 0 := by rw [hL]; rfl
                      have gL4 : (L.getD 4 0).toInt = 0 := by rw [hL]; rfl
                      have gL5 : (L.getD 5 0).toInt = 0 := by rw [hL]; rfl
                      have rL : ∀ x ∈ L, -128 ≤ x.toInt ∧ x.toInt ≤ 127 := by
                        intro x hx; rw [hL] at hx
                        simp only [List.mem_cons, List.not_mem_nil, or_false] at hx
                        rcases hx with rfl | rfl | rfl | rfl | rfl | rfl
                        · rw [own_nbt]; omega
                        · rw [own_nbt]; omega
                        · rw [own_nbt]; omega
                        · exact ⟨by decide, by decide⟩
                        · exact ⟨by decide, by decide⟩
                        · exact ⟨by decide, by decide⟩
                      clear hL
                      exact J276 L 1 2 (2 : Int32) (1 : Int32) _ _ _ _ (by exact nL) (by exact rL) (by unfold own_hdr; simp only [nL, Nat.reduceAdd, and_true]; refine ⟨?_, ?_, ?_, ?_, ?_, ?_, ?_, ?_⟩ <;> first | omega | rfl) hsh16 AL
                  · refine X.aload (q := 179) at_177 rfl rfl rfl ?_
                    refine X.iload (q := 181) at_179 rfl rfl ?_
                    refine X.iconst (q := 182) (0 : Int32) at_181 (by decide) rfl ?_
                    refine X.bastore (q := 183) (j := 1) Ah7_ rfl (by simp) gea2 at_182 rfl (fun h17 Wh17 Ah17 => ?_)
                    have hsh17 : n0 ≤ h17.size := by rw [Wr.size Wh17]; exact hsh7
                    have Ah17_ : OwA Z h17 a2 .byte [(.int (nar .byte t.toInt8.toInt32)), (.int (nar .byte (0 : Int32))), (.int (0 : Int32)), (.int (0 : Int32)), (.int (0 : Int32)), (.int (0 : Int32))] := Ah17
                    refine X.iinc (q := 186) (Ls' := #[.val (.int x0), .val (.int x1), .val (.int x2), .val (.int x3), .val (.int x4), .val (.int (0 : Int32)), .val (.int (0 : Int32)), .val (.int (0 : Int32)), .val (.int t), .val (.ref a2), .val (.int (2 : Int32)), .val (.int ls), .val (.int (1 : Int32))]) (1 : Int32) at_183 (by decide) rfl rfl rfl ?_
                    refine X.goto (q' := 266) at_186 (by decide) ?_
                    refine X.aload (q := 268) at_266 rfl rfl rfl ?_
                    refine X.iload (q := 270) at_268 rfl rfl ?_
                    refine X.iloadN (q := 271) at_270 rfl rfl ?_
                    refine X.bipush (q := 273) (16 : Int32) at_271 (by decide) rfl ?_
                    refine X.ishr (q := 274) at_273 rfl ?_
                    refine X.nmI (fun xc hxc => ?_)
                    clear hxc
                    refine X.i2b (q := 275) at_274 rfl ?_
                    refine X.bastore (q := 276) (j := 2) Ah17_ rfl (by simp) gea2 at_275 rfl (fun h18 Wh18 Ah18 => ?_)
                    have hsh18 : n0 ≤ h18.size := by rw [Wr.size Wh18]; exact hsh17
                    have Ah18_ : OwA Z h18 a2 .byte [(.int (nar .byte t.toInt8.toInt32)), (.int (nar .byte (0 : Int32))), (.int (nar .byte xc.toInt8.toInt32)), (.int (0 : Int32)), (.int (0 : Int32)), (.int (0 : Int32))] := Ah18
                    obtain ⟨L, hL⟩ : ∃ L_ : List Int32, L_ = [(nar .byte t.toInt8.toInt32), (nar .byte (0 : Int32)), (nar .byte xc.toInt8.toInt32), (0 : Int32), (0 : Int32), (0 : Int32)] := ⟨_, rfl⟩
                    have AL : OwA Z h18 a2 .byte (L.map Value.int) := by rw [hL]; exact Ah18_
                    have nL : L.length = 6 := by rw [hL]; rfl
                    have gL0 : (L.getD 0 0).toInt = (t.toInt + 128) % 256 - 128 := by rw [hL]; exact own_nbt _
                    have gL1 : (L.getD 1 0).toInt = 0 := by rw [hL]; rfl
                    have gL2 : (L.getD 2 0).toInt = (xc.toInt + 128) % 256 - 128 := by rw [hL]; exact own_nbt _
                    have gL3 : (L.getD 3 0).toInt = 0 := by rw [hL]; rfl
                    have gL4 : (L.getD 4 0).toInt = 0 := by rw [hL]; rfl
                    have gL5 : (L.getD 5 0).toInt = 0 := by rw [hL]; rfl
                    have rL : ∀ x ∈ L, -128 ≤ x.toInt ∧ x.toInt ≤ 127 := by
                      intro x hx; rw [hL] at hx
                      simp only [List.mem_cons, List.not_mem_nil, or_false] at hx
                      rcases hx with rfl | rfl | rfl | rfl | rfl | rfl
                      · rw [own_nbt]; omega
                      · exact ⟨by decide, by decide⟩
                      · rw [own_nbt]; omega
                      · exact ⟨by decide, by decide⟩
                      · exact ⟨by decide, by decide⟩
                      · exact ⟨by decide, by decide⟩
                    clear hL
                    exact J276 L 1 2 (2 : Int32) (0 : Int32) _ _ _ _ (by exact nL) (by exact rL) (by unfold own_hdr; simp only [nL, Nat.reduceAdd, and_true]; refine ⟨?_, ?_, ?_, ?_, ?_, ?_, ?_, ?_⟩ <;> first | omega | rfl) hsh18 AL
                · refine X.iconst (q := 166) (0 : Int32) at_165 (by decide) rfl ?_
                  refine X.goto (q' := 170) at_166 (by decide) ?_
                  refine X.istore (q := 172) (Ls' := #[.val (.int x0), .val (.int x1), .val (.int x2), .val (.int x3), .val (.int x4), .val (.int (0 : Int32)), .val (.int (0 : Int32)), .val (.int (0 : Int32)), .val (.int t), .val (.ref a2), .val (.int (1 : Int32)), .val (.int ls), .val (.int (0 : Int32))]) at_170 rfl rfl ?_
                  refine X.iload (q := 174) at_172 rfl rfl ?_
                  refine X.if_ne (q' := 189) (q := 177) at_174 rfl (by decide) rfl (fun c174 => ?_) (fun c174 => ?_)
                  · refine X.iload (q := 191) at_189 rfl rfl ?_
                    refine X.iconst (q := 192) (1 : Int32) at_191 (by decide) rfl ?_
                    refine X.icmp_ne (b := 1) (q' := 209) (q := 195) at_192 rfl rfl (by decide) rfl (fun c192 => ?_) (fun c192 => ?_)
                    · refine X.iload (q := 211) at_209 rfl rfl ?_
                      refine X.iconst (q := 212) (2 : Int32) at_211 (by decide) rfl ?_
                      refine X.icmp_ne (b := 2) (q' := 239) (q := 215) at_212 rfl rfl (by decide) rfl (fun c212 => ?_) (fun c212 => ?_)
                      · refine X.iload (q := 241) at_239 rfl rfl ?_
                        refine X.bipush (q := 243) (32 : Int32) at_241 (by decide) rfl ?_
                        refine X.iand (q := 244) at_243 rfl ?_
                        refine X.nmI (fun t32 ht32 => ?_)
                        have ht32a := own_b5 t (by omega) (by omega)
                        rw [← ht32] at ht32a
                        clear ht32
                        have ht32_ : (t32.toInt = 0 ∧ t.toInt / 32 % 2 = 0) ∨ (¬ t32.toInt = 0 ∧ t.toInt / 32 % 2 = 1) := by omega
                        clear ht32a
                        refine X.if_eq (q' := 257) (q := 247) at_244 rfl (by decide) rfl (fun c244 => ?_) (fun c244 => ?_)
                        · refine X.aload (q := 259) at_257 rfl rfl rfl ?_
                          refine X.iload (q := 261) at_259 rfl rfl ?_
                          refine X.iconst (q := 262) (0 : Int32) at_261 (by decide) rfl ?_
                          refine X.bastore (q := 263) (j := 1) Ah7_ rfl (by simp) gea2 at_262 rfl (fun h19 Wh19 Ah19 => ?_)
                          have hsh19 : n0 ≤ h19.size := by rw [Wr.size Wh19]; exact hsh7
                          have Ah19_ : OwA Z h19 a2 .byte [(.int (nar .byte t.toInt8.toInt32)), (.int (nar .byte (0 : Int32))), (.int (0 : Int32)), (.int (0 : Int32)), (.int (0 : Int32)), (.int (0 : Int32))] := Ah19
                          refine X.iinc (q := 266) (Ls' := #[.val (.int x0), .val (.int x1), .val (.int x2), .val (.int x3), .val (.int x4), .val (.int (0 : Int32)), .val (.int (0 : Int32)), .val (.int (0 : Int32)), .val (.int t), .val (.ref a2), .val (.int (2 : Int32)), .val (.int ls), .val (.int (0 : Int32))]) (1 : Int32) at_263 (by decide) rfl rfl rfl ?_
                          refine X.aload (q := 268) at_266 rfl rfl rfl ?_
                          refine X.iload (q := 270) at_268 rfl rfl ?_
                          refine X.iloadN (q := 271) at_270 rfl rfl ?_
                          refine X.bipush (q := 273) (16 : Int32) at_271 (by decide) rfl ?_
                          refine X.ishr (q := 274) at_273 rfl ?_
                          refine X.nmI (fun xc hxc => ?_)
                          clear hxc
                          refine X.i2b (q := 275) at_274 rfl ?_
                          refine X.bastore (q := 276) (j := 2) Ah19_ rfl (by simp) gea2 at_275 rfl (fun h20 Wh20 Ah20 => ?_)
                          have hsh20 : n0 ≤ h20.size := by rw [Wr.size Wh20]; exact hsh19
                          have Ah20_ : OwA Z h20 a2 .byte [(.int (nar .byte t.toInt8.toInt32)), (.int (nar .byte (0 : Int32))), (.int (nar .byte xc.toInt8.toInt32)), (.int (0 : Int32)), (.int (0 : Int32)), (.int (0 : Int32))] := Ah20
                          obtain ⟨L, hL⟩ : ∃ L_ : List Int32, L_ = [(nar .byte t.toInt8.toInt32), (nar .byte (0 : Int32)), (nar .byte xc.toInt8.toInt32), (0 : Int32), (0 : Int32), (0 : Int32)] := ⟨_, rfl⟩
                          have AL : OwA Z h20 a2 .byte (L.map Value.int) := by rw [hL]; exact Ah20_
                          have nL : L.length = 6 := by rw [hL]; rfl
                          have gL0 : (L.getD 0 0).toInt = (t.toInt + 128) % 256 - 128 := by rw [hL]; exact own_nbt _
                          have gL1 : (L.getD 1 0).toInt = 0 := by rw [hL]; rfl
                          have gL2 : (L.getD 2 0).toInt = (xc.toInt + 128) % 256 - 128 := by rw [hL]; exact own_nbt _
                          have gL3 : (L.getD 3 0).toInt = 0 := by rw [hL]; rfl
                          have gL4 : (L.getD 4 0).toInt = 0 := by rw [hL]; rfl
                          have gL5 : (L.getD 5 0).toInt = 0 := by rw [hL]; rfl
                          have rL : ∀ x ∈ L, -128 ≤ x.toInt ∧ x.toInt ≤ 127 := by
                            intro x hx; rw [hL] at hx
                            simp only [List.mem_cons, List.not_mem_nil, or_false] at hx
                            rcases hx with rfl | rfl | rfl | rfl | rfl | rfl
                            · rw [own_nbt]; omega
                            · exact ⟨by decide, by decide⟩
                            · rw [own_nbt]; omega
                            · exact ⟨by decide, by decide⟩
                            · exact ⟨by decide, by decide⟩
                            · exact ⟨by decide, by decide⟩
                          clear hL
                          exact J276 L 1 2 (2 : Int32) (0 : Int32) _ _ _ _ (by exact nL) (by exact rL) (by unfold own_hdr; simp only [nL, Nat.reduceAdd, and_true]; refine ⟨?_, ?_, ?_, ?_, ?_, ?_, ?_, ?_⟩ <;> first | omega | rfl) hsh20 AL
                        · omega
                      · refine X.aload (q := 217) at_215 rfl rfl rfl ?_
                        refine X.iload (q := 219) at_217 rfl rfl ?_
                        refine X.bipush (q := 221) (-127 : Int32) at_219 (by decide) rfl ?_
                        refine X.bastore (q := 222) (j := 1) Ah7_ rfl (by simp) gea2 at_221 rfl (fun h21 Wh21 Ah21 => ?_)
                        have hsh21 : n0 ≤ h21.size := by rw [Wr.size Wh21]; exact hsh7
                        have Ah21_ : OwA Z h21 a2 .byte [(.int (nar .byte t.toInt8.toInt32)), (.int (nar .byte (-127 : Int32))), (.int (0 : Int32)), (.int (0 : Int32)), (.int (0 : Int32)), (.int (0 : Int32))] := Ah21
                        refine X.iinc (q := 225) (Ls' := #[.val (.int x0), .val (.int x1), .val (.int x2), .val (.int x3), .val (.int x4), .val (.int (0 : Int32)), .val (.int (0 : Int32)), .val (.int (0 : Int32)), .val (.int t), .val (.ref a2), .val (.int (2 : Int32)), .val (.int ls), .val (.int (0 : Int32))]) (1 : Int32) at_222 (by decide) rfl rfl rfl ?_
                        refine X.aload (q := 227) at_225 rfl rfl rfl ?_
                        refine X.iload (q := 229) at_227 rfl rfl ?_
                        refine X.iload (q := 231) at_229 rfl rfl ?_
                        refine X.i2b (q := 232) at_231 rfl ?_
                        refine X.bastore (q := 233) (j := 2) Ah21_ rfl (by simp) gea2 at_232 rfl (fun h22 Wh22 Ah22 => ?_)
                        have hsh22 : n0 ≤ h22.size := by rw [Wr.size Wh22]; exact hsh21
                        have Ah22_ : OwA Z h22 a2 .byte [(.int (nar .byte t.toInt8.toInt32)), (.int (nar .byte (-127 : Int32))), (.int (nar .byte (0 : Int32).toInt8.toInt32)), (.int (0 : Int32)), (.int (0 : Int32)), (.int (0 : Int32))] := Ah22
                        refine X.iinc (q := 236) (Ls' := #[.val (.int x0), .val (.int x1), .val (.int x2), .val (.int x3), .val (.int x4), .val (.int (0 : Int32)), .val (.int (0 : Int32)), .val (.int (0 : Int32)), .val (.int t), .val (.ref a2), .val (.int (3 : Int32)), .val (.int ls), .val (.int (0 : Int32))]) (1 : Int32) at_233 (by decide) rfl rfl rfl ?_
                        refine X.goto (q' := 266) at_236 (by decide) ?_
                        refine X.aload (q := 268) at_266 rfl rfl rfl ?_
                        refine X.iload (q := 270) at_268 rfl rfl ?_
                        refine X.iloadN (q := 271) at_270 rfl rfl ?_
                        refine X.bipush (q := 273) (16 : Int32) at_271 (by decide) rfl ?_
                        refine X.ishr (q := 274) at_273 rfl ?_
                        refine X.nmI (fun xc hxc => ?_)
                        clear hxc
                        refine X.i2b (q := 275) at_274 rfl ?_
                        refine X.bastore (q := 276) (j := 3) Ah22_ rfl (by simp) gea2 at_275 rfl (fun h23 Wh23 Ah23 => ?_)
                        have hsh23 : n0 ≤ h23.size := by rw [Wr.size Wh23]; exact hsh22
                        have Ah23_ : OwA Z h23 a2 .byte [(.int (nar .byte t.toInt8.toInt32)), (.int (nar .byte (-127 : Int32))), (.int (nar .byte (0 : Int32).toInt8.toInt32)), (.int (nar .byte xc.toInt8.toInt32)), (.int (0 : Int32)), (.int (0 : Int32))] := Ah23
                        obtain ⟨L, hL⟩ : ∃ L_ : List Int32, L_ = [(nar .byte t.toInt8.toInt32), (nar .byte (-127 : Int32)), (nar .byte (0 : Int32).toInt8.toInt32), (nar .byte xc.toInt8.toInt32), (0 : Int32), (0 : Int32)] := ⟨_, rfl⟩
                        have AL : OwA Z h23 a2 .byte (L.map Value.int) := by rw [hL]; exact Ah23_
                        have nL : L.length = 6 := by rw [hL]; rfl
                        have gL0 : (L.getD 0 0).toInt = (t.toInt + 128) % 256 - 128 := by rw [hL]; exact own_nbt _
                        have gL1 : (L.getD 1 0).toInt = -127 := by rw [hL]; rfl
                        have gL2 : (L.getD 2 0).toInt = ((0 : Int32).toInt + 128) % 256 - 128 := by rw [hL]; exact own_nbt _
                        have gL3 : (L.getD 3 0).toInt = (xc.toInt + 128) % 256 - 128 := by rw [hL]; exact own_nbt _
                        have gL4 : (L.getD 4 0).toInt = 0 := by rw [hL]; rfl
                        have gL5 : (L.getD 5 0).toInt = 0 := by rw [hL]; rfl
                        have rL : ∀ x ∈ L, -128 ≤ x.toInt ∧ x.toInt ≤ 127 := by
                          intro x hx; rw [hL] at hx
                          simp only [List.mem_cons, List.not_mem_nil, or_false] at hx
                          rcases hx with rfl | rfl | rfl | rfl | rfl | rfl
                          · rw [own_nbt]; omega
                          · exact ⟨by decide, by decide⟩
                          · rw [own_nbt]; omega
                          · rw [own_nbt]; omega
                          · exact ⟨by decide, by decide⟩
                          · exact ⟨by decide, by decide⟩
                        clear hL
                        exact J276 L 1 3 (3 : Int32) (0 : Int32) _ _ _ _ (by exact nL) (by exact rL) (by unfold own_hdr; simp only [nL, Nat.reduceAdd, and_true]; refine ⟨?_, ?_, ?_, ?_, ?_, ?_, ?_, ?_⟩ <;> first | omega | rfl) hsh23 AL
                    · refine X.aload (q := 197) at_195 rfl rfl rfl ?_
                      refine X.iload (q := 199) at_197 rfl rfl ?_
                      refine X.iload (q := 201) at_199 rfl rfl ?_
                      refine X.i2b (q := 202) at_201 rfl ?_
                      refine X.bastore (q := 203) (j := 1) Ah7_ rfl (by simp) gea2 at_202 rfl (fun h24 Wh24 Ah24 => ?_)
                      have hsh24 : n0 ≤ h24.size := by rw [Wr.size Wh24]; exact hsh7
                      have Ah24_ : OwA Z h24 a2 .byte [(.int (nar .byte t.toInt8.toInt32)), (.int (nar .byte (0 : Int32).toInt8.toInt32)), (.int (0 : Int32)), (.int (0 : Int32)), (.int (0 : Int32)), (.int (0 : Int32))] := Ah24
                      refine X.iinc (q := 206) (Ls' := #[.val (.int x0), .val (.int x1), .val (.int x2), .val (.int x3), .val (.int x4), .val (.int (0 : Int32)), .val (.int (0 : Int32)), .val (.int (0 : Int32)), .val (.int t), .val (.ref a2), .val (.int (2 : Int32)), .val (.int ls), .val (.int (0 : Int32))]) (1 : Int32) at_203 (by decide) rfl rfl rfl ?_
                      refine X.goto (q' := 266) at_206 (by decide) ?_
                      refine X.aload (q := 268) at_266 rfl rfl rfl ?_
                      refine X.iload (q := 270) at_268 rfl rfl ?_
                      refine X.iloadN (q := 271) at_270 rfl rfl ?_
                      refine X.bipush (q := 273) (16 : Int32) at_271 (by decide) rfl ?_
                      refine X.ishr (q := 274) at_273 rfl ?_
                      refine X.nmI (fun xc hxc => ?_)
                      clear hxc
                      refine X.i2b (q := 275) at_274 rfl ?_
                      refine X.bastore (q := 276) (j := 2) Ah24_ rfl (by simp) gea2 at_275 rfl (fun h25 Wh25 Ah25 => ?_)
                      have hsh25 : n0 ≤ h25.size := by rw [Wr.size Wh25]; exact hsh24
                      have Ah25_ : OwA Z h25 a2 .byte [(.int (nar .byte t.toInt8.toInt32)), (.int (nar .byte (0 : Int32).toInt8.toInt32)), (.int (nar .byte xc.toInt8.toInt32)), (.int (0 : Int32)), (.int (0 : Int32)), (.int (0 : Int32))] := Ah25
                      obtain ⟨L, hL⟩ : ∃ L_ : List Int32, L_ = [(nar .byte t.toInt8.toInt32), (nar .byte (0 : Int32).toInt8.toInt32), (nar .byte xc.toInt8.toInt32), (0 : Int32), (0 : Int32), (0 : Int32)] := ⟨_, rfl⟩
                      have AL : OwA Z h25 a2 .byte (L.map Value.int) := by rw [hL]; exact Ah25_
                      have nL : L.length = 6 := by rw [hL]; rfl
                      have gL0 : (L.getD 0 0).toInt = (t.toInt + 128) % 256 - 128 := by rw [hL]; exact own_nbt _
                      have gL1 : (L.getD 1 0).toInt = ((0 : Int32).toInt + 128) % 256 - 128 := by rw [hL]; exact own_nbt _
                      have gL2 : (L.getD 2 0).toInt = (xc.toInt + 128) % 256 - 128 := by rw [hL]; exact own_nbt _
                      have gL3 : (L.getD 3 0).toInt = 0 := by rw [hL]; rfl
                      have gL4 : (L.getD 4 0).toInt = 0 := by rw [hL]; rfl
                      have gL5 : (L.getD 5 0).toInt = 0 := by rw [hL]; rfl
                      have rL : ∀ x ∈ L, -128 ≤ x.toInt ∧ x.toInt ≤ 127 := by
                        intro x hx; rw [hL] at hx
                        simp only [List.mem_cons, List.not_mem_nil, or_false] at hx
                        rcases hx with rfl | rfl | rfl | rfl | rfl | rfl
                        · rw [own_nbt]; omega
                        · rw [own_nbt]; omega
                        · rw [own_nbt]; omega
                        · exact ⟨by decide, by decide⟩
                        · exact ⟨by decide, by decide⟩
                        · exact ⟨by decide, by decide⟩
                      clear hL
                      exact J276 L 1 2 (2 : Int32) (0 : Int32) _ _ _ _ (by exact nL) (by exact rL) (by unfold own_hdr; simp only [nL, Nat.reduceAdd, and_true]; refine ⟨?_, ?_, ?_, ?_, ?_, ?_, ?_, ?_⟩ <;> first | omega | rfl) hsh25 AL
                  · refine X.aload (q := 179) at_177 rfl rfl rfl ?_
                    refine X.iload (q := 181) at_179 rfl rfl ?_
                    refine X.iconst (q := 182) (0 : Int32) at_181 (by decide) rfl ?_
                    refine X.bastore (q := 183) (j := 1) Ah7_ rfl (by simp) gea2 at_182 rfl (fun h26 Wh26 Ah26 => ?_)
                    have hsh26 : n0 ≤ h26.size := by rw [Wr.size Wh26]; exact hsh7
                    have Ah26_ : OwA Z h26 a2 .byte [(.int (nar .byte t.toInt8.toInt32)), (.int (nar .byte (0 : Int32))), (.int (0 : Int32)), (.int (0 : Int32)), (.int (0 : Int32)), (.int (0 : Int32))] := Ah26
                    refine X.iinc (q := 186) (Ls' := #[.val (.int x0), .val (.int x1), .val (.int x2), .val (.int x3), .val (.int x4), .val (.int (0 : Int32)), .val (.int (0 : Int32)), .val (.int (0 : Int32)), .val (.int t), .val (.ref a2), .val (.int (2 : Int32)), .val (.int ls), .val (.int (0 : Int32))]) (1 : Int32) at_183 (by decide) rfl rfl rfl ?_
                    refine X.goto (q' := 266) at_186 (by decide) ?_
                    refine X.aload (q := 268) at_266 rfl rfl rfl ?_
                    refine X.iload (q := 270) at_268 rfl rfl ?_
                    refine X.iloadN (q := 271) at_270 rfl rfl ?_
                    refine X.bipush (q := 273) (16 : Int32) at_271 (by decide) rfl ?_
                    refine X.ishr (q := 274) at_273 rfl ?_
                    refine X.nmI (fun xc hxc => ?_)
                    clear hxc
                    refine X.i2b (q := 275) at_274 rfl ?_
                    refine X.bastore (q := 276) (j := 2) Ah26_ rfl (by simp) gea2 at_275 rfl (fun h27 Wh27 Ah27 => ?_)
                    have hsh27 : n0 ≤ h27.size := by rw [Wr.size Wh27]; exact hsh26
                    have Ah27_ : OwA Z h27 a2 .byte [(.int (nar .byte t.toInt8.toInt32)), (.int (nar .byte (0 : Int32))), (.int (nar .byte xc.toInt8.toInt32)), (.int (0 : Int32)), (.int (0 : Int32)), (.int (0 : Int32))] := Ah27
                    obtain ⟨L, hL⟩ : ∃ L_ : List Int32, L_ = [(nar .byte t.toInt8.toInt32), (nar .byte (0 : Int32)), (nar .byte xc.toInt8.toInt32), (0 : Int32), (0 : Int32), (0 : Int32)] := ⟨_, rfl⟩
                    have AL : OwA Z h27 a2 .byte (L.map Value.int) := by rw [hL]; exact Ah27_
                    have nL : L.length = 6 := by rw [hL]; rfl
                    have gL0 : (L.getD 0 0).toInt = (t.toInt + 128) % 256 - 128 := by rw [hL]; exact own_nbt _
                    have gL1 : (L.getD 1 0).toInt = 0 := by rw [hL]; rfl
                    have gL2 : (L.getD 2 0).toInt = (xc.toInt + 128) % 256 - 128 := by rw [hL]; exact own_nbt _
                    have gL3 : (L.getD 3 0).toInt = 0 := by rw [hL]; rfl
                    have gL4 : (L.getD 4 0).toInt = 0 := by rw [hL]; rfl
                    have gL5 : (L.getD 5 0).toInt = 0 := by rw [hL]; rfl
                    have rL : ∀ x ∈ L, -128 ≤ x.toInt ∧ x.toInt ≤ 127 := by
                      intro x hx; rw [hL] at hx
                      simp only [List.mem_cons, List.not_mem_nil, or_false] at hx
                      rcases hx with rfl | rfl | rfl | rfl | rfl | rfl
                      · rw [own_nbt]; omega
                      · exact ⟨by decide, by decide⟩
                      · rw [own_nbt]; omega
                      · exact ⟨by decide, by decide⟩
                      · exact ⟨by decide, by decide⟩
                      · exact ⟨by decide, by decide⟩
                    clear hL
                    exact J276 L 1 2 (2 : Int32) (0 : Int32) _ _ _ _ (by exact nL) (by exact rL) (by unfold own_hdr; simp only [nL, Nat.reduceAdd, and_true]; refine ⟨?_, ?_, ?_, ?_, ?_, ?_, ?_, ?_⟩ <;> first | omega | rfl) hsh27 AL
              · refine X.iloadN (q := 114) at_113 rfl rfl ?_
                refine X.iconst (q := 115) (1 : Int32) at_114 (by decide) rfl ?_
                refine X.iand (q := 116) at_115 rfl ?_
                refine X.if_eq (q' := 138) (q := 119) at_116 rfl (by decide) rfl (fun c116 => ?_) (fun c116 => ?_)
                · refine X.aload (q := 140) at_138 rfl rfl rfl ?_
                  refine X.iload (q := 142) at_140 rfl rfl ?_
                  refine X.iloadN (q := 143) at_142 rfl rfl ?_
                  refine X.bipush (q := 145) (8 : Int32) at_143 (by decide) rfl ?_
                  refine X.ishr (q := 146) at_145 rfl ?_
                  refine X.bipush (q := 148) (127 : Int32) at_146 (by decide) rfl ?_
                  refine X.iand (q := 149) at_148 rfl ?_
                  refine X.nmI (fun xb hxb => ?_)
                  have hxb_ : 0 ≤ xb.toInt ∧ xb.toInt ≤ 127 := by rw [hxb, Jvm.Kit.i32_mask (k := 7) _ _ (by decide) (by decide)]; omega
                  clear hxb
                  refine X.i2b (q := 150) at_149 rfl ?_
                  refine X.bastore (q := 151) (j := 1) Ah7_ rfl (by simp) gea2 at_150 rfl (fun h28 Wh28 Ah28 => ?_)
                  have hsh28 : n0 ≤ h28.size := by rw [Wr.size Wh28]; exact hsh7
                  have Ah28_ : OwA Z h28 a2 .byte [(.int (nar .byte t.toInt8.toInt32)), (.int (nar .byte xb.toInt8.toInt32)), (.int (0 : Int32)), (.int (0 : Int32)), (.int (0 : Int32)), (.int (0 : Int32))] := Ah28
                  refine X.iinc (q := 154) (Ls' := #[.val (.int x0), .val (.int x1), .val (.int x2), .val (.int x3), .val (.int x4), .val (.int (0 : Int32)), .val (.int (0 : Int32)), .val (.int (0 : Int32)), .val (.int t), .val (.ref a2), .val (.int (2 : Int32)), .unset, .unset]) (1 : Int32) at_151 (by decide) rfl rfl rfl ?_
                  refine X.iload (q := 156) at_154 rfl rfl ?_
                  refine X.iconst (q := 157) (3 : Int32) at_156 (by decide) rfl ?_
                  refine X.iand (q := 158) at_157 rfl ?_
                  refine X.nmI (fun ls hls => ?_)
                  have hlsr : 0 ≤ ls.toInt ∧ ls.toInt ≤ 3 := by rw [hls, Jvm.Kit.i32_mask (k := 2) _ _ (by decide) (by decide)]; omega
                  clear hls
                  refine X.istore (q := 160) (Ls' := #[.val (.int x0), .val (.int x1), .val (.int x2), .val (.int x3), .val (.int x4), .val (.int (0 : Int32)), .val (.int (0 : Int32)), .val (.int (0 : Int32)), .val (.int t), .val (.ref a2), .val (.int (2 : Int32)), .val (.int ls), .unset]) at_158 rfl rfl ?_
                  refine X.iload (q := 162) at_160 rfl rfl ?_
                  refine X.if_ne (q' := 169) (q := 165) at_162 rfl (by decide) rfl (fun c162 => ?_) (fun c162 => ?_)
                  · refine X.iconst (q := 170) (1 : Int32) at_169 (by decide) rfl ?_
                    refine X.istore (q := 172) (Ls' := #[.val (.int x0), .val (.int x1), .val (.int x2), .val (.int x3), .val (.int x4), .val (.int (0 : Int32)), .val (.int (0 : Int32)), .val (.int (0 : Int32)), .val (.int t), .val (.ref a2), .val (.int (2 : Int32)), .val (.int ls), .val (.int (1 : Int32))]) at_170 rfl rfl ?_
                    refine X.iload (q := 174) at_172 rfl rfl ?_
                    refine X.if_ne (q' := 189) (q := 177) at_174 rfl (by decide) rfl (fun c174 => ?_) (fun c174 => ?_)
                    · refine X.iload (q := 191) at_189 rfl rfl ?_
                      refine X.iconst (q := 192) (1 : Int32) at_191 (by decide) rfl ?_
                      refine X.icmp_ne (b := 1) (q' := 209) (q := 195) at_192 rfl rfl (by decide) rfl (fun c192 => ?_) (fun c192 => ?_)
                      · refine X.iload (q := 211) at_209 rfl rfl ?_
                        refine X.iconst (q := 212) (2 : Int32) at_211 (by decide) rfl ?_
                        refine X.icmp_ne (b := 2) (q' := 239) (q := 215) at_212 rfl rfl (by decide) rfl (fun c212 => ?_) (fun c212 => ?_)
                        · refine X.iload (q := 241) at_239 rfl rfl ?_
                          refine X.bipush (q := 243) (32 : Int32) at_241 (by decide) rfl ?_
                          refine X.iand (q := 244) at_243 rfl ?_
                          refine X.nmI (fun t32 ht32 => ?_)
                          have ht32a := own_b5 t (by omega) (by omega)
                          rw [← ht32] at ht32a
                          clear ht32
                          have ht32_ : (t32.toInt = 0 ∧ t.toInt / 32 % 2 = 0) ∨ (¬ t32.toInt = 0 ∧ t.toInt / 32 % 2 = 1) := by omega
                          clear ht32a
                          refine X.if_eq (q' := 257) (q := 247) at_244 rfl (by decide) rfl (fun c244 => ?_) (fun c244 => ?_)
                          · refine X.aload (q := 259) at_257 rfl rfl rfl ?_
                            refine X.iload (q := 261) at_259 rfl rfl ?_
                            refine X.iconst (q := 262) (0 : Int32) at_261 (by decide) rfl ?_
                            refine X.bastore (q := 263) (j := 2) Ah28_ rfl (by simp) gea2 at_262 rfl (fun h29 Wh29 Ah29 => ?_)
                            have hsh29 : n0 ≤ h29.size := by rw [Wr.size Wh29]; exact hsh28
                            have Ah29_ : OwA Z h29 a2 .byte [(.int (nar .byte t.toInt8.toInt32)), (.int (nar .byte xb.toInt8.toInt32)), (.int (nar .byte (0 : Int32))), (.int (0 : Int32)), (.int (0 : Int32)), (.int (0 : Int32))] := Ah29
                            refine X.iinc (q := 266) (Ls' := #[.val (.int x0), .val (.int x1), .val (.int x2), .val (.int x3), .val (.int x4), .val (.int (0 : Int32)), .val (.int (0 : Int32)), .val (.int (0 : Int32)), .val (.int t), .val (.ref a2), .val (.int (3 : Int32)), .val (.int ls), .val (.int (1 : Int32))]) (1 : Int32) at_263 (by decide) rfl rfl rfl ?_
                            refine X.aload (q := 268) at_266 rfl rfl rfl ?_
                            refine X.iload (q := 270) at_268 rfl rfl ?_
                            refine X.iloadN (q := 271) at_270 rfl rfl ?_
                            refine X.bipush (q := 273) (16 : Int32) at_271 (by decide) rfl ?_
                            refine X.ishr (q := 274) at_273 rfl ?_
                            refine X.nmI (fun xc hxc => ?_)
                            clear hxc
                            refine X.i2b (q := 275) at_274 rfl ?_
                            refine X.bastore (q := 276) (j := 3) Ah29_ rfl (by simp) gea2 at_275 rfl (fun h30 Wh30 Ah30 => ?_)
                            have hsh30 : n0 ≤ h30.size := by rw [Wr.size Wh30]; exact hsh29
                            have Ah30_ : OwA Z h30 a2 .byte [(.int (nar .byte t.toInt8.toInt32)), (.int (nar .byte xb.toInt8.toInt32)), (.int (nar .byte (0 : Int32))), (.int (nar .byte xc.toInt8.toInt32)), (.int (0 : Int32)), (.int (0 : Int32))] := Ah30
                            obtain ⟨L, hL⟩ : ∃ L_ : List Int32, L_ = [(nar .byte t.toInt8.toInt32), (nar .byte xb.toInt8.toInt32), (nar .byte (0 : Int32)), (nar .byte xc.toInt8.toInt32), (0 : Int32), (0 : Int32)] := ⟨_, rfl⟩
                            have AL : OwA Z h30 a2 .byte (L.map Value.int) := by rw [hL]; exact Ah30_
                            have nL : L.length = 6 := by rw [hL]; rfl
                            have gL0 : (L.getD 0 0).toInt = (t.toInt + 128) % 256 - 128 := by rw [hL]; exact own_nbt _
                            have gL1 : (L.getD 1 0).toInt = (xb.toInt + 128) % 256 - 128 := by rw [hL]; exact own_nbt _
                            have gL2 : (L.getD 2 0).toInt = 0 := by rw [hL]; rfl
                            have gL3 : (L.getD 3 0).toInt = (xc.toInt + 128) % 256 - 128 := by rw [hL]; exact own_nbt _
                            have gL4 : (L.getD 4 0).toInt = 0 := by rw [hL]; rfl
                            have gL5 : (L.getD 5 0).toInt = 0 := by rw [hL]; rfl
                            have rL : ∀ x ∈ L, -128 ≤ x.toInt ∧ x.toInt ≤ 127 := by
                              intro x hx; rw [hL] at hx
                              simp only [List.mem_cons, List.not_mem_nil, or_false] at hx
                              rcases hx with rfl | rfl | rfl | rfl | rfl | rfl
                              · rw [own_nbt]; omega
                              · rw [own_nbt]; omega
                              · exact ⟨by decide, by decide⟩
                              · rw [own_nbt]; omega
                              · exact ⟨by decide, by decide⟩
                              · exact ⟨by decide, by decide⟩
                            clear hL
                            exact J276 L 2 3 (3 : Int32) (0 : Int32) _ _ _ _ (by exact nL) (by exact rL) (by unfold own_hdr; simp only [nL, Nat.reduceAdd, and_true]; refine ⟨?_, ?_, ?_, ?_, ?_, ?_, ?_, ?_⟩ <;> first | omega | rfl) hsh30 AL
                          · refine X.aload (q := 249) at_247 rfl rfl rfl ?_
                            refine X.iload (q := 251) at_249 rfl rfl ?_
                            refine X.bipush (q := 253) (-128 : Int32) at_251 (by decide) rfl ?_
                            refine X.bastore (q := 254) (j := 2) Ah28_ rfl (by simp) gea2 at_253 rfl (fun h31 Wh31 Ah31 => ?_)
                            have hsh31 : n0 ≤ h31.size := by rw [Wr.size Wh31]; exact hsh28
                            have Ah31_ : OwA Z h31 a2 .byte [(.int (nar .byte t.toInt8.toInt32)), (.int (nar .byte xb.toInt8.toInt32)), (.int (nar .byte (-128 : Int32))), (.int (0 : Int32)), (.int (0 : Int32)), (.int (0 : Int32))] := Ah31
                            refine X.goto (q' := 263) at_254 (by decide) ?_
                            refine X.iinc (q := 266) (Ls' := #[.val (.int x0), .val (.int x1), .val (.int x2), .val (.int x3), .val (.int x4), .val (.int (0 : Int32)), .val (.int (0 : Int32)), .val (.int (0 : Int32)), .val (.int t), .val (.ref a2), .val (.int (3 : Int32)), .val (.int ls), .val (.int (1 : Int32))]) (1 : Int32) at_263 (by decide) rfl rfl rfl ?_
                            refine X.aload (q := 268) at_266 rfl rfl rfl ?_
                            refine X.iload (q := 270) at_268 rfl rfl ?_
                            refine X.iloadN (q := 271) at_270 rfl rfl ?_
                            refine X.bipush (q := 273) (16 : Int32) at_271 (by decide) rfl ?_
                            refine X.ishr (q := 274) at_273 rfl ?_
                            refine X.nmI (fun xc hxc => ?_)
                            clear hxc
                            refine X.i2b (q := 275) at_274 rfl ?_
                            refine X.bastore (q := 276) (j := 3) Ah31_ rfl (by simp) gea2 at_275 rfl (fun h32 Wh32 Ah32 => ?_)
                            have hsh32 : n0 ≤ h32.size := by rw [Wr.size Wh32]; exact hsh31
                            have Ah32_ : OwA Z h32 a2 .byte [(.int (nar .byte t.toInt8.toInt32)), (.int (nar .byte xb.toInt8.toInt32)), (.int (nar .byte (-128 : Int32))), (.int (nar .byte xc.toInt8.toInt32)), (.int (0 : Int32)), (.int (0 : Int32))] := Ah32
                            obtain ⟨L, hL⟩ : ∃ L_ : List Int32, L_ = [(nar .byte t.toInt8.toInt32), (nar .byte xb.toInt8.toInt32), (nar .byte (-128 : Int32)), (nar .byte xc.toInt8.toInt32), (0 : Int32), (0 : Int32)] := ⟨_, rfl⟩
                            have AL : OwA Z h32 a2 .byte (L.map Value.int) := by rw [hL]; exact Ah32_
                            have nL : L.length = 6 := by rw [hL]; rfl
                            have gL0 : (L.getD 0 0).toInt = (t.toInt + 128) % 256 - 128 := by rw [hL]; exact own_nbt _
                            have gL1 : (L.getD 1 0).toInt = (xb.toInt + 128) % 256 - 128 := by rw [hL]; exact own_nbt _
                            have gL2 : (L.getD 2 0).toInt = -128 := by rw [hL]; rfl
                            have gL3 : (L.getD 3 0).toInt = (xc.toInt + 128) % 256 - 128 := by rw [hL]; exact own_nbt _
                            have gL4 : (L.getD 4 0).toInt = 0 := by rw [hL]; rfl
                            have gL5 : (L.getD 5 0).toInt = 0 := by rw [hL]; rfl
                            have rL : ∀ x ∈ L, -128 ≤ x.toInt ∧ x.toInt ≤ 127 := by
                              intro x hx; rw [hL] at hx
                              simp only [List.mem_cons, List.not_mem_nil, or_false] at hx
                              rcases hx with rfl | rfl | rfl | rfl | rfl | rfl
                              · rw [own_nbt]; omega
                              · rw [own_nbt]; omega
                              · exact ⟨by decide, by decide⟩
                              · rw [own_nbt]; omega
                              · exact ⟨by decide, by decide⟩
                              · exact ⟨by decide, by decide⟩
                            clear hL
                            exact J276 L 2 3 (3 : Int32) (-1 : Int32) _ _ _ _ (by exact nL) (by exact rL) (by unfold own_hdr; simp only [nL, Nat.reduceAdd, and_true]; refine ⟨?_, ?_, ?_, ?_, ?_, ?_, ?_, ?_⟩ <;> first | omega | rfl) hsh32 AL
                        · refine X.aload (q := 217) at_215 rfl rfl rfl ?_
                          refine X.iload (q := 219) at_217 rfl rfl ?_
                          refine X.bipush (q := 221) (-127 : Int32) at_219 (by decide) rfl ?_
                          refine X.bastore (q := 222) (j := 2) Ah28_ rfl (by simp) gea2 at_221 rfl (fun h33 Wh33 Ah33 => ?_)
                          have hsh33 : n0 ≤ h33.size := by rw [Wr.size Wh33]; exact hsh28
                          have Ah33_ : OwA Z h33 a2 .byte [(.int (nar .byte t.toInt8.toInt32)), (.int (nar .byte xb.toInt8.toInt32)), (.int (nar .byte (-127 : Int32))), (.int (0 : Int32)), (.int (0 : Int32)), (.int (0 : Int32))] := Ah33
                          refine X.iinc (q := 225) (Ls' := #[.val (.int x0), .val (.int x1), .val (.int x2), .val (.int x3), .val (.int x4), .val (.int (0 : Int32)), .val (.int (0 : Int32)), .val (.int (0 : Int32)), .val (.int t), .val (.ref a2), .val (.int (3 : Int32)), .val (.int ls), .val (.int (1 : Int32))]) (1 : Int32) at_222 (by decide) rfl rfl rfl ?_
                          refine X.aload (q := 227) at_225 rfl rfl rfl ?_
                          refine X.iload (q := 229) at_227 rfl rfl ?_
                          refine X.iload (q := 231) at_229 rfl rfl ?_
                          refine X.i2b (q := 232) at_231 rfl ?_
                          refine X.bastore (q := 233) (j := 3) Ah33_ rfl (by simp) gea2 at_232 rfl (fun h34 Wh34 Ah34 => ?_)
                          have hsh34 : n0 ≤ h34.size := by rw [Wr.size Wh34]; exact hsh33
                          have Ah34_ : OwA Z h34 a2 .byte [(.int (nar .byte t.toInt8.toInt32)), (.int (nar .byte xb.toInt8.toInt32)), (.int (nar .byte (-127 : Int32))), (.int (nar .byte (1 : Int32).toInt8.toInt32)), (.int (0 : Int32)), (.int (0 : Int32))] := Ah34
                          refine X.iinc (q := 236) (Ls' := #[.val (.int x0), .val (.int x1), .val (.int x2), .val (.int x3), .val (.int x4), .val (.int (0 : Int32)), .val (.int (0 : Int32)), .val (.int (0 : Int32)), .val (.int t), .val (.ref a2), .val (.int (4 : Int32)), .val (.int ls), .val (.int (1 : Int32))]) (1 : Int32) at_233 (by decide) rfl rfl rfl ?_
                          refine X.goto (q' := 266) at_236 (by decide) ?_
                          refine X.aload (q := 268) at_266 rfl rfl rfl ?_
                          refine X.iload (q := 270) at_268 rfl rfl ?_
                          refine X.iloadN (q := 271) at_270 rfl rfl ?_
                          refine X.bipush (q := 273) (16 : Int32) at_271 (by decide) rfl ?_
                          refine X.ishr (q := 274) at_273 rfl ?_
                          refine X.nmI (fun xc hxc => ?_)
                          clear hxc
                          refine X.i2b (q := 275) at_274 rfl ?_
                          refine X.bastore (q := 276) (j := 4) Ah34_ rfl (by simp) gea2 at_275 rfl (fun h35 Wh35 Ah35 => ?_)
                          have hsh35 : n0 ≤ h35.size := by rw [Wr.size Wh35]; exact hsh34
                          have Ah35_ : OwA Z h35 a2 .byte [(.int (nar .byte t.toInt8.toInt32)), (.int (nar .byte xb.toInt8.toInt32)), (.int (nar .byte (-127 : Int32))), (.int (nar .byte (1 : Int32).toInt8.toInt32)), (.int (nar .byte xc.toInt8.toInt32)), (.int (0 : Int32))] := Ah35
                          obtain ⟨L, hL⟩ : ∃ L_ : List Int32, L_ = [(nar .byte t.toInt8.toInt32), (nar .byte xb.toInt8.toInt32), (nar .byte (-127 : Int32)), (nar .byte (1 : Int32).toInt8.toInt32), (nar .byte xc.toInt8.toInt32), (0 : Int32)] := ⟨_, rfl⟩
                          have AL : OwA Z h35 a2 .byte (L.map Value.int) := by rw [hL]; exact Ah35_
                          have nL : L.length = 6 := by rw [hL]; rfl
                          have gL0 : (L.getD 0 0).toInt = (t.toInt + 128) % 256 - 128 := by rw [hL]; exact own_nbt _
                          have gL1 : (L.getD 1 0).toInt = (xb.toInt + 128) % 256 - 128 := by rw [hL]; exact own_nbt _
                          have gL2 : (L.getD 2 0).toInt = -127 := by rw [hL]; rfl
                          have gL3 : (L.getD 3 0).toInt = ((1 : Int32).toInt + 128) % 256 - 128 := by rw [hL]; exact own_nbt _
                          have gL4 : (L.getD 4 0).toInt = (xc.toInt + 128) % 256 - 128 := by rw [hL]; exact own_nbt _
                          have gL5 : (L.getD 5 0).toInt = 0 := by rw [hL]; rfl
                          have rL : ∀ x ∈ L, -128 ≤ x.toInt ∧ x.toInt ≤ 127 := by
                            intro x hx; rw [hL] at hx
                            simp only [List.mem_cons, List.not_mem_nil, or_false] at hx
                            rcases hx with rfl | rfl | rfl | rfl | rfl | rfl
                            · rw [own_nbt]; omega
                            · rw [own_nbt]; omega
                            · exact ⟨by decide, by decide⟩
                            · rw [own_nbt]; omega
                            · rw [own_nbt]; omega
                            · exact ⟨by decide, by decide⟩
                          clear hL
                          exact J276 L 2 4 (4 : Int32) (1 : Int32) _ _ _ _ (by exact nL) (by exact rL) (by unfold own_hdr; simp only [nL, Nat.reduceAdd, and_true]; refine ⟨?_, ?_, ?_, ?_, ?_, ?_, ?_, ?_⟩ <;> first | omega | rfl) hsh35 AL
                      · refine X.aload (q := 197) at_195 rfl rfl rfl ?_
                        refine X.iload (q := 199) at_197 rfl rfl ?_
                        refine X.iload (q := 201) at_199 rfl rfl ?_
                        refine X.i2b (q := 202) at_201 rfl ?_
                        refine X.bastore (q := 203) (j := 2) Ah28_ rfl (by simp) gea2 at_202 rfl (fun h36 Wh36 Ah36 => ?_)
                        have hsh36 : n0 ≤ h36.size := by rw [Wr.size Wh36]; exact hsh28
                        have Ah36_ : OwA Z h36 a2 .byte [(.int (nar .byte t.toInt8.toInt32)), (.int (nar .byte xb.toInt8.toInt32)), (.int (nar .byte (1 : Int32).toInt8.toInt32)), (.int (0 : Int32)), (.int (0 : Int32)), (.int (0 : Int32))] := Ah36
                        refine X.iinc (q := 206) (Ls' := #[.val (.int x0), .val (.int x1), .val (.int x2), .val (.int x3), .val (.int x4), .val (.int (0 : Int32)), .val (.int (0 : Int32)), .val (.int (0 : Int32)), .val (.int t), .val (.ref a2), .val (.int (3 : Int32)), .val (.int ls), .val (.int (1 : Int32))]) (1 : Int32) at_203 (by decide) rfl rfl rfl ?_
                        refine X.goto (q' := 266) at_206 (by decide) ?_
                        refine X.aload (q := 268) at_266 rfl rfl rfl ?_
                        refine X.iload (q := 270) at_268 rfl rfl ?_
                        refine X.iloadN (q := 271) at_270 rfl rfl ?_
                        refine X.bipush (q := 273) (16 : Int32) at_271 (by decide) rfl ?_
                        refine X.ishr (q := 274) at_273 rfl ?_
                        refine X.nmI (fun xc hxc => ?_)
                        clear hxc
                        refine X.i2b (q := 275) at_274 rfl ?_
                        refine X.bastore (q := 276) (j := 3) Ah36_ rfl (by simp) gea2 at_275 rfl (fun h37 Wh37 Ah37 => ?_)
                        have hsh37 : n0 ≤ h37.size := by rw [Wr.size Wh37]; exact hsh36
                        have Ah37_ : OwA Z h37 a2 .byte [(.int (nar .byte t.toInt8.toInt32)), (.int (nar .byte xb.toInt8.toInt32)), (.int (nar .byte (1 : Int32).toInt8.toInt32)), (.int (nar .byte xc.toInt8.toInt32)), (.int (0 : Int32)), (.int (0 : Int32))] := Ah37
                        obtain ⟨L, hL⟩ : ∃ L_ : List Int32, L_ = [(nar .byte t.toInt8.toInt32), (nar .byte xb.toInt8.toInt32), (nar .byte (1 : Int32).toInt8.toInt32), (nar .byte xc.toInt8.toInt32), (0 : Int32), (0 : Int32)] := ⟨_, rfl⟩
                        have AL : OwA Z h37 a2 .byte (L.map Value.int) := by rw [hL]; exact Ah37_
                        have nL : L.length = 6 := by rw [hL]; rfl
                        have gL0 : (L.getD 0 0).toInt = (t.toInt + 128) % 256 - 128 := by rw [hL]; exact own_nbt _
                        have gL1 : (L.getD 1 0).toInt = (xb.toInt + 128) % 256 - 128 := by rw [hL]; exact own_nbt _
                        have gL2 : (L.getD 2 0).toInt = ((1 : Int32).toInt + 128) % 256 - 128 := by rw [hL]; exact own_nbt _
                        have gL3 : (L.getD 3 0).toInt = (xc.toInt + 128) % 256 - 128 := by rw [hL]; exact own_nbt _
                        have gL4 : (L.getD 4 0).toInt = 0 := by rw [hL]; rfl
                        have gL5 : (L.getD 5 0).toInt = 0 := by rw [hL]; rfl
                        have rL : ∀ x ∈ L, -128 ≤ x.toInt ∧ x.toInt ≤ 127 := by
                          intro x hx; rw [hL] at hx
                          simp only [List.mem_cons, List.not_mem_nil, or_false] at hx
                          rcases hx with rfl | rfl | rfl | rfl | rfl | rfl
                          · rw [own_nbt]; omega
                          · rw [own_nbt]; omega
                          · rw [own_nbt]; omega
                          · rw [own_nbt]; omega
                          · exact ⟨by decide, by decide⟩
                          · exact ⟨by decide, by decide⟩
                        clear hL
                        exact J276 L 2 3 (3 : Int32) (1 : Int32) _ _ _ _ (by exact nL) (by exact rL) (by unfold own_hdr; simp only [nL, Nat.reduceAdd, and_true]; refine ⟨?_, ?_, ?_, ?_, ?_, ?_, ?_, ?_⟩ <;> first | omega | rfl) hsh37 AL
                    · refine X.aload (q := 179) at_177 rfl rfl rfl ?_
                      refine X.iload (q := 181) at_179 rfl rfl ?_
                      refine X.iconst (q := 182) (0 : Int32) at_181 (by decide) rfl ?_
                      refine X.bastore (q := 183) (j := 2) Ah28_ rfl (by simp) gea2 at_182 rfl (fun h38 Wh38 Ah38 => ?_)
                      have hsh38 : n0 ≤ h38.size := by rw [Wr.size Wh38]; exact hsh28
                      have Ah38_ : OwA Z h38 a2 .byte [(.int (nar .byte t.toInt8.toInt32)), (.int (nar .byte xb.toInt8.toInt32)), (.int (nar .byte (0 : Int32))), (.int (0 : Int32)), (.int (0 : Int32)), (.int (0 : Int32))] := Ah38
                      refine X.iinc (q := 186) (Ls' := #[.val (.int x0), .val (.int x1), .val (.int x2), .val (.int x3), .val (.int x4), .val (.int (0 : Int32)), .val (.int (0 : Int32)), .val (.int (0 : Int32)), .val (.int t), .val (.ref a2), .val (.int (3 : Int32)), .val (.int ls), .val (.int (1 : Int32))]) (1 : Int32) at_183 (by decide) rfl rfl rfl ?_
                      refine X.goto (q' := 266) at_186 (by decide) ?_
                      refine X.aload (q := 268) at_266 rfl rfl rfl ?_
                      refine X.iload (q := 270) at_268 rfl rfl ?_
                      refine X.iloadN (q := 271) at_270 rfl rfl ?_
                      refine X.bipush (q := 273) (16 : Int32) at_271 (by decide) rfl ?_
                      refine X.ishr (q := 274) at_273 rfl ?_
                      refine X.nmI (fun xc hxc => ?_)
                      clear hxc
                      refine X.i2b (q := 275) at_274 rfl ?_
                      refine X.bastore (q := 276) (j := 3) Ah38_ rfl (by simp) gea2 at_275 rfl (fun h39 Wh39 Ah39 => ?_)
                      have hsh39 : n0 ≤ h39.size := by rw [Wr.size Wh39]; exact hsh38
                      have Ah39_ : OwA Z h39 a2 .byte [(.int (nar .byte t.toInt8.toInt32)), (.int (nar .byte xb.toInt8.toInt32)), (.int (nar .byte (0 : Int32))), (.int (nar .byte xc.toInt8.toInt32)), (.int (0 : Int32)), (.int (0 : Int32))] := Ah39
                      obtain ⟨L, hL⟩ : ∃ L_ : List Int32, L_ = [(nar .byte t.toInt8.toInt32), (nar .byte xb.toInt8.toInt32), (nar .byte (0 : Int32)), (nar .byte xc.toInt8.toInt32), (0 : Int32), (0 : Int32)] := ⟨_, rfl⟩
                      have AL : OwA Z h39 a2 .byte (L.map Value.int) := by rw [hL]; exact Ah39_
                      have nL : L.length = 6 := by rw [hL]; rfl
                      have gL0 : (L.getD 0 0).toInt = (t.toInt + 128) % 256 - 128 := by rw [hL]; exact own_nbt _
                      have gL1 : (L.getD 1 0).toInt = (xb.toInt + 128) % 256 - 128 := by rw [hL]; exact own_nbt _
                      have gL2 : (L.getD 2 0).toInt = 0 := by rw [hL]; rfl
                      have gL3 : (L.getD 3 0).toInt = (xc.toInt + 128) % 256 - 128 := by rw [hL]; exact own_nbt _
                      have gL4 : (L.getD 4 0).toInt = 0 := by rw [hL]; rfl
                      have gL5 : (L.getD 5 0).toInt = 0 := by rw [hL]; rfl
                      have rL : ∀ x ∈ L, -128 ≤ x.toInt ∧ x.toInt ≤ 127 := by
                        intro x hx; rw [hL] at hx
                        simp only [List.mem_cons, List.not_mem_nil, or_false] at hx
                        rcases hx with rfl | rfl | rfl | rfl | rfl | rfl
                        · rw [own_nbt]; omega
                        · rw [own_nbt]; omega
                        · exact ⟨by decide, by decide⟩
                        · rw [own_nbt]; omega
                        · exact ⟨by decide, by decide⟩
                        · exact ⟨by decide, by decide⟩
                      clear hL
                      exact J276 L 2 3 (3 : Int32) (0 : Int32) _ _ _ _ (by exact nL) (by exact rL) (by unfold own_hdr; simp only [nL, Nat.reduceAdd, and_true]; refine ⟨?_, ?_, ?_, ?_, ?_, ?_, ?_, ?_⟩ <;> first | omega | rfl) hsh39 AL
                  · omega
                · refine X.aload (q := 121) at_119 rfl rfl rfl ?_
                  refine X.iload (q := 123) at_121 rfl rfl ?_
                  refine X.sipush (q := 126) (128 : Int32) at_123 (by decide) rfl ?_
                  refine X.iloadN (q := 127) at_126 rfl rfl ?_
                  refine X.iconst (q := 128) (1 : Int32) at_127 (by decide) rfl ?_
                  refine X.ishr (q := 129) at_128 rfl ?_
                  refine X.bipush (q := 131) (127 : Int32) at_129 (by decide) rfl ?_
                  refine X.iand (q := 132) at_131 rfl ?_
                  refine X.ior (q := 133) at_132 rfl ?_
                  refine X.nmI (fun xa hxa => ?_)
                  have hxa_ := own_or128 (x3 >>> ((1 : Int32) &&& 31))
                  rw [← hxa] at hxa_
                  clear hxa
                  refine X.i2b (q := 134) at_133 rfl ?_
                  refine X.bastore (q := 135) (j := 1) Ah7_ rfl (by simp) gea2 at_134 rfl (fun h40 Wh40 Ah40 => ?_)
                  have hsh40 : n0 ≤ h40.size := by rw [Wr.size Wh40]; exact hsh7
                  have Ah40_ : OwA Z h40 a2 .byte [(.int (nar .byte t.toInt8.toInt32)), (.int (nar .byte xa.toInt8.toInt32)), (.int (0 : Int32)), (.int (0 : Int32)), (.int (0 : Int32)), (.int (0 : Int32))] := Ah40
                  refine X.iinc (q := 138) (Ls' := #[.val (.int x0), .val (.int x1), .val (.int x2), .val (.int x3), .val (.int x4), .val (.int (0 : Int32)), .val (.int (0 : Int32)), .val (.int (0 : Int32)), .val (.int t), .val (.ref a2), .val (.int (2 : Int32)), .unset, .unset]) (1 : Int32) at_135 (by decide) rfl rfl rfl ?_
                  refine X.aload (q := 140) at_138 rfl rfl rfl ?_
                  refine X.iload (q := 142) at_140 rfl rfl ?_
                  refine X.iloadN (q := 143) at_142 rfl rfl ?_
                  refine X.bipush (q := 145) (8 : Int32) at_143 (by decide) rfl ?_
                  refine X.ishr (q := 146) at_145 rfl ?_
                  refine X.bipush (q := 148) (127 : Int32) at_146 (by decide) rfl ?_
                  refine X.iand (q := 149) at_148 rfl ?_
                  refine X.nmI (fun xb hxb => ?_)
                  have hxb_ : 0 ≤ xb.toInt ∧ xb.toInt ≤ 127 := by rw [hxb, Jvm.Kit.i32_mask (k := 7) _ _ (by decide) (by decide)]; omega
                  clear hxb
                  refine X.i2b (q := 150) at_149 rfl ?_
                  refine X.bastore (q := 151) (j := 2) Ah40_ rfl (by simp) gea2 at_150 rfl (fun h41 Wh41 Ah41 => ?_)
                  have hsh41 : n0 ≤ h41.size := by rw [Wr.size Wh41]; exact hsh40
                  have Ah41_ : OwA Z h41 a2 .byte [(.int (nar .byte t.toInt8.toInt32)), (.int (nar .byte xa.toInt8.toInt32)), (.int (nar .byte xb.toInt8.toInt32)), (.int (0 : Int32)), (.int (0 : Int32)), (.int (0 : Int32))] := Ah41
                  refine X.iinc (q := 154) (Ls' := #[.val (.int x0), .val (.int x1), .val (.int x2), .val (.int x3), .val (.int x4), .val (.int (0 : Int32)), .val (.int (0 : Int32)), .val (.int (0 : Int32)), .val (.int t), .val (.ref a2), .val (.int (3 : Int32)), .unset, .unset]) (1 : Int32) at_151 (by decide) rfl rfl rfl ?_
                  refine X.iload (q := 156) at_154 rfl rfl ?_
                  refine X.iconst (q := 157) (3 : Int32) at_156 (by decide) rfl ?_
                  refine X.iand (q := 158) at_157 rfl ?_
                  refine X.nmI (fun ls hls => ?_)
                  have hlsr : 0 ≤ ls.toInt ∧ ls.toInt ≤ 3 := by rw [hls, Jvm.Kit.i32_mask (k := 2) _ _ (by decide) (by decide)]; omega
                  clear hls
                  refine X.istore (q := 160) (Ls' := #[.val (.int x0), .val (.int x1), .val (.int x2), .val (.int x3), .val (.int x4), .val (.int (0 : Int32)), .val (.int (0 : Int32)), .val (.int (0 : Int32)), .val (.int t), .val (.ref a2), .val (.int (3 : Int32)), .val (.int ls), .unset]) at_158 rfl rfl ?_
                  refine X.iload (q := 162) at_160 rfl rfl ?_
                  refine X.if_ne (q' := 169) (q := 165) at_162 rfl (by decide) rfl (fun c162 => ?_) (fun c162 => ?_)
                  · refine X.iconst (q := 170) (1 : Int32) at_169 (by decide) rfl ?_
                    refine X.istore (q := 172) (Ls' := #[.val (.int x0), .val (.int x1), .val (.int x2), .val (.int x3), .val (.int x4), .val (.int (0 : Int32)), .val (.int (0 : Int32)), .val (.int (0 : Int32)), .val (.int t), .val (.ref a2), .val (.int (3 : Int32)), .val (.int ls), .val (.int (1 : Int32))]) at_170 rfl rfl ?_
                    refine X.iload (q := 174) at_172 rfl rfl ?_
                    refine X.if_ne (q' := 189) (q := 177) at_174 rfl (by decide) rfl (fun c174 => ?_) (fun c174 => ?_)
                    · refine X.iload (q := 191) at_189 rfl rfl ?_
                      refine X.iconst (q := 192) (1 : Int32) at_191 (by decide) rfl ?_
                      refine X.icmp_ne (b := 1) (q' := 209) (q := 195) at_192 rfl rfl (by decide) rfl (fun c192 => ?_) (fun c192 => ?_)
                      · refine X.iload (q := 211) at_209 rfl rfl ?_
                        refine X.iconst (q := 212) (2 : Int32) at_211 (by decide) rfl ?_
                        refine X.icmp_ne (b := 2) (q' := 239) (q := 215) at_212 rfl rfl (by decide) rfl (fun c212 => ?_) (fun c212 => ?_)
                        · refine X.iload (q := 241) at_239 rfl rfl ?_
                          refine X.bipush (q := 243) (32 : Int32) at_241 (by decide) rfl ?_
                          refine X.iand (q := 244) at_243 rfl ?_
                          refine X.nmI (fun t32 ht32 => ?_)
                          have ht32a := own_b5 t (by omega) (by omega)
                          rw [← ht32] at ht32a
                          clear ht32
                          have ht32_ : (t32.toInt = 0 ∧ t.toInt / 32 % 2 = 0) ∨ (¬ t32.toInt = 0 ∧ t.toInt / 32 % 2 = 1) := by omega
                          clear ht32a
                          refine X.if_eq (q' := 257) (q := 247) at_244 rfl (by decide) rfl (fun c244 => ?_) (fun c244 => ?_)
                          · refine X.aload (q := 259) at_257 rfl rfl rfl ?_
                            refine X.iload (q := 261) at_259 rfl rfl ?_
                            refine X.iconst (q := 262) (0 : Int32) at_261 (by decide) rfl ?_
                            refine X.bastore (q := 263) (j := 3) Ah41_ rfl (by simp) gea2 at_262 rfl (fun h42 Wh42 Ah42 => ?_)
                            have hsh42 : n0 ≤ h42.size := by rw [Wr.size Wh42]; exact hsh41
                            have Ah42_ : OwA Z h42 a2 .byte [(.int (nar .byte t.toInt8.toInt32)), (.int (nar .byte xa.toInt8.toInt32)), (.int (nar .byte xb.toInt8.toInt32)), (.int (nar .byte (0 : Int32))), (.int (0 : Int32)), (.int (0 : Int32))] := Ah42
                            refine X.iinc (q := 266) (Ls' := #[.val (.int x0), .val (.int x1), .val (.int x2), .val (.int x3), .val (.int x4), .val (.int (0 : Int32)), .val (.int (0 : Int32)), .val (.int (0 : Int32)), .val (.int t), .val (.ref a2), .val (.int (4 : Int32)), .val (.int ls), .val (.int (1 : Int32))]) (1 : Int32) at_263 (by decide) rfl rfl rfl ?_
                            refine X.aload (q := 268) at_266 rfl rfl rfl ?_
                            refine X.iload (q := 270) at_268 rfl rfl ?_
                            refine X.iloadN (q := 271) at_270 rfl rfl ?_
                            refine X.bipush (q := 273) (16 : Int32) at_271 (by decide) rfl ?_
                            refine X.ishr (q := 274) at_273 rfl ?_
                            refine X.nmI (fun xc hxc => ?_)
                            clear hxc
                            refine X.i2b (q := 275) at_274 rfl ?_
                            refine X.bastore (q := 276) (j := 4) Ah42_ rfl (by simp) gea2 at_275 rfl (fun h43 Wh43 Ah43 => ?_)
                            have hsh43 : n0 ≤ h43.size := by rw [Wr.size Wh43]; exact hsh42
                            have Ah43_ : OwA Z h43 a2 .byte [(.int (nar .byte t.toInt8.toInt32)), (.int (nar .byte xa.toInt8.toInt32)), (.int (nar .byte xb.toInt8.toInt32)), (.int (nar .byte (0 : Int32))), (.int (nar .byte xc.toInt8.toInt32)), (.int (0 : Int32))] := Ah43
                            obtain ⟨L, hL⟩ : ∃ L_ : List Int32, L_ = [(nar .byte t.toInt8.toInt32), (nar .byte xa.toInt8.toInt32), (nar .byte xb.toInt8.toInt32), (nar .byte (0 : Int32)), (nar .byte xc.toInt8.toInt32), (0 : Int32)] := ⟨_, rfl⟩
                            have AL : OwA Z h43 a2 .byte (L.map Value.int) := by rw [hL]; exact Ah43_
                            have nL : L.length = 6 := by rw [hL]; rfl
                            have gL0 : (L.getD 0 0).toInt = (t.toInt + 128) % 256 - 128 := by rw [hL]; exact own_nbt _
                            have gL1 : (L.getD 1 0).toInt = (xa.toInt + 128) % 256 - 128 := by rw [hL]; exact own_nbt _
                            have gL2 : (L.getD 2 0).toInt = (xb.toInt + 128) % 256 - 128 := by rw [hL]; exact own_nbt _
                            have gL3 : (L.getD 3 0).toInt = 0 := by rw [hL]; rfl
                            have gL4 : (L.getD 4 0).toInt = (xc.toInt + 128) % 256 - 128 := by rw [hL]; exact own_nbt _
                            have gL5 : (L.getD 5 0).toInt = 0 := by rw [hL]; rfl
                            have rL : ∀ x ∈ L, -128 ≤ x.toInt ∧ x.toInt ≤ 127 := by
                              intro x hx; rw [hL] at hx
                              simp only [List.mem_cons, List.not_mem_nil, or_false] at hx
                              rcases hx with rfl | rfl | rfl | rfl | rfl | rfl
                              · rw [own_nbt]; omega
                              · rw [own_nbt]; omega
                              · rw [own_nbt]; omega
                              · exact ⟨by decide, by decide⟩
                              · rw [own_nbt]; omega
                              · exact ⟨by decide, by decide⟩
                            clear hL
                            exact J276 L 3 4 (4 : Int32) (0 : Int32) _ _ _ _ (by exact nL) (by exact rL) (by unfold own_hdr; simp only [nL, Nat.reduceAdd, and_true]; refine ⟨?_, ?_, ?_, ?_, ?_, ?_, ?_, ?_⟩ <;> first | omega | rfl) hsh43 AL
                          · refine X.aload (q := 249) at_247 rfl rfl rfl ?_
                            refine X.iload (q := 251) at_249 rfl rfl ?_
                            refine X.bipush (q := 253) (-128 : Int32) at_251 (by decide) rfl ?_
                            refine X.bastore (q := 254) (j := 3) Ah41_ rfl (by simp) gea2 at_253 rfl (fun h44 Wh44 Ah44 => ?_)
                            have hsh44 : n0 ≤ h44.size := by rw [Wr.size Wh44]; exact hsh41
                            have Ah44_ : OwA Z h44 a2 .byte [(.int (nar .byte t.toInt8.toInt32)), (.int (nar .byte xa.toInt8.toInt32)), (.int (nar .byte xb.toInt8.toInt32)), (.int (nar .byte (-128 : Int32))), (.int (0 : Int32)), (.int (0 : Int32))] := Ah44
                            refine X.goto (q' := 263) at_254 (by decide) ?_
                            refine X.iinc (q := 266) (Ls' := #[.val (.int x0), .val (.int x1), .val (.int x2), .val (.int x3), .val (.int x4), .val (.int (0 : Int32)), .val (.int (0 : Int32)), .val (.int (0 : Int32)), .val (.int t), .val (.ref a2), .val (.int (4 : Int32)), .val (.int ls), .val (.int (1 : Int32))]) (1 : Int32) at_263 (by decide) rfl rfl rfl ?_
                            refine X.aload (q := 268) at_266 rfl rfl rfl ?_
                            refine X.iload (q := 270) at_268 rfl rfl ?_
                            refine X.iloadN (q := 271) at_270 rfl rfl ?_
                            refine X.bipush (q := 273) (16 : Int32) at_271 (by decide) rfl ?_
                            refine X.ishr (q := 274) at_273 rfl ?_
                            refine X.nmI (fun xc hxc => ?_)
                            clear hxc
                            refine X.i2b (q := 275) at_274 rfl ?_
                            refine X.bastore (q := 276) (j := 4) Ah44_ rfl (by simp) gea2 at_275 rfl (fun h45 Wh45 Ah45 => ?_)
                            have hsh45 : n0 ≤ h45.size := by rw [Wr.size Wh45]; exact hsh44
                            have Ah45_ : OwA Z h45 a2 .byte [(.int (nar .byte t.toInt8.toInt32)), (.int (nar .byte xa.toInt8.toInt32)), (.int (nar .byte xb.toInt8.toInt32)), (.int (nar .byte (-128 : Int32))), (.int (nar .byte xc.toInt8.toInt32)), (.int (0 : Int32))] := Ah45
                            obtain ⟨L, hL⟩ : ∃ L_ : List Int32, L_ = [(nar .byte t.toInt8.toInt32), (nar .byte xa.toInt8.toInt32), (nar .byte xb.toInt8.toInt32), (nar .byte (-128 : Int32)), (nar .byte xc.toInt8.toInt32), (0 : Int32)] := ⟨_, rfl⟩
                            have AL : OwA Z h45 a2 .byte (L.map Value.int) := by rw [hL]; exact Ah45_
                            have nL : L.length = 6 := by rw [hL]; rfl
                            have gL0 : (L.getD 0 0).toInt = (t.toInt + 128) % 256 - 128 := by rw [hL]; exact own_nbt _
                            have gL1 : (L.getD 1 0).toInt = (xa.toInt + 128) % 256 - 128 := by rw [hL]; exact own_nbt _
                            have gL2 : (L.getD 2 0).toInt = (xb.toInt + 128) % 256 - 128 := by rw [hL]; exact own_nbt _
                            have gL3 : (L.getD 3 0).toInt = -128 := by rw [hL]; rfl
                            have gL4 : (L.getD 4 0).toInt = (xc.toInt + 128) % 256 - 128 := by rw [hL]; exact own_nbt _
                            have gL5 : (L.getD 5 0).toInt = 0 := by rw [hL]; rfl
                            have rL : ∀ x ∈ L, -128 ≤ x.toInt ∧ x.toInt ≤ 127 := by
                              intro x hx; rw [hL] at hx
                              simp only [List.mem_cons, List.not_mem_nil, or_false] at hx
                              rcases hx with rfl | rfl | rfl | rfl | rfl | rfl
                              · rw [own_nbt]; omega
                              · rw [own_nbt]; omega
                              · rw [own_nbt]; omega
                              · exact ⟨by decide, by decide⟩
                              · rw [own_nbt]; omega
                              · exact ⟨by decide, by decide⟩
                            clear hL
                            exact J276 L 3 4 (4 : Int32) (-1 : Int32) _ _ _ _ (by exact nL) (by exact rL) (by unfold own_hdr; simp only [nL, Nat.reduceAdd, and_true]; refine ⟨?_, ?_, ?_, ?_, ?_, ?_, ?_, ?_⟩ <;> first | omega | rfl) hsh45 AL
                        · refine X.aload (q := 217) at_215 rfl rfl rfl ?_
                          refine X.iload (q := 219) at_217 rfl rfl ?_
                          refine X.bipush (q := 221) (-127 : Int32) at_219 (by decide) rfl ?_
                          refine X.bastore (q := 222) (j := 3) Ah41_ rfl (by simp) gea2 at_221 rfl (fun h46 Wh46 Ah46 => ?_)
                          have hsh46 : n0 ≤ h46.size := by rw [Wr.size Wh46]; exact hsh41
                          have Ah46_ : OwA Z h46 a2 .byte [(.int (nar .byte t.toInt8.toInt32)), (.int (nar .byte xa.toInt8.toInt32)), (.int (nar .byte xb.toInt8.toInt32)), (.int (nar .byte (-127 : Int32))), (.int (0 : Int32)), (.int (0 : Int32))] := Ah46
                          refine X.iinc (q := 225) (Ls' := #[.val (.int x0), .val (.int x1), .val (.int x2), .val (.int x3), .val (.int x4), .val (.int (0 : Int32)), .val (.int (0 : Int32)), .val (.int (0 : Int32)), .val (.int t), .val (.ref a2), .val (.int (4 : Int32)), .val (.int ls), .val (.int (1 : Int32))]) (1 : Int32) at_222 (by decide) rfl rfl rfl ?_
                          refine X.aload (q := 227) at_225 rfl rfl rfl ?_
                          refine X.iload (q := 229) at_227 rfl rfl ?_
                          refine X.iload (q := 231) at_229 rfl rfl ?_
                          refine X.i2b (q := 232) at_231 rfl ?_
                          refine X.bastore (q := 233) (j := 4) Ah46_ rfl (by simp) gea2 at_232 rfl (fun h47 Wh47 Ah47 => ?_)
                          have hsh47 : n0 ≤ h47.size := by rw [Wr.size Wh47]; exact hsh46
                          have Ah47_ : OwA Z h47 a2 .byte [(.int (nar .byte t.toInt8.toInt32)), (.int (nar .byte xa.toInt8.toInt32)), (.int (nar .byte xb.toInt8.toInt32)), (.int (nar .byte (-127 : Int32))), (.int (nar .byte (1 : Int32).toInt8.toInt32)), (.int (0 : Int32))] := Ah47
                          refine X.iinc (q := 236) (Ls' := #[.val (.int x0), .val (.int x1), .val (.int x2), .val (.int x3), .val (.int x4), .val (.int (0 : Int32)), .val (.int (0 : Int32)), .val (.int (0 : Int32)), .val (.int t), .val (.ref a2), .val (.int (5 : Int32)), .val (.int ls), .val (.int (1 : Int32))]) (1 : Int32) at_233 (by decide) rfl rfl rfl ?_
                          refine X.goto (q' := 266) at_236 (by decide) ?_
                          refine X.aload (q := 268) at_266 rfl rfl rfl ?_
                          refine X.iload (q := 270) at_268 rfl rfl ?_
                          refine X.iloadN (q := 271) at_270 rfl rfl ?_
                          refine X.bipush (q := 273) (16 : Int32) at_271 (by decide) rfl ?_
                          refine X.ishr (q := 274) at_273 rfl ?_
                          refine X.nmI (fun xc hxc => ?_)
                          clear hxc
                          refine X.i2b (q := 275) at_274 rfl ?_
                          refine X.bastore (q := 276) (j := 5) Ah47_ rfl (by simp) gea2 at_275 rfl (fun h48 Wh48 Ah48 => ?_)
                          have hsh48 : n0 ≤ h48.size := by rw [Wr.size Wh48]; exact hsh47
                          have Ah48_ : OwA Z h48 a2 .byte [(.int (nar .byte t.toInt8.toInt32)), (.int (nar .byte xa.toInt8.toInt32)), (.int (nar .byte xb.toInt8.toInt32)), (.int (nar .byte (-127 : Int32))), (.int (nar .byte (1 : Int32).toInt8.toInt32)), (.int (nar .byte xc.toInt8.toInt32))] := Ah48
                          obtain ⟨L, hL⟩ : ∃ L_ : List Int32, L_ = [(nar .byte t.toInt8.toInt32), (nar .byte xa.toInt8.toInt32), (nar .byte xb.toInt8.toInt32), (nar .byte (-127 : Int32)), (nar .byte (1 : Int32).toInt8.toInt32), (nar .byte xc.toInt8.toInt32)] := ⟨_, rfl⟩
                          have AL : OwA Z h48 a2 .byte (L.map Value.int) := by rw [hL]; exact Ah48_
                          have nL : L.length = 6 := by rw [hL]; rfl
                          have gL0 : (L.getD 0 0).toInt = (t.toInt + 128) % 256 - 128 := by rw [hL]; exact own_nbt _
                          have gL1 : (L.getD 1 0).toInt = (xa.toInt + 128) % 256 - 128 := by rw [hL]; exact own_nbt _
                          have gL2 : (L.getD 2 0).toInt = (xb.toInt + 128) % 256 - 128 := by rw [hL]; exact own_nbt _
                          have gL3 : (L.getD 3 0).toInt = -127 := by rw [hL]; rfl
                          have gL4 : (L.getD 4 0).toInt = ((1 : Int32).toInt + 128) % 256 - 128 := by rw [hL]; exact own_nbt _
                          have gL5 : (L.getD 5 0).toInt = (xc.toInt + 128) % 256 - 128 := by rw [hL]; exact own_nbt _
                          have rL : ∀ x ∈ L, -128 ≤ x.toInt ∧ x.toInt ≤ 127 := by
                            intro x hx; rw [hL] at hx
                            simp only [List.mem_cons, List.not_mem_nil, or_false] at hx
                            rcases hx with rfl | rfl | rfl | rfl | rfl | rfl
                            · rw [own_nbt]; omega
                            · rw [own_nbt]; omega
                            · rw [own_nbt]; omega
                            · exact ⟨by decide, by decide⟩
                            · rw [own_nbt]; omega
                            · rw [own_nbt]; omega
                          clear hL
                          exact J276 L 3 5 (5 : Int32) (1 : Int32) _ _ _ _ (by exact nL) (by exact rL) (by unfold own_hdr; simp only [nL, Nat.reduceAdd, and_true]; refine ⟨?_, ?_, ?_, ?_, ?_, ?_, ?_, ?_⟩ <;> first | omega | rfl) hsh48 AL
                      · refine X.aload (q := 197) at_195 rfl rfl rfl ?_
                        refine X.iload (q := 199) at_197 rfl rfl ?_
                        refine X.iload (q := 201) at_199 rfl rfl ?_
                        refine X.i2b (q := 202) at_201 rfl ?_
                        refine X.bastore (q := 203) (j := 3) Ah41_ rfl (by simp) gea2 at_202 rfl (fun h49 Wh49 Ah49 => ?_)
                        have hsh49 : n0 ≤ h49.size := by rw [Wr.size Wh49]; exact hsh41
                        have Ah49_ : OwA Z h49 a2 .byte [(.int (nar .byte t.toInt8.toInt32)), (.int (nar .byte xa.toInt8.toInt32)), (.int (nar .byte xb.toInt8.toInt32)), (.int (nar .byte (1 : Int32).toInt8.toInt32)), (.int (0 : Int32)), (.int (0 : Int32))] := Ah49
                        refine X.iinc (q := 206) (Ls' := #[.val (.int x0), .val (.int x1), .val (.int x2), .val (.int x3), .val (.int x4), .val (.int (0 : Int32)), .val (.int (0 : Int32)), .val (.int (0 : Int32)), .val (.int t), .val (.ref a2), .val (.int (4 : Int32)), .val (.int ls), .val (.int (1 : Int32))]) (1 : Int32) at_203 (by decide) rfl rfl rfl ?_
                        refine X.goto (q' := 266) at_206 (by decide) ?_
                        refine X.aload (q := 268) at_266 rfl rfl rfl ?_
                        refine X.iload (q := 270) at_268 rfl rfl ?_
                        refine X.iloadN (q := 271) at_270 rfl rfl ?_
                        refine X.bipush (q := 273) (16 : Int32) at_271 (by decide) rfl ?_
                        refine X.ishr (q := 274) at_273 rfl ?_
                        refine X.nmI (fun xc hxc => ?_)
                        clear hxc
                        refine X.i2b (q := 275) at_274 rfl ?_
                        refine X.bastore (q := 276) (j := 4) Ah49_ rfl (by simp) gea2 at_275 rfl (fun h50 Wh50 Ah50 => ?_)
                        have hsh50 : n0 ≤ h50.size := by rw [Wr.size Wh50]; exact hsh49
                        have Ah50_ : OwA Z h50 a2 .byte [(.int (nar .byte t.toInt8.toInt32)), (.int (nar .byte xa.toInt8.toInt32)), (.int (nar .byte xb.toInt8.toInt32)), (.int (nar .byte (1 : Int32).toInt8.toInt32)), (.int (nar .byte xc.toInt8.toInt32)), (.int (0 : Int32))] := Ah50
                        obtain ⟨L, hL⟩ : ∃ L_ : List Int32, L_ = [(nar .byte t.toInt8.toInt32), (nar .byte xa.toInt8.toInt32), (nar .byte xb.toInt8.toInt32), (nar .byte (1 : Int32).toInt8.toInt32), (nar .byte xc.toInt8.toInt32), (0 : Int32)] := ⟨_, rfl⟩
                        have AL : OwA Z h50 a2 .byte (L.map Value.int) := by rw [hL]; exact Ah50_
                        have nL : L.length = 6 := by rw [hL]; rfl
                        have gL0 : (L.getD 0 0).toInt = (t.toInt + 128) % 256 - 128 := by rw [hL]; exact own_nbt _
                        have gL1 : (L.getD 1 0).toInt = (xa.toInt + 128) % 256 - 128 := by rw [hL]; exact own_nbt _
                        have gL2 : (L.getD 2 0).toInt = (xb.toInt + 128) % 256 - 128 := by rw [hL]; exact own_nbt _
                        have gL3 : (L.getD 3 0).toInt = ((1 : Int32).toInt + 128) % 256 - 128 := by rw [hL]; exact own_nbt _
                        have gL4 : (L.getD 4 0).toInt = (xc.toInt + 128) % 256 - 128 := by rw [hL]; exact own_nbt _
                        have gL5 : (L.getD 5 0).toInt = 0 := by rw [hL]; rfl
                        have rL : ∀ x ∈ L, -128 ≤ x.toInt ∧ x.toInt ≤ 127 := by
                          intro x hx; rw [hL] at hx
                          simp only [List.mem_cons, List.not_mem_nil, or_false] at hx
                          rcases hx with rfl | rfl | rfl | rfl | rfl | rfl
                          · rw [own_nbt]; omega
                          · rw [own_nbt]; omega
                          · rw [own_nbt]; omega
                          · rw [own_nbt]; omega
                          · rw [own_nbt]; omega
                          · exact ⟨by decide, by decide⟩
                        clear hL
                        exact J276 L 3 4 (4 : Int32) (1 : Int32) _ _ _ _ (by exact nL) (by exact rL) (by unfold own_hdr; simp only [nL, Nat.reduceAdd, and_true]; refine ⟨?_, ?_, ?_, ?_, ?_, ?_, ?_, ?_⟩ <;> first | omega | rfl) hsh50 AL
                    · refine X.aload (q := 179) at_177 rfl rfl rfl ?_
                      refine X.iload (q := 181) at_179 rfl rfl ?_
                      refine X.iconst (q := 182) (0 : Int32) at_181 (by decide) rfl ?_
                      refine X.bastore (q := 183) (j := 3) Ah41_ rfl (by simp) gea2 at_182 rfl (fun h51 Wh51 Ah51 => ?_)
                      have hsh51 : n0 ≤ h51.size := by rw [Wr.size Wh51]; exact hsh41
                      have Ah51_ : OwA Z h51 a2 .byte [(.int (nar .byte t.toInt8.toInt32)), (.int (nar .byte xa.toInt8.toInt32)), (.int (nar .byte xb.toInt8.toInt32)), (.int (nar .byte (0 : Int32))), (.int (0 : Int32)), (.int (0 : Int32))] := Ah51
                      refine X.iinc (q := 186) (Ls' := #[.val (.int x0), .val (.int x1), .val (.int x2), .val (.int x3), .val (.int x4), .val (.int (0 : Int32)), .val (.int (0 : Int32)), .val (.int (0 : Int32)), .val (.int t), .val (.ref a2), .val (.int (4 : Int32)), .val (.int ls), .val (.int (1 : Int32))]) (1 : Int32) at_183 (by decide) rfl rfl rfl ?_
                      refine X.goto (q' := 266) at_186 (by decide) ?_
                      refine X.aload (q := 268) at_266 rfl rfl rfl ?_
                      refine X.iload (q := 270) at_268 rfl rfl ?_
                      refine X.iloadN (q := 271) at_270 rfl rfl ?_
                      refine X.bipush (q := 273) (16 : Int32) at_271 (by decide) rfl ?_
                      refine X.ishr (q := 274) at_273 rfl ?_
                      refine X.nmI (fun xc hxc => ?_)
                      clear hxc
                      refine X.i2b (q := 275) at_274 rfl ?_
                      refine X.bastore (q := 276) (j := 4) Ah51_ rfl (by simp) gea2 at_275 rfl (fun h52 Wh52 Ah52 => ?_)
                      have hsh52 : n0 ≤ h52.size := by rw [Wr.size Wh52]; exact hsh51
                      have Ah52_ : OwA Z h52 a2 .byte [(.int (nar .byte t.toInt8.toInt32)), (.int (nar .byte xa.toInt8.toInt32)), (.int (nar .byte xb.toInt8.toInt32)), (.int (nar .byte (0 : Int32))), (.int (nar .byte xc.toInt8.toInt32)), (.int (0 : Int32))] := Ah52
                      obtain ⟨L, hL⟩ : ∃ L_ : List Int32, L_ = [(nar .byte t.toInt8.toInt32), (nar .byte xa.toInt8.toInt32), (nar .byte xb.toInt8.toInt32), (nar .byte (0 : Int32)), (nar .byte xc.toInt8.toInt32), (0 : Int32)] := ⟨_, rfl⟩
                      have AL : OwA Z h52 a2 .byte (L.map Value.int) := by rw [hL]; exact Ah52_
                      have nL : L.length = 6 := by rw [hL]; rfl
                      have gL0 : (L.getD 0 0).toInt = (t.toInt + 128) % 256 - 128 := by rw [hL]; exact own_nbt _
                      have gL1 : (L.getD 1 0).toInt = (xa.toInt + 128) % 256 - 128 := by rw [hL]; exact own_nbt _
                      have gL2 : (L.getD 2 0).toInt = (xb.toInt + 128) % 256 - 128 := by rw [hL]; exact own_nbt _
                      have gL3 : (L.getD 3 0).toInt = 0 := by rw [hL]; rfl
                      have gL4 : (L.getD 4 0).toInt = (xc.toInt + 128) % 256 - 128 := by rw [hL]; exact own_nbt _
                      have gL5 : (L.getD 5 0).toInt = 0 := by rw [hL]; rfl
                      have rL : ∀ x ∈ L, -128 ≤ x.toInt ∧ x.toInt ≤ 127 := by
                        intro x hx; rw [hL] at hx
                        simp only [List.mem_cons, List.not_mem_nil, or_false] at hx
                        rcases hx with rfl | rfl | rfl | rfl | rfl | rfl
                        · rw [own_nbt]; omega
                        · rw [own_nbt]; omega
                        · rw [own_nbt]; omega
                        · exact ⟨by decide, by decide⟩
                        · rw [own_nbt]; omega
                        · exact ⟨by decide, by decide⟩
                      clear hL
                      exact J276 L 3 4 (4 : Int32) (0 : Int32) _ _ _ _ (by exact nL) (by exact rL) (by unfold own_hdr; simp only [nL, Nat.reduceAdd, and_true]; refine ⟨?_, ?_, ?_, ?_, ?_, ?_, ?_, ?_⟩ <;> first | omega | rfl) hsh52 AL
                  · omega
          · omega
        · omega
      · omega
    · refine X.iconst (q := 22) (1 : Int32) at_21 (by decide) rfl ?_
      refine X.goto (q' := 26) at_22 (by decide) ?_
      refine X.istore (q := 28) (Ls' := #[.val (.int x0), .val (.int x1), .val (.int x2), .val (.int x3), .val (.int x4), .val (.int (0 : Int32)), .val (.int (1 : Int32)), .unset, .unset, .unset, .unset, .unset, .unset]) at_26 rfl rfl ?_
      refine X.iload (q := 30) at_28 rfl rfl ?_
      refine X.if_eq (a := 0) (q' := 37) (q := 33) at_30 rfl (by decide) rfl (fun c30 => ?_) (fun c30 => ?_)
      · refine X.iconst (q := 38) (0 : Int32) at_37 (by decide) rfl ?_
        refine X.istore (q := 40) (Ls' := #[.val (.int x0), .val (.int x1), .val (.int x2), .val (.int x3), .val (.int x4), .val (.int (0 : Int32)), .val (.int (1 : Int32)), .val (.int (0 : Int32)), .unset, .unset, .unset, .unset, .unset]) at_38 rfl rfl ?_
        refine X.iloadN (q := 41) at_40 rfl rfl ?_
        refine X.sipush (q := 44) (255 : Int32) at_41 (by decide) rfl ?_
        refine X.iand (q := 45) at_44 rfl ?_
        refine X.nmI (fun t ht => ?_)
        have htr : 0 ≤ t.toInt ∧ t.toInt ≤ 255 := by rw [ht, Jvm.Kit.i32_mask (k := 8) _ _ (by decide) (by decide)]; omega
        clear ht
        refine X.istore (q := 47) (Ls' := #[.val (.int x0), .val (.int x1), .val (.int x2), .val (.int x3), .val (.int x4), .val (.int (0 : Int32)), .val (.int (1 : Int32)), .val (.int (0 : Int32)), .val (.int t), .unset, .unset, .unset, .unset]) at_45 rfl rfl ?_
        refine X.iload (q := 49) at_47 rfl rfl ?_
        refine X.if_eq (a := 1) (q' := 59) (q := 52) at_49 rfl (by decide) rfl (fun c49 => ?_) (fun c49 => ?_)
        · omega
        · refine X.iload (q := 54) at_52 rfl rfl ?_
          refine X.newP (q := 56) (ty := .byte) (N := 0) (cap := 0) (k' := 1) (n' := 0) (hw _ (List.mem_of_getElem? (i := 0) rfl)) at_54 rfl rfl (Nat.le_refl _) (by decide) rfl rfl (by decide) (by decide) rfl (fun h53 a54 ga54 Eh53 Aa54 => ?_)
          have gea54 : n0 ≤ a54 := by rw [ga54]; exact hn0
          have hsh53 : n0 ≤ h53.size := Nat.le_trans hn0 Eh53.1
          have Aa54 : OwA Z h53 a54 .byte [] := Aa54
          refine X.goto (q' := 66) at_56 (by decide) ?_
          refine X.astore (q := 68) (Ls' := #[.val (.int x0), .val (.int x1), .val (.int x2), .val (.int x3), .val (.int x4), .val (.int (0 : Int32)), .val (.int (1 : Int32)), .val (.int (0 : Int32)), .val (.int t), .val (.ref a54), .unset, .unset, .unset]) at_66 rfl rfl rfl ?_
          refine X.iload (q := 70) at_68 rfl rfl ?_
          refine X.if_eq (a := 0) (q' := 83) (q := 73) at_70 rfl (by decide) rfl (fun c70 => ?_) (fun c70 => ?_)
          · refine X.iload (q := 85) at_83 rfl rfl ?_
            refine X.if_ne (a := 1) (q' := 276) (q := 88) at_85 rfl (by decide) rfl (fun c85 => ?_) (fun c85 => ?_)
            · obtain ⟨L, hL⟩ : ∃ L_ : List Int32, L_ = [] := ⟨_, rfl⟩
              have AL : OwA Z h53 a54 .byte (L.map Value.int) := by rw [hL]; exact Aa54
              have nL : L.length = 0 := by rw [hL]; rfl
              have rL : ∀ x ∈ L, -128 ≤ x.toInt ∧ x.toInt ≤ 127 := by
                intro x hx; rw [hL] at hx
                simp at hx
              clear hL
              refine X.newO (q := 279) (k' := 2) (n' := 3) (hw _ (List.mem_of_getElem? (i := 1) rfl)) (hw _ (List.mem_of_getElem? (i := 2) rfl)) (hw _ (List.mem_of_getElem? (i := 3) rfl)) at_276 rfl rfl (by decide) (by decide) rfl (fun h55 a56 ga56 Eh55 Ba56 Da56 => ?_)
              have la54_a56 : a54 < a56 := by have := AL.lt; rw [← ga56] at this; exact this
              have AL'h55 : OwA Z h55 a54 .byte (L.map Value.int) := OwA.ext (E := Eh55) AL
              have gea56 : n0 ≤ a56 := by rw [ga56]; exact hsh53
              have hsh55 : n0 ≤ h55.size := Nat.le_trans hsh53 Eh55.1
              have Fa56_bytes : Fld Z h55 a56 "com/example/dircred/dircred/credential/DerReader" "bytes" "[B" .null := Da56 (Or.inr (hw _ (List.mem_of_getElem? (i := 14) rfl))) (ty := (.array .byte)) (by decide)
              have Fa56_position : Fld Z h55 a56 "com/example/dircred/dircred/credential/DerReader" "position" "I" (.int (0 : Int32)) := Da56 (Or.inl (hw _ (List.mem_of_getElem? (i := 16) rfl))) (ty := .int) (by decide)
              have Fa56_end : Fld Z h55 a56 "com/example/dircred/dircred/credential/DerReader" "end" "I" (.int (0 : Int32)) := Da56 (Or.inr (hw _ (List.mem_of_getElem? (i := 18) rfl))) (ty := .int) (by decide)
              refine X.dup (q := 280) at_279 rfl rfl ?_
              refine X.aload (q := 282) at_280 rfl rfl rfl ?_
              refine X.special (a := a56) (own_i1 l Z a0 hw h55 n0 a56 a54 L (0 : Int32) (by rw [nL]; rfl) hsh55 Ba56 Fa56_bytes Fa56_position Fa56_end AL'h55 gea56 (Nat.ne_of_gt la54_a56)) rfl (hw _ (List.mem_of_getElem? (i := 4) rfl)) (hw _ (List.mem_of_getElem? (i := 5) rfl)) (hw _ (List.mem_of_getElem? (i := 3) rfl)) (hw _ (List.mem_of_getElem? (i := 6) rfl)) (by decide) own_pd6 (argsL := [(.ref a54)]) (rest := [(.ref a56)]) rfl rfl rfl (W := 1) (Nat.le_of_eq rfl) rfl (by decide) (by decide) (k' := 2) (n' := 3) rfl rfl (by decide) (by decide) at_282 (q := 285) rfl ?_
              rintro _ h57 ⟨rfl, Kh57c, Db, Dp, De⟩
              have AL'h57 : OwA Z h57 a54 .byte (L.map Value.int) := OwA.keep AL'h55 Kh57c (ninS (Nat.ne_of_lt la54_a56) nin0)
              have Ba56'h57 : Exa Z h57 a56 "com/example/dircred/dircred/credential/DerReader" := Exa.keep Ba56 Kh57c
              have hsh57 : n0 ≤ h57.size := Nat.le_trans hsh55 Kh57c.1
              show X.G h57 2 3 285 #[.val (.int x0), .val (.int x1), .val (.int x2), .val (.int x3), .val (.int x4), .val (.int (0 : Int32)), .val (.int (1 : Int32)), .val (.int (0 : Int32)), .val (.int t), .val (.ref a54), .unset, .unset, .unset] [(.ref a56)]
              refine X.astore (q := 287) (Ls' := #[.val (.int x0), .val (.int x1), .val (.int x2), .val (.int x3), .val (.int x4), .val (.int (0 : Int32)), .val (.int (1 : Int32)), .val (.int (0 : Int32)), .val (.int t), .val (.ref a54), .val (.ref a56), .unset, .unset]) at_285 rfl rfl rfl ?_
              refine X.iload (q := 289) at_287 rfl rfl ?_
              refine X.if_eq (a := 0) (q' := 297) (q := 292) at_289 rfl (by decide) rfl (fun c289 => ?_) (fun c289 => ?_)
              · refine X.aload (q := 299) at_297 rfl rfl rfl ?_
                refine X.iloadN (q := 300) at_299 rfl rfl ?_
                refine X.virtual (a := a56) (own_n0 l Z a0 hw h57 n0 a56 a54 (0 : Int32) (0 : Int32) x2 (by decide) hsh57 Ba56'h57 Db Dp De) (hw _ (List.mem_of_getElem? (i := 19) rfl)) (hw _ (List.mem_of_getElem? (i := 20) rfl)) (hw _ (List.mem_of_getElem? (i := 22) rfl)) (hw _ (List.mem_of_getElem? (i := 21) rfl)) (hw _ (List.mem_of_getElem? (i := 3) rfl)) (hw _ (List.mem_of_getElem? (i := 23) rfl)) (by decide) Ba56'h57 own_pd7 (argsL := [(.int x2)]) (rest := []) rfl rfl rfl (W := 0) (Nat.le_of_eq rfl) rfl (by decide) (by decide) (k' := 3) (n' := 6) rfl rfl (by decide) (by decide) at_300 (q := 303) rfl ?_
                rintro _ _ ⟨rfl, rfl⟩
                show X.G h57 3 6 303 #[.val (.int x0), .val (.int x1), .val (.int x2), .val (.int x3), .val (.int x4), .val (.int (0 : Int32)), .val (.int (1 : Int32)), .val (.int (0 : Int32)), .val (.int t), .val (.ref a54), .val (.ref a56), .unset, .unset] [(.int (0 : Int32))]
                refine X.istore (q := 305) (Ls' := #[.val (.int x0), .val (.int x1), .val (.int x2), .val (.int x3), .val (.int x4), .val (.int (0 : Int32)), .val (.int (1 : Int32)), .val (.int (0 : Int32)), .val (.int t), .val (.ref a54), .val (.ref a56), .val (.int (0 : Int32)), .unset]) at_303 rfl rfl ?_
                refine X.iload (q := 307) at_305 rfl rfl ?_
                refine X.if_ne (a := 1) (q' := 320) (q := 310) at_307 rfl (by decide) rfl (fun c307 => ?_) (fun c307 => ?_)
                · refine X.iconst (q := 321) (0 : Int32) at_320 (by decide) rfl ?_
                  refine X.istore (q := 323) (Ls' := #[.val (.int x0), .val (.int x1), .val (.int x2), .val (.int x3), .val (.int x4), .val (.int (0 : Int32)), .val (.int (1 : Int32)), .val (.int (0 : Int32)), .val (.int t), .val (.ref a54), .val (.ref a56), .val (.int (0 : Int32)), .val (.int (0 : Int32))]) at_321 rfl rfl ?_
                  refine X.iload (q := 325) at_323 rfl rfl ?_
                  refine X.iload (q := 327) at_325 rfl rfl ?_
                  refine X.icmp_ne (a := 0) (b := 0) (q' := 334) (q := 330) at_327 rfl rfl (by decide) rfl (fun c327 => ?_) (fun c327 => ?_)
                  · omega
                  · refine X.iconst (q := 331) (1 : Int32) at_330 (by decide) rfl ?_
                    refine X.goto (q' := 335) at_331 (by decide) ?_
                    refine X.retN (t := .boolean) (z' := (1 : Int32)) at_335 rfl (by simp) (by decide) (by decide) (by decide) ?_
                    rfl
                · omega
              · omega
            · omega
          · omega
      · omega
  · refine X.iconst (q := 7) (1 : Int32) at_6 (by decide) rfl ?_
    refine X.goto (q' := 11) at_7 (by decide) ?_
    refine X.istore (q := 13) (Ls' := #[.val (.int x0), .val (.int x1), .val (.int x2), .val (.int x3), .val (.int x4), .val (.int (1 : Int32)), .unset, .unset, .unset, .unset, .unset, .unset, .unset]) at_11 rfl rfl ?_
    refine X.iloadN (q := 14) at_13 rfl rfl ?_
    refine X.iconst (q := 15) (1 : Int32) at_14 (by decide) rfl ?_
    refine X.ishr (q := 16) at_15 rfl ?_
    refine X.iconst (q := 17) (3 : Int32) at_16 (by decide) rfl ?_
    refine X.iand (q := 18) at_17 rfl ?_
    refine X.if_ne (q' := 25) (q := 21) at_18 rfl (by decide) rfl (fun c18 => ?_) (fun c18 => ?_)
    · refine X.iconst (q := 26) (0 : Int32) at_25 (by decide) rfl ?_
      refine X.istore (q := 28) (Ls' := #[.val (.int x0), .val (.int x1), .val (.int x2), .val (.int x3), .val (.int x4), .val (.int (1 : Int32)), .val (.int (0 : Int32)), .unset, .unset, .unset, .unset, .unset, .unset]) at_26 rfl rfl ?_
      refine X.iload (q := 30) at_28 rfl rfl ?_
      refine X.if_eq (a := 1) (q' := 37) (q := 33) at_30 rfl (by decide) rfl (fun c30 => ?_) (fun c30 => ?_)
      · omega
      · refine X.iconst (q := 34) (2 : Int32) at_33 (by decide) rfl ?_
        refine X.goto (q' := 38) at_34 (by decide) ?_
        refine X.istore (q := 40) (Ls' := #[.val (.int x0), .val (.int x1), .val (.int x2), .val (.int x3), .val (.int x4), .val (.int (1 : Int32)), .val (.int (0 : Int32)), .val (.int (2 : Int32)), .unset, .unset, .unset, .unset, .unset]) at_38 rfl rfl ?_
        refine X.iloadN (q := 41) at_40 rfl rfl ?_
        refine X.sipush (q := 44) (255 : Int32) at_41 (by decide) rfl ?_
        refine X.iand (q := 45) at_44 rfl ?_
        refine X.nmI (fun t ht => ?_)
        have htr : 0 ≤ t.toInt ∧ t.toInt ≤ 255 := by rw [ht, Jvm.Kit.i32_mask (k := 8) _ _ (by decide) (by decide)]; omega
        clear ht
        refine X.istore (q := 47) (Ls' := #[.val (.int x0), .val (.int x1), .val (.int x2), .val (.int x3), .val (.int x4), .val (.int (1 : Int32)), .val (.int (0 : Int32)), .val (.int (2 : Int32)), .val (.int t), .unset, .unset, .unset, .unset]) at_45 rfl rfl ?_
        refine X.iload (q := 49) at_47 rfl rfl ?_
        refine X.if_eq (a := 0) (q' := 59) (q := 52) at_49 rfl (by decide) rfl (fun c49 => ?_) (fun c49 => ?_)
        · refine X.iload (q := 61) at_59 rfl rfl ?_
          refine X.bipush (q := 63) (6 : Int32) at_61 (by decide) rfl ?_
          refine X.iadd (q := 64) at_63 rfl ?_
          refine X.foldI (v := (8 : Int32)) (by decide) ?_
          refine X.newP (q := 66) (ty := .byte) (N := 8) (cap := 8) (k' := 1) (n' := 8) (hw _ (List.mem_of_getElem? (i := 0) rfl)) at_64 rfl rfl (Nat.le_refl _) (by decide) rfl rfl (by decide) (by decide) rfl (fun h58 a59 ga59 Eh58 Aa59 => ?_)
          have gea59 : n0 ≤ a59 := by rw [ga59]; exact hn0
          have hsh58 : n0 ≤ h58.size := Nat.le_trans hn0 Eh58.1
          have Aa59 : OwA Z h58 a59 .byte [(.int (0 : Int32)), (.int (0 : Int32)), (.int (0 : Int32)), (.int (0 : Int32)), (.int (0 : Int32)), (.int (0 : Int32)), (.int (0 : Int32)), (.int (0 : Int32))] := Aa59
          refine X.astore (q := 68) (Ls' := #[.val (.int x0), .val (.int x1), .val (.int x2), .val (.int x3), .val (.int x4), .val (.int (1 : Int32)), .val (.int (0 : Int32)), .val (.int (2 : Int32)), .val (.int t), .val (.ref a59), .unset, .unset, .unset]) at_66 rfl rfl rfl ?_
          refine X.iload (q := 70) at_68 rfl rfl ?_
          refine X.if_eq (a := 1) (q' := 83) (q := 73) at_70 rfl (by decide) rfl (fun c70 => ?_) (fun c70 => ?_)
          · omega
          · refine X.aload (q := 75) at_73 rfl rfl rfl ?_
            refine X.iconst (q := 76) (0 : Int32) at_75 (by decide) rfl ?_
            refine X.iconst (q := 77) (5 : Int32) at_76 (by decide) rfl ?_
            refine X.bastore (q := 78) (j := 0) Aa59 rfl (by simp) gea59 at_77 rfl (fun h60 Wh60 Ah60 => ?_)
            have hsh60 : n0 ≤ h60.size := by rw [Wr.size Wh60]; exact hsh58
            have Ah60_ : OwA Z h60 a59 .byte [(.int (nar .byte (5 : Int32))), (.int (0 : Int32)), (.int (0 : Int32)), (.int (0 : Int32)), (.int (0 : Int32)), (.int (0 : Int32)), (.int (0 : Int32)), (.int (0 : Int32))] := Ah60
            refine X.aload (q := 80) at_78 rfl rfl rfl ?_
            refine X.iconst (q := 81) (1 : Int32) at_80 (by decide) rfl ?_
            refine X.iconst (q := 82) (0 : Int32) at_81 (by decide) rfl ?_
            refine X.bastore (q := 83) (j := 1) Ah60_ rfl (by simp) gea59 at_82 rfl (fun h61 Wh61 Ah61 => ?_)
            have hsh61 : n0 ≤ h61.size := by rw [Wr.size Wh61]; exact hsh60
            have Ah61_ : OwA Z h61 a59 .byte [(.int (nar .byte (5 : Int32))), (.int (nar .byte (0 : Int32))), (.int (0 : Int32)), (.int (0 : Int32)), (.int (0 : Int32)), (.int (0 : Int32)), (.int (0 : Int32)), (.int (0 : Int32))] := Ah61
            refine X.iload (q := 85) at_83 rfl rfl ?_
            refine X.if_ne (a := 0) (q' := 276) (q := 88) at_85 rfl (by decide) rfl (fun c85 => ?_) (fun c85 => ?_)
            · omega
            · refine X.iload (q := 90) at_88 rfl rfl ?_
              refine X.istore (q := 92) (Ls' := #[.val (.int x0), .val (.int x1), .val (.int x2), .val (.int x3), .val (.int x4), .val (.int (1 : Int32)), .val (.int (0 : Int32)), .val (.int (2 : Int32)), .val (.int t), .val (.ref a59), .val (.int (2 : Int32)), .unset, .unset]) at_90 rfl rfl ?_
              have J276 : ∀ (L : List Int32) (q : Nat) (s : Nat) (S : Int32) (Ln : Int32) (v10 : Int32) (v11 : Int32) (v12 : Int32) (hh : Heap), (L.length = 8) → (∀ x ∈ L, -128 ≤ x.toInt ∧ x.toInt ≤ 127) → (own_hdr L 2 t q s S Ln) → ((L.getD 0 0).toInt = 5 ∧ (L.getD 1 0).toInt = 0) → (n0 ≤ hh.size) → (OwA Z hh a59 .byte (L.map Value.int)) →  X.G hh 1 8 276 #[.val (.int x0), .val (.int x1), .val (.int x2), .val (.int x3), .val (.int x4), .val (.int (1 : Int32)), .val (.int (0 : Int32)), .val (.int (2 : Int32)), .val (.int t), .val (.ref a59), .val (.int v10), .val (.int v11), .val (.int v12)] [] := by
                intro L q s S Ln v10 v11 v12 hh nL rL HH g5 hshh AL
                refine X.newO (q := 279) (k' := 2) (n' := 11) (hw _ (List.mem_of_getElem? (i := 1) rfl)) (hw _ (List.mem_of_getElem? (i := 2) rfl)) (hw _ (List.mem_of_getElem? (i := 3) rfl)) at_276 rfl rfl (by decide) (by decide) rfl (fun h62 a63 ga63 Eh62 Ba63 Da63 => ?_)
                have la59_a63 : a59 < a63 := by have := AL.lt; rw [← ga63] at this; exact this
                have AL'h62 : OwA Z h62 a59 .byte (L.map Value.int) := OwA.ext (E := Eh62) AL
                have gea63 : n0 ≤ a63 := by rw [ga63]; exact hshh
                have hsh62 : n0 ≤ h62.size := Nat.le_trans hshh Eh62.1
                have Fa63_bytes : Fld Z h62 a63 "com/example/dircred/dircred/credential/DerReader" "bytes" "[B" .null := Da63 (Or.inr (hw _ (List.mem_of_getElem? (i := 14) rfl))) (ty := (.array .byte)) (by decide)
                have Fa63_position : Fld Z h62 a63 "com/example/dircred/dircred/credential/DerReader" "position" "I" (.int (0 : Int32)) := Da63 (Or.inl (hw _ (List.mem_of_getElem? (i := 16) rfl))) (ty := .int) (by decide)
                have Fa63_end : Fld Z h62 a63 "com/example/dircred/dircred/credential/DerReader" "end" "I" (.int (0 : Int32)) := Da63 (Or.inr (hw _ (List.mem_of_getElem? (i := 18) rfl))) (ty := .int) (by decide)
                refine X.dup (q := 280) at_279 rfl rfl ?_
                refine X.aload (q := 282) at_280 rfl rfl rfl ?_
                refine X.special (a := a63) (own_i1 l Z a0 hw h62 n0 a63 a59 L (8 : Int32) (by rw [nL]; rfl) hsh62 Ba63 Fa63_bytes Fa63_position Fa63_end AL'h62 gea63 (Nat.ne_of_gt la59_a63)) rfl (hw _ (List.mem_of_getElem? (i := 4) rfl)) (hw _ (List.mem_of_getElem? (i := 5) rfl)) (hw _ (List.mem_of_getElem? (i := 3) rfl)) (hw _ (List.mem_of_getElem? (i := 6) rfl)) (by decide) own_pd6 (argsL := [(.ref a59)]) (rest := [(.ref a63)]) rfl rfl rfl (W := 1) (Nat.le_of_eq rfl) rfl (by decide) (by decide) (k' := 2) (n' := 11) rfl rfl (by decide) (by decide) at_282 (q := 285) rfl ?_
                rintro _ h64 ⟨rfl, Kh64c, Db, Dp, De⟩
                have AL'h64 : OwA Z h64 a59 .byte (L.map Value.int) := OwA.keep AL'h62 Kh64c (ninS (Nat.ne_of_lt la59_a63) nin0)
                have Ba63'h64 : Exa Z h64 a63 "com/example/dircred/dircred/credential/DerReader" := Exa.keep Ba63 Kh64c
                have hsh64 : n0 ≤ h64.size := Nat.le_trans hsh62 Kh64c.1
                show X.G h64 2 11 285 #[.val (.int x0), .val (.int x1), .val (.int x2), .val (.int x3), .val (.int x4), .val (.int (1 : Int32)), .val (.int (0 : Int32)), .val (.int (2 : Int32)), .val (.int t), .val (.ref a59), .val (.int v10), .val (.int v11), .val (.int v12)] [(.ref a63)]
                refine X.astore (q := 287) (Ls' := #[.val (.int x0), .val (.int x1), .val (.int x2), .val (.int x3), .val (.int x4), .val (.int (1 : Int32)), .val (.int (0 : Int32)), .val (.int (2 : Int32)), .val (.int t), .val (.ref a59), .val (.ref a63), .val (.int v11), .val (.int v12)]) at_285 rfl rfl rfl ?_
                refine X.iload (q := 289) at_287 rfl rfl ?_
                refine X.if_eq (a := 1) (q' := 297) (q := 292) at_289 rfl (by decide) rfl (fun c289 => ?_) (fun c289 => ?_)
                · omega
                · refine X.aload (q := 294) at_292 rfl rfl rfl ?_
                  have HS : own_hdr L 0 (5 : Int32) 1 2 (2 : Int32) (0 : Int32) := by
                    have e5_ : (5 : Int32).toInt = 5 := rfl
                    have e2_ : (2 : Int32).toInt = 2 := rfl
                    unfold own_hdr; simp only [nL, Nat.reduceAdd, and_true]; refine ⟨?_, ?_, ?_, ?_, ?_, ?_, ?_, ?_⟩ <;> first | omega | rfl
                  refine X.virtual (a := a63) (own_skip l Z a0 hw h64 n0 a63 a59 L 0 (8 : Int32) 0 5 1 2 2 0 rL (by rw [nL]; rfl) (by rw [nL]; decide) rfl HS 2 rfl (by decide) hsh64 Ba63'h64 Db Dp De AL'h64 gea63 (Nat.ne_of_gt la59_a63)) (hw _ (List.mem_of_getElem? (i := 29) rfl)) (hw _ (List.mem_of_getElem? (i := 30) rfl)) (hw _ (List.mem_of_getElem? (i := 32) rfl)) (hw _ (List.mem_of_getElem? (i := 31) rfl)) (hw _ (List.mem_of_getElem? (i := 3) rfl)) (hw _ (List.mem_of_getElem? (i := 33) rfl)) (by decide) Ba63'h64 own_pd8 (argsL := []) (rest := []) rfl rfl rfl (W := 0) (Nat.le_of_eq rfl) rfl (by decide) (by decide) (k' := 4) (n' := 18) rfl rfl (by decide) (by decide) at_294 (q := 297) rfl ?_
                  rintro _ h65 ⟨rfl, Kh65c, Eb, Ep, Ee⟩
                  have AL'h65 : OwA Z h65 a59 .byte (L.map Value.int) := OwA.keep AL'h64 Kh65c (ninS (Nat.ne_of_lt la59_a63) nin0)
                  have Ba63'h65 : Exa Z h65 a63 "com/example/dircred/dircred/credential/DerReader" := Exa.keep Ba63'h64 Kh65c
                  have hsh65 : n0 ≤ h65.size := Nat.le_trans hsh64 Kh65c.1
                  show X.G h65 4 18 297 #[.val (.int x0), .val (.int x1), .val (.int x2), .val (.int x3), .val (.int x4), .val (.int (1 : Int32)), .val (.int (0 : Int32)), .val (.int (2 : Int32)), .val (.int t), .val (.ref a59), .val (.ref a63), .val (.int v11), .val (.int v12)] []
                  refine X.aload (q := 299) at_297 rfl rfl rfl ?_
                  refine X.iloadN (q := 300) at_299 rfl rfl ?_
                  refine X.virtual (a := a63) (own_nx l Z a0 hw h65 n0 a63 a59 L (2 : Int32) (8 : Int32) 2 t q s S Ln rL (by rw [nL]; rfl) (by rw [nL]; decide) rfl HH x2 hsh65 Ba63'h65 Eb Ep Ee AL'h65) (hw _ (List.mem_of_getElem? (i := 19) rfl)) (hw _ (List.mem_of_getElem? (i := 20) rfl)) (hw _ (List.mem_of_getElem? (i := 22) rfl)) (hw _ (List.mem_of_getElem? (i := 21) rfl)) (hw _ (List.mem_of_getElem? (i := 3) rfl)) (hw _ (List.mem_of_getElem? (i := 23) rfl)) (by decide) Ba63'h65 own_pd7 (argsL := [(.int x2)]) (rest := []) rfl rfl rfl (W := 0) (Nat.le_of_eq rfl) rfl (by decide) (by decide) (k' := 5) (n' := 21) rfl rfl (by decide) (by decide) at_300 (q := 303) rfl ?_
                  rintro _ h66 ⟨z, rfl, Kh66c, hz⟩
                  have AL'h66 : OwA Z h66 a59 .byte (L.map Value.int) := OwA.keep AL'h65 Kh66c nin0
                  have Ba63'h66 : Exa Z h66 a63 "com/example/dircred/dircred/credential/DerReader" := Exa.keep Ba63'h65 Kh66c
                  have Eb'h66 : Fld Z h66 a63 "com/example/dircred/dircred/credential/DerReader" "bytes" "[B" (.ref a59) := Fld.keep Eb Kh66c nin0
                  have Ep'h66 : Fld Z h66 a63 "com/example/dircred/dircred/credential/DerReader" "position" "I" (.int (2 : Int32)) := Fld.keep Ep Kh66c nin0
                  have Ee'h66 : Fld Z h66 a63 "com/example/dircred/dircred/credential/DerReader" "end" "I" (.int (8 : Int32)) := Fld.keep Ee Kh66c nin0
                  have hsh66 : n0 ≤ h66.size := Nat.le_trans hsh65 Kh66c.1
                  show X.G h66 5 21 303 #[.val (.int x0), .val (.int x1), .val (.int x2), .val (.int x3), .val (.int x4), .val (.int (1 : Int32)), .val (.int (0 : Int32)), .val (.int (2 : Int32)), .val (.int t), .val (.ref a59), .val (.ref a63), .val (.int v11), .val (.int v12)] [(.int z)]
                  refine X.istore (q := 305) (Ls' := #[.val (.int x0), .val (.int x1), .val (.int x2), .val (.int x3), .val (.int x4), .val (.int (1 : Int32)), .val (.int (0 : Int32)), .val (.int (2 : Int32)), .val (.int t), .val (.ref a59), .val (.ref a63), .val (.int z), .val (.int v12)]) at_303 rfl rfl ?_
                  refine X.iload (q := 307) at_305 rfl rfl ?_
                  refine X.if_ne (a := 0) (q' := 320) (q := 310) at_307 rfl (by decide) rfl (fun c307 => ?_) (fun c307 => ?_)
                  · omega
                  · refine X.iload (q := 312) at_310 rfl rfl ?_
                    refine X.iloadN (q := 313) at_312 rfl rfl ?_
                    refine X.icmp_ne (q' := 320) (q := 316) at_313 rfl rfl (by decide) rfl (fun c313 => ?_) (fun c313 => ?_)
                    · refine X.iconst (q := 321) (0 : Int32) at_320 (by decide) rfl ?_
                      refine X.istore (q := 323) (Ls' := #[.val (.int x0), .val (.int x1), .val (.int x2), .val (.int x3), .val (.int x4), .val (.int (1 : Int32)), .val (.int (0 : Int32)), .val (.int (2 : Int32)), .val (.int t), .val (.ref a59), .val (.ref a63), .val (.int z), .val (.int (0 : Int32))]) at_321 rfl rfl ?_
                      refine X.iload (q := 325) at_323 rfl rfl ?_
                      refine X.iload (q := 327) at_325 rfl rfl ?_
                      refine X.icmp_ne (b := 0) (q' := 334) (q := 330) at_327 rfl rfl (by decide) rfl (fun c327 => ?_) (fun c327 => ?_)
                      · omega
                      · refine X.iconst (q := 331) (1 : Int32) at_330 (by decide) rfl ?_
                        refine X.goto (q' := 335) at_331 (by decide) ?_
                        refine X.retN (t := .boolean) (z' := (1 : Int32)) at_335 rfl (by simp) (by decide) (by decide) (by decide) ?_
                        rfl
                    · refine X.iconst (q := 317) (1 : Int32) at_316 (by decide) rfl ?_
                      refine X.goto (q' := 321) at_317 (by decide) ?_
                      refine X.istore (q := 323) (Ls' := #[.val (.int x0), .val (.int x1), .val (.int x2), .val (.int x3), .val (.int x4), .val (.int (1 : Int32)), .val (.int (0 : Int32)), .val (.int (2 : Int32)), .val (.int t), .val (.ref a59), .val (.ref a63), .val (.int z), .val (.int (1 : Int32))]) at_321 rfl rfl ?_
                      refine X.iload (q := 325) at_323 rfl rfl ?_
                      refine X.iload (q := 327) at_325 rfl rfl ?_
                      refine X.icmp_ne (b := 1) (q' := 334) (q := 330) at_327 rfl rfl (by decide) rfl (fun c327 => ?_) (fun c327 => ?_)
                      · omega
                      · refine X.iconst (q := 331) (1 : Int32) at_330 (by decide) rfl ?_
                        refine X.goto (q' := 335) at_331 (by decide) ?_
                        refine X.retN (t := .boolean) (z' := (1 : Int32)) at_335 rfl (by simp) (by decide) (by decide) (by decide) ?_
                        rfl
              refine X.aload (q := 94) at_92 rfl rfl rfl ?_
              refine X.iload (q := 96) at_94 rfl rfl ?_
              refine X.iload (q := 98) at_96 rfl rfl ?_
              refine X.i2b (q := 99) at_98 rfl ?_
              refine X.bastore (q := 100) (j := 2) Ah61_ rfl (by simp) gea59 at_99 rfl (fun h67 Wh67 Ah67 => ?_)
              have hsh67 : n0 ≤ h67.size := by rw [Wr.size Wh67]; exact hsh61
              have Ah67_ : OwA Z h67 a59 .byte [(.int (nar .byte (5 : Int32))), (.int (nar .byte (0 : Int32))), (.int (nar .byte t.toInt8.toInt32)), (.int (0 : Int32)), (.int (0 : Int32)), (.int (0 : Int32)), (.int (0 : Int32)), (.int (0 : Int32))] := Ah67
              refine X.iinc (q := 103) (Ls' := #[.val (.int x0), .val (.int x1), .val (.int x2), .val (.int x3), .val (.int x4), .val (.int (1 : Int32)), .val (.int (0 : Int32)), .val (.int (2 : Int32)), .val (.int t), .val (.ref a59), .val (.int (3 : Int32)), .unset, .unset]) (1 : Int32) at_100 (by decide) rfl rfl rfl ?_
              refine X.iload (q := 105) at_103 rfl rfl ?_
              refine X.bipush (q := 107) (31 : Int32) at_105 (by decide) rfl ?_
              refine X.iand (q := 108) at_107 rfl ?_
              refine X.nmI (fun t31 ht31 => ?_)
              have ht31_ : t31.toInt = t.toInt % 32 := by rw [ht31, Jvm.Kit.i32_mask (k := 5) _ _ (by decide) (by decide)]; rfl
              clear ht31
              refine X.bipush (q := 110) (31 : Int32) at_108 (by decide) rfl ?_
              refine X.icmp_ne (b := 31) (q' := 154) (q := 113) at_110 rfl rfl (by decide) rfl (fun c110 => ?_) (fun c110 => ?_)
              · refine X.iload (q := 156) at_154 rfl rfl ?_
                refine X.iconst (q := 157) (3 : Int32) at_156 (by decide) rfl ?_
                refine X.iand (q := 158) at_157 rfl ?_
                refine X.nmI (fun ls hls => ?_)
                have hlsr : 0 ≤ ls.toInt ∧ ls.toInt ≤ 3 := by rw [hls, Jvm.Kit.i32_mask (k := 2) _ _ (by decide) (by decide)]; omega
                clear hls
                refine X.istore (q := 160) (Ls' := #[.val (.int x0), .val (.int x1), .val (.int x2), .val (.int x3), .val (.int x4), .val (.int (1 : Int32)), .val (.int (0 : Int32)), .val (.int (2 : Int32)), .val (.int t), .val (.ref a59), .val (.int (3 : Int32)), .val (.int ls), .unset]) at_158 rfl rfl ?_
                refine X.iload (q := 162) at_160 rfl rfl ?_
                refine X.if_ne (q' := 169) (q := 165) at_162 rfl (by decide) rfl (fun c162 => ?_) (fun c162 => ?_)
                · refine X.iconst (q := 170) (1 : Int32) at_169 (by decide) rfl ?_
                  refine X.istore (q := 172) (Ls' := #[.val (.int x0), .val (.int x1), .val (.int x2), .val (.int x3), .val (.int x4), .val (.int (1 : Int32)), .val (.int (0 : Int32)), .val (.int (2 : Int32)), .val (.int t), .val (.ref a59), .val (.int (3 : Int32)), .val (.int ls), .val (.int (1 : Int32))]) at_170 rfl rfl ?_
                  refine X.iload (q := 174) at_172 rfl rfl ?_
                  refine X.if_ne (q' := 189) (q := 177) at_174 rfl (by decide) rfl (fun c174 => ?_) (fun c174 => ?_)
                  · refine X.iload (q := 191) at_189 rfl rfl ?_
                    refine X.iconst (q := 192) (1 : Int32) at_191 (by decide) rfl ?_
                    refine X.icmp_ne (b := 1) (q' := 209) (q := 195) at_192 rfl rfl (by decide) rfl (fun c192 => ?_) (fun c192 => ?_)
                    · refine X.iload (q := 211) at_209 rfl rfl ?_
                      refine X.iconst (q := 212) (2 : Int32) at_211 (by decide) rfl ?_
                      refine X.icmp_ne (b := 2) (q' := 239) (q := 215) at_212 rfl rfl (by decide) rfl (fun c212 => ?_) (fun c212 => ?_)
                      · refine X.iload (q := 241) at_239 rfl rfl ?_
                        refine X.bipush (q := 243) (32 : Int32) at_241 (by decide) rfl ?_
                        refine X.iand (q := 244) at_243 rfl ?_
                        refine X.nmI (fun t32 ht32 => ?_)
                        have ht32a := own_b5 t (by omega) (by omega)
                        rw [← ht32] at ht32a
                        clear ht32
                        have ht32_ : (t32.toInt = 0 ∧ t.toInt / 32 % 2 = 0) ∨ (¬ t32.toInt = 0 ∧ t.toInt / 32 % 2 = 1) := by omega
                        clear ht32a
                        refine X.if_eq (q' := 257) (q := 247) at_244 rfl (by decide) rfl (fun c244 => ?_) (fun c244 => ?_)
                        · refine X.aload (q := 259) at_257 rfl rfl rfl ?_
                          refine X.iload (q := 261) at_259 rfl rfl ?_
                          refine X.iconst (q := 262) (0 : Int32) at_261 (by decide) rfl ?_
                          refine X.bastore (q := 263) (j := 3) Ah67_ rfl (by simp) gea59 at_262 rfl (fun h68 Wh68 Ah68 => ?_)
                          have hsh68 : n0 ≤ h68.size := by rw [Wr.size Wh68]; exact hsh67
                          have Ah68_ : OwA Z h68 a59 .byte [(.int (nar .byte (5 : Int32))), (.int (nar .byte (0 : Int32))), (.int (nar .byte t.toInt8.toInt32)), (.int (nar .byte (0 : Int32))), (.int (0 : Int32)), (.int (0 : Int32)), (.int (0 : Int32)), (.int (0 : Int32))] := Ah68
                          refine X.iinc (q := 266) (Ls' := #[.val (.int x0), .val (.int x1), .val (.int x2), .val (.int x3), .val (.int x4), .val (.int (1 : Int32)), .val (.int (0 : Int32)), .val (.int (2 : Int32)), .val (.int t), .val (.ref a59), .val (.int (4 : Int32)), .val (.int ls), .val (.int (1 : Int32))]) (1 : Int32) at_263 (by decide) rfl rfl rfl ?_
                          refine X.aload (q := 268) at_266 rfl rfl rfl ?_
                          refine X.iload (q := 270) at_268 rfl rfl ?_
                          refine X.iloadN (q := 271) at_270 rfl rfl ?_
                          refine X.bipush (q := 273) (16 : Int32) at_271 (by decide) rfl ?_
                          refine X.ishr (q := 274) at_273 rfl ?_
                          refine X.nmI (fun xc hxc => ?_)
                          clear hxc
                          refine X.i2b (q := 275) at_274 rfl ?_
                          refine X.bastore (q := 276) (j := 4) Ah68_ rfl (by simp) gea59 at_275 rfl (fun h69 Wh69 Ah69 => ?_)
                          have hsh69 : n0 ≤ h69.size := by rw [Wr.size Wh69]; exact hsh68
                          have Ah69_ : OwA Z h69 a59 .byte [(.int (nar .byte (5 : Int32))), (.int (nar .byte (0 : Int32))), (.int (nar .byte t.toInt8.toInt32)), (.int (nar .byte (0 : Int32))), (.int (nar .byte xc.toInt8.toInt32)), (.int (0 : Int32)), (.int (0 : Int32)), (.int (0 : Int32))] := Ah69
                          obtain ⟨L, hL⟩ : ∃ L_ : List Int32, L_ = [(nar .byte (5 : Int32)), (nar .byte (0 : Int32)), (nar .byte t.toInt8.toInt32), (nar .byte (0 : Int32)), (nar .byte xc.toInt8.toInt32), (0 : Int32), (0 : Int32), (0 : Int32)] := ⟨_, rfl⟩
                          have AL : OwA Z h69 a59 .byte (L.map Value.int) := by rw [hL]; exact Ah69_
                          have nL : L.length = 8 := by rw [hL]; rfl
                          have gL0 : (L.getD 0 0).toInt = 5 := by rw [hL]; rfl
                          have gL1 : (L.getD 1 0).toInt = 0 := by rw [hL]; rfl
                          have gL2 : (L.getD 2 0).toInt = (t.toInt + 128) % 256 - 128 := by rw [hL]; exact own_nbt _
                          have gL3 : (L.getD 3 0).toInt = 0 := by rw [hL]; rfl
                          have gL4 : (L.getD 4 0).toInt = (xc.toInt + 128) % 256 - 128 := by rw [hL]; exact own_nbt _
                          have gL5 : (L.getD 5 0).toInt = 0 := by rw [hL]; rfl
                          have gL6 : (L.getD 6 0).toInt = 0 := by rw [hL]; rfl
                          have gL7 : (L.getD 7 0).toInt = 0 := by rw [hL]; rfl
                          have rL : ∀ x ∈ L, -128 ≤ x.toInt ∧ x.toInt ≤ 127 := by
                            intro x hx; rw [hL] at hx
                            simp only [List.mem_cons, List.not_mem_nil, or_false] at hx
                            rcases hx with rfl | rfl | rfl | rfl | rfl | rfl | rfl | rfl
                            · exact ⟨by decide, by decide⟩
                            · exact ⟨by decide, by decide⟩
                            · rw [own_nbt]; omega
                            · exact ⟨by decide, by decide⟩
                            · rw [own_nbt]; omega
                            · exact ⟨by decide, by decide⟩
                            · exact ⟨by decide, by decide⟩
                            · exact ⟨by decide, by decide⟩
                          clear hL
                          exact J276 L 3 4 (4 : Int32) (0 : Int32) _ _ _ _ (by exact nL) (by exact rL) (by unfold own_hdr; simp only [nL, Nat.reduceAdd, and_true]; refine ⟨?_, ?_, ?_, ?_, ?_, ?_, ?_, ?_⟩ <;> first | omega | rfl) (by exact ⟨gL0, gL1⟩) hsh69 AL
                        · refine X.aload (q := 249) at_247 rfl rfl rfl ?_
                          refine X.iload (q := 251) at_249 rfl rfl ?_
                          refine X.bipush (q := 253) (-128 : Int32) at_251 (by decide) rfl ?_
                          refine X.bastore (q := 254) (j := 3) Ah67_ rfl (by simp) gea59 at_253 rfl (fun h70 Wh70 Ah70 => ?_)
                          have hsh70 : n0 ≤ h70.size := by rw [Wr.size Wh70]; exact hsh67
                          have Ah70_ : OwA Z h70 a59 .byte [(.int (nar .byte (5 : Int32))), (.int (nar .byte (0 : Int32))), (.int (nar .byte t.toInt8.toInt32)), (.int (nar .byte (-128 : Int32))), (.int (0 : Int32)), (.int (0 : Int32)), (.int (0 : Int32)), (.int (0 : Int32))] := Ah70
                          refine X.goto (q' := 263) at_254 (by decide) ?_
                          refine X.iinc (q := 266) (Ls' := #[.val (.int x0), .val (.int x1), .val (.int x2), .val (.int x3), .val (.int x4), .val (.int (1 : Int32)), .val (.int (0 : Int32)), .val (.int (2 : Int32)), .val (.int t), .val (.ref a59), .val (.int (4 : Int32)), .val (.int ls), .val (.int (1 : Int32))]) (1 : Int32) at_263 (by decide) rfl rfl rfl ?_
                          refine X.aload (q := 268) at_266 rfl rfl rfl ?_
                          refine X.iload (q := 270) at_268 rfl rfl ?_
                          refine X.iloadN (q := 271) at_270 rfl rfl ?_
                          refine X.bipush (q := 273) (16 : Int32) at_271 (by decide) rfl ?_
                          refine X.ishr (q := 274) at_273 rfl ?_
                          refine X.nmI (fun xc hxc => ?_)
                          clear hxc
                          refine X.i2b (q := 275) at_274 rfl ?_
                          refine X.bastore (q := 276) (j := 4) Ah70_ rfl (by simp) gea59 at_275 rfl (fun h71 Wh71 Ah71 => ?_)
                          have hsh71 : n0 ≤ h71.size := by rw [Wr.size Wh71]; exact hsh70
                          have Ah71_ : OwA Z h71 a59 .byte [(.int (nar .byte (5 : Int32))), (.int (nar .byte (0 : Int32))), (.int (nar .byte t.toInt8.toInt32)), (.int (nar .byte (-128 : Int32))), (.int (nar .byte xc.toInt8.toInt32)), (.int (0 : Int32)), (.int (0 : Int32)), (.int (0 : Int32))] := Ah71
                          obtain ⟨L, hL⟩ : ∃ L_ : List Int32, L_ = [(nar .byte (5 : Int32)), (nar .byte (0 : Int32)), (nar .byte t.toInt8.toInt32), (nar .byte (-128 : Int32)), (nar .byte xc.toInt8.toInt32), (0 : Int32), (0 : Int32), (0 : Int32)] := ⟨_, rfl⟩
                          have AL : OwA Z h71 a59 .byte (L.map Value.int) := by rw [hL]; exact Ah71_
                          have nL : L.length = 8 := by rw [hL]; rfl
                          have gL0 : (L.getD 0 0).toInt = 5 := by rw [hL]; rfl
                          have gL1 : (L.getD 1 0).toInt = 0 := by rw [hL]; rfl
                          have gL2 : (L.getD 2 0).toInt = (t.toInt + 128) % 256 - 128 := by rw [hL]; exact own_nbt _
                          have gL3 : (L.getD 3 0).toInt = -128 := by rw [hL]; rfl
                          have gL4 : (L.getD 4 0).toInt = (xc.toInt + 128) % 256 - 128 := by rw [hL]; exact own_nbt _
                          have gL5 : (L.getD 5 0).toInt = 0 := by rw [hL]; rfl
                          have gL6 : (L.getD 6 0).toInt = 0 := by rw [hL]; rfl
                          have gL7 : (L.getD 7 0).toInt = 0 := by rw [hL]; rfl
                          have rL : ∀ x ∈ L, -128 ≤ x.toInt ∧ x.toInt ≤ 127 := by
                            intro x hx; rw [hL] at hx
                            simp only [List.mem_cons, List.not_mem_nil, or_false] at hx
                            rcases hx with rfl | rfl | rfl | rfl | rfl | rfl | rfl | rfl
                            · exact ⟨by decide, by decide⟩
                            · exact ⟨by decide, by decide⟩
                            · rw [own_nbt]; omega
                            · exact ⟨by decide, by decide⟩
                            · rw [own_nbt]; omega
                            · exact ⟨by decide, by decide⟩
                            · exact ⟨by decide, by decide⟩
                            · exact ⟨by decide, by decide⟩
                          clear hL
                          exact J276 L 3 4 (4 : Int32) (-1 : Int32) _ _ _ _ (by exact nL) (by exact rL) (by unfold own_hdr; simp only [nL, Nat.reduceAdd, and_true]; refine ⟨?_, ?_, ?_, ?_, ?_, ?_, ?_, ?_⟩ <;> first | omega | rfl) (by exact ⟨gL0, gL1⟩) hsh71 AL
                      · refine X.aload (q := 217) at_215 rfl rfl rfl ?_
                        refine X.iload (q := 219) at_217 rfl rfl ?_
                        refine X.bipush (q := 221) (-127 : Int32) at_219 (by decide) rfl ?_
                        refine X.bastore (q := 222) (j := 3) Ah67_ rfl (by simp) gea59 at_221 rfl (fun h72 Wh72 Ah72 => ?_)
                        have hsh72 : n0 ≤ h72.size := by rw [Wr.size Wh72]; exact hsh67
                        have Ah72_ : OwA Z h72 a59 .byte [(.int (nar .byte (5 : Int32))), (.int (nar .byte (0 : Int32))), (.int (nar .byte t.toInt8.toInt32)), (.int (nar .byte (-127 : Int32))), (.int (0 : Int32)), (.int (0 : Int32)), (.int (0 : Int32)), (.int (0 : Int32))] := Ah72
                        refine X.iinc (q := 225) (Ls' := #[.val (.int x0), .val (.int x1), .val (.int x2), .val (.int x3), .val (.int x4), .val (.int (1 : Int32)), .val (.int (0 : Int32)), .val (.int (2 : Int32)), .val (.int t), .val (.ref a59), .val (.int (4 : Int32)), .val (.int ls), .val (.int (1 : Int32))]) (1 : Int32) at_222 (by decide) rfl rfl rfl ?_
                        refine X.aload (q := 227) at_225 rfl rfl rfl ?_
                        refine X.iload (q := 229) at_227 rfl rfl ?_
                        refine X.iload (q := 231) at_229 rfl rfl ?_
                        refine X.i2b (q := 232) at_231 rfl ?_
                        refine X.bastore (q := 233) (j := 4) Ah72_ rfl (by simp) gea59 at_232 rfl (fun h73 Wh73 Ah73 => ?_)
                        have hsh73 : n0 ≤ h73.size := by rw [Wr.size Wh73]; exact hsh72
                        have Ah73_ : OwA Z h73 a59 .byte [(.int (nar .byte (5 : Int32))), (.int (nar .byte (0 : Int32))), (.int (nar .byte t.toInt8.toInt32)), (.int (nar .byte (-127 : Int32))), (.int (nar .byte (1 : Int32).toInt8.toInt32)), (.int (0 : Int32)), (.int (0 : Int32)), (.int (0 : Int32))] := Ah73
                        refine X.iinc (q := 236) (Ls' := #[.val (.int x0), .val (.int x1), .val (.int x2), .val (.int x3), .val (.int x4), .val (.int (1 : Int32)), .val (.int (0 : Int32)), .val (.int (2 : Int32)), .val (.int t), .val (.ref a59), .val (.int (5 : Int32)), .val (.int ls), .val (.int (1 : Int32))]) (1 : Int32) at_233 (by decide) rfl rfl rfl ?_
                        refine X.goto (q' := 266) at_236 (by decide) ?_
                        refine X.aload (q := 268) at_266 rfl rfl rfl ?_
                        refine X.iload (q := 270) at_268 rfl rfl ?_
                        refine X.iloadN (q := 271) at_270 rfl rfl ?_
                        refine X.bipush (q := 273) (16 : Int32) at_271 (by decide) rfl ?_
                        refine X.ishr (q := 274) at_273 rfl ?_
                        refine X.nmI (fun xc hxc => ?_)
                        clear hxc
                        refine X.i2b (q := 275) at_274 rfl ?_
                        refine X.bastore (q := 276) (j := 5) Ah73_ rfl (by simp) gea59 at_275 rfl (fun h74 Wh74 Ah74 => ?_)
                        have hsh74 : n0 ≤ h74.size := by rw [Wr.size Wh74]; exact hsh73
                        have Ah74_ : OwA Z h74 a59 .byte [(.int (nar .byte (5 : Int32))), (.int (nar .byte (0 : Int32))), (.int (nar .byte t.toInt8.toInt32)), (.int (nar .byte (-127 : Int32))), (.int (nar .byte (1 : Int32).toInt8.toInt32)), (.int (nar .byte xc.toInt8.toInt32)), (.int (0 : Int32)), (.int (0 : Int32))] := Ah74
                        obtain ⟨L, hL⟩ : ∃ L_ : List Int32, L_ = [(nar .byte (5 : Int32)), (nar .byte (0 : Int32)), (nar .byte t.toInt8.toInt32), (nar .byte (-127 : Int32)), (nar .byte (1 : Int32).toInt8.toInt32), (nar .byte xc.toInt8.toInt32), (0 : Int32), (0 : Int32)] := ⟨_, rfl⟩
                        have AL : OwA Z h74 a59 .byte (L.map Value.int) := by rw [hL]; exact Ah74_
                        have nL : L.length = 8 := by rw [hL]; rfl
                        have gL0 : (L.getD 0 0).toInt = 5 := by rw [hL]; rfl
                        have gL1 : (L.getD 1 0).toInt = 0 := by rw [hL]; rfl
                        have gL2 : (L.getD 2 0).toInt = (t.toInt + 128) % 256 - 128 := by rw [hL]; exact own_nbt _
                        have gL3 : (L.getD 3 0).toInt = -127 := by rw [hL]; rfl
                        have gL4 : (L.getD 4 0).toInt = ((1 : Int32).toInt + 128) % 256 - 128 := by rw [hL]; exact own_nbt _
                        have gL5 : (L.getD 5 0).toInt = (xc.toInt + 128) % 256 - 128 := by rw [hL]; exact own_nbt _
                        have gL6 : (L.getD 6 0).toInt = 0 := by rw [hL]; rfl
                        have gL7 : (L.getD 7 0).toInt = 0 := by rw [hL]; rfl
                        have rL : ∀ x ∈ L, -128 ≤ x.toInt ∧ x.toInt ≤ 127 := by
                          intro x hx; rw [hL] at hx
                          simp only [List.mem_cons, List.not_mem_nil, or_false] at hx
                          rcases hx with rfl | rfl | rfl | rfl | rfl | rfl | rfl | rfl
                          · exact ⟨by decide, by decide⟩
                          · exact ⟨by decide, by decide⟩
                          · rw [own_nbt]; omega
                          · exact ⟨by decide, by decide⟩
                          · rw [own_nbt]; omega
                          · rw [own_nbt]; omega
                          · exact ⟨by decide, by decide⟩
                          · exact ⟨by decide, by decide⟩
                        clear hL
                        exact J276 L 3 5 (5 : Int32) (1 : Int32) _ _ _ _ (by exact nL) (by exact rL) (by unfold own_hdr; simp only [nL, Nat.reduceAdd, and_true]; refine ⟨?_, ?_, ?_, ?_, ?_, ?_, ?_, ?_⟩ <;> first | omega | rfl) (by exact ⟨gL0, gL1⟩) hsh74 AL
                    · refine X.aload (q := 197) at_195 rfl rfl rfl ?_
                      refine X.iload (q := 199) at_197 rfl rfl ?_
                      refine X.iload (q := 201) at_199 rfl rfl ?_
                      refine X.i2b (q := 202) at_201 rfl ?_
                      refine X.bastore (q := 203) (j := 3) Ah67_ rfl (by simp) gea59 at_202 rfl (fun h75 Wh75 Ah75 => ?_)
                      have hsh75 : n0 ≤ h75.size := by rw [Wr.size Wh75]; exact hsh67
                      have Ah75_ : OwA Z h75 a59 .byte [(.int (nar .byte (5 : Int32))), (.int (nar .byte (0 : Int32))), (.int (nar .byte t.toInt8.toInt32)), (.int (nar .byte (1 : Int32).toInt8.toInt32)), (.int (0 : Int32)), (.int (0 : Int32)), (.int (0 : Int32)), (.int (0 : Int32))] := Ah75
                      refine X.iinc (q := 206) (Ls' := #[.val (.int x0), .val (.int x1), .val (.int x2), .val (.int x3), .val (.int x4), .val (.int (1 : Int32)), .val (.int (0 : Int32)), .val (.int (2 : Int32)), .val (.int t), .val (.ref a59), .val (.int (4 : Int32)), .val (.int ls), .val (.int (1 : Int32))]) (1 : Int32) at_203 (by decide) rfl rfl rfl ?_
                      refine X.goto (q' := 266) at_206 (by decide) ?_
                      refine X.aload (q := 268) at_266 rfl rfl rfl ?_
                      refine X.iload (q := 270) at_268 rfl rfl ?_
                      refine X.iloadN (q := 271) at_270 rfl rfl ?_
                      refine X.bipush (q := 273) (16 : Int32) at_271 (by decide) rfl ?_
                      refine X.ishr (q := 274) at_273 rfl ?_
                      refine X.nmI (fun xc hxc => ?_)
                      clear hxc
                      refine X.i2b (q := 275) at_274 rfl ?_
                      refine X.bastore (q := 276) (j := 4) Ah75_ rfl (by simp) gea59 at_275 rfl (fun h76 Wh76 Ah76 => ?_)
                      have hsh76 : n0 ≤ h76.size := by rw [Wr.size Wh76]; exact hsh75
                      have Ah76_ : OwA Z h76 a59 .byte [(.int (nar .byte (5 : Int32))), (.int (nar .byte (0 : Int32))), (.int (nar .byte t.toInt8.toInt32)), (.int (nar .byte (1 : Int32).toInt8.toInt32)), (.int (nar .byte xc.toInt8.toInt32)), (.int (0 : Int32)), (.int (0 : Int32)), (.int (0 : Int32))] := Ah76
                      obtain ⟨L, hL⟩ : ∃ L_ : List Int32, L_ = [(nar .byte (5 : Int32)), (nar .byte (0 : Int32)), (nar .byte t.toInt8.toInt32), (nar .byte (1 : Int32).toInt8.toInt32), (nar .byte xc.toInt8.toInt32), (0 : Int32), (0 : Int32), (0 : Int32)] := ⟨_, rfl⟩
                      have AL : OwA Z h76 a59 .byte (L.map Value.int) := by rw [hL]; exact Ah76_
                      have nL : L.length = 8 := by rw [hL]; rfl
                      have gL0 : (L.getD 0 0).toInt = 5 := by rw [hL]; rfl
                      have gL1 : (L.getD 1 0).toInt = 0 := by rw [hL]; rfl
                      have gL2 : (L.getD 2 0).toInt = (t.toInt + 128) % 256 - 128 := by rw [hL]; exact own_nbt _
                      have gL3 : (L.getD 3 0).toInt = ((1 : Int32).toInt + 128) % 256 - 128 := by rw [hL]; exact own_nbt _
                      have gL4 : (L.getD 4 0).toInt = (xc.toInt + 128) % 256 - 128 := by rw [hL]; exact own_nbt _
                      have gL5 : (L.getD 5 0).toInt = 0 := by rw [hL]; rfl
                      have gL6 : (L.getD 6 0).toInt = 0 := by rw [hL]; rfl
                      have gL7 : (L.getD 7 0).toInt = 0 := by rw [hL]; rfl
                      have rL : ∀ x ∈ L, -128 ≤ x.toInt ∧ x.toInt ≤ 127 := by
                        intro x hx; rw [hL] at hx
                        simp only [List.mem_cons, List.not_mem_nil, or_false] at hx
                        rcases hx with rfl | rfl | rfl | rfl | rfl | rfl | rfl | rfl
                        · exact ⟨by decide, by decide⟩
                        · exact ⟨by decide, by decide⟩
                        · rw [own_nbt]; omega
                        · rw [own_nbt]; omega
                        · rw [own_nbt]; omega
                        · exact ⟨by decide, by decide⟩
                        · exact ⟨by decide, by decide⟩
                        · exact ⟨by decide, by decide⟩
                      clear hL
                      exact J276 L 3 4 (4 : Int32) (1 : Int32) _ _ _ _ (by exact nL) (by exact rL) (by unfold own_hdr; simp only [nL, Nat.reduceAdd, and_true]; refine ⟨?_, ?_, ?_, ?_, ?_, ?_, ?_, ?_⟩ <;> first | omega | rfl) (by exact ⟨gL0, gL1⟩) hsh76 AL
                  · refine X.aload (q := 179) at_177 rfl rfl rfl ?_
                    refine X.iload (q := 181) at_179 rfl rfl ?_
                    refine X.iconst (q := 182) (0 : Int32) at_181 (by decide) rfl ?_
                    refine X.bastore (q := 183) (j := 3) Ah67_ rfl (by simp) gea59 at_182 rfl (fun h77 Wh77 Ah77 => ?_)
                    have hsh77 : n0 ≤ h77.size := by rw [Wr.size Wh77]; exact hsh67
                    have Ah77_ : OwA Z h77 a59 .byte [(.int (nar .byte (5 : Int32))), (.int (nar .byte (0 : Int32))), (.int (nar .byte t.toInt8.toInt32)), (.int (nar .byte (0 : Int32))), (.int (0 : Int32)), (.int (0 : Int32)), (.int (0 : Int32)), (.int (0 : Int32))] := Ah77
                    refine X.iinc (q := 186) (Ls' := #[.val (.int x0), .val (.int x1), .val (.int x2), .val (.int x3), .val (.int x4), .val (.int (1 : Int32)), .val (.int (0 : Int32)), .val (.int (2 : Int32)), .val (.int t), .val (.ref a59), .val (.int (4 : Int32)), .val (.int ls), .val (.int (1 : Int32))]) (1 : Int32) at_183 (by decide) rfl rfl rfl ?_
                    refine X.goto (q' := 266) at_186 (by decide) ?_
                    refine X.aload (q := 268) at_266 rfl rfl rfl ?_
                    refine X.iload (q := 270) at_268 rfl rfl ?_
                    refine X.iloadN (q := 271) at_270 rfl rfl ?_
                    refine X.bipush (q := 273) (16 : Int32) at_271 (by decide) rfl ?_
                    refine X.ishr (q := 274) at_273 rfl ?_
                    refine X.nmI (fun xc hxc => ?_)
                    clear hxc
                    refine X.i2b (q := 275) at_274 rfl ?_
                    refine X.bastore (q := 276) (j := 4) Ah77_ rfl (by simp) gea59 at_275 rfl (fun h78 Wh78 Ah78 => ?_)
                    have hsh78 : n0 ≤ h78.size := by rw [Wr.size Wh78]; exact hsh77
                    have Ah78_ : OwA Z h78 a59 .byte [(.int (nar .byte (5 : Int32))), (.int (nar .byte (0 : Int32))), (.int (nar .byte t.toInt8.toInt32)), (.int (nar .byte (0 : Int32))), (.int (nar .byte xc.toInt8.toInt32)), (.int (0 : Int32)), (.int (0 : Int32)), (.int (0 : Int32))] := Ah78
                    obtain ⟨L, hL⟩ : ∃ L_ : List Int32, L_ = [(nar .byte (5 : Int32)), (nar .byte (0 : Int32)), (nar .byte t.toInt8.toInt32), (nar .byte (0 : Int32)), (nar .byte xc.toInt8.toInt32), (0 : Int32), (0 : Int32), (0 : Int32)] := ⟨_, rfl⟩
                    have AL : OwA Z h78 a59 .byte (L.map Value.int) := by rw [hL]; exact Ah78_
                    have nL : L.length = 8 := by rw [hL]; rfl
                    have gL0 : (L.getD 0 0).toInt = 5 := by rw [hL]; rfl
                    have gL1 : (L.getD 1 0).toInt = 0 := by rw [hL]; rfl
                    have gL2 : (L.getD 2 0).toInt = (t.toInt + 128) % 256 - 128 := by rw [hL]; exact own_nbt _
                    have gL3 : (L.getD 3 0).toInt = 0 := by rw [hL]; rfl
                    have gL4 : (L.getD 4 0).toInt = (xc.toInt + 128) % 256 - 128 := by rw [hL]; exact own_nbt _
                    have gL5 : (L.getD 5 0).toInt = 0 := by rw [hL]; rfl
                    have gL6 : (L.getD 6 0).toInt = 0 := by rw [hL]; rfl
                    have gL7 : (L.getD 7 0).toInt = 0 := by rw [hL]; rfl
                    have rL : ∀ x ∈ L, -128 ≤ x.toInt ∧ x.toInt ≤ 127 := by
                      intro x hx; rw [hL] at hx
                      simp only [List.mem_cons, List.not_mem_nil, or_false] at hx
                      rcases hx with rfl | rfl | rfl | rfl | rfl | rfl | rfl | rfl
                      · exact ⟨by decide, by decide⟩
                      · exact ⟨by decide, by decide⟩
                      · rw [own_nbt]; omega
                      · exact ⟨by decide, by decide⟩
                      · rw [own_nbt]; omega
                      · exact ⟨by decide, by decide⟩
                      · exact ⟨by decide, by decide⟩
                      · exact ⟨by decide, by decide⟩
                    clear hL
                    exact J276 L 3 4 (4 : Int32) (0 : Int32) _ _ _ _ (by exact nL) (by exact rL) (by unfold own_hdr; simp only [nL, Nat.reduceAdd, and_true]; refine ⟨?_, ?_, ?_, ?_, ?_, ?_, ?_, ?_⟩ <;> first | omega | rfl) (by exact ⟨gL0, gL1⟩) hsh78 AL
                · refine X.iconst (q := 166) (0 : Int32) at_165 (by decide) rfl ?_
                  refine X.goto (q' := 170) at_166 (by decide) ?_
                  refine X.istore (q := 172) (Ls' := #[.val (.int x0), .val (.int x1), .val (.int x2), .val (.int x3), .val (.int x4), .val (.int (1 : Int32)), .val (.int (0 : Int32)), .val (.int (2 : Int32)), .val (.int t), .val (.ref a59), .val (.int (3 : Int32)), .val (.int ls), .val (.int (0 : Int32))]) at_170 rfl rfl ?_
                  refine X.iload (q := 174) at_172 rfl rfl ?_
                  refine X.if_ne (q' := 189) (q := 177) at_174 rfl (by decide) rfl (fun c174 => ?_) (fun c174 => ?_)
                  · refine X.iload (q := 191) at_189 rfl rfl ?_
                    refine X.iconst (q := 192) (1 : Int32) at_191 (by decide) rfl ?_
                    refine X.icmp_ne (b := 1) (q' := 209) (q := 195) at_192 rfl rfl (by decide) rfl (fun c192 => ?_) (fun c192 => ?_)
                    · refine X.iload (q := 211) at_209 rfl rfl ?_
                      refine X.iconst (q := 212) (2 : Int32) at_211 (by decide) rfl ?_
                      refine X.icmp_ne (b := 2) (q' := 239) (q := 215) at_212 rfl rfl (by decide) rfl (fun c212 => ?_) (fun c212 => ?_)
                      · refine X.iload (q := 241) at_239 rfl rfl ?_
                        refine X.bipush (q := 243) (32 : Int32) at_241 (by decide) rfl ?_
                        refine X.iand (q := 244) at_243 rfl ?_
                        refine X.nmI (fun t32 ht32 => ?_)
                        have ht32a := own_b5 t (by omega) (by omega)
                        rw [← ht32] at ht32a
                        clear ht32
                        have ht32_ : (t32.toInt = 0 ∧ t.toInt / 32 % 2 = 0) ∨ (¬ t32.toInt = 0 ∧ t.toInt / 32 % 2 = 1) := by omega
                        clear ht32a
                        refine X.if_eq (q' := 257) (q := 247) at_244 rfl (by decide) rfl (fun c244 => ?_) (fun c244 => ?_)
                        · refine X.aload (q := 259) at_257 rfl rfl rfl ?_
                          refine X.iload (q := 261) at_259 rfl rfl ?_
                          refine X.iconst (q := 262) (0 : Int32) at_261 (by decide) rfl ?_
                          refine X.bastore (q := 263) (j := 3) Ah67_ rfl (by simp) gea59 at_262 rfl (fun h79 Wh79 Ah79 => ?_)
                          have hsh79 : n0 ≤ h79.size := by rw [Wr.size Wh79]; exact hsh67
                          have Ah79_ : OwA Z h79 a59 .byte [(.int (nar .byte (5 : Int32))), (.int (nar .byte (0 : Int32))), (.int (nar .byte t.toInt8.toInt32)), (.int (nar .byte (0 : Int32))), (.int (0 : Int32)), (.int (0 : Int32)), (.int (0 : Int32)), (.int (0 : Int32))] := Ah79
                          refine X.iinc (q := 266) (Ls' := #[.val (.int x0), .val (.int x1), .val (.int x2), .val (.int x3), .val (.int x4), .val (.int (1 : Int32)), .val (.int (0 : Int32)), .val (.int (2 : Int32)), .val (.int t), .val (.ref a59), .val (.int (4 : Int32)), .val (.int ls), .val (.int (0 : Int32))]) (1 : Int32) at_263 (by decide) rfl rfl rfl ?_
                          refine X.aload (q := 268) at_266 rfl rfl rfl ?_
                          refine X.iload (q := 270) at_268 rfl rfl ?_
                          refine X.iloadN (q := 271) at_270 rfl rfl ?_
                          refine X.bipush (q := 273) (16 : Int32) at_271 (by decide) rfl ?_
                          refine X.ishr (q := 274) at_273 rfl ?_
                          refine X.nmI (fun xc hxc => ?_)
                          clear hxc
                          refine X.i2b (q := 275) at_274 rfl ?_
                          refine X.bastore (q := 276) (j := 4) Ah79_ rfl (by simp) gea59 at_275 rfl (fun h80 Wh80 Ah80 => ?_)
                          have hsh80 : n0 ≤ h80.size := by rw [Wr.size Wh80]; exact hsh79
                          have Ah80_ : OwA Z h80 a59 .byte [(.int (nar .byte (5 : Int32))), (.int (nar .byte (0 : Int32))), (.int (nar .byte t.toInt8.toInt32)), (.int (nar .byte (0 : Int32))), (.int (nar .byte xc.toInt8.toInt32)), (.int (0 : Int32)), (.int (0 : Int32)), (.int (0 : Int32))] := Ah80
                          obtain ⟨L, hL⟩ : ∃ L_ : List Int32, L_ = [(nar .byte (5 : Int32)), (nar .byte (0 : Int32)), (nar .byte t.toInt8.toInt32), (nar .byte (0 : Int32)), (nar .byte xc.toInt8.toInt32), (0 : Int32), (0 : Int32), (0 : Int32)] := ⟨_, rfl⟩
                          have AL : OwA Z h80 a59 .byte (L.map Value.int) := by rw [hL]; exact Ah80_
                          have nL : L.length = 8 := by rw [hL]; rfl
                          have gL0 : (L.getD 0 0).toInt = 5 := by rw [hL]; rfl
                          have gL1 : (L.getD 1 0).toInt = 0 := by rw [hL]; rfl
                          have gL2 : (L.getD 2 0).toInt = (t.toInt + 128) % 256 - 128 := by rw [hL]; exact own_nbt _
                          have gL3 : (L.getD 3 0).toInt = 0 := by rw [hL]; rfl
                          have gL4 : (L.getD 4 0).toInt = (xc.toInt + 128) % 256 - 128 := by rw [hL]; exact own_nbt _
                          have gL5 : (L.getD 5 0).toInt = 0 := by rw [hL]; rfl
                          have gL6 : (L.getD 6 0).toInt = 0 := by rw [hL]; rfl
                          have gL7 : (L.getD 7 0).toInt = 0 := by rw [hL]; rfl
                          have rL : ∀ x ∈ L, -128 ≤ x.toInt ∧ x.toInt ≤ 127 := by
                            intro x hx; rw [hL] at hx
                            simp only [List.mem_cons, List.not_mem_nil, or_false] at hx
                            rcases hx with rfl | rfl | rfl | rfl | rfl | rfl | rfl | rfl
                            · exact ⟨by decide, by decide⟩
                            · exact ⟨by decide, by decide⟩
                            · rw [own_nbt]; omega
                            · exact ⟨by decide, by decide⟩
                            · rw [own_nbt]; omega
                            · exact ⟨by decide, by decide⟩
                            · exact ⟨by decide, by decide⟩
                            · exact ⟨by decide, by decide⟩
                          clear hL
                          exact J276 L 3 4 (4 : Int32) (0 : Int32) _ _ _ _ (by exact nL) (by exact rL) (by unfold own_hdr; simp only [nL, Nat.reduceAdd, and_true]; refine ⟨?_, ?_, ?_, ?_, ?_, ?_, ?_, ?_⟩ <;> first | omega | rfl) (by exact ⟨gL0, gL1⟩) hsh80 AL
                        · omega
                      · refine X.aload (q := 217) at_215 rfl rfl rfl ?_
                        refine X.iload (q := 219) at_217 rfl rfl ?_
                        refine X.bipush (q := 221) (-127 : Int32) at_219 (by decide) rfl ?_
                        refine X.bastore (q := 222) (j := 3) Ah67_ rfl (by simp) gea59 at_221 rfl (fun h81 Wh81 Ah81 => ?_)
                        have hsh81 : n0 ≤ h81.size := by rw [Wr.size Wh81]; exact hsh67
                        have Ah81_ : OwA Z h81 a59 .byte [(.int (nar .byte (5 : Int32))), (.int (nar .byte (0 : Int32))), (.int (nar .byte t.toInt8.toInt32)), (.int (nar .byte (-127 : Int32))), (.int (0 : Int32)), (.int (0 : Int32)), (.int (0 : Int32)), (.int (0 : Int32))] := Ah81
                        refine X.iinc (q := 225) (Ls' := #[.val (.int x0), .val (.int x1), .val (.int x2), .val (.int x3), .val (.int x4), .val (.int (1 : Int32)), .val (.int (0 : Int32)), .val (.int (2 : Int32)), .val (.int t), .val (.ref a59), .val (.int (4 : Int32)), .val (.int ls), .val (.int (0 : Int32))]) (1 : Int32) at_222 (by decide) rfl rfl rfl ?_
                        refine X.aload (q := 227) at_225 rfl rfl rfl ?_
                        refine X.iload (q := 229) at_227 rfl rfl ?_
                        refine X.iload (q := 231) at_229 rfl rfl ?_
                        refine X.i2b (q := 232) at_231 rfl ?_
                        refine X.bastore (q := 233) (j := 4) Ah81_ rfl (by simp) gea59 at_232 rfl (fun h82 Wh82 Ah82 => ?_)
                        have hsh82 : n0 ≤ h82.size := by rw [Wr.size Wh82]; exact hsh81
                        have Ah82_ : OwA Z h82 a59 .byte [(.int (nar .byte (5 : Int32))), (.int (nar .byte (0 : Int32))), (.int (nar .byte t.toInt8.toInt32)), (.int (nar .byte (-127 : Int32))), (.int (nar .byte (0 : Int32).toInt8.toInt32)), (.int (0 : Int32)), (.int (0 : Int32)), (.int (0 : Int32))] := Ah82
                        refine X.iinc (q := 236) (Ls' := #[.val (.int x0), .val (.int x1), .val (.int x2), .val (.int x3), .val (.int x4), .val (.int (1 : Int32)), .val (.int (0 : Int32)), .val (.int (2 : Int32)), .val (.int t), .val (.ref a59), .val (.int (5 : Int32)), .val (.int ls), .val (.int (0 : Int32))]) (1 : Int32) at_233 (by decide) rfl rfl rfl ?_
                        refine X.goto (q' := 266) at_236 (by decide) ?_
                        refine X.aload (q := 268) at_266 rfl rfl rfl ?_
                        refine X.iload (q := 270) at_268 rfl rfl ?_
                        refine X.iloadN (q := 271) at_270 rfl rfl ?_
                        refine X.bipush (q := 273) (16 : Int32) at_271 (by decide) rfl ?_
                        refine X.ishr (q := 274) at_273 rfl ?_
                        refine X.nmI (fun xc hxc => ?_)
                        clear hxc
                        refine X.i2b (q := 275) at_274 rfl ?_
                        refine X.bastore (q := 276) (j := 5) Ah82_ rfl (by simp) gea59 at_275 rfl (fun h83 Wh83 Ah83 => ?_)
                        have hsh83 : n0 ≤ h83.size := by rw [Wr.size Wh83]; exact hsh82
                        have Ah83_ : OwA Z h83 a59 .byte [(.int (nar .byte (5 : Int32))), (.int (nar .byte (0 : Int32))), (.int (nar .byte t.toInt8.toInt32)), (.int (nar .byte (-127 : Int32))), (.int (nar .byte (0 : Int32).toInt8.toInt32)), (.int (nar .byte xc.toInt8.toInt32)), (.int (0 : Int32)), (.int (0 : Int32))] := Ah83
                        obtain ⟨L, hL⟩ : ∃ L_ : List Int32, L_ = [(nar .byte (5 : Int32)), (nar .byte (0 : Int32)), (nar .byte t.toInt8.toInt32), (nar .byte (-127 : Int32)), (nar .byte (0 : Int32).toInt8.toInt32), (nar .byte xc.toInt8.toInt32), (0 : Int32), (0 : Int32)] := ⟨_, rfl⟩
                        have AL : OwA Z h83 a59 .byte (L.map Value.int) := by rw [hL]; exact Ah83_
                        have nL : L.length = 8 := by rw [hL]; rfl
                        have gL0 : (L.getD 0 0).toInt = 5 := by rw [hL]; rfl
                        have gL1 : (L.getD 1 0).toInt = 0 := by rw [hL]; rfl
                        have gL2 : (L.getD 2 0).toInt = (t.toInt + 128) % 256 - 128 := by rw [hL]; exact own_nbt _
                        have gL3 : (L.getD 3 0).toInt = -127 := by rw [hL]; rfl
                        have gL4 : (L.getD 4 0).toInt = ((0 : Int32).toInt + 128) % 256 - 128 := by rw [hL]; exact own_nbt _
                        have gL5 : (L.getD 5 0).toInt = (xc.toInt + 128) % 256 - 128 := by rw [hL]; exact own_nbt _
                        have gL6 : (L.getD 6 0).toInt = 0 := by rw [hL]; rfl
                        have gL7 : (L.getD 7 0).toInt = 0 := by rw [hL]; rfl
                        have rL : ∀ x ∈ L, -128 ≤ x.toInt ∧ x.toInt ≤ 127 := by
                          intro x hx; rw [hL] at hx
                          simp only [List.mem_cons, List.not_mem_nil, or_false] at hx
                          rcases hx with rfl | rfl | rfl | rfl | rfl | rfl | rfl | rfl
                          · exact ⟨by decide, by decide⟩
                          · exact ⟨by decide, by decide⟩
                          · rw [own_nbt]; omega
                          · exact ⟨by decide, by decide⟩
                          · rw [own_nbt]; omega
                          · rw [own_nbt]; omega
                          · exact ⟨by decide, by decide⟩
                          · exact ⟨by decide, by decide⟩
                        clear hL
                        exact J276 L 3 5 (5 : Int32) (0 : Int32) _ _ _ _ (by exact nL) (by exact rL) (by unfold own_hdr; simp only [nL, Nat.reduceAdd, and_true]; refine ⟨?_, ?_, ?_, ?_, ?_, ?_, ?_, ?_⟩ <;> first | omega | rfl) (by exact ⟨gL0, gL1⟩) hsh83 AL
                    · refine X.aload (q := 197) at_195 rfl rfl rfl ?_
                      refine X.iload (q := 199) at_197 rfl rfl ?_
                      refine X.iload (q := 201) at_199 rfl rfl ?_
                      refine X.i2b (q := 202) at_201 rfl ?_
                      refine X.bastore (q := 203) (j := 3) Ah67_ rfl (by simp) gea59 at_202 rfl (fun h84 Wh84 Ah84 => ?_)
                      have hsh84 : n0 ≤ h84.size := by rw [Wr.size Wh84]; exact hsh67
                      have Ah84_ : OwA Z h84 a59 .byte [(.int (nar .byte (5 : Int32))), (.int (nar .byte (0 : Int32))), (.int (nar .byte t.toInt8.toInt32)), (.int (nar .byte (0 : Int32).toInt8.toInt32)), (.int (0 : Int32)), (.int (0 : Int32)), (.int (0 : Int32)), (.int (0 : Int32))] := Ah84
                      refine X.iinc (q := 206) (Ls' := #[.val (.int x0), .val (.int x1), .val (.int x2), .val (.int x3), .val (.int x4), .val (.int (1 : Int32)), .val (.int (0 : Int32)), .val (.int (2 : Int32)), .val (.int t), .val (.ref a59), .val (.int (4 : Int32)), .val (.int ls), .val (.int (0 : Int32))]) (1 : Int32) at_203 (by decide) rfl rfl rfl ?_
                      refine X.goto (q' := 266) at_206 (by decide) ?_
                      refine X.aload (q := 268) at_266 rfl rfl rfl ?_
                      refine X.iload (q := 270) at_268 rfl rfl ?_
                      refine X.iloadN (q := 271) at_270 rfl rfl ?_
                      refine X.bipush (q := 273) (16 : Int32) at_271 (by decide) rfl ?_
                      refine X.ishr (q := 274) at_273 rfl ?_
                      refine X.nmI (fun xc hxc => ?_)
                      clear hxc
                      refine X.i2b (q := 275) at_274 rfl ?_
                      refine X.bastore (q := 276) (j := 4) Ah84_ rfl (by simp) gea59 at_275 rfl (fun h85 Wh85 Ah85 => ?_)
                      have hsh85 : n0 ≤ h85.size := by rw [Wr.size Wh85]; exact hsh84
                      have Ah85_ : OwA Z h85 a59 .byte [(.int (nar .byte (5 : Int32))), (.int (nar .byte (0 : Int32))), (.int (nar .byte t.toInt8.toInt32)), (.int (nar .byte (0 : Int32).toInt8.toInt32)), (.int (nar .byte xc.toInt8.toInt32)), (.int (0 : Int32)), (.int (0 : Int32)), (.int (0 : Int32))] := Ah85
                      obtain ⟨L, hL⟩ : ∃ L_ : List Int32, L_ = [(nar .byte (5 : Int32)), (nar .byte (0 : Int32)), (nar .byte t.toInt8.toInt32), (nar .byte (0 : Int32).toInt8.toInt32), (nar .byte xc.toInt8.toInt32), (0 : Int32), (0 : Int32), (0 : Int32)] := ⟨_, rfl⟩
                      have AL : OwA Z h85 a59 .byte (L.map Value.int) := by rw [hL]; exact Ah85_
                      have nL : L.length = 8 := by rw [hL]; rfl
                      have gL0 : (L.getD 0 0).toInt = 5 := by rw [hL]; rfl
                      have gL1 : (L.getD 1 0).toInt = 0 := by rw [hL]; rfl
                      have gL2 : (L.getD 2 0).toInt = (t.toInt + 128) % 256 - 128 := by rw [hL]; exact own_nbt _
                      have gL3 : (L.getD 3 0).toInt = ((0 : Int32).toInt + 128) % 256 - 128 := by rw [hL]; exact own_nbt _
                      have gL4 : (L.getD 4 0).toInt = (xc.toInt + 128) % 256 - 128 := by rw [hL]; exact own_nbt _
                      have gL5 : (L.getD 5 0).toInt = 0 := by rw [hL]; rfl
                      have gL6 : (L.getD 6 0).toInt = 0 := by rw [hL]; rfl
                      have gL7 : (L.getD 7 0).toInt = 0 := by rw [hL]; rfl
                      have rL : ∀ x ∈ L, -128 ≤ x.toInt ∧ x.toInt ≤ 127 := by
                        intro x hx; rw [hL] at hx
                        simp only [List.mem_cons, List.not_mem_nil, or_false] at hx
                        rcases hx with rfl | rfl | rfl | rfl | rfl | rfl | rfl | rfl
                        · exact ⟨by decide, by decide⟩
                        · exact ⟨by decide, by decide⟩
                        · rw [own_nbt]; omega
                        · rw [own_nbt]; omega
                        · rw [own_nbt]; omega
                        · exact ⟨by decide, by decide⟩
                        · exact ⟨by decide, by decide⟩
                        · exact ⟨by decide, by decide⟩
                      clear hL
                      exact J276 L 3 4 (4 : Int32) (0 : Int32) _ _ _ _ (by exact nL) (by exact rL) (by unfold own_hdr; simp only [nL, Nat.reduceAdd, and_true]; refine ⟨?_, ?_, ?_, ?_, ?_, ?_, ?_, ?_⟩ <;> first | omega | rfl) (by exact ⟨gL0, gL1⟩) hsh85 AL
                  · refine X.aload (q := 179) at_177 rfl rfl rfl ?_
                    refine X.iload (q := 181) at_179 rfl rfl ?_
                    refine X.iconst (q := 182) (0 : Int32) at_181 (by decide) rfl ?_
                    refine X.bastore (q := 183) (j := 3) Ah67_ rfl (by simp) gea59 at_182 rfl (fun h86 Wh86 Ah86 => ?_)
                    have hsh86 : n0 ≤ h86.size := by rw [Wr.size Wh86]; exact hsh67
                    have Ah86_ : OwA Z h86 a59 .byte [(.int (nar .byte (5 : Int32))), (.int (nar .byte (0 : Int32))), (.int (nar .byte t.toInt8.toInt32)), (.int (nar .byte (0 : Int32))), (.int (0 : Int32)), (.int (0 : Int32)), (.int (0 : Int32)), (.int (0 : Int32))] := Ah86
                    refine X.iinc (q := 186) (Ls' := #[.val (.int x0), .val (.int x1), .val (.int x2), .val (.int x3), .val (.int x4), .val (.int (1 : Int32)), .val (.int (0 : Int32)), .val (.int (2 : Int32)), .val (.int t), .val (.ref a59), .val (.int (4 : Int32)), .val (.int ls), .val (.int (0 : Int32))]) (1 : Int32) at_183 (by decide) rfl rfl rfl ?_
                    refine X.goto (q' := 266) at_186 (by decide) ?_
                    refine X.aload (q := 268) at_266 rfl rfl rfl ?_
                    refine X.iload (q := 270) at_268 rfl rfl ?_
                    refine X.iloadN (q := 271) at_270 rfl rfl ?_
                    refine X.bipush (q := 273) (16 : Int32) at_271 (by decide) rfl ?_
                    refine X.ishr (q := 274) at_273 rfl ?_
                    refine X.nmI (fun xc hxc => ?_)
                    clear hxc
                    refine X.i2b (q := 275) at_274 rfl ?_
                    refine X.bastore (q := 276) (j := 4) Ah86_ rfl (by simp) gea59 at_275 rfl (fun h87 Wh87 Ah87 => ?_)
                    have hsh87 : n0 ≤ h87.size := by rw [Wr.size Wh87]; exact hsh86
                    have Ah87_ : OwA Z h87 a59 .byte [(.int (nar .byte (5 : Int32))), (.int (nar .byte (0 : Int32))), (.int (nar .byte t.toInt8.toInt32)), (.int (nar .byte (0 : Int32))), (.int (nar .byte xc.toInt8.toInt32)), (.int (0 : Int32)), (.int (0 : Int32)), (.int (0 : Int32))] := Ah87
                    obtain ⟨L, hL⟩ : ∃ L_ : List Int32, L_ = [(nar .byte (5 : Int32)), (nar .byte (0 : Int32)), (nar .byte t.toInt8.toInt32), (nar .byte (0 : Int32)), (nar .byte xc.toInt8.toInt32), (0 : Int32), (0 : Int32), (0 : Int32)] := ⟨_, rfl⟩
                    have AL : OwA Z h87 a59 .byte (L.map Value.int) := by rw [hL]; exact Ah87_
                    have nL : L.length = 8 := by rw [hL]; rfl
                    have gL0 : (L.getD 0 0).toInt = 5 := by rw [hL]; rfl
                    have gL1 : (L.getD 1 0).toInt = 0 := by rw [hL]; rfl
                    have gL2 : (L.getD 2 0).toInt = (t.toInt + 128) % 256 - 128 := by rw [hL]; exact own_nbt _
                    have gL3 : (L.getD 3 0).toInt = 0 := by rw [hL]; rfl
                    have gL4 : (L.getD 4 0).toInt = (xc.toInt + 128) % 256 - 128 := by rw [hL]; exact own_nbt _
                    have gL5 : (L.getD 5 0).toInt = 0 := by rw [hL]; rfl
                    have gL6 : (L.getD 6 0).toInt = 0 := by rw [hL]; rfl
                    have gL7 : (L.getD 7 0).toInt = 0 := by rw [hL]; rfl
                    have rL : ∀ x ∈ L, -128 ≤ x.toInt ∧ x.toInt ≤ 127 := by
                      intro x hx; rw [hL] at hx
                      simp only [List.mem_cons, List.not_mem_nil, or_false] at hx
                      rcases hx with rfl | rfl | rfl | rfl | rfl | rfl | rfl | rfl
                      · exact ⟨by decide, by decide⟩
                      · exact ⟨by decide, by decide⟩
                      · rw [own_nbt]; omega
                      · exact ⟨by decide, by decide⟩
                      · rw [own_nbt]; omega
                      · exact ⟨by decide, by decide⟩
                      · exact ⟨by decide, by decide⟩
                      · exact ⟨by decide, by decide⟩
                    clear hL
                    exact J276 L 3 4 (4 : Int32) (0 : Int32) _ _ _ _ (by exact nL) (by exact rL) (by unfold own_hdr; simp only [nL, Nat.reduceAdd, and_true]; refine ⟨?_, ?_, ?_, ?_, ?_, ?_, ?_, ?_⟩ <;> first | omega | rfl) (by exact ⟨gL0, gL1⟩) hsh87 AL
              · refine X.iloadN (q := 114) at_113 rfl rfl ?_
                refine X.iconst (q := 115) (1 : Int32) at_114 (by decide) rfl ?_
                refine X.iand (q := 116) at_115 rfl ?_
                refine X.if_eq (q' := 138) (q := 119) at_116 rfl (by decide) rfl (fun c116 => ?_) (fun c116 => ?_)
                · refine X.aload (q := 140) at_138 rfl rfl rfl ?_
                  refine X.iload (q := 142) at_140 rfl rfl ?_
                  refine X.iloadN (q := 143) at_142 rfl rfl ?_
                  refine X.bipush (q := 145) (8 : Int32) at_143 (by decide) rfl ?_
                  refine X.ishr (q := 146) at_145 rfl ?_
                  refine X.bipush (q := 148) (127 : Int32) at_146 (by decide) rfl ?_
                  refine X.iand (q := 149) at_148 rfl ?_
                  refine X.nmI (fun xb hxb => ?_)
                  have hxb_ : 0 ≤ xb.toInt ∧ xb.toInt ≤ 127 := by rw [hxb, Jvm.Kit.i32_mask (k := 7) _ _ (by decide) (by decide)]; omega
                  clear hxb
                  refine X.i2b (q := 150) at_149 rfl ?_
                  refine X.bastore (q := 151) (j := 3) Ah67_ rfl (by simp) gea59 at_150 rfl (fun h88 Wh88 Ah88 => ?_)
                  have hsh88 : n0 ≤ h88.size := by rw [Wr.size Wh88]; exact hsh67
                  have Ah88_ : OwA Z h88 a59 .byte [(.int (nar .byte (5 : Int32))), (.int (nar .byte (0 : Int32))), (.int (nar .byte t.toInt8.toInt32)), (.int (nar .byte xb.toInt8.toInt32)), (.int (0 : Int32)), (.int (0 : Int32)), (.int (0 : Int32)), (.int (0 : Int32))] := Ah88
                  refine X.iinc (q := 154) (Ls' := #[.val (.int x0), .val (.int x1), .val (.int x2), .val (.int x3), .val (.int x4), .val (.int (1 : Int32)), .val (.int (0 : Int32)), .val (.int (2 : Int32)), .val (.int t), .val (.ref a59), .val (.int (4 : Int32)), .unset, .unset]) (1 : Int32) at_151 (by decide) rfl rfl rfl ?_
                  refine X.iload (q := 156) at_154 rfl rfl ?_
                  refine X.iconst (q := 157) (3 : Int32) at_156 (by decide) rfl ?_
                  refine X.iand (q := 158) at_157 rfl ?_
                  refine X.nmI (fun ls hls => ?_)
                  have hlsr : 0 ≤ ls.toInt ∧ ls.toInt ≤ 3 := by rw [hls, Jvm.Kit.i32_mask (k := 2) _ _ (by decide) (by decide)]; omega
                  clear hls
                  refine X.istore (q := 160) (Ls' := #[.val (.int x0), .val (.int x1), .val (.int x2), .val (.int x3), .val (.int x4), .val (.int (1 : Int32)), .val (.int (0 : Int32)), .val (.int (2 : Int32)), .val (.int t), .val (.ref a59), .val (.int (4 : Int32)), .val (.int ls), .unset]) at_158 rfl rfl ?_
                  refine X.iload (q := 162) at_160 rfl rfl ?_
                  refine X.if_ne (q' := 169) (q := 165) at_162 rfl (by decide) rfl (fun c162 => ?_) (fun c162 => ?_)
                  · refine X.iconst (q := 170) (1 : Int32) at_169 (by decide) rfl ?_
                    refine X.istore (q := 172) (Ls' := #[.val (.int x0), .val (.int x1), .val (.int x2), .val (.int x3), .val (.int x4), .val (.int (1 : Int32)), .val (.int (0 : Int32)), .val (.int (2 : Int32)), .val (.int t), .val (.ref a59), .val (.int (4 : Int32)), .val (.int ls), .val (.int (1 : Int32))]) at_170 rfl rfl ?_
                    refine X.iload (q := 174) at_172 rfl rfl ?_
                    refine X.if_ne (q' := 189) (q := 177) at_174 rfl (by decide) rfl (fun c174 => ?_) (fun c174 => ?_)
                    · refine X.iload (q := 191) at_189 rfl rfl ?_
                      refine X.iconst (q := 192) (1 : Int32) at_191 (by decide) rfl ?_
                      refine X.icmp_ne (b := 1) (q' := 209) (q := 195) at_192 rfl rfl (by decide) rfl (fun c192 => ?_) (fun c192 => ?_)
                      · refine X.iload (q := 211) at_209 rfl rfl ?_
                        refine X.iconst (q := 212) (2 : Int32) at_211 (by decide) rfl ?_
                        refine X.icmp_ne (b := 2) (q' := 239) (q := 215) at_212 rfl rfl (by decide) rfl (fun c212 => ?_) (fun c212 => ?_)
                        · refine X.iload (q := 241) at_239 rfl rfl ?_
                          refine X.bipush (q := 243) (32 : Int32) at_241 (by decide) rfl ?_
                          refine X.iand (q := 244) at_243 rfl ?_
                          refine X.nmI (fun t32 ht32 => ?_)
                          have ht32a := own_b5 t (by omega) (by omega)
                          rw [← ht32] at ht32a
                          clear ht32
                          have ht32_ : (t32.toInt = 0 ∧ t.toInt / 32 % 2 = 0) ∨ (¬ t32.toInt = 0 ∧ t.toInt / 32 % 2 = 1) := by omega
                          clear ht32a
                          refine X.if_eq (q' := 257) (q := 247) at_244 rfl (by decide) rfl (fun c244 => ?_) (fun c244 => ?_)
                          · refine X.aload (q := 259) at_257 rfl rfl rfl ?_
                            refine X.iload (q := 261) at_259 rfl rfl ?_
                            refine X.iconst (q := 262) (0 : Int32) at_261 (by decide) rfl ?_
                            refine X.bastore (q := 263) (j := 4) Ah88_ rfl (by simp) gea59 at_262 rfl (fun h89 Wh89 Ah89 => ?_)
                            have hsh89 : n0 ≤ h89.size := by rw [Wr.size Wh89]; exact hsh88
                            have Ah89_ : OwA Z h89 a59 .byte [(.int (nar .byte (5 : Int32))), (.int (nar .byte (0 : Int32))), (.int (nar .byte t.toInt8.toInt32)), (.int (nar .byte xb.toInt8.toInt32)), (.int (nar .byte (0 : Int32))), (.int (0 : Int32)), (.int (0 : Int32)), (.int (0 : Int32))] := Ah89
                            refine X.iinc (q := 266) (Ls' := #[.val (.int x0), .val (.int x1), .val (.int x2), .val (.int x3), .val (.int x4), .val (.int (1 : Int32)), .val (.int (0 : Int32)), .val (.int (2 : Int32)), .val (.int t), .val (.ref a59), .val (.int (5 : Int32)), .val (.int ls), .val (.int (1 : Int32))]) (1 : Int32) at_263 (by decide) rfl rfl rfl ?_
                            refine X.aload (q := 268) at_266 rfl rfl rfl ?_
                            refine X.iload (q := 270) at_268 rfl rfl ?_
                            refine X.iloadN (q := 271) at_270 rfl rfl ?_
                            refine X.bipush (q := 273) (16 : Int32) at_271 (by decide) rfl ?_
                            refine X.ishr (q := 274) at_273 rfl ?_
                            refine X.nmI (fun xc hxc => ?_)
                            clear hxc
                            refine X.i2b (q := 275) at_274 rfl ?_
                            refine X.bastore (q := 276) (j := 5) Ah89_ rfl (by simp) gea59 at_275 rfl (fun h90 Wh90 Ah90 => ?_)
                            have hsh90 : n0 ≤ h90.size := by rw [Wr.size Wh90]; exact hsh89
                            have Ah90_ : OwA Z h90 a59 .byte [(.int (nar .byte (5 : Int32))), (.int (nar .byte (0 : Int32))), (.int (nar .byte t.toInt8.toInt32)), (.int (nar .byte xb.toInt8.toInt32)), (.int (nar .byte (0 : Int32))), (.int (nar .byte xc.toInt8.toInt32)), (.int (0 : Int32)), (.int (0 : Int32))] := Ah90
                            obtain ⟨L, hL⟩ : ∃ L_ : List Int32, L_ = [(nar .byte (5 : Int32)), (nar .byte (0 : Int32)), (nar .byte t.toInt8.toInt32), (nar .byte xb.toInt8.toInt32), (nar .byte (0 : Int32)), (nar .byte xc.toInt8.toInt32), (0 : Int32), (0 : Int32)] := ⟨_, rfl⟩
                            have AL : OwA Z h90 a59 .byte (L.map Value.int) := by rw [hL]; exact Ah90_
                            have nL : L.length = 8 := by rw [hL]; rfl
                            have gL0 : (L.getD 0 0).toInt = 5 := by rw [hL]; rfl
                            have gL1 : (L.getD 1 0).toInt = 0 := by rw [hL]; rfl
                            have gL2 : (L.getD 2 0).toInt = (t.toInt + 128) % 256 - 128 := by rw [hL]; exact own_nbt _
                            have gL3 : (L.getD 3 0).toInt = (xb.toInt + 128) % 256 - 128 := by rw [hL]; exact own_nbt _
                            have gL4 : (L.getD 4 0).toInt = 0 := by rw [hL]; rfl
                            have gL5 : (L.getD 5 0).toInt = (xc.toInt + 128) % 256 - 128 := by rw [hL]; exact own_nbt _
                            have gL6 : (L.getD 6 0).toInt = 0 := by rw [hL]; rfl
                            have gL7 : (L.getD 7 0).toInt = 0 := by rw [hL]; rfl
                            have rL : ∀ x ∈ L, -128 ≤ x.toInt ∧ x.toInt ≤ 127 := by
                              intro x hx; rw [hL] at hx
                              simp only [List.mem_cons, List.not_mem_nil, or_false] at hx
                              rcases hx with rfl | rfl | rfl | rfl | rfl | rfl | rfl | rfl
                              · exact ⟨by decide, by decide⟩
                              · exact ⟨by decide, by decide⟩
                              · rw [own_nbt]; omega
                              · rw [own_nbt]; omega
                              · exact ⟨by decide, by decide⟩
                              · rw [own_nbt]; omega
                              · exact ⟨by decide, by decide⟩
                              · exact ⟨by decide, by decide⟩
                            clear hL
                            exact J276 L 4 5 (5 : Int32) (0 : Int32) _ _ _ _ (by exact nL) (by exact rL) (by unfold own_hdr; simp only [nL, Nat.reduceAdd, and_true]; refine ⟨?_, ?_, ?_, ?_, ?_, ?_, ?_, ?_⟩ <;> first | omega | rfl) (by exact ⟨gL0, gL1⟩) hsh90 AL
                          · refine X.aload (q := 249) at_247 rfl rfl rfl ?_
                            refine X.iload (q := 251) at_249 rfl rfl ?_
                            refine X.bipush (q := 253) (-128 : Int32) at_251 (by decide) rfl ?_
                            refine X.bastore (q := 254) (j := 4) Ah88_ rfl (by simp) gea59 at_253 rfl (fun h91 Wh91 Ah91 => ?_)
                            have hsh91 : n0 ≤ h91.size := by rw [Wr.size Wh91]; exact hsh88
                            have Ah91_ : OwA Z h91 a59 .byte [(.int (nar .byte (5 : Int32))), (.int (nar .byte (0 : Int32))), (.int (nar .byte t.toInt8.toInt32)), (.int (nar .byte xb.toInt8.toInt32)), (.int (nar .byte (-128 : Int32))), (.int (0 : Int32)), (.int (0 : Int32)), (.int (0 : Int32))] := Ah91
                            refine X.goto (q' := 263) at_254 (by decide) ?_
                            refine X.iinc (q := 266) (Ls' := #[.val (.int x0), .val (.int x1), .val (.int x2), .val (.int x3), .val (.int x4), .val (.int (1 : Int32)), .val (.int (0 : Int32)), .val (.int (2 : Int32)), .val (.int t), .val (.ref a59), .val (.int (5 : Int32)), .val (.int ls), .val (.int (1 : Int32))]) (1 : Int32) at_263 (by decide) rfl rfl rfl ?_
                            refine X.aload (q := 268) at_266 rfl rfl rfl ?_
                            refine X.iload (q := 270) at_268 rfl rfl ?_
                            refine X.iloadN (q := 271) at_270 rfl rfl ?_
                            refine X.bipush (q := 273) (16 : Int32) at_271 (by decide) rfl ?_
                            refine X.ishr (q := 274) at_273 rfl ?_
                            refine X.nmI (fun xc hxc => ?_)
                            clear hxc
                            refine X.i2b (q := 275) at_274 rfl ?_
                            refine X.bastore (q := 276) (j := 5) Ah91_ rfl (by simp) gea59 at_275 rfl (fun h92 Wh92 Ah92 => ?_)
                            have hsh92 : n0 ≤ h92.size := by rw [Wr.size Wh92]; exact hsh91
                            have Ah92_ : OwA Z h92 a59 .byte [(.int (nar .byte (5 : Int32))), (.int (nar .byte (0 : Int32))), (.int (nar .byte t.toInt8.toInt32)), (.int (nar .byte xb.toInt8.toInt32)), (.int (nar .byte (-128 : Int32))), (.int (nar .byte xc.toInt8.toInt32)), (.int (0 : Int32)), (.int (0 : Int32))] := Ah92
                            obtain ⟨L, hL⟩ : ∃ L_ : List Int32, L_ = [(nar .byte (5 : Int32)), (nar .byte (0 : Int32)), (nar .byte t.toInt8.toInt32), (nar .byte xb.toInt8.toInt32), (nar .byte (-128 : Int32)), (nar .byte xc.toInt8.toInt32), (0 : Int32), (0 : Int32)] := ⟨_, rfl⟩
                            have AL : OwA Z h92 a59 .byte (L.map Value.int) := by rw [hL]; exact Ah92_
                            have nL : L.length = 8 := by rw [hL]; rfl
                            have gL0 : (L.getD 0 0).toInt = 5 := by rw [hL]; rfl
                            have gL1 : (L.getD 1 0).toInt = 0 := by rw [hL]; rfl
                            have gL2 : (L.getD 2 0).toInt = (t.toInt + 128) % 256 - 128 := by rw [hL]; exact own_nbt _
                            have gL3 : (L.getD 3 0).toInt = (xb.toInt + 128) % 256 - 128 := by rw [hL]; exact own_nbt _
                            have gL4 : (L.getD 4 0).toInt = -128 := by rw [hL]; rfl
                            have gL5 : (L.getD 5 0).toInt = (xc.toInt + 128) % 256 - 128 := by rw [hL]; exact own_nbt _
                            have gL6 : (L.getD 6 0).toInt = 0 := by rw [hL]; rfl
                            have gL7 : (L.getD 7 0).toInt = 0 := by rw [hL]; rfl
                            have rL : ∀ x ∈ L, -128 ≤ x.toInt ∧ x.toInt ≤ 127 := by
                              intro x hx; rw [hL] at hx
                              simp only [List.mem_cons, List.not_mem_nil, or_false] at hx
                              rcases hx with rfl | rfl | rfl | rfl | rfl | rfl | rfl | rfl
                              · exact ⟨by decide, by decide⟩
                              · exact ⟨by decide, by decide⟩
                              · rw [own_nbt]; omega
                              · rw [own_nbt]; omega
                              · exact ⟨by decide, by decide⟩
                              · rw [own_nbt]; omega
                              · exact ⟨by decide, by decide⟩
                              · exact ⟨by decide, by decide⟩
                            clear hL
                            exact J276 L 4 5 (5 : Int32) (-1 : Int32) _ _ _ _ (by exact nL) (by exact rL) (by unfold own_hdr; simp only [nL, Nat.reduceAdd, and_true]; refine ⟨?_, ?_, ?_, ?_, ?_, ?_, ?_, ?_⟩ <;> first | omega | rfl) (by exact ⟨gL0, gL1⟩) hsh92 AL
                        · refine X.aload (q := 217) at_215 rfl rfl rfl ?_
                          refine X.iload (q := 219) at_217 rfl rfl ?_
                          refine X.bipush (q := 221) (-127 : Int32) at_219 (by decide) rfl ?_
                          refine X.bastore (q := 222) (j := 4) Ah88_ rfl (by simp) gea59 at_221 rfl (fun h93 Wh93 Ah93 => ?_)
                          have hsh93 : n0 ≤ h93.size := by rw [Wr.size Wh93]; exact hsh88
                          have Ah93_ : OwA Z h93 a59 .byte [(.int (nar .byte (5 : Int32))), (.int (nar .byte (0 : Int32))), (.int (nar .byte t.toInt8.toInt32)), (.int (nar .byte xb.toInt8.toInt32)), (.int (nar .byte (-127 : Int32))), (.int (0 : Int32)), (.int (0 : Int32)), (.int (0 : Int32))] := Ah93
                          refine X.iinc (q := 225) (Ls' := #[.val (.int x0), .val (.int x1), .val (.int x2), .val (.int x3), .val (.int x4), .val (.int (1 : Int32)), .val (.int (0 : Int32)), .val (.int (2 : Int32)), .val (.int t), .val (.ref a59), .val (.int (5 : Int32)), .val (.int ls), .val (.int (1 : Int32))]) (1 : Int32) at_222 (by decide) rfl rfl rfl ?_
                          refine X.aload (q := 227) at_225 rfl rfl rfl ?_
                          refine X.iload (q := 229) at_227 rfl rfl ?_
                          refine X.iload (q := 231) at_229 rfl rfl ?_
                          refine X.i2b (q := 232) at_231 rfl ?_
                          refine X.bastore (q := 233) (j := 5) Ah93_ rfl (by simp) gea59 at_232 rfl (fun h94 Wh94 Ah94 => ?_)
                          have hsh94 : n0 ≤ h94.size := by rw [Wr.size Wh94]; exact hsh93
                          have Ah94_ : OwA Z h94 a59 .byte [(.int (nar .byte (5 : Int32))), (.int (nar .byte (0 : Int32))), (.int (nar .byte t.toInt8.toInt32)), (.int (nar .byte xb.toInt8.toInt32)), (.int (nar .byte (-127 : Int32))), (.int (nar .byte (1 : Int32).toInt8.toInt32)), (.int (0 : Int32)), (.int (0 : Int32))] := Ah94
                          refine X.iinc (q := 236) (Ls' := #[.val (.int x0), .val (.int x1), .val (.int x2), .val (.int x3), .val (.int x4), .val (.int (1 : Int32)), .val (.int (0 : Int32)), .val (.int (2 : Int32)), .val (.int t), .val (.ref a59), .val (.int (6 : Int32)), .val (.int ls), .val (.int (1 : Int32))]) (1 : Int32) at_233 (by decide) rfl rfl rfl ?_
                          refine X.goto (q' := 266) at_236 (by decide) ?_
                          refine X.aload (q := 268) at_266 rfl rfl rfl ?_
                          refine X.iload (q := 270) at_268 rfl rfl ?_
                          refine X.iloadN (q := 271) at_270 rfl rfl ?_
                          refine X.bipush (q := 273) (16 : Int32) at_271 (by decide) rfl ?_
                          refine X.ishr (q := 274) at_273 rfl ?_
                          refine X.nmI (fun xc hxc => ?_)
                          clear hxc
                          refine X.i2b (q := 275) at_274 rfl ?_
                          refine X.bastore (q := 276) (j := 6) Ah94_ rfl (by simp) gea59 at_275 rfl (fun h95 Wh95 Ah95 => ?_)
                          have hsh95 : n0 ≤ h95.size := by rw [Wr.size Wh95]; exact hsh94
                          have Ah95_ : OwA Z h95 a59 .byte [(.int (nar .byte (5 : Int32))), (.int (nar .byte (0 : Int32))), (.int (nar .byte t.toInt8.toInt32)), (.int (nar .byte xb.toInt8.toInt32)), (.int (nar .byte (-127 : Int32))), (.int (nar .byte (1 : Int32).toInt8.toInt32)), (.int (nar .byte xc.toInt8.toInt32)), (.int (0 : Int32))] := Ah95
                          obtain ⟨L, hL⟩ : ∃ L_ : List Int32, L_ = [(nar .byte (5 : Int32)), (nar .byte (0 : Int32)), (nar .byte t.toInt8.toInt32), (nar .byte xb.toInt8.toInt32), (nar .byte (-127 : Int32)), (nar .byte (1 : Int32).toInt8.toInt32), (nar .byte xc.toInt8.toInt32), (0 : Int32)] := ⟨_, rfl⟩
                          have AL : OwA Z h95 a59 .byte (L.map Value.int) := by rw [hL]; exact Ah95_
                          have nL : L.length = 8 := by rw [hL]; rfl
                          have gL0 : (L.getD 0 0).toInt = 5 := by rw [hL]; rfl
                          have gL1 : (L.getD 1 0).toInt = 0 := by rw [hL]; rfl
                          have gL2 : (L.getD 2 0).toInt = (t.toInt + 128) % 256 - 128 := by rw [hL]; exact own_nbt _
                          have gL3 : (L.getD 3 0).toInt = (xb.toInt + 128) % 256 - 128 := by rw [hL]; exact own_nbt _
                          have gL4 : (L.getD 4 0).toInt = -127 := by rw [hL]; rfl
                          have gL5 : (L.getD 5 0).toInt = ((1 : Int32).toInt + 128) % 256 - 128 := by rw [hL]; exact own_nbt _
                          have gL6 : (L.getD 6 0).toInt = (xc.toInt + 128) % 256 - 128 := by rw [hL]; exact own_nbt _
                          have gL7 : (L.getD 7 0).toInt = 0 := by rw [hL]; rfl
                          have rL : ∀ x ∈ L, -128 ≤ x.toInt ∧ x.toInt ≤ 127 := by
                            intro x hx; rw [hL] at hx
                            simp only [List.mem_cons, List.not_mem_nil, or_false] at hx
                            rcases hx with rfl | rfl | rfl | rfl | rfl | rfl | rfl | rfl
                            · exact ⟨by decide, by decide⟩
                            · exact ⟨by decide, by decide⟩
                            · rw [own_nbt]; omega
                            · rw [own_nbt]; omega
                            · exact ⟨by decide, by decide⟩
                            · rw [own_nbt]; omega
                            · rw [own_nbt]; omega
                            · exact ⟨by decide, by decide⟩
                          clear hL
                          exact J276 L 4 6 (6 : Int32) (1 : Int32) _ _ _ _ (by exact nL) (by exact rL) (by unfold own_hdr; simp only [nL, Nat.reduceAdd, and_true]; refine ⟨?_, ?_, ?_, ?_, ?_, ?_, ?_, ?_⟩ <;> first | omega | rfl) (by exact ⟨gL0, gL1⟩) hsh95 AL
                      · refine X.aload (q := 197) at_195 rfl rfl rfl ?_
                        refine X.iload (q := 199) at_197 rfl rfl ?_
                        refine X.iload (q := 201) at_199 rfl rfl ?_
                        refine X.i2b (q := 202) at_201 rfl ?_
                        refine X.bastore (q := 203) (j := 4) Ah88_ rfl (by simp) gea59 at_202 rfl (fun h96 Wh96 Ah96 => ?_)
                        have hsh96 : n0 ≤ h96.size := by rw [Wr.size Wh96]; exact hsh88
                        have Ah96_ : OwA Z h96 a59 .byte [(.int (nar .byte (5 : Int32))), (.int (nar .byte (0 : Int32))), (.int (nar .byte t.toInt8.toInt32)), (.int (nar .byte xb.toInt8.toInt32)), (.int (nar .byte (1 : Int32).toInt8.toInt32)), (.int (0 : Int32)), (.int (0 : Int32)), (.int (0 : Int32))] := Ah96
                        refine X.iinc (q := 206) (Ls' := #[.val (.int x0), .val (.int x1), .val (.int x2), .val (.int x3), .val (.int x4), .val (.int (1 : Int32)), .val (.int (0 : Int32)), .val (.int (2 : Int32)), .val (.int t), .val (.ref a59), .val (.int (5 : Int32)), .val (.int ls), .val (.int (1 : Int32))]) (1 : Int32) at_203 (by decide) rfl rfl rfl ?_
                        refine X.goto (q' := 266) at_206 (by decide) ?_
                        refine X.aload (q := 268) at_266 rfl rfl rfl ?_
                        refine X.iload (q := 270) at_268 rfl rfl ?_
                        refine X.iloadN (q := 271) at_270 rfl rfl ?_
                        refine X.bipush (q := 273) (16 : Int32) at_271 (by decide) rfl ?_
                        refine X.ishr (q := 274) at_273 rfl ?_
                        refine X.nmI (fun xc hxc => ?_)
                        clear hxc
                        refine X.i2b (q := 275) at_274 rfl ?_
                        refine X.bastore (q := 276) (j := 5) Ah96_ rfl (by simp) gea59 at_275 rfl (fun h97 Wh97 Ah97 => ?_)
                        have hsh97 : n0 ≤ h97.size := by rw [Wr.size Wh97]; exact hsh96
                        have Ah97_ : OwA Z h97 a59 .byte [(.int (nar .byte (5 : Int32))), (.int (nar .byte (0 : Int32))), (.int (nar .byte t.toInt8.toInt32)), (.int (nar .byte xb.toInt8.toInt32)), (.int (nar .byte (1 : Int32).toInt8.toInt32)), (.int (nar .byte xc.toInt8.toInt32)), (.int (0 : Int32)), (.int (0 : Int32))] := Ah97
                        obtain ⟨L, hL⟩ : ∃ L_ : List Int32, L_ = [(nar .byte (5 : Int32)), (nar .byte (0 : Int32)), (nar .byte t.toInt8.toInt32), (nar .byte xb.toInt8.toInt32), (nar .byte (1 : Int32).toInt8.toInt32), (nar .byte xc.toInt8.toInt32), (0 : Int32), (0 : Int32)] := ⟨_, rfl⟩
                        have AL : OwA Z h97 a59 .byte (L.map Value.int) := by rw [hL]; exact Ah97_
                        have nL : L.length = 8 := by rw [hL]; rfl
                        have gL0 : (L.getD 0 0).toInt = 5 := by rw [hL]; rfl
                        have gL1 : (L.getD 1 0).toInt = 0 := by rw [hL]; rfl
                        have gL2 : (L.getD 2 0).toInt = (t.toInt + 128) % 256 - 128 := by rw [hL]; exact own_nbt _
                        have gL3 : (L.getD 3 0).toInt = (xb.toInt + 128) % 256 - 128 := by rw [hL]; exact own_nbt _
                        have gL4 : (L.getD 4 0).toInt = ((1 : Int32).toInt + 128) % 256 - 128 := by rw [hL]; exact own_nbt _
                        have gL5 : (L.getD 5 0).toInt = (xc.toInt + 128) % 256 - 128 := by rw [hL]; exact own_nbt _
                        have gL6 : (L.getD 6 0).toInt = 0 := by rw [hL]; rfl
                        have gL7 : (L.getD 7 0).toInt = 0 := by rw [hL]; rfl
                        have rL : ∀ x ∈ L, -128 ≤ x.toInt ∧ x.toInt ≤ 127 := by
                          intro x hx; rw [hL] at hx
                          simp only [List.mem_cons, List.not_mem_nil, or_false] at hx
                          rcases hx with rfl | rfl | rfl | rfl | rfl | rfl | rfl | rfl
                          · exact ⟨by decide, by decide⟩
                          · exact ⟨by decide, by decide⟩
                          · rw [own_nbt]; omega
                          · rw [own_nbt]; omega
                          · rw [own_nbt]; omega
                          · rw [own_nbt]; omega
                          · exact ⟨by decide, by decide⟩
                          · exact ⟨by decide, by decide⟩
                        clear hL
                        exact J276 L 4 5 (5 : Int32) (1 : Int32) _ _ _ _ (by exact nL) (by exact rL) (by unfold own_hdr; simp only [nL, Nat.reduceAdd, and_true]; refine ⟨?_, ?_, ?_, ?_, ?_, ?_, ?_, ?_⟩ <;> first | omega | rfl) (by exact ⟨gL0, gL1⟩) hsh97 AL
                    · refine X.aload (q := 179) at_177 rfl rfl rfl ?_
                      refine X.iload (q := 181) at_179 rfl rfl ?_
                      refine X.iconst (q := 182) (0 : Int32) at_181 (by decide) rfl ?_
                      refine X.bastore (q := 183) (j := 4) Ah88_ rfl (by simp) gea59 at_182 rfl (fun h98 Wh98 Ah98 => ?_)
                      have hsh98 : n0 ≤ h98.size := by rw [Wr.size Wh98]; exact hsh88
                      have Ah98_ : OwA Z h98 a59 .byte [(.int (nar .byte (5 : Int32))), (.int (nar .byte (0 : Int32))), (.int (nar .byte t.toInt8.toInt32)), (.int (nar .byte xb.toInt8.toInt32)), (.int (nar .byte (0 : Int32))), (.int (0 : Int32)), (.int (0 : Int32)), (.int (0 : Int32))] := Ah98
                      refine X.iinc (q := 186) (Ls' := #[.val (.int x0), .val (.int x1), .val (.int x2), .val (.int x3), .val (.int x4), .val (.int (1 : Int32)), .val (.int (0 : Int32)), .val (.int (2 : Int32)), .val (.int t), .val (.ref a59), .val (.int (5 : Int32)), .val (.int ls), .val (.int (1 : Int32))]) (1 : Int32) at_183 (by decide) rfl rfl rfl ?_
                      refine X.goto (q' := 266) at_186 (by decide) ?_
                      refine X.aload (q := 268) at_266 rfl rfl rfl ?_
                      refine X.iload (q := 270) at_268 rfl rfl ?_
                      refine X.iloadN (q := 271) at_270 rfl rfl ?_
                      refine X.bipush (q := 273) (16 : Int32) at_271 (by decide) rfl ?_
                      refine X.ishr (q := 274) at_273 rfl ?_
                      refine X.nmI (fun xc hxc => ?_)
                      clear hxc
                      refine X.i2b (q := 275) at_274 rfl ?_
                      refine X.bastore (q := 276) (j := 5) Ah98_ rfl (by simp) gea59 at_275 rfl (fun h99 Wh99 Ah99 => ?_)
                      have hsh99 : n0 ≤ h99.size := by rw [Wr.size Wh99]; exact hsh98
                      have Ah99_ : OwA Z h99 a59 .byte [(.int (nar .byte (5 : Int32))), (.int (nar .byte (0 : Int32))), (.int (nar .byte t.toInt8.toInt32)), (.int (nar .byte xb.toInt8.toInt32)), (.int (nar .byte (0 : Int32))), (.int (nar .byte xc.toInt8.toInt32)), (.int (0 : Int32)), (.int (0 : Int32))] := Ah99
                      obtain ⟨L, hL⟩ : ∃ L_ : List Int32, L_ = [(nar .byte (5 : Int32)), (nar .byte (0 : Int32)), (nar .byte t.toInt8.toInt32), (nar .byte xb.toInt8.toInt32), (nar .byte (0 : Int32)), (nar .byte xc.toInt8.toInt32), (0 : Int32), (0 : Int32)] := ⟨_, rfl⟩
                      have AL : OwA Z h99 a59 .byte (L.map Value.int) := by rw [hL]; exact Ah99_
                      have nL : L.length = 8 := by rw [hL]; rfl
                      have gL0 : (L.getD 0 0).toInt = 5 := by rw [hL]; rfl
                      have gL1 : (L.getD 1 0).toInt = 0 := by rw [hL]; rfl
                      have gL2 : (L.getD 2 0).toInt = (t.toInt + 128) % 256 - 128 := by rw [hL]; exact own_nbt _
                      have gL3 : (L.getD 3 0).toInt = (xb.toInt + 128) % 256 - 128 := by rw [hL]; exact own_nbt _
                      have gL4 : (L.getD 4 0).toInt = 0 := by rw [hL]; rfl
                      have gL5 : (L.getD 5 0).toInt = (xc.toInt + 128) % 256 - 128 := by rw [hL]; exact own_nbt _
                      have gL6 : (L.getD 6 0).toInt = 0 := by rw [hL]; rfl
                      have gL7 : (L.getD 7 0).toInt = 0 := by rw [hL]; rfl
                      have rL : ∀ x ∈ L, -128 ≤ x.toInt ∧ x.toInt ≤ 127 := by
                        intro x hx; rw [hL] at hx
                        simp only [List.mem_cons, List.not_mem_nil, or_false] at hx
                        rcases hx with rfl | rfl | rfl | rfl | rfl | rfl | rfl | rfl
                        · exact ⟨by decide, by decide⟩
                        · exact ⟨by decide, by decide⟩
                        · rw [own_nbt]; omega
                        · rw [own_nbt]; omega
                        · exact ⟨by decide, by decide⟩
                        · rw [own_nbt]; omega
                        · exact ⟨by decide, by decide⟩
                        · exact ⟨by decide, by decide⟩
                      clear hL
                      exact J276 L 4 5 (5 : Int32) (0 : Int32) _ _ _ _ (by exact nL) (by exact rL) (by unfold own_hdr; simp only [nL, Nat.reduceAdd, and_true]; refine ⟨?_, ?_, ?_, ?_, ?_, ?_, ?_, ?_⟩ <;> first | omega | rfl) (by exact ⟨gL0, gL1⟩) hsh99 AL
                  · omega
                · refine X.aload (q := 121) at_119 rfl rfl rfl ?_
                  refine X.iload (q := 123) at_121 rfl rfl ?_
                  refine X.sipush (q := 126) (128 : Int32) at_123 (by decide) rfl ?_
                  refine X.iloadN (q := 127) at_126 rfl rfl ?_
                  refine X.iconst (q := 128) (1 : Int32) at_127 (by decide) rfl ?_
                  refine X.ishr (q := 129) at_128 rfl ?_
                  refine X.bipush (q := 131) (127 : Int32) at_129 (by decide) rfl ?_
                  refine X.iand (q := 132) at_131 rfl ?_
                  refine X.ior (q := 133) at_132 rfl ?_
                  refine X.nmI (fun xa hxa => ?_)
                  have hxa_ := own_or128 (x3 >>> ((1 : Int32) &&& 31))
                  rw [← hxa] at hxa_
                  clear hxa
                  refine X.i2b (q := 134) at_133 rfl ?_
                  refine X.bastore (q := 135) (j := 3) Ah67_ rfl (by simp) gea59 at_134 rfl (fun h100 Wh100 Ah100 => ?_)
                  have hsh100 : n0 ≤ h100.size := by rw [Wr.size Wh100]; exact hsh67
                  have Ah100_ : OwA Z h100 a59 .byte [(.int (nar .byte (5 : Int32))), (.int (nar .byte (0 : Int32))), (.int (nar .byte t.toInt8.toInt32)), (.int (nar .byte xa.toInt8.toInt32)), (.int (0 : Int32)), (.int (0 : Int32)), (.int (0 : Int32)), (.int (0 : Int32))] := Ah100
                  refine X.iinc (q := 138) (Ls' := #[.val (.int x0), .val (.int x1), .val (.int x2), .val (.int x3), .val (.int x4), .val (.int (1 : Int32)), .val (.int (0 : Int32)), .val (.int (2 : Int32)), .val (.int t), .val (.ref a59), .val (.int (4 : Int32)), .unset, .unset]) (1 : Int32) at_135 (by decide) rfl rfl rfl ?_
                  refine X.aload (q := 140) at_138 rfl rfl rfl ?_
                  refine X.iload (q := 142) at_140 rfl rfl ?_
                  refine X.iloadN (q := 143) at_142 rfl rfl ?_
                  refine X.bipush (q := 145) (8 : Int32) at_143 (by decide) rfl ?_
                  refine X.ishr (q := 146) at_145 rfl ?_
                  refine X.bipush (q := 148) (127 : Int32) at_146 (by decide) rfl ?_
                  refine X.iand (q := 149) at_148 rfl ?_
                  refine X.nmI (fun xb hxb => ?_)
                  have hxb_ : 0 ≤ xb.toInt ∧ xb.toInt ≤ 127 := by rw [hxb, Jvm.Kit.i32_mask (k := 7) _ _ (by decide) (by decide)]; omega
                  clear hxb
                  refine X.i2b (q := 150) at_149 rfl ?_
                  refine X.bastore (q := 151) (j := 4) Ah100_ rfl (by simp) gea59 at_150 rfl (fun h101 Wh101 Ah101 => ?_)
                  have hsh101 : n0 ≤ h101.size := by rw [Wr.size Wh101]; exact hsh100
                  have Ah101_ : OwA Z h101 a59 .byte [(.int (nar .byte (5 : Int32))), (.int (nar .byte (0 : Int32))), (.int (nar .byte t.toInt8.toInt32)), (.int (nar .byte xa.toInt8.toInt32)), (.int (nar .byte xb.toInt8.toInt32)), (.int (0 : Int32)), (.int (0 : Int32)), (.int (0 : Int32))] := Ah101
                  refine X.iinc (q := 154) (Ls' := #[.val (.int x0), .val (.int x1), .val (.int x2), .val (.int x3), .val (.int x4), .val (.int (1 : Int32)), .val (.int (0 : Int32)), .val (.int (2 : Int32)), .val (.int t), .val (.ref a59), .val (.int (5 : Int32)), .unset, .unset]) (1 : Int32) at_151 (by decide) rfl rfl rfl ?_
                  refine X.iload (q := 156) at_154 rfl rfl ?_
                  refine X.iconst (q := 157) (3 : Int32) at_156 (by decide) rfl ?_
                  refine X.iand (q := 158) at_157 rfl ?_
                  refine X.nmI (fun ls hls => ?_)
                  have hlsr : 0 ≤ ls.toInt ∧ ls.toInt ≤ 3 := by rw [hls, Jvm.Kit.i32_mask (k := 2) _ _ (by decide) (by decide)]; omega
                  clear hls
                  refine X.istore (q := 160) (Ls' := #[.val (.int x0), .val (.int x1), .val (.int x2), .val (.int x3), .val (.int x4), .val (.int (1 : Int32)), .val (.int (0 : Int32)), .val (.int (2 : Int32)), .val (.int t), .val (.ref a59), .val (.int (5 : Int32)), .val (.int ls), .unset]) at_158 rfl rfl ?_
                  refine X.iload (q := 162) at_160 rfl rfl ?_
                  refine X.if_ne (q' := 169) (q := 165) at_162 rfl (by decide) rfl (fun c162 => ?_) (fun c162 => ?_)
                  · refine X.iconst (q := 170) (1 : Int32) at_169 (by decide) rfl ?_
                    refine X.istore (q := 172) (Ls' := #[.val (.int x0), .val (.int x1), .val (.int x2), .val (.int x3), .val (.int x4), .val (.int (1 : Int32)), .val (.int (0 : Int32)), .val (.int (2 : Int32)), .val (.int t), .val (.ref a59), .val (.int (5 : Int32)), .val (.int ls), .val (.int (1 : Int32))]) at_170 rfl rfl ?_
                    refine X.iload (q := 174) at_172 rfl rfl ?_
                    refine X.if_ne (q' := 189) (q := 177) at_174 rfl (by decide) rfl (fun c174 => ?_) (fun c174 => ?_)
                    · refine X.iload (q := 191) at_189 rfl rfl ?_
                      refine X.iconst (q := 192) (1 : Int32) at_191 (by decide) rfl ?_
                      refine X.icmp_ne (b := 1) (q' := 209) (q := 195) at_192 rfl rfl (by decide) rfl (fun c192 => ?_) (fun c192 => ?_)
                      · refine X.iload (q := 211) at_209 rfl rfl ?_
                        refine X.iconst (q := 212) (2 : Int32) at_211 (by decide) rfl ?_
                        refine X.icmp_ne (b := 2) (q' := 239) (q := 215) at_212 rfl rfl (by decide) rfl (fun c212 => ?_) (fun c212 => ?_)
                        · refine X.iload (q := 241) at_239 rfl rfl ?_
                          refine X.bipush (q := 243) (32 : Int32) at_241 (by decide) rfl ?_
                          refine X.iand (q := 244) at_243 rfl ?_
                          refine X.nmI (fun t32 ht32 => ?_)
                          have ht32a := own_b5 t (by omega) (by omega)
                          rw [← ht32] at ht32a
                          clear ht32
                          have ht32_ : (t32.toInt = 0 ∧ t.toInt / 32 % 2 = 0) ∨ (¬ t32.toInt = 0 ∧ t.toInt / 32 % 2 = 1) := by omega
                          clear ht32a
                          refine X.if_eq (q' := 257) (q := 247) at_244 rfl (by decide) rfl (fun c244 => ?_) (fun c244 => ?_)
                          · refine X.aload (q := 259) at_257 rfl rfl rfl ?_
                            refine X.iload (q := 261) at_259 rfl rfl ?_
                            refine X.iconst (q := 262) (0 : Int32) at_261 (by decide) rfl ?_
                            refine X.bastore (q := 263) (j := 5) Ah101_ rfl (by simp) gea59 at_262 rfl (fun h102 Wh102 Ah102 => ?_)
                            have hsh102 : n0 ≤ h102.size := by rw [Wr.size Wh102]; exact hsh101
                            have Ah102_ : OwA Z h102 a59 .byte [(.int (nar .byte (5 : Int32))), (.int (nar .byte (0 : Int32))), (.int (nar .byte t.toInt8.toInt32)), (.int (nar .byte xa.toInt8.toInt32)), (.int (nar .byte xb.toInt8.toInt32)), (.int (nar .byte (0 : Int32))), (.int (0 : Int32)), (.int (0 : Int32))] := Ah102
                            refine X.iinc (q := 266) (Ls' := #[.val (.int x0), .val (.int x1), .val (.int x2), .val (.int x3), .val (.int x4), .val (.int (1 : Int32)), .val (.int (0 : Int32)), .val (.int (2 : Int32)), .val (.int t), .val (.ref a59), .val (.int (6 : Int32)), .val (.int ls), .val (.int (1 : Int32))]) (1 : Int32) at_263 (by decide) rfl rfl rfl ?_
                            refine X.aload (q := 268) at_266 rfl rfl rfl ?_
                            refine X.iload (q := 270) at_268 rfl rfl ?_
                            refine X.iloadN (q := 271) at_270 rfl rfl ?_
                            refine X.bipush (q := 273) (16 : Int32) at_271 (by decide) rfl ?_
                            refine X.ishr (q := 274) at_273 rfl ?_
                            refine X.nmI (fun xc hxc => ?_)
                            clear hxc
                            refine X.i2b (q := 275) at_274 rfl ?_
                            refine X.bastore (q := 276) (j := 6) Ah102_ rfl (by simp) gea59 at_275 rfl (fun h103 Wh103 Ah103 => ?_)
                            have hsh103 : n0 ≤ h103.size := by rw [Wr.size Wh103]; exact hsh102
                            have Ah103_ : OwA Z h103 a59 .byte [(.int (nar .byte (5 : Int32))), (.int (nar .byte (0 : Int32))), (.int (nar .byte t.toInt8.toInt32)), (.int (nar .byte xa.toInt8.toInt32)), (.int (nar .byte xb.toInt8.toInt32)), (.int (nar .byte (0 : Int32))), (.int (nar .byte xc.toInt8.toInt32)), (.int (0 : Int32))] := Ah103
                            obtain ⟨L, hL⟩ : ∃ L_ : List Int32, L_ = [(nar .byte (5 : Int32)), (nar .byte (0 : Int32)), (nar .byte t.toInt8.toInt32), (nar .byte xa.toInt8.toInt32), (nar .byte xb.toInt8.toInt32), (nar .byte (0 : Int32)), (nar .byte xc.toInt8.toInt32), (0 : Int32)] := ⟨_, rfl⟩
                            have AL : OwA Z h103 a59 .byte (L.map Value.int) := by rw [hL]; exact Ah103_
                            have nL : L.length = 8 := by rw [hL]; rfl
                            have gL0 : (L.getD 0 0).toInt = 5 := by rw [hL]; rfl
                            have gL1 : (L.getD 1 0).toInt = 0 := by rw [hL]; rfl
                            have gL2 : (L.getD 2 0).toInt = (t.toInt + 128) % 256 - 128 := by rw [hL]; exact own_nbt _
                            have gL3 : (L.getD 3 0).toInt = (xa.toInt + 128) % 256 - 128 := by rw [hL]; exact own_nbt _
                            have gL4 : (L.getD 4 0).toInt = (xb.toInt + 128) % 256 - 128 := by rw [hL]; exact own_nbt _
                            have gL5 : (L.getD 5 0).toInt = 0 := by rw [hL]; rfl
                            have gL6 : (L.getD 6 0).toInt = (xc.toInt + 128) % 256 - 128 := by rw [hL]; exact own_nbt _
                            have gL7 : (L.getD 7 0).toInt = 0 := by rw [hL]; rfl
                            have rL : ∀ x ∈ L, -128 ≤ x.toInt ∧ x.toInt ≤ 127 := by
                              intro x hx; rw [hL] at hx
                              simp only [List.mem_cons, List.not_mem_nil, or_false] at hx
                              rcases hx with rfl | rfl | rfl | rfl | rfl | rfl | rfl | rfl
                              · exact ⟨by decide, by decide⟩
                              · exact ⟨by decide, by decide⟩
                              · rw [own_nbt]; omega
                              · rw [own_nbt]; omega
                              · rw [own_nbt]; omega
                              · exact ⟨by decide, by decide⟩
                              · rw [own_nbt]; omega
                              · exact ⟨by decide, by decide⟩
                            clear hL
                            exact J276 L 5 6 (6 : Int32) (0 : Int32) _ _ _ _ (by exact nL) (by exact rL) (by unfold own_hdr; simp only [nL, Nat.reduceAdd, and_true]; refine ⟨?_, ?_, ?_, ?_, ?_, ?_, ?_, ?_⟩ <;> first | omega | rfl) (by exact ⟨gL0, gL1⟩) hsh103 AL
                          · refine X.aload (q := 249) at_247 rfl rfl rfl ?_
                            refine X.iload (q := 251) at_249 rfl rfl ?_
                            refine X.bipush (q := 253) (-128 : Int32) at_251 (by decide) rfl ?_
                            refine X.bastore (q := 254) (j := 5) Ah101_ rfl (by simp) gea59 at_253 rfl (fun h104 Wh104 Ah104 => ?_)
                            have hsh104 : n0 ≤ h104.size := by rw [Wr.size Wh104]; exact hsh101
                            have Ah104_ : OwA Z h104 a59 .byte [(.int (nar .byte (5 : Int32))), (.int (nar .byte (0 : Int32))), (.int (nar .byte t.toInt8.toInt32)), (.int (nar .byte xa.toInt8.toInt32)), (.int (nar .byte xb.toInt8.toInt32)), (.int (nar .byte (-128 : Int32))), (.int (0 : Int32)), (.int (0 : Int32))] := Ah104
                            refine X.goto (q' := 263) at_254 (by decide) ?_
                            refine X.iinc (q := 266) (Ls' := #[.val (.int x0), .val (.int x1), .val (.int x2), .val (.int x3), .val (.int x4), .val (.int (1 : Int32)), .val (.int (0 : Int32)), .val (.int (2 : Int32)), .val (.int t), .val (.ref a59), .val (.int (6 : Int32)), .val (.int ls), .val (.int (1 : Int32))]) (1 : Int32) at_263 (by decide) rfl rfl rfl ?_
                            refine X.aload (q := 268) at_266 rfl rfl rfl ?_
                            refine X.iload (q := 270) at_268 rfl rfl ?_
                            refine X.iloadN (q := 271) at_270 rfl rfl ?_
                            refine X.bipush (q := 273) (16 : Int32) at_271 (by decide) rfl ?_
                            refine X.ishr (q := 274) at_273 rfl ?_
                            refine X.nmI (fun xc hxc => ?_)
                            clear hxc
                            refine X.i2b (q := 275) at_274 rfl ?_
                            refine X.bastore (q := 276) (j := 6) Ah104_ rfl (by simp) gea59 at_275 rfl (fun h105 Wh105 Ah105 => ?_)
                            have hsh105 : n0 ≤ h105.size := by rw [Wr.size Wh105]; exact hsh104
                            have Ah105_ : OwA Z h105 a59 .byte [(.int (nar .byte (5 : Int32))), (.int (nar .byte (0 : Int32))), (.int (nar .byte t.toInt8.toInt32)), (.int (nar .byte xa.toInt8.toInt32)), (.int (nar .byte xb.toInt8.toInt32)), (.int (nar .byte (-128 : Int32))), (.int (nar .byte xc.toInt8.toInt32)), (.int (0 : Int32))] := Ah105
                            obtain ⟨L, hL⟩ : ∃ L_ : List Int32, L_ = [(nar .byte (5 : Int32)), (nar .byte (0 : Int32)), (nar .byte t.toInt8.toInt32), (nar .byte xa.toInt8.toInt32), (nar .byte xb.toInt8.toInt32), (nar .byte (-128 : Int32)), (nar .byte xc.toInt8.toInt32), (0 : Int32)] := ⟨_, rfl⟩
                            have AL : OwA Z h105 a59 .byte (L.map Value.int) := by rw [hL]; exact Ah105_
                            have nL : L.length = 8 := by rw [hL]; rfl
                            have gL0 : (L.getD 0 0).toInt = 5 := by rw [hL]; rfl
                            have gL1 : (L.getD 1 0).toInt = 0 := by rw [hL]; rfl
                            have gL2 : (L.getD 2 0).toInt = (t.toInt + 128) % 256 - 128 := by rw [hL]; exact own_nbt _
                            have gL3 : (L.getD 3 0).toInt = (xa.toInt + 128) % 256 - 128 := by rw [hL]; exact own_nbt _
                            have gL4 : (L.getD 4 0).toInt = (xb.toInt + 128) % 256 - 128 := by rw [hL]; exact own_nbt _
                            have gL5 : (L.getD 5 0).toInt = -128 := by rw [hL]; rfl
                            have gL6 : (L.getD 6 0).toInt = (xc.toInt + 128) % 256 - 128 := by rw [hL]; exact own_nbt _
                            have gL7 : (L.getD 7 0).toInt = 0 := by rw [hL]; rfl
                            have rL : ∀ x ∈ L, -128 ≤ x.toInt ∧ x.toInt ≤ 127 := by
                              intro x hx; rw [hL] at hx
                              simp only [List.mem_cons, List.not_mem_nil, or_false] at hx
                              rcases hx with rfl | rfl | rfl | rfl | rfl | rfl | rfl | rfl
                              · exact ⟨by decide, by decide⟩
                              · exact ⟨by decide, by decide⟩
                              · rw [own_nbt]; omega
                              · rw [own_nbt]; omega
                              · rw [own_nbt]; omega
                              · exact ⟨by decide, by decide⟩
                              · rw [own_nbt]; omega
                              · exact ⟨by decide, by decide⟩
                            clear hL
                            exact J276 L 5 6 (6 : Int32) (-1 : Int32) _ _ _ _ (by exact nL) (by exact rL) (by unfold own_hdr; simp only [nL, Nat.reduceAdd, and_true]; refine ⟨?_, ?_, ?_, ?_, ?_, ?_, ?_, ?_⟩ <;> first | omega | rfl) (by exact ⟨gL0, gL1⟩) hsh105 AL
                        · refine X.aload (q := 217) at_215 rfl rfl rfl ?_
                          refine X.iload (q := 219) at_217 rfl rfl ?_
                          refine X.bipush (q := 221) (-127 : Int32) at_219 (by decide) rfl ?_
                          refine X.bastore (q := 222) (j := 5) Ah101_ rfl (by simp) gea59 at_221 rfl (fun h106 Wh106 Ah106 => ?_)
                          have hsh106 : n0 ≤ h106.size := by rw [Wr.size Wh106]; exact hsh101
                          have Ah106_ : OwA Z h106 a59 .byte [(.int (nar .byte (5 : Int32))), (.int (nar .byte (0 : Int32))), (.int (nar .byte t.toInt8.toInt32)), (.int (nar .byte xa.toInt8.toInt32)), (.int (nar .byte xb.toInt8.toInt32)), (.int (nar .byte (-127 : Int32))), (.int (0 : Int32)), (.int (0 : Int32))] := Ah106
                          refine X.iinc (q := 225) (Ls' := #[.val (.int x0), .val (.int x1), .val (.int x2), .val (.int x3), .val (.int x4), .val (.int (1 : Int32)), .val (.int (0 : Int32)), .val (.int (2 : Int32)), .val (.int t), .val (.ref a59), .val (.int (6 : Int32)), .val (.int ls), .val (.int (1 : Int32))]) (1 : Int32) at_222 (by decide) rfl rfl rfl ?_
                          refine X.aload (q := 227) at_225 rfl rfl rfl ?_
                          refine X.iload (q := 229) at_227 rfl rfl ?_
                          refine X.iload (q := 231) at_229 rfl rfl ?_
                          refine X.i2b (q := 232) at_231 rfl ?_
                          refine X.bastore (q := 233) (j := 6) Ah106_ rfl (by simp) gea59 at_232 rfl (fun h107 Wh107 Ah107 => ?_)
                          have hsh107 : n0 ≤ h107.size := by rw [Wr.size Wh107]; exact hsh106
                          have Ah107_ : OwA Z h107 a59 .byte [(.int (nar .byte (5 : Int32))), (.int (nar .byte (0 : Int32))), (.int (nar .byte t.toInt8.toInt32)), (.int (nar .byte xa.toInt8.toInt32)), (.int (nar .byte xb.toInt8.toInt32)), (.int (nar .byte (-127 : Int32))), (.int (nar .byte (1 : Int32).toInt8.toInt32)), (.int (0 : Int32))] := Ah107
                          refine X.iinc (q := 236) (Ls' := #[.val (.int x0), .val (.int x1), .val (.int x2), .val (.int x3), .val (.int x4), .val (.int (1 : Int32)), .val (.int (0 : Int32)), .val (.int (2 : Int32)), .val (.int t), .val (.ref a59), .val (.int (7 : Int32)), .val (.int ls), .val (.int (1 : Int32))]) (1 : Int32) at_233 (by decide) rfl rfl rfl ?_
                          refine X.goto (q' := 266) at_236 (by decide) ?_
                          refine X.aload (q := 268) at_266 rfl rfl rfl ?_
                          refine X.iload (q := 270) at_268 rfl rfl ?_
                          refine X.iloadN (q := 271) at_270 rfl rfl ?_
                          refine X.bipush (q := 273) (16 : Int32) at_271 (by decide) rfl ?_
                          refine X.ishr (q := 274) at_273 rfl ?_
                          refine X.nmI (fun xc hxc => ?_)
                          clear hxc
                          refine X.i2b (q := 275) at_274 rfl ?_
                          refine X.bastore (q := 276) (j := 7) Ah107_ rfl (by simp) gea59 at_275 rfl (fun h108 Wh108 Ah108 => ?_)
                          have hsh108 : n0 ≤ h108.size := by rw [Wr.size Wh108]; exact hsh107
                          have Ah108_ : OwA Z h108 a59 .byte [(.int (nar .byte (5 : Int32))), (.int (nar .byte (0 : Int32))), (.int (nar .byte t.toInt8.toInt32)), (.int (nar .byte xa.toInt8.toInt32)), (.int (nar .byte xb.toInt8.toInt32)), (.int (nar .byte (-127 : Int32))), (.int (nar .byte (1 : Int32).toInt8.toInt32)), (.int (nar .byte xc.toInt8.toInt32))] := Ah108
                          obtain ⟨L, hL⟩ : ∃ L_ : List Int32, L_ = [(nar .byte (5 : Int32)), (nar .byte (0 : Int32)), (nar .byte t.toInt8.toInt32), (nar .byte xa.toInt8.toInt32), (nar .byte xb.toInt8.toInt32), (nar .byte (-127 : Int32)), (nar .byte (1 : Int32).toInt8.toInt32), (nar .byte xc.toInt8.toInt32)] := ⟨_, rfl⟩
                          have AL : OwA Z h108 a59 .byte (L.map Value.int) := by rw [hL]; exact Ah108_
                          have nL : L.length = 8 := by rw [hL]; rfl
                          have gL0 : (L.getD 0 0).toInt = 5 := by rw [hL]; rfl
                          have gL1 : (L.getD 1 0).toInt = 0 := by rw [hL]; rfl
                          have gL2 : (L.getD 2 0).toInt = (t.toInt + 128) % 256 - 128 := by rw [hL]; exact own_nbt _
                          have gL3 : (L.getD 3 0).toInt = (xa.toInt + 128) % 256 - 128 := by rw [hL]; exact own_nbt _
                          have gL4 : (L.getD 4 0).toInt = (xb.toInt + 128) % 256 - 128 := by rw [hL]; exact own_nbt _
                          have gL5 : (L.getD 5 0).toInt = -127 := by rw [hL]; rfl
                          have gL6 : (L.getD 6 0).toInt = ((1 : Int32).toInt + 128) % 256 - 128 := by rw [hL]; exact own_nbt _
                          have gL7 : (L.getD 7 0).toInt = (xc.toInt + 128) % 256 - 128 := by rw [hL]; exact own_nbt _
                          have rL : ∀ x ∈ L, -128 ≤ x.toInt ∧ x.toInt ≤ 127 := by
                            intro x hx; rw [hL] at hx
                            simp only [List.mem_cons, List.not_mem_nil, or_false] at hx
                            rcases hx with rfl | rfl | rfl | rfl | rfl | rfl | rfl | rfl
                            · exact ⟨by decide, by decide⟩
                            · exact ⟨by decide, by decide⟩
                            · rw [own_nbt]; omega
                            · rw [own_nbt]; omega
                            · rw [own_nbt]; omega
                            · exact ⟨by decide, by decide⟩
                            · rw [own_nbt]; omega
                            · rw [own_nbt]; omega
                          clear hL
                          exact J276 L 5 7 (7 : Int32) (1 : Int32) _ _ _ _ (by exact nL) (by exact rL) (by unfold own_hdr; simp only [nL, Nat.reduceAdd, and_true]; refine ⟨?_, ?_, ?_, ?_, ?_, ?_, ?_, ?_⟩ <;> first | omega | rfl) (by exact ⟨gL0, gL1⟩) hsh108 AL
                      · refine X.aload (q := 197) at_195 rfl rfl rfl ?_
                        refine X.iload (q := 199) at_197 rfl rfl ?_
                        refine X.iload (q := 201) at_199 rfl rfl ?_
                        refine X.i2b (q := 202) at_201 rfl ?_
                        refine X.bastore (q := 203) (j := 5) Ah101_ rfl (by simp) gea59 at_202 rfl (fun h109 Wh109 Ah109 => ?_)
                        have hsh109 : n0 ≤ h109.size := by rw [Wr.size Wh109]; exact hsh101
                        have Ah109_ : OwA Z h109 a59 .byte [(.int (nar .byte (5 : Int32))), (.int (nar .byte (0 : Int32))), (.int (nar .byte t.toInt8.toInt32)), (.int (nar .byte xa.toInt8.toInt32)), (.int (nar .byte xb.toInt8.toInt32)), (.int (nar .byte (1 : Int32).toInt8.toInt32)), (.int (0 : Int32)), (.int (0 : Int32))] := Ah109
                        refine X.iinc (q := 206) (Ls' := #[.val (.int x0), .val (.int x1), .val (.int x2), .val (.int x3), .val (.int x4), .val (.int (1 : Int32)), .val (.int (0 : Int32)), .val (.int (2 : Int32)), .val (.int t), .val (.ref a59), .val (.int (6 : Int32)), .val (.int ls), .val (.int (1 : Int32))]) (1 : Int32) at_203 (by decide) rfl rfl rfl ?_
                        refine X.goto (q' := 266) at_206 (by decide) ?_
                        refine X.aload (q := 268) at_266 rfl rfl rfl ?_
                        refine X.iload (q := 270) at_268 rfl rfl ?_
                        refine X.iloadN (q := 271) at_270 rfl rfl ?_
                        refine X.bipush (q := 273) (16 : Int32) at_271 (by decide) rfl ?_
                        refine X.ishr (q := 274) at_273 rfl ?_
                        refine X.nmI (fun xc hxc => ?_)
                        clear hxc
                        refine X.i2b (q := 275) at_274 rfl ?_
                        refine X.bastore (q := 276) (j := 6) Ah109_ rfl (by simp) gea59 at_275 rfl (fun h110 Wh110 Ah110 => ?_)
                        have hsh110 : n0 ≤ h110.size := by rw [Wr.size Wh110]; exact hsh109
                        have Ah110_ : OwA Z h110 a59 .byte [(.int (nar .byte (5 : Int32))), (.int (nar .byte (0 : Int32))), (.int (nar .byte t.toInt8.toInt32)), (.int (nar .byte xa.toInt8.toInt32)), (.int (nar .byte xb.toInt8.toInt32)), (.int (nar .byte (1 : Int32).toInt8.toInt32)), (.int (nar .byte xc.toInt8.toInt32)), (.int (0 : Int32))] := Ah110
                        obtain ⟨L, hL⟩ : ∃ L_ : List Int32, L_ = [(nar .byte (5 : Int32)), (nar .byte (0 : Int32)), (nar .byte t.toInt8.toInt32), (nar .byte xa.toInt8.toInt32), (nar .byte xb.toInt8.toInt32), (nar .byte (1 : Int32).toInt8.toInt32), (nar .byte xc.toInt8.toInt32), (0 : Int32)] := ⟨_, rfl⟩
                        have AL : OwA Z h110 a59 .byte (L.map Value.int) := by rw [hL]; exact Ah110_
                        have nL : L.length = 8 := by rw [hL]; rfl
                        have gL0 : (L.getD 0 0).toInt = 5 := by rw [hL]; rfl
                        have gL1 : (L.getD 1 0).toInt = 0 := by rw [hL]; rfl
                        have gL2 : (L.getD 2 0).toInt = (t.toInt + 128) % 256 - 128 := by rw [hL]; exact own_nbt _
                        have gL3 : (L.getD 3 0).toInt = (xa.toInt + 128) % 256 - 128 := by rw [hL]; exact own_nbt _
                        have gL4 : (L.getD 4 0).toInt = (xb.toInt + 128) % 256 - 128 := by rw [hL]; exact own_nbt _
                        have gL5 : (L.getD 5 0).toInt = ((1 : Int32).toInt + 128) % 256 - 128 := by rw [hL]; exact own_nbt _
                        have gL6 : (L.getD 6 0).toInt = (xc.toInt + 128) % 256 - 128 := by rw [hL]; exact own_nbt _
                        have gL7 : (L.getD 7 0).toInt = 0 := by rw [hL]; rfl
                        have rL : ∀ x ∈ L, -128 ≤ x.toInt ∧ x.toInt ≤ 127 := by
                          intro x hx; rw [hL] at hx
                          simp only [List.mem_cons, List.not_mem_nil, or_false] at hx
                          rcases hx with rfl | rfl | rfl | rfl | rfl | rfl | rfl | rfl
                          · exact ⟨by decide, by decide⟩
                          · exact ⟨by decide, by decide⟩
                          · rw [own_nbt]; omega
                          · rw [own_nbt]; omega
                          · rw [own_nbt]; omega
                          · rw [own_nbt]; omega
                          · rw [own_nbt]; omega
                          · exact ⟨by decide, by decide⟩
                        clear hL
                        exact J276 L 5 6 (6 : Int32) (1 : Int32) _ _ _ _ (by exact nL) (by exact rL) (by unfold own_hdr; simp only [nL, Nat.reduceAdd, and_true]; refine ⟨?_, ?_, ?_, ?_, ?_, ?_, ?_, ?_⟩ <;> first | omega | rfl) (by exact ⟨gL0, gL1⟩) hsh110 AL
                    · refine X.aload (q := 179) at_177 rfl rfl rfl ?_
                      refine X.iload (q := 181) at_179 rfl rfl ?_
                      refine X.iconst (q := 182) (0 : Int32) at_181 (by decide) rfl ?_
                      refine X.bastore (q := 183) (j := 5) Ah101_ rfl (by simp) gea59 at_182 rfl (fun h111 Wh111 Ah111 => ?_)
                      have hsh111 : n0 ≤ h111.size := by rw [Wr.size Wh111]; exact hsh101
                      have Ah111_ : OwA Z h111 a59 .byte [(.int (nar .byte (5 : Int32))), (.int (nar .byte (0 : Int32))), (.int (nar .byte t.toInt8.toInt32)), (.int (nar .byte xa.toInt8.toInt32)), (.int (nar .byte xb.toInt8.toInt32)), (.int (nar .byte (0 : Int32))), (.int (0 : Int32)), (.int (0 : Int32))] := Ah111
                      refine X.iinc (q := 186) (Ls' := #[.val (.int x0), .val (.int x1), .val (.int x2), .val (.int x3), .val (.int x4), .val (.int (1 : Int32)), .val (.int (0 : Int32)), .val (.int (2 : Int32)), .val (.int t), .val (.ref a59), .val (.int (6 : Int32)), .val (.int ls), .val (.int (1 : Int32))]) (1 : Int32) at_183 (by decide) rfl rfl rfl ?_
                      refine X.goto (q' := 266) at_186 (by decide) ?_
                      refine X.aload (q := 268) at_266 rfl rfl rfl ?_
                      refine X.iload (q := 270) at_268 rfl rfl ?_
                      refine X.iloadN (q := 271) at_270 rfl rfl ?_
                      refine X.bipush (q := 273) (16 : Int32) at_271 (by decide) rfl ?_
                      refine X.ishr (q := 274) at_273 rfl ?_
                      refine X.nmI (fun xc hxc => ?_)
                      clear hxc
                      refine X.i2b (q := 275) at_274 rfl ?_
                      refine X.bastore (q := 276) (j := 6) Ah111_ rfl (by simp) gea59 at_275 rfl (fun h112 Wh112 Ah112 => ?_)
                      have hsh112 : n0 ≤ h112.size := by rw [Wr.size Wh112]; exact hsh111
                      have Ah112_ : OwA Z h112 a59 .byte [(.int (nar .byte (5 : Int32))), (.int (nar .byte (0 : Int32))), (.int (nar .byte t.toInt8.toInt32)), (.int (nar .byte xa.toInt8.toInt32)), (.int (nar .byte xb.toInt8.toInt32)), (.int (nar .byte (0 : Int32))), (.int (nar .byte xc.toInt8.toInt32)), (.int (0 : Int32))] := Ah112
                      obtain ⟨L, hL⟩ : ∃ L_ : List Int32, L_ = [(nar .byte (5 : Int32)), (nar .byte (0 : Int32)), (nar .byte t.toInt8.toInt32), (nar .byte xa.toInt8.toInt32), (nar .byte xb.toInt8.toInt32), (nar .byte (0 : Int32)), (nar .byte xc.toInt8.toInt32), (0 : Int32)] := ⟨_, rfl⟩
                      have AL : OwA Z h112 a59 .byte (L.map Value.int) := by rw [hL]; exact Ah112_
                      have nL : L.length = 8 := by rw [hL]; rfl
                      have gL0 : (L.getD 0 0).toInt = 5 := by rw [hL]; rfl
                      have gL1 : (L.getD 1 0).toInt = 0 := by rw [hL]; rfl
                      have gL2 : (L.getD 2 0).toInt = (t.toInt + 128) % 256 - 128 := by rw [hL]; exact own_nbt _
                      have gL3 : (L.getD 3 0).toInt = (xa.toInt + 128) % 256 - 128 := by rw [hL]; exact own_nbt _
                      have gL4 : (L.getD 4 0).toInt = (xb.toInt + 128) % 256 - 128 := by rw [hL]; exact own_nbt _
                      have gL5 : (L.getD 5 0).toInt = 0 := by rw [hL]; rfl
                      have gL6 : (L.getD 6 0).toInt = (xc.toInt + 128) % 256 - 128 := by rw [hL]; exact own_nbt _
                      have gL7 : (L.getD 7 0).toInt = 0 := by rw [hL]; rfl
                      have rL : ∀ x ∈ L, -128 ≤ x.toInt ∧ x.toInt ≤ 127 := by
                        intro x hx; rw [hL] at hx
                        simp only [List.mem_cons, List.not_mem_nil, or_false] at hx
                        rcases hx with rfl | rfl | rfl | rfl | rfl | rfl | rfl | rfl
                        · exact ⟨by decide, by decide⟩
                        · exact ⟨by decide, by decide⟩
                        · rw [own_nbt]; omega
                        · rw [own_nbt]; omega
                        · rw [own_nbt]; omega
                        · exact ⟨by decide, by decide⟩
                        · rw [own_nbt]; omega
                        · exact ⟨by decide, by decide⟩
                      clear hL
                      exact J276 L 5 6 (6 : Int32) (0 : Int32) _ _ _ _ (by exact nL) (by exact rL) (by unfold own_hdr; simp only [nL, Nat.reduceAdd, and_true]; refine ⟨?_, ?_, ?_, ?_, ?_, ?_, ?_, ?_⟩ <;> first | omega | rfl) (by exact ⟨gL0, gL1⟩) hsh112 AL
                  · omega
        · omega
    · refine X.iconst (q := 22) (1 : Int32) at_21 (by decide) rfl ?_
      refine X.goto (q' := 26) at_22 (by decide) ?_
      refine X.istore (q := 28) (Ls' := #[.val (.int x0), .val (.int x1), .val (.int x2), .val (.int x3), .val (.int x4), .val (.int (1 : Int32)), .val (.int (1 : Int32)), .unset, .unset, .unset, .unset, .unset, .unset]) at_26 rfl rfl ?_
      refine X.iload (q := 30) at_28 rfl rfl ?_
      refine X.if_eq (a := 1) (q' := 37) (q := 33) at_30 rfl (by decide) rfl (fun c30 => ?_) (fun c30 => ?_)
      · omega
      · refine X.iconst (q := 34) (2 : Int32) at_33 (by decide) rfl ?_
        refine X.goto (q' := 38) at_34 (by decide) ?_
        refine X.istore (q := 40) (Ls' := #[.val (.int x0), .val (.int x1), .val (.int x2), .val (.int x3), .val (.int x4), .val (.int (1 : Int32)), .val (.int (1 : Int32)), .val (.int (2 : Int32)), .unset, .unset, .unset, .unset, .unset]) at_38 rfl rfl ?_
        refine X.iloadN (q := 41) at_40 rfl rfl ?_
        refine X.sipush (q := 44) (255 : Int32) at_41 (by decide) rfl ?_
        refine X.iand (q := 45) at_44 rfl ?_
        refine X.nmI (fun t ht => ?_)
        have htr : 0 ≤ t.toInt ∧ t.toInt ≤ 255 := by rw [ht, Jvm.Kit.i32_mask (k := 8) _ _ (by decide) (by decide)]; omega
        clear ht
        refine X.istore (q := 47) (Ls' := #[.val (.int x0), .val (.int x1), .val (.int x2), .val (.int x3), .val (.int x4), .val (.int (1 : Int32)), .val (.int (1 : Int32)), .val (.int (2 : Int32)), .val (.int t), .unset, .unset, .unset, .unset]) at_45 rfl rfl ?_
        refine X.iload (q := 49) at_47 rfl rfl ?_
        refine X.if_eq (a := 1) (q' := 59) (q := 52) at_49 rfl (by decide) rfl (fun c49 => ?_) (fun c49 => ?_)
        · omega
        · refine X.iload (q := 54) at_52 rfl rfl ?_
          refine X.newP (q := 56) (ty := .byte) (N := 2) (cap := 2) (k' := 1) (n' := 2) (hw _ (List.mem_of_getElem? (i := 0) rfl)) at_54 rfl rfl (Nat.le_refl _) (by decide) rfl rfl (by decide) (by decide) rfl (fun h113 a114 ga114 Eh113 Aa114 => ?_)
          have gea114 : n0 ≤ a114 := by rw [ga114]; exact hn0
          have hsh113 : n0 ≤ h113.size := Nat.le_trans hn0 Eh113.1
          have Aa114 : OwA Z h113 a114 .byte [(.int (0 : Int32)), (.int (0 : Int32))] := Aa114
          refine X.goto (q' := 66) at_56 (by decide) ?_
          refine X.astore (q := 68) (Ls' := #[.val (.int x0), .val (.int x1), .val (.int x2), .val (.int x3), .val (.int x4), .val (.int (1 : Int32)), .val (.int (1 : Int32)), .val (.int (2 : Int32)), .val (.int t), .val (.ref a114), .unset, .unset, .unset]) at_66 rfl rfl rfl ?_
          refine X.iload (q := 70) at_68 rfl rfl ?_
          refine X.if_eq (a := 1) (q' := 83) (q := 73) at_70 rfl (by decide) rfl (fun c70 => ?_) (fun c70 => ?_)
          · omega
          · refine X.aload (q := 75) at_73 rfl rfl rfl ?_
            refine X.iconst (q := 76) (0 : Int32) at_75 (by decide) rfl ?_
            refine X.iconst (q := 77) (5 : Int32) at_76 (by decide) rfl ?_
            refine X.bastore (q := 78) (j := 0) Aa114 rfl (by simp) gea114 at_77 rfl (fun h115 Wh115 Ah115 => ?_)
            have hsh115 : n0 ≤ h115.size := by rw [Wr.size Wh115]; exact hsh113
            have Ah115_ : OwA Z h115 a114 .byte [(.int (nar .byte (5 : Int32))), (.int (0 : Int32))] := Ah115
            refine X.aload (q := 80) at_78 rfl rfl rfl ?_
            refine X.iconst (q := 81) (1 : Int32) at_80 (by decide) rfl ?_
            refine X.iconst (q := 82) (0 : Int32) at_81 (by decide) rfl ?_
            refine X.bastore (q := 83) (j := 1) Ah115_ rfl (by simp) gea114 at_82 rfl (fun h116 Wh116 Ah116 => ?_)
            have hsh116 : n0 ≤ h116.size := by rw [Wr.size Wh116]; exact hsh115
            have Ah116_ : OwA Z h116 a114 .byte [(.int (nar .byte (5 : Int32))), (.int (nar .byte (0 : Int32)))] := Ah116
            refine X.iload (q := 85) at_83 rfl rfl ?_
            refine X.if_ne (a := 1) (q' := 276) (q := 88) at_85 rfl (by decide) rfl (fun c85 => ?_) (fun c85 => ?_)
            · obtain ⟨L, hL⟩ : ∃ L_ : List Int32, L_ = [(nar .byte (5 : Int32)), (nar .byte (0 : Int32))] := ⟨_, rfl⟩
              have AL : OwA Z h116 a114 .byte (L.map Value.int) := by rw [hL]; exact Ah116_
              have nL : L.length = 2 := by rw [hL]; rfl
              have gL0 : (L.getD 0 0).toInt = 5 := by rw [hL]; rfl
              have gL1 : (L.getD 1 0).toInt = 0 := by rw [hL]; rfl
              have rL : ∀ x ∈ L, -128 ≤ x.toInt ∧ x.toInt ≤ 127 := by
                intro x hx; rw [hL] at hx
                simp only [List.mem_cons, List.not_mem_nil, or_false] at hx
                rcases hx with rfl | rfl
                · exact ⟨by decide, by decide⟩
                · exact ⟨by decide, by decide⟩
              clear hL
              refine X.newO (q := 279) (k' := 2) (n' := 5) (hw _ (List.mem_of_getElem? (i := 1) rfl)) (hw _ (List.mem_of_getElem? (i := 2) rfl)) (hw _ (List.mem_of_getElem? (i := 3) rfl)) at_276 rfl rfl (by decide) (by decide) rfl (fun h117 a118 ga118 Eh117 Ba118 Da118 => ?_)
              have la114_a118 : a114 < a118 := by have := AL.lt; rw [← ga118] at this; exact this
              have AL'h117 : OwA Z h117 a114 .byte (L.map Value.int) := OwA.ext (E := Eh117) AL
              have gea118 : n0 ≤ a118 := by rw [ga118]; exact hsh116
              have hsh117 : n0 ≤ h117.size := Nat.le_trans hsh116 Eh117.1
              have Fa118_bytes : Fld Z h117 a118 "com/example/dircred/dircred/credential/DerReader" "bytes" "[B" .null := Da118 (Or.inr (hw _ (List.mem_of_getElem? (i := 14) rfl))) (ty := (.array .byte)) (by decide)
              have Fa118_position : Fld Z h117 a118 "com/example/dircred/dircred/credential/DerReader" "position" "I" (.int (0 : Int32)) := Da118 (Or.inl (hw _ (List.mem_of_getElem? (i := 16) rfl))) (ty := .int) (by decide)
              have Fa118_end : Fld Z h117 a118 "com/example/dircred/dircred/credential/DerReader" "end" "I" (.int (0 : Int32)) := Da118 (Or.inr (hw _ (List.mem_of_getElem? (i := 18) rfl))) (ty := .int) (by decide)
              refine X.dup (q := 280) at_279 rfl rfl ?_
              refine X.aload (q := 282) at_280 rfl rfl rfl ?_
              refine X.special (a := a118) (own_i1 l Z a0 hw h117 n0 a118 a114 L (2 : Int32) (by rw [nL]; rfl) hsh117 Ba118 Fa118_bytes Fa118_position Fa118_end AL'h117 gea118 (Nat.ne_of_gt la114_a118)) rfl (hw _ (List.mem_of_getElem? (i := 4) rfl)) (hw _ (List.mem_of_getElem? (i := 5) rfl)) (hw _ (List.mem_of_getElem? (i := 3) rfl)) (hw _ (List.mem_of_getElem? (i := 6) rfl)) (by decide) own_pd6 (argsL := [(.ref a114)]) (rest := [(.ref a118)]) rfl rfl rfl (W := 1) (Nat.le_of_eq rfl) rfl (by decide) (by decide) (k' := 2) (n' := 5) rfl rfl (by decide) (by decide) at_282 (q := 285) rfl ?_
              rintro _ h119 ⟨rfl, Kh119c, Db, Dp, De⟩
              have AL'h119 : OwA Z h119 a114 .byte (L.map Value.int) := OwA.keep AL'h117 Kh119c (ninS (Nat.ne_of_lt la114_a118) nin0)
              have Ba118'h119 : Exa Z h119 a118 "com/example/dircred/dircred/credential/DerReader" := Exa.keep Ba118 Kh119c
              have hsh119 : n0 ≤ h119.size := Nat.le_trans hsh117 Kh119c.1
              show X.G h119 2 5 285 #[.val (.int x0), .val (.int x1), .val (.int x2), .val (.int x3), .val (.int x4), .val (.int (1 : Int32)), .val (.int (1 : Int32)), .val (.int (2 : Int32)), .val (.int t), .val (.ref a114), .unset, .unset, .unset] [(.ref a118)]
              refine X.astore (q := 287) (Ls' := #[.val (.int x0), .val (.int x1), .val (.int x2), .val (.int x3), .val (.int x4), .val (.int (1 : Int32)), .val (.int (1 : Int32)), .val (.int (2 : Int32)), .val (.int t), .val (.ref a114), .val (.ref a118), .unset, .unset]) at_285 rfl rfl rfl ?_
              refine X.iload (q := 289) at_287 rfl rfl ?_
              refine X.if_eq (a := 1) (q' := 297) (q := 292) at_289 rfl (by decide) rfl (fun c289 => ?_) (fun c289 => ?_)
              · omega
              · refine X.aload (q := 294) at_292 rfl rfl rfl ?_
                have HS : own_hdr L 0 (5 : Int32) 1 2 (2 : Int32) (0 : Int32) := by
                  have g5 : (L.getD 0 0).toInt = 5 ∧ (L.getD 1 0).toInt = 0 := ⟨gL0, gL1⟩
                  have e5_ : (5 : Int32).toInt = 5 := rfl
                  have e2_ : (2 : Int32).toInt = 2 := rfl
                  unfold own_hdr; simp only [nL, Nat.reduceAdd, and_true]; refine ⟨?_, ?_, ?_, ?_, ?_, ?_, ?_, ?_⟩ <;> first | omega | rfl
                refine X.virtual (a := a118) (own_skip l Z a0 hw h119 n0 a118 a114 L 0 (2 : Int32) 0 5 1 2 2 0 rL (by rw [nL]; rfl) (by rw [nL]; decide) rfl HS 2 rfl (by decide) hsh119 Ba118'h119 Db Dp De AL'h119 gea118 (Nat.ne_of_gt la114_a118)) (hw _ (List.mem_of_getElem? (i := 29) rfl)) (hw _ (List.mem_of_getElem? (i := 30) rfl)) (hw _ (List.mem_of_getElem? (i := 32) rfl)) (hw _ (List.mem_of_getElem? (i := 31) rfl)) (hw _ (List.mem_of_getElem? (i := 3) rfl)) (hw _ (List.mem_of_getElem? (i := 33) rfl)) (by decide) Ba118'h119 own_pd8 (argsL := []) (rest := []) rfl rfl rfl (W := 0) (Nat.le_of_eq rfl) rfl (by decide) (by decide) (k' := 4) (n' := 12) rfl rfl (by decide) (by decide) at_294 (q := 297) rfl ?_
                rintro _ h120 ⟨rfl, Kh120c, Eb, Ep, Ee⟩
                have AL'h120 : OwA Z h120 a114 .byte (L.map Value.int) := OwA.keep AL'h119 Kh120c (ninS (Nat.ne_of_lt la114_a118) nin0)
                have Ba118'h120 : Exa Z h120 a118 "com/example/dircred/dircred/credential/DerReader" := Exa.keep Ba118'h119 Kh120c
                have hsh120 : n0 ≤ h120.size := Nat.le_trans hsh119 Kh120c.1
                show X.G h120 4 12 297 #[.val (.int x0), .val (.int x1), .val (.int x2), .val (.int x3), .val (.int x4), .val (.int (1 : Int32)), .val (.int (1 : Int32)), .val (.int (2 : Int32)), .val (.int t), .val (.ref a114), .val (.ref a118), .unset, .unset] []
                refine X.aload (q := 299) at_297 rfl rfl rfl ?_
                refine X.iloadN (q := 300) at_299 rfl rfl ?_
                refine X.virtual (a := a118) (own_n0 l Z a0 hw h120 n0 a118 a114 (2 : Int32) (2 : Int32) x2 (by decide) hsh120 Ba118'h120 Eb Ep Ee) (hw _ (List.mem_of_getElem? (i := 19) rfl)) (hw _ (List.mem_of_getElem? (i := 20) rfl)) (hw _ (List.mem_of_getElem? (i := 22) rfl)) (hw _ (List.mem_of_getElem? (i := 21) rfl)) (hw _ (List.mem_of_getElem? (i := 3) rfl)) (hw _ (List.mem_of_getElem? (i := 23) rfl)) (by decide) Ba118'h120 own_pd7 (argsL := [(.int x2)]) (rest := []) rfl rfl rfl (W := 0) (Nat.le_of_eq rfl) rfl (by decide) (by decide) (k' := 5) (n' := 15) rfl rfl (by decide) (by decide) at_300 (q := 303) rfl ?_
                rintro _ _ ⟨rfl, rfl⟩
                show X.G h120 5 15 303 #[.val (.int x0), .val (.int x1), .val (.int x2), .val (.int x3), .val (.int x4), .val (.int (1 : Int32)), .val (.int (1 : Int32)), .val (.int (2 : Int32)), .val (.int t), .val (.ref a114), .val (.ref a118), .unset, .unset] [(.int (0 : Int32))]
                refine X.istore (q := 305) (Ls' := #[.val (.int x0), .val (.int x1), .val (.int x2), .val (.int x3), .val (.int x4), .val (.int (1 : Int32)), .val (.int (1 : Int32)), .val (.int (2 : Int32)), .val (.int t), .val (.ref a114), .val (.ref a118), .val (.int (0 : Int32)), .unset]) at_303 rfl rfl ?_
                refine X.iload (q := 307) at_305 rfl rfl ?_
                refine X.if_ne (a := 1) (q' := 320) (q := 310) at_307 rfl (by decide) rfl (fun c307 => ?_) (fun c307 => ?_)
                · refine X.iconst (q := 321) (0 : Int32) at_320 (by decide) rfl ?_
                  refine X.istore (q := 323) (Ls' := #[.val (.int x0), .val (.int x1), .val (.int x2), .val (.int x3), .val (.int x4), .val (.int (1 : Int32)), .val (.int (1 : Int32)), .val (.int (2 : Int32)), .val (.int t), .val (.ref a114), .val (.ref a118), .val (.int (0 : Int32)), .val (.int (0 : Int32))]) at_321 rfl rfl ?_
                  refine X.iload (q := 325) at_323 rfl rfl ?_
                  refine X.iload (q := 327) at_325 rfl rfl ?_
                  refine X.icmp_ne (a := 0) (b := 0) (q' := 334) (q := 330) at_327 rfl rfl (by decide) rfl (fun c327 => ?_) (fun c327 => ?_)
                  · omega
                  · refine X.iconst (q := 331) (1 : Int32) at_330 (by decide) rfl ?_
                    refine X.goto (q' := 335) at_331 (by decide) ?_
                    refine X.retN (t := .boolean) (z' := (1 : Int32)) at_335 rfl (by simp) (by decide) (by decide) (by decide) ?_
                    rfl
                · omega
            · omega
set_option maxRecDepth 65536 in
set_option maxHeartbeats 1000000 in
theorem comes_1 {Post : Tables → Env → Array Value → State → Outcome → State → Prop} (hpost : ∀ tb e args s v u, (limb_1_1.after args s (.returned v) u = true ∧ limb_1_2.after args s (.returned v) u = true ∧ True) → FrameEnd s (.returned v) u (Jvm.fieldLocs frame_1_writes args s ++ Jvm.arrayLocs frame_1_arrays args s ++ Jvm.staticLocs frame_1_statics s) 24 128 → Post tb e args s (.returned v) u) :
    ArmFor flags0 classFile x code maxLocals ret World_1 tables_1 room_1 Calls_1 rest_1 Pre_1 Post := by
  intro l hfl _ _ p e ha hc hk s m args below hf hA hF happ hP
  obtain ⟨hcalls, hrest, hpre⟩ := hP
  obtain ⟨-, -, -, hnamed, -, -, -, hat⟩ := (Spec.applies_iff hf).mp happ
  obtain ⟨hg, hn⟩ := and_e (Cond.before_iff.mp (show (Jvm.Cond.and given_1 narrow_1).before args s = true from hpre))
  obtain ⟨hg0, hg⟩ := and_e hg
  obtain ⟨w0, w1, w2, w3, w4, rfl⟩ : ∃ w0 w1 w2 w3 w4 : Value, args = #[w0, w1, w2, w3, w4] := by
    have hs : args.size = 5 := by simpa [Cond.value, given_1] using hg0
    obtain ⟨L⟩ := args
    match L, hs with
    | [w0, w1, w2, w3, w4], _ => exact ⟨w0, w1, w2, w3, w4, rfl⟩
  have hw := fun d (hd : d ∈ tables_1) => atoms_spec (ws := Jvm.Cond.code x code maxLocals ret :: tables_1) hat d (List.mem_cons_of_mem _ hd)
  obtain ⟨ha0, hg⟩ := and_e hg
  obtain ⟨i0, e0⟩ := is_v ha0
  obtain rfl : w0 = (.int i0) := Option.some.inj e0
  obtain ⟨ha1, hg⟩ := and_e hg
  obtain ⟨i1, e1⟩ := is_v ha1
  obtain rfl : w1 = (.int i1) := Option.some.inj e1
  obtain ⟨ha2, hg⟩ := and_e hg
  obtain ⟨i2, e2⟩ := is_v ha2
  obtain rfl : w2 = (.int i2) := Option.some.inj e2
  obtain ⟨ha3, hg⟩ := and_e hg
  obtain ⟨i3, e3⟩ := is_v ha3
  obtain rfl : w3 = (.int i3) := Option.some.inj e3
  have ha4 := hg
  obtain ⟨i4, e4⟩ := is_v ha4
  obtain rfl : w4 = (.int i4) := Option.some.inj e4
  obtain ⟨n, o, h1, h2, h3, _, L, rfl, ⟨rfl, N⟩, hq⟩ := own_law l s _ hw s.heap s.heap.size (Nat.le_refl _) i0 i1 i2 i3 i4 p e ha hc hk s m _ below hf ((Spec.applies_iff_loose hf).mp happ).1 ⟨rfl, State.Warmed39.refl s, rfl⟩ trivial
  refine ⟨n, _, h1, h2, h3, hpost _ _ _ _ _ _ ⟨Cond.after_iff.mpr rfl, Cond.after_iff.mpr (eq_i res_at (Term.int_eval (1)) rfl), trivial⟩ ⟨hq.1, hq.2.1, (hq.2.2.sift fun y hy => Or.inr (N y hy)).mono (by decide) (by decide)⟩⟩
theorem main_1_1 : Claimed_1_1 := comes_1 fun _ _ _ _ _ _ h hF => ⟨h.1, hF⟩
theorem main_1_2 : Claimed_1_2 := comes_1 fun _ _ _ _ _ _ h hF => ⟨h.2.1, hF⟩
end Jvm.Pilot.@@N@@
namespace Jvm.Pilot.@@N@@
open Jvm Jvm.ClassFile Sem Op Lib Jvm.Free Jvm.Stand Jvm.Pilot.@@N@@.Jvm.D
/-! MADE BY PROGRAM (witnessworld.py) out of the Statement's table words and the real class files: 11 classes; the members and pool entries that the words name. The judged class is class 1, her method 1. -/
namespace start1
open Jvm.ClassFile
def u (s : String) : CpInfo := .utf8 (stringToUtf16 s)
/-- a pool by its gaps: so many unusable entries, then the entry; so many at the end -/
def gap : Nat → List CpInfo → List CpInfo
  | 0, r => r
  | n + 1, r => .unusable :: gap n r
def poolList (es : List (Nat × CpInfo)) (last : Nat) : List CpInfo := es.foldr (fun e r => gap e.1 (e.2 :: r)) (gap last [])
def pool (es : List (Nat × CpInfo)) (last : Nat) : Array CpInfo := ⟨poolList es last⟩
def fileOf (pool : Array CpInfo) (this : Nat) (attrs : Array Attribute := #[]) (ms : Array MethodInfo := #[]) (fl : Nat := 33) (sup : Nat := 0) (ifs : Array Nat := #[]) (fds : Array FieldInfo := #[]) : ClassFile where
  minorVersion := 0
  majorVersion := 65
  constantPool := pool
  accessFlags := fl
  thisClass := this
  superClass := sup
  interfaces := ifs
  fields := fds
  methods := ms
  attributes := attrs
def plain (name : String) (sup : Option ClassId) : Class where
  name := name
  kind := .ordinary
  loader := none
  accessFlags := 33
  super := sup
  interfaces := #[]
  cf := none
  fields := #[]
  methods := #[]
  instanceTypes := #[]
  staticTypes := #[]
  resolved := #[]
  callSites := []
  init := .initialized
  statics := none
  mirror := none

def pool0 : Array CpInfo := pool [(5, u "<init>"), (0, u "()V"), (1, .class_ 10), (1, u "java/lang/Object")] 113

def k0c0 : Code := { maxStack := 0, maxLocals := 1, code := object_method_1_code, exceptionTable := #[], attributes := #[] }
def k0m0 : Method := { name := "<init>", desc := "()V", sig := { parameters := [], returnType := none }, accessFlags := 1, code := some k0c0 }
/-- java/lang/Object -/
def k0 : Class := { plain "java/lang/Object" none with
  accessFlags := 33
  interfaces := #[]
  cf := some (fileOf pool0 8 #[] #[{ accessFlags := 1, nameIndex := 5, descriptorIndex := 6, attributes := #[] }] 33 0 #[] #[])
  fields := #[]
  methods := #[k0m0]
  instanceTypes := #[]
  staticTypes := #[]
  resolved := Array.replicate 124 none
  statics := none }

def pool1 : Array CpInfo := pool [(2, .class_ 4), (1, u "java/lang/Object"), (0, u "<init>"), (0, u "()V"), (0, .class_ 8), (0, u "com/example/dircred/dircred/credential/DerReader"), (0, .methodref 7 10), (0, .nameAndType 5 11), (0, u "([B)V"), (0, .methodref 7 13), (0, .nameAndType 14 6), (0, u "skip"), (0, .methodref 7 16), (0, .nameAndType 17 18), (0, u "nextIs"), (0, u "(I)Z"), (0, .class_ 20), (0, u "com/example/dircred/dircred/credential/DerReaderNextIsPinLaw"), (2, u "law"), (0, u "(IIIII)Z")] 8

def k1m0 : Method := { name := "<init>", desc := "()V", sig := { parameters := [], returnType := none }, accessFlags := 1, code := none }
def k1c1 : Code := { maxStack := 5, maxLocals := 13, code := code, exceptionTable := #[], attributes := #[] }
def k1m1 : Method := { name := "law", desc := "(IIIII)Z", sig := { parameters := [.int, .int, .int, .int, .int], returnType := some .boolean }, accessFlags := 9, code := some k1c1 }
/-- com/example/dircred/dircred/credential/DerReaderNextIsPinLaw -/
def k1 : Class := { plain "com/example/dircred/dircred/credential/DerReaderNextIsPinLaw" (some 0) with
  accessFlags := 49
  interfaces := #[]
  cf := some (fileOf pool1 19 #[] #[{ accessFlags := 1, nameIndex := 5, descriptorIndex := 6, attributes := #[] }, { accessFlags := 9, nameIndex := 23, descriptorIndex := 24, attributes := #[] }] 49 2 #[] #[])
  fields := #[]
  methods := #[k1m0, k1m1]
  instanceTypes := #[]
  staticTypes := #[]
  resolved := Array.replicate 33 none
  statics := none }

def pool2 : Array CpInfo := pool [(1, .methodref 2 3), (0, .class_ 4), (0, .nameAndType 5 6), (0, u "com/example/dircred/dircred/credential/DerReader"), (0, u "<init>"), (0, u "([BII)V"), (0, .methodref 8 9), (0, .class_ 10), (0, .nameAndType 5 11), (0, u "java/lang/Object"), (0, u "()V"), (0, .fieldref 2 13), (0, .nameAndType 14 15), (0, u "bytes"), (0, u "[B"), (0, .fieldref 2 17), (0, .nameAndType 18 19), (0, u "position"), (0, u "I"), (0, .fieldref 2 21), (0, .nameAndType 22 19), (0, u "end"), (2, u "([B)V"), (2, u "skip"), (2, .methodref 2 32), (0, .nameAndType 33 34), (0, u "hasMore"), (0, u "()Z"), (0, .methodref 2 36), (0, .nameAndType 37 38), (0, u "header"), (0, u "(I)Lcom/example/dircred/dircred/credential/DerReader$Header;"), (0, .fieldref 40 41), (0, .class_ 42), (0, .nameAndType 43 19), (0, u "com/example/dircred/dircred/credential/DerReader$Header"), (0, u "tag"), (2, u "nextIs"), (0, u "(I)Z"), (9, .class_ 59), (0, .nameAndType 60 19), (0, u "com/example/dircred/dircred/credential/DerReader$Value"), (0, u "contentStart"), (20, u "length"), (28, .methodref 2 111), (0, .nameAndType 112 113), (0, u "next"), (0, u "()Lcom/example/dircred/dircred/credential/DerReader$Value;"), (26, .fieldref 40 141), (0, .nameAndType 81 19), (0, .fieldref 40 58), (0, .methodref 57 144), (0, .nameAndType 5 145), (0, u "(IIII)V"), (24, .long 2147483647), (6, .methodref 40 178), (0, .nameAndType 5 179), (0, u "(III)V"), (0, u "INTEGER"), (2, u "OCTET_STRING"), (1, u "OBJECT_IDENTIFIER"), (1, u "SEQUENCE"), (1, u "CONSTRUCTED"), (1, u "CONTEXT_SPECIFIC"), (1, u "HIGH_TAG_NUMBER"), (1, u "MAX_LENGTH_OCTETS"), (0, u "CUT_SHORT"), (0, u "Ljava/lang/String;"), (0, u "LONGER_THAN_THE_FILE"), (0, u "MAX_SUBIDENTIFIER_OCTETS")] 42

def k2c0 : Code := { maxStack := 4, maxLocals := 2, code := prog_2_method_1_code, exceptionTable := #[], attributes := #[] }
def k2m0 : Method := { name := "<init>", desc := "([B)V", sig := { parameters := [(.array .byte)], returnType := none }, accessFlags := 0, code := some k2c0 }
def k2c1 : Code := { maxStack := 2, maxLocals := 4, code := prog_2_method_2_code, exceptionTable := #[], attributes := #[] }
def k2m1 : Method := { name := "<init>", desc := "([BII)V", sig := { parameters := [(.array .byte), .int, .int], returnType := none }, accessFlags := 2, code := some k2c1 }
def k2c2 : Code := { maxStack := 2, maxLocals := 1, code := prog_2_method_4_code, exceptionTable := #[], attributes := #[] }
def k2m2 : Method := { name := "hasMore", desc := "()Z", sig := { parameters := [], returnType := some .boolean }, accessFlags := 0, code := some k2c2 }
def k2c3 : Code := { maxStack := 2, maxLocals := 2, code := prog_2_method_5_code, exceptionTable := #[], attributes := #[] }
def k2m3 : Method := { name := "nextIs", desc := "(I)Z", sig := { parameters := [.int], returnType := some .boolean }, accessFlags := 0, code := some k2c3 }
def k2c4 : Code := { maxStack := 1, maxLocals := 1, code := prog_2_method_14_code, exceptionTable := #[], attributes := #[] }
def k2m4 : Method := { name := "skip", desc := "()V", sig := { parameters := [], returnType := none }, accessFlags := 0, code := some k2c4 }
def k2c5 : Code := { maxStack := 6, maxLocals := 5, code := prog_2_method_18_code, exceptionTable := #[], attributes := #[] }
def k2m5 : Method := { name := "next", desc := "()Lcom/example/dircred/dircred/credential/DerReader$Value;", sig := { parameters := [], returnType := some (.object "com/example/dircred/dircred/credential/DerReader$Value") }, accessFlags := 2, code := some k2c5 }
def k2c6 : Code := { maxStack := 7, maxLocals := 10, code := prog_2_method_20_code, exceptionTable := #[], attributes := #[] }
def k2m6 : Method := { name := "header", desc := "(I)Lcom/example/dircred/dircred/credential/DerReader$Header;", sig := { parameters := [.int], returnType := some (.object "com/example/dircred/dircred/credential/DerReader$Header") }, accessFlags := 2, code := some k2c6 }
/-- com/example/dircred/dircred/credential/DerReader -/
def k2 : Class := { plain "com/example/dircred/dircred/credential/DerReader" (some 0) with
  accessFlags := 48
  interfaces := #[]
  cf := some (fileOf pool2 2 #[.nestMembers #[57, 40]] #[{ accessFlags := 0, nameIndex := 5, descriptorIndex := 25, attributes := #[] }, { accessFlags := 2, nameIndex := 5, descriptorIndex := 6, attributes := #[] }, { accessFlags := 0, nameIndex := 33, descriptorIndex := 34, attributes := #[] }, { accessFlags := 0, nameIndex := 46, descriptorIndex := 47, attributes := #[] }, { accessFlags := 0, nameIndex := 28, descriptorIndex := 11, attributes := #[] }, { accessFlags := 2, nameIndex := 112, descriptorIndex := 113, attributes := #[] }, { accessFlags := 2, nameIndex := 37, descriptorIndex := 38, attributes := #[] }] 48 8 #[] #[{ accessFlags := 24, nameIndex := 180, descriptorIndex := 19, attributes := #[] }, { accessFlags := 24, nameIndex := 183, descriptorIndex := 19, attributes := #[] }, { accessFlags := 24, nameIndex := 185, descriptorIndex := 19, attributes := #[] }, { accessFlags := 24, nameIndex := 187, descriptorIndex := 19, attributes := #[] }, { accessFlags := 26, nameIndex := 189, descriptorIndex := 19, attributes := #[] }, { accessFlags := 26, nameIndex := 191, descriptorIndex := 19, attributes := #[] }, { accessFlags := 26, nameIndex := 193, descriptorIndex := 19, attributes := #[] }, { accessFlags := 26, nameIndex := 195, descriptorIndex := 19, attributes := #[] }, { accessFlags := 26, nameIndex := 196, descriptorIndex := 197, attributes := #[] }, { accessFlags := 26, nameIndex := 198, descriptorIndex := 197, attributes := #[] }, { accessFlags := 26, nameIndex := 199, descriptorIndex := 19, attributes := #[] }, { accessFlags := 18, nameIndex := 14, descriptorIndex := 15, attributes := #[] }, { accessFlags := 18, nameIndex := 22, descriptorIndex := 19, attributes := #[] }, { accessFlags := 2, nameIndex := 18, descriptorIndex := 19, attributes := #[] }])
  fields := #[{ name := "INTEGER", type := .int, accessFlags := 24, slot := 0, constantValue := 0 }, { name := "OCTET_STRING", type := .int, accessFlags := 24, slot := 1, constantValue := 0 }, { name := "OBJECT_IDENTIFIER", type := .int, accessFlags := 24, slot := 2, constantValue := 0 }, { name := "SEQUENCE", type := .int, accessFlags := 24, slot := 3, constantValue := 0 }, { name := "CONSTRUCTED", type := .int, accessFlags := 26, slot := 4, constantValue := 0 }, { name := "CONTEXT_SPECIFIC", type := .int, accessFlags := 26, slot := 5, constantValue := 0 }, { name := "HIGH_TAG_NUMBER", type := .int, accessFlags := 26, slot := 6, constantValue := 0 }, { name := "MAX_LENGTH_OCTETS", type := .int, accessFlags := 26, slot := 7, constantValue := 0 }, { name := "CUT_SHORT", type := (.object "java/lang/String"), accessFlags := 26, slot := 8, constantValue := 0 }, { name := "LONGER_THAN_THE_FILE", type := (.object "java/lang/String"), accessFlags := 26, slot := 9, constantValue := 0 }, { name := "MAX_SUBIDENTIFIER_OCTETS", type := .int, accessFlags := 26, slot := 10, constantValue := 0 }, { name := "bytes", type := (.array .byte), accessFlags := 18, slot := 0, constantValue := 0 }, { name := "end", type := .int, accessFlags := 18, slot := 1, constantValue := 0 }, { name := "position", type := .int, accessFlags := 2, slot := 2, constantValue := 0 }]
  methods := #[k2m0, k2m1, k2m2, k2m3, k2m4, k2m5, k2m6]
  instanceTypes := #[(.array .byte), .int, .int]
  staticTypes := #[.int, .int, .int, .int, .int, .int, .int, .int, (.object "java/lang/String"), (.object "java/lang/String"), .int]
  resolved := #[none, none, none, none, none, none, none, none, none, none, none, none, none, none, none, none, none, none, none, none, none, none, none, none, none, none, none, none, none, none, none, none, none, none, none, none, none, none, none, some (.field 3 0), none, none, none, none, none, none, none, none, none, none, none, none, none, none, none, none, none, none, none, none, none, none, none, none, none, none, none, none, none, none, none, none, none, none, none, none, none, none, none, none, none, none, none, none, none, none, none, none, none, none, none, none, none, none, none, none, none, none, none, none, none, none, none, none, none, none, none, none, none, none, none, none, none, none, none, none, none, none, none, none, none, none, none, none, none, none, none, none, none, none, none, none, none, none, none, none, none, none, none, none, some (.field 3 2), none, some (.field 3 1), none, none, none, none, none, none, none, none, none, none, none, none, none, none, none, none, none, none, none, none, none, none, none, none, none, none, none, none, none, none, none, none, none, none, none, none, none, none, none, none, none, none, none, none, none, none, none, none, none, none, none, none, none, none, none, none, none, none, none, none, none, none, none, none, none, none, none, none, none, none, none, none, none, none, none, none, none, none, none, none, none, none, none, none, none, none, none, none, none, none, none, none, none, none, none, none, none, none, none]
  statics := none }

def pool3 : Array CpInfo := pool [(1, .methodref 2 3), (0, .class_ 4), (0, .nameAndType 5 6), (0, u "java/lang/Object"), (0, u "<init>"), (0, u "()V"), (0, .fieldref 8 9), (0, .class_ 10), (0, .nameAndType 11 12), (0, u "com/example/dircred/dircred/credential/DerReader$Header"), (0, u "tag"), (0, u "I"), (0, .fieldref 8 14), (0, .nameAndType 15 12), (0, u "contentStart"), (0, .fieldref 8 17), (0, .nameAndType 18 12), (0, u "length"), (0, u "(III)V"), (5, .class_ 26), (0, u "com/example/dircred/dircred/credential/DerReader")] 2

def k3c0 : Code := { maxStack := 2, maxLocals := 4, code := prog_3_method_1_code, exceptionTable := #[], attributes := #[] }
def k3m0 : Method := { name := "<init>", desc := "(III)V", sig := { parameters := [.int, .int, .int], returnType := none }, accessFlags := 0, code := some k3c0 }
/-- com/example/dircred/dircred/credential/DerReader$Header -/
def k3 : Class := { plain "com/example/dircred/dircred/credential/DerReader$Header" (some 0) with
  accessFlags := 48
  interfaces := #[]
  cf := some (fileOf pool3 8 #[.nestHost 25] #[{ accessFlags := 0, nameIndex := 5, descriptorIndex := 19, attributes := #[] }] 48 2 #[] #[{ accessFlags := 18, nameIndex := 11, descriptorIndex := 12, attributes := #[] }, { accessFlags := 18, nameIndex := 15, descriptorIndex := 12, attributes := #[] }, { accessFlags := 18, nameIndex := 18, descriptorIndex := 12, attributes := #[] }])
  fields := #[{ name := "tag", type := .int, accessFlags := 18, slot := 0, constantValue := 0 }, { name := "contentStart", type := .int, accessFlags := 18, slot := 1, constantValue := 0 }, { name := "length", type := .int, accessFlags := 18, slot := 2, constantValue := 0 }]
  methods := #[k3m0]
  instanceTypes := #[.int, .int, .int]
  staticTypes := #[]
  resolved := Array.replicate 29 none
  statics := none }

def pool4 : Array CpInfo := pool [(1, .methodref 2 3), (0, .class_ 4), (0, .nameAndType 5 6), (0, u "java/lang/Object"), (0, u "<init>"), (0, u "()V"), (0, .fieldref 8 9), (0, .class_ 10), (0, .nameAndType 11 12), (0, u "com/example/dircred/dircred/credential/DerReader$Value"), (0, u "tag"), (0, u "I"), (0, .fieldref 8 14), (0, .nameAndType 15 12), (0, u "contentStart"), (0, .fieldref 8 17), (0, .nameAndType 18 12), (0, u "contentEnd"), (0, .fieldref 8 20), (0, .nameAndType 21 12), (0, u "end"), (0, u "(IIII)V"), (5, .class_ 29), (0, u "com/example/dircred/dircred/credential/DerReader")] 2

def k4c0 : Code := { maxStack := 2, maxLocals := 5, code := prog_4_method_1_code, exceptionTable := #[], attributes := #[] }
def k4m0 : Method := { name := "<init>", desc := "(IIII)V", sig := { parameters := [.int, .int, .int, .int], returnType := none }, accessFlags := 0, code := some k4c0 }
/-- com/example/dircred/dircred/credential/DerReader$Value -/
def k4 : Class := { plain "com/example/dircred/dircred/credential/DerReader$Value" (some 0) with
  accessFlags := 48
  interfaces := #[]
  cf := some (fileOf pool4 8 #[.nestHost 28] #[{ accessFlags := 0, nameIndex := 5, descriptorIndex := 22, attributes := #[] }] 48 2 #[] #[{ accessFlags := 18, nameIndex := 11, descriptorIndex := 12, attributes := #[] }, { accessFlags := 18, nameIndex := 15, descriptorIndex := 12, attributes := #[] }, { accessFlags := 18, nameIndex := 18, descriptorIndex := 12, attributes := #[] }, { accessFlags := 18, nameIndex := 21, descriptorIndex := 12, attributes := #[] }])
  fields := #[{ name := "tag", type := .int, accessFlags := 18, slot := 0, constantValue := 0 }, { name := "contentStart", type := .int, accessFlags := 18, slot := 1, constantValue := 0 }, { name := "contentEnd", type := .int, accessFlags := 18, slot := 2, constantValue := 0 }, { name := "end", type := .int, accessFlags := 18, slot := 3, constantValue := 0 }]
  methods := #[k4m0]
  instanceTypes := #[.int, .int, .int, .int]
  staticTypes := #[]
  resolved := Array.replicate 32 none
  statics := none }

def pool5 : Array CpInfo := pool [(1, u "java/lang/Cloneable"), (0, .class_ 1), (0, u "java/lang/Object"), (0, .class_ 3)] 3

/-- java/lang/Cloneable -/
def k5 : Class := { plain "java/lang/Cloneable" (some 0) with
  accessFlags := 1537
  interfaces := #[]
  cf := some (fileOf pool5 2 #[] #[] 1537 4 #[] #[])
  fields := #[]
  methods := #[]
  instanceTypes := #[]
  staticTypes := #[]
  resolved := Array.replicate 8 none
  statics := none }

def pool6 : Array CpInfo := pool [(1, u "java/io/Serializable"), (0, .class_ 1), (0, u "java/lang/Object"), (0, .class_ 3)] 3

/-- java/io/Serializable -/
def k6 : Class := { plain "java/io/Serializable" (some 0) with
  accessFlags := 1537
  interfaces := #[]
  cf := some (fileOf pool6 2 #[] #[] 1537 4 #[] #[])
  fields := #[]
  methods := #[]
  instanceTypes := #[]
  staticTypes := #[]
  resolved := Array.replicate 8 none
  statics := none }

/-- the primitive byte -/
def k7 : Class := { plain "byte" none with kind := .primitive 'B', accessFlags := 0x411 }
/-- [B -/
def k8 : Class := { plain "[B" (some 0) with kind := .array 7 .byte, interfaces := #[5, 6], accessFlags := 1041 }

/-- the primitive int -/
def k9 : Class := { plain "int" none with kind := .primitive 'I', accessFlags := 0x411 }
/-- [I -/
def k10 : Class := { plain "[I" (some 0) with kind := .array 9 .int, interfaces := #[5, 6], accessFlags := 1041 }

def heap : Heap := #[]
def classes : Array Class := #[k0, k1, k2, k3, k4, k5, k6, k7, k8, k9, k10]
def interned : List (Array UInt16 × Addr) := []
def slotsUsed : Nat := 0
def theMethod : MethodId := ⟨1, 1⟩
def args0 : Array Value := #[.int 5, .int 1, .int 2, .int 3, .int 4]
def aboutOver (below : List Frame) : State where
  vm := { classes := classes, interned := interned.toArray }
  heap := heap
  slotsUsed := slotsUsed
  threads := #[{ frames := .invoking theMethod args0 :: below }]
def below0 : List Frame := [.native { method := ⟨0, 0⟩, args := #[] }]
def about1 : State := aboutOver below0
def p0 : Program := .bare "" "" ""
def e0 : Env := launch0.env 0 0 0
theorem w_frames : about1.frames = Frame.invoking theMethod args0 :: below0 := rfl
set_option maxRecDepth 65536 in
theorem w_args : argsFit about1.vm theMethod args0 = true := by decide +kernel
set_option maxRecDepth 65536 in
theorem w_heap : heapFits about1 = true := by decide +kernel
set_option maxRecDepth 65536 in
theorem w_runnable : about1.curStatus? = some .runnable := by decide +kernel
set_option maxRecDepth 65536 in
theorem w_alone : about1.alone = true := by decide +kernel
set_option maxRecDepth 65536 in
theorem w_named : about1.methodNamed? x = some theMethod := by decide +kernel
set_option maxRecDepth 65536 in
theorem w_hears : about1.hears theMethod below0 = true := by decide +kernel
set_option maxRecDepth 65536 in
theorem w_ripe : about1.ripe theMethod args0 below0 = true := by decide +kernel
theorem w_running : about1.status = .running := rfl
set_option maxRecDepth 65536 in
theorem w_room : about1.hasRoom e0.platform room_1 = true :=
  launch0.hasRoom_least _ room_1 (by decide +kernel) (by decide +kernel) (by decide +kernel) (by decide +kernel) (by decide +kernel) (by decide +kernel)
theorem allAtoms_all (ts : List Jvm.Cond) (a : Array Jvm.Value) (st : Jvm.State) : (allAtoms ts).before a st = ts.all (fun c => c.before a st) := by
  induction ts with
  | nil => rfl
  | cons c t ih =>
    show (Jvm.Cond.and c (allAtoms t)).before a st = _
    rw [Jvm.Cond.before_and, ih, List.all_cons]
def words1 : List Jvm.Cond := Jvm.Cond.code x code maxLocals ret :: tables_1
/-- a 'code' word, met by the world's own term for the bytes: nothing is compared byte by byte -/
theorem code_word {y : MethodName} {bytes : ByteArray} {mx : Nat} {rt : Option FieldType} {a : Array Value} {s : State} {m : MethodId} {meth : Method} {c : Code} (h1 : s.methodNamed? y = some m) (h2 : s.vm.method? m = some meth) (h3 : meth.code = some c) (h4 : c.code = bytes)
    (h5 : (c.maxLocals == mx && c.exceptionTable.isEmpty && decide (c.maxStack ≤ mostOperands) && decide (meth.sig.returnType = rt) && !meth.locks && decide (parseMethodDescriptor y.desc = some meth.sig)) = true) : (Jvm.Cond.code y bytes mx rt).before a s = true := by
  simp only [Bool.and_eq_true, beq_iff_eq, Bool.not_eq_true', decide_eq_true_eq] at h5
  obtain ⟨⟨⟨⟨⟨g1, g2⟩, g3⟩, g4⟩, g5⟩, g6⟩ := h5
  simp [Cond.before, Cond.holds, Cond.value, h1, h2, h3, h4, g1, g2, g3, g4, g5, g6]
def isCode : Jvm.Cond → Bool
  | .code _ _ _ _ => true
  | _ => false
theorem all_split {L : List Jvm.Cond} {P : Jvm.Cond → Bool} (h1 : L.all (fun c => isCode c || P c) = true) (h2 : ∀ c ∈ L.filter isCode, P c = true) : L.all P = true := by
  refine List.all_eq_true.mpr fun c hc => ?_
  have h := List.all_eq_true.mp h1 c hc
  rcases Bool.eq_false_or_eq_true (isCode c) with hi | hi
  · exact h2 c (List.mem_filter.mpr ⟨hc, hi⟩)
  · simpa [hi] using h
set_option maxRecDepth 65536 in
theorem w_c0 : (Jvm.Cond.code x code maxLocals ret).before args0 about1 = true := code_word (m := ⟨1, 1⟩) (meth := k1m1) (c := k1c1) (by decide +kernel) rfl rfl rfl (by decide +kernel)
set_option maxRecDepth 65536 in
theorem w_c1 : (Jvm.Cond.code ({ cls := "com/example/dircred/dircred/credential/DerReader", name := "<init>", desc := "([B)V" } : Jvm.MethodName) prog_2_method_1_code (2 : Nat) (Option.none : Option Jvm.ClassFile.FieldType)).before args0 about1 = true := code_word (m := ⟨2, 0⟩) (meth := k2m0) (c := k2c0) (by decide +kernel) rfl rfl rfl (by decide +kernel)
set_option maxRecDepth 65536 in
theorem w_c2 : (Jvm.Cond.code ({ cls := "com/example/dircred/dircred/credential/DerReader", name := "<init>", desc := "([BII)V" } : Jvm.MethodName) prog_2_method_2_code (4 : Nat) (Option.none : Option Jvm.ClassFile.FieldType)).before args0 about1 = true := code_word (m := ⟨2, 1⟩) (meth := k2m1) (c := k2c1) (by decide +kernel) rfl rfl rfl (by decide +kernel)
set_option maxRecDepth 65536 in
theorem w_c3 : (Jvm.Cond.code ({ cls := "java/lang/Object", name := "<init>", desc := "()V" } : Jvm.MethodName) object_method_1_code (1 : Nat) (Option.none : Option Jvm.ClassFile.FieldType)).before args0 about1 = true := code_word (m := ⟨0, 0⟩) (meth := k0m0) (c := k0c0) (by decide +kernel) rfl rfl rfl (by decide +kernel)
set_option maxRecDepth 65536 in
theorem w_c4 : (Jvm.Cond.code ({ cls := "com/example/dircred/dircred/credential/DerReader", name := "nextIs", desc := "(I)Z" } : Jvm.MethodName) prog_2_method_5_code (2 : Nat) (Option.some Jvm.ClassFile.FieldType.boolean)).before args0 about1 = true := code_word (m := ⟨2, 3⟩) (meth := k2m3) (c := k2c3) (by decide +kernel) rfl rfl rfl (by decide +kernel)
set_option maxRecDepth 65536 in
theorem w_c5 : (Jvm.Cond.code ({ cls := "com/example/dircred/dircred/credential/DerReader", name := "hasMore", desc := "()Z" } : Jvm.MethodName) prog_2_method_4_code (1 : Nat) (Option.some Jvm.ClassFile.FieldType.boolean)).before args0 about1 = true := code_word (m := ⟨2, 2⟩) (meth := k2m2) (c := k2c2) (by decide +kernel) rfl rfl rfl (by decide +kernel)
set_option maxRecDepth 65536 in
theorem w_c6 : (Jvm.Cond.code ({ cls := "com/example/dircred/dircred/credential/DerReader", name := "skip", desc := "()V" } : Jvm.MethodName) prog_2_method_14_code (1 : Nat) (Option.none : Option Jvm.ClassFile.FieldType)).before args0 about1 = true := code_word (m := ⟨2, 4⟩) (meth := k2m4) (c := k2c4) (by decide +kernel) rfl rfl rfl (by decide +kernel)
set_option maxRecDepth 65536 in
theorem w_c7 : (Jvm.Cond.code ({ cls := "com/example/dircred/dircred/credential/DerReader", name := "next", desc := "()Lcom/example/dircred/dircred/credential/DerReader$Value;" } : Jvm.MethodName) prog_2_method_18_code (5 : Nat) (Option.some (Jvm.ClassFile.FieldType.object "com/example/dircred/dircred/credential/DerReader$Value"))).before args0 about1 = true := code_word (m := ⟨2, 5⟩) (meth := k2m5) (c := k2c5) (by decide +kernel) rfl rfl rfl (by decide +kernel)
set_option maxRecDepth 65536 in
theorem w_c8 : (Jvm.Cond.code ({ cls := "com/example/dircred/dircred/credential/DerReader", name := "header", desc := "(I)Lcom/example/dircred/dircred/credential/DerReader$Header;" } : Jvm.MethodName) prog_2_method_20_code (10 : Nat) (Option.some (Jvm.ClassFile.FieldType.object "com/example/dircred/dircred/credential/DerReader$Header"))).before args0 about1 = true := code_word (m := ⟨2, 6⟩) (meth := k2m6) (c := k2c6) (by decide +kernel) rfl rfl rfl (by decide +kernel)
set_option maxRecDepth 65536 in
theorem w_c9 : (Jvm.Cond.code ({ cls := "com/example/dircred/dircred/credential/DerReader$Header", name := "<init>", desc := "(III)V" } : Jvm.MethodName) prog_3_method_1_code (4 : Nat) (Option.none : Option Jvm.ClassFile.FieldType)).before args0 about1 = true := code_word (m := ⟨3, 0⟩) (meth := k3m0) (c := k3c0) (by decide +kernel) rfl rfl rfl (by decide +kernel)
set_option maxRecDepth 65536 in
theorem w_c10 : (Jvm.Cond.code ({ cls := "com/example/dircred/dircred/credential/DerReader$Value", name := "<init>", desc := "(IIII)V" } : Jvm.MethodName) prog_4_method_1_code (5 : Nat) (Option.none : Option Jvm.ClassFile.FieldType)).before args0 about1 = true := code_word (m := ⟨4, 0⟩) (meth := k4m0) (c := k4c0) (by decide +kernel) rfl rfl rfl (by decide +kernel)
def codes1 : List Jvm.Cond := [Jvm.Cond.code x code maxLocals ret, Jvm.Cond.code ({ cls := "com/example/dircred/dircred/credential/DerReader", name := "<init>", desc := "([B)V" } : Jvm.MethodName) prog_2_method_1_code (2 : Nat) (Option.none : Option Jvm.ClassFile.FieldType), Jvm.Cond.code ({ cls := "com/example/dircred/dircred/credential/DerReader", name := "<init>", desc := "([BII)V" } : Jvm.MethodName) prog_2_method_2_code (4 : Nat) (Option.none : Option Jvm.ClassFile.FieldType), Jvm.Cond.code ({ cls := "java/lang/Object", name := "<init>", desc := "()V" } : Jvm.MethodName) object_method_1_code (1 : Nat) (Option.none : Option Jvm.ClassFile.FieldType), Jvm.Cond.code ({ cls := "com/example/dircred/dircred/credential/DerReader", name := "nextIs", desc := "(I)Z" } : Jvm.MethodName) prog_2_method_5_code (2 : Nat) (Option.some Jvm.ClassFile.FieldType.boolean), Jvm.Cond.code ({ cls := "com/example/dircred/dircred/credential/DerReader", name := "hasMore", desc := "()Z" } : Jvm.MethodName) prog_2_method_4_code (1 : Nat) (Option.some Jvm.ClassFile.FieldType.boolean), Jvm.Cond.code ({ cls := "com/example/dircred/dircred/credential/DerReader", name := "skip", desc := "()V" } : Jvm.MethodName) prog_2_method_14_code (1 : Nat) (Option.none : Option Jvm.ClassFile.FieldType), Jvm.Cond.code ({ cls := "com/example/dircred/dircred/credential/DerReader", name := "next", desc := "()Lcom/example/dircred/dircred/credential/DerReader$Value;" } : Jvm.MethodName) prog_2_method_18_code (5 : Nat) (Option.some (Jvm.ClassFile.FieldType.object "com/example/dircred/dircred/credential/DerReader$Value")), Jvm.Cond.code ({ cls := "com/example/dircred/dircred/credential/DerReader", name := "header", desc := "(I)Lcom/example/dircred/dircred/credential/DerReader$Header;" } : Jvm.MethodName) prog_2_method_20_code (10 : Nat) (Option.some (Jvm.ClassFile.FieldType.object "com/example/dircred/dircred/credential/DerReader$Header")), Jvm.Cond.code ({ cls := "com/example/dircred/dircred/credential/DerReader$Header", name := "<init>", desc := "(III)V" } : Jvm.MethodName) prog_3_method_1_code (4 : Nat) (Option.none : Option Jvm.ClassFile.FieldType), Jvm.Cond.code ({ cls := "com/example/dircred/dircred/credential/DerReader$Value", name := "<init>", desc := "(IIII)V" } : Jvm.MethodName) prog_4_method_1_code (5 : Nat) (Option.none : Option Jvm.ClassFile.FieldType)]
set_option maxRecDepth 65536 in
theorem codes_eq : words1.filter isCode = codes1 := rfl
theorem w_codes : ∀ c ∈ words1.filter isCode, c.before args0 about1 = true := by
  rw [codes_eq]
  intro c hc
  simp only [codes1, List.mem_cons, List.not_mem_nil, or_false] at hc
  rcases hc with rfl | rfl | rfl | rfl | rfl | rfl | rfl | rfl | rfl | rfl | rfl
  · exact w_c0
  · exact w_c1
  · exact w_c2
  · exact w_c3
  · exact w_c4
  · exact w_c5
  · exact w_c6
  · exact w_c7
  · exact w_c8
  · exact w_c9
  · exact w_c10
set_option maxRecDepth 65536 in
theorem w_t1 : (words1.take 24).all (fun c => isCode c || c.before args0 about1) = true := by decide +kernel
set_option maxRecDepth 65536 in
theorem w_t2 : ((words1.drop 24).take 24).all (fun c => isCode c || c.before args0 about1) = true := by decide +kernel
set_option maxRecDepth 65536 in
theorem w_t3 : (((words1.drop 24).drop 24).take 24).all (fun c => isCode c || c.before args0 about1) = true := by decide +kernel
set_option maxRecDepth 65536 in
theorem w_t4 : (((words1.drop 24).drop 24).drop 24).all (fun c => isCode c || c.before args0 about1) = true := by decide +kernel
theorem w_tables : (allAtoms (Jvm.Cond.code x code maxLocals ret :: tables_1)).before args0 about1 = true := by
  rw [allAtoms_all]
  show words1.all (fun c => c.before args0 about1) = true
  refine all_split ?_ w_codes
  rw [← List.take_append_drop 24 words1, List.all_append, w_t1, ← List.take_append_drop 24 (words1.drop 24), List.all_append, w_t2, ← List.take_append_drop 24 ((words1.drop 24).drop 24), List.all_append, w_t3, w_t4]
  rfl
set_option maxRecDepth 65536 in
theorem w_case : (Jvm.Cond.and given_1 narrow_1).before args0 about1 = true := by decide +kernel
theorem w_applies : (headSpec (Jvm.Cond.code x code maxLocals ret :: tables_1) room_1).applies x e0.platform about1 = true :=
  (Spec.applies_iff w_frames).mpr ⟨w_running, w_runnable, w_alone, w_named, w_hears, w_ripe, w_room, w_tables⟩
theorem atStart : AtStart classFile x code maxLocals ret World_1 tables_1 room_1 Calls_1 rest_1 Pre_1 launch0 p0 e0 about1 theMethod args0 below0 :=
  ⟨lists_1, trivial, launch0.admits_env _ _ _, launch0.least_env, fairChoices_fair.cas, fairChoices_fair.clock, w_frames, w_args, w_heap, w_applies, trivial, trivial, w_case⟩
end start1
theorem witness_1 : WitnessClaimed_1 := ⟨start1.p0, start1.e0, start1.about1, start1.theMethod, start1.args0, start1.below0, start1.atStart⟩
end Jvm.Pilot.@@N@@
