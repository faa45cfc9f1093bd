import JvmDerived
import JvmDerived.Pilot.@@N@@Statement
import JvmDerived.Pilot.@@N@@Code
set_option linter.unusedVariables false
set_option linter.unusedSimpArgs false
@@BLOCK:NumsL.lean.txt@@
namespace Jvm.Pilot.@@N@@
open Jvm Jvm.ClassFile Sem Op Lib Jvm.Free Jvm.Stand Jvm.LawKit Jvm.RoadKit Bundle Jvm.Pilot.@@N@@.Jvm.D
/-! ## the walk's own kit: 'from this pc on the body comes to its end, in Φ' (X.G), and one rule a step -/
def OwC (p : Program) (l : Launch) (e : Env) (R : Room) (s : State) (m : MethodId) (args : Array Value) (below : List Frame) (meth : Method) (c : Code) (Z : State) (own nm : String) (bytes : ByteArray) (mL : Nat) (ret : Option FieldType) (n0 kM nM : Nat) (Φ : Option Value → Heap → Prop) : Prop :=
  p.tables.exec = Jvm.exec ∧ c.code = bytes ∧ c.maxLocals = mL ∧ s.vm.findClass own = some m.cls ∧ Z.Warmed39 s.vm ∧ meth.sig.returnType = ret ∧ meth.locks = false ∧ meth.name = nm
section OwKit
variable {p : Program} {l : Launch} {e : Env} {R : Room} {s : State} {m : MethodId} {args : Array Value} {below : List Frame} {meth : Method} {c : Code} {Z : State} {own nm : String} {bytes : ByteArray} {mL : Nat} {ret : Option FieldType} {n0 kM nM : Nat} {Φ : Option Value → Heap → Prop}
variable {a0 : Array Value} {h : Heap} {k n pc q : Nat} {Ls Ls' : Array Slot} {st rest : List Value}
def OwC.G (_X : OwC p l e R s m args below meth c Z own nm bytes mL ret n0 kM nM Φ) (h : Heap) (k n pc : Nat) (Ls : Array Slot) (st : List Value) : Prop :=
  ∀ T locs, Stand p l e R s m args below meth c T locs k n → T.heap = h → Fr n0 locs →
    ∃ v s₂ L, Steps p.tables e below (T.setTop (mkF m pc Ls st)) s₂ ∧ s₂.status = .running ∧ Ended s₂ below (.returned v) ∧ (Φ v s₂.heap ∧ Fr n0 L) ∧ FrameEnd s (.returned v) s₂ L kM nM
variable (X : OwC p l e R s m args below meth c Z own nm bytes mL ret n0 kM nM Φ)
theorem OwC.step {pc' : Nat} {st' : List Value} (g : X.G h k n pc' Ls' st') (w : ∀ T locs, Stand p l e R s m args below meth c T locs k n → ∀ t, Steps p.tables e below (T.setTop (mkF m pc' Ls' st')) t → Steps p.tables e below (T.setTop (mkF m pc Ls st)) t) : X.G h k n pc Ls st := fun T locs Y eT N => by
  obtain ⟨v, s₂, L, r1, r⟩ := g T locs Y eT N
  exact ⟨v, s₂, L, w T locs Y _ r1, r⟩
theorem OwC.hd (X : OwC p l e R s m args below meth c Z own nm bytes mL ret n0 kM nM Φ) {i : Instr} {len : Nat} (d : decode bytes pc = .ok (i, len)) : decode c.code pc = .ok (i, len) := hb X.2.1 d
/-! a name for the top of the stack -/
theorem OwC.nmI {x : Int32} (g : ∀ v : Int32, v = x → X.G h k n pc Ls (.int v :: st)) : X.G h k n pc Ls (.int x :: st) := g x rfl
theorem OwC.nmJ {x : Int64} (g : ∀ v : Int64, v = x → X.G h k n pc Ls (.long v :: st)) : X.G h k n pc Ls (.long x :: st) := g x rfl
theorem OwC.foldI {x v : Int32} (e : x = v) (g : X.G h k n pc Ls (.int v :: st)) : X.G h k n pc Ls (.int x :: st) := by subst e; exact g
theorem OwC.foldJ {x v : Int64} (e : x = v) (g : X.G h k n pc Ls (.long v :: st)) : X.G h k n pc Ls (.long x :: st) := by subst e; exact g
/-! loads and stores -/
theorem OwC.iloadN {j : Fin 4} {v : Int32} (d : decode bytes pc = .ok (.iload_n j, 1)) (hl : Ls[j.val]? = some (.val (.int v))) (hq : pc + 1 = q) (g : X.G h k n q Ls (.int v :: st)) : X.G h k n pc Ls st := by
  subst hq; exact X.step g fun T _ Y t r => XS.iloadN Y.here X.1 rfl (X.hd d) hl r
theorem OwC.iload {j : Nat} {v : Int32} (d : decode bytes pc = .ok (.iload j, 2)) (hl : Ls[j]? = some (.val (.int v))) (hq : pc + 2 = q) (g : X.G h k n q Ls (.int v :: st)) : X.G h k n pc Ls st := by
  subst hq; exact X.step g fun T _ Y t r => XS.iload Y.here X.1 rfl (X.hd d) hl r
theorem OwC.lloadN {j : Fin 4} {v : Int64} (d : decode bytes pc = .ok (.lload_n j, 1)) (hl : Ls[j.val]? = some (.val (.long v))) (hq : pc + 1 = q) (g : X.G h k n q Ls (.long v :: st)) : X.G h k n pc Ls st := by
  subst hq; exact X.step g fun T _ Y t r => XT.lloadN Y.here X.1 rfl (X.hd d) hl r
theorem OwC.lload {j : Nat} {v : Int64} (d : decode bytes pc = .ok (.lload j, 2)) (hl : Ls[j]? = some (.val (.long v))) (hq : pc + 2 = q) (g : X.G h k n q Ls (.long v :: st)) : X.G h k n pc Ls st := by
  subst hq; exact X.step g fun T _ Y t r => XT.lload Y.here X.1 rfl (X.hd d) hl r
theorem OwC.aloadN {j : Fin 4} {v : Value} (d : decode bytes pc = .ok (.aload_n j, 1)) (hl : Ls[j.val]? = some (.val v)) (hv : v.isRef = true) (hq : pc + 1 = q) (g : X.G h k n q Ls (v :: st)) : X.G h k n pc Ls st := by
  subst hq; exact X.step g fun T _ Y t r => XS.aloadN Y.here X.1 rfl (X.hd d) hl hv r
theorem OwC.aload {j : Nat} {v : Value} (d : decode bytes pc = .ok (.aload j, 2)) (hl : Ls[j]? = some (.val v)) (hv : v.isRef = true) (hq : pc + 2 = q) (g : X.G h k n q Ls (v :: st)) : X.G h k n pc Ls st := by
  subst hq; exact X.step g fun T _ Y t r => XS.aload Y.here X.1 rfl (X.hd d) hl hv r
theorem OwC.istoreN {j : Fin 4} {x : Int32} (d : decode bytes pc = .ok (.istore_n j, 1)) (hl : storeLocals Ls j.val (.int x) = some Ls') (hq : pc + 1 = q) (g : X.G h k n q Ls' st) : X.G h k n pc Ls (.int x :: st) := by
  subst hq; exact X.step g fun T _ Y t r => XS.istoreN Y.here X.1 rfl (X.hd d) rfl hl r
theorem OwC.istore {j : Nat} {x : Int32} (d : decode bytes pc = .ok (.istore j, 2)) (hl : storeLocals Ls j (.int x) = some Ls') (hq : pc + 2 = q) (g : X.G h k n q Ls' st) : X.G h k n pc Ls (.int x :: st) := by
  subst hq; exact X.step g fun T _ Y t r => XS.istore Y.here X.1 rfl (X.hd d) rfl hl r
theorem OwC.lstoreN {j : Fin 4} {x : Int64} (d : decode bytes pc = .ok (.lstore_n j, 1)) (hl : storeLocals Ls j.val (.long x) = some Ls') (hq : pc + 1 = q) (g : X.G h k n q Ls' st) : X.G h k n pc Ls (.long x :: st) := by
  subst hq; exact X.step g fun T _ Y t r => XT.lstoreN Y.here X.1 rfl (X.hd d) rfl hl r
theorem OwC.lstore {j : Nat} {x : Int64} (d : decode bytes pc = .ok (.lstore j, 2)) (hl : storeLocals Ls j (.long x) = some Ls') (hq : pc + 2 = q) (g : X.G h k n q Ls' st) : X.G h k n pc Ls (.long x :: st) := by
  subst hq; exact X.step g fun T _ Y t r => XT.lstore Y.here X.1 rfl (X.hd d) rfl hl r
theorem OwC.astoreN {j : Fin 4} {x : Value} (d : decode bytes pc = .ok (.astore_n j, 1)) (hv : x.isRef = true) (hl : storeLocals Ls j.val x = some Ls') (hq : pc + 1 = q) (g : X.G h k n q Ls' st) : X.G h k n pc Ls (x :: st) := by
  subst hq; exact X.step g fun T _ Y t r => XS.astoreN Y.here X.1 rfl (X.hd d) rfl hv hl r
theorem OwC.astore {j : Nat} {x : Value} (d : decode bytes pc = .ok (.astore j, 2)) (hv : x.isRef = true) (hl : storeLocals Ls j x = some Ls') (hq : pc + 2 = q) (g : X.G h k n q Ls' st) : X.G h k n pc Ls (x :: st) := by
  subst hq; exact X.step g fun T _ Y t r => XS.astore Y.here X.1 rfl (X.hd d) rfl hv hl r
/-! constants -/
theorem OwC.iconst {i : Int} (v : Int32) (d : decode bytes pc = .ok (.iconst i, 1)) (hv : Int32.ofInt i = v) (hq : pc + 1 = q) (g : X.G h k n q Ls (.int v :: st)) : X.G h k n pc Ls st := by
  subst hq hv; exact X.step g fun T _ Y t r => XS.iconst Y.here X.1 rfl (X.hd d) r
theorem OwC.bipush {i : Int} (v : Int32) (d : decode bytes pc = .ok (.bipush i, 2)) (hv : (Int8.ofInt i).toInt32 = v) (hq : pc + 2 = q) (g : X.G h k n q Ls (.int v :: st)) : X.G h k n pc Ls st := by
  subst hq hv; exact X.step g fun T _ Y t r => XS.bipush Y.here X.1 rfl (X.hd d) r
theorem OwC.sipush {i : Int} (v : Int32) (d : decode bytes pc = .ok (.sipush i, 3)) (hv : (Int16.ofInt i).toInt32 = v) (hq : pc + 3 = q) (g : X.G h k n q Ls (.int v :: st)) : X.G h k n pc Ls st := by
  subst hq hv; exact X.step g fun T _ Y t r => XS.sipush Y.here X.1 rfl (X.hd d) r
theorem OwC.lconst {j : Fin 2} (v : Int64) (d : decode bytes pc = .ok (.lconst j, 1)) (hv : Int64.ofNat j = v) (hq : pc + 1 = q) (g : X.G h k n q Ls (.long v :: st)) : X.G h k n pc Ls st := by
  subst hq hv; exact X.step g fun T _ Y t r => XT.lconst Y.here X.1 rfl (X.hd d) r
theorem OwC.aconstNull (d : decode bytes pc = .ok (.aconst_null, 1)) (hq : pc + 1 = q) (g : X.G h k n q Ls (.null :: st)) : X.G h k n pc Ls st := by
  subst hq; exact X.step g fun T _ Y t r => XS.aconstNull Y.here X.1 rfl (X.hd d) r
theorem OwC.ldc {i : Nat} {v : Int32} (w : (Cond.constant own i v).before a0 Z = true) (d : decode bytes pc = .ok (.ldc i, 2)) (hq : pc + 2 = q) (g : X.G h k n q Ls (.int v :: st)) : X.G h k n pc Ls st := by
  subst hq; exact X.step g fun T _ Y t r => Y.ldcI X.1 X.2.2.2.1 (mvT X.2.2.2.2.1 w) rfl (X.hd d) r
theorem OwC.ldc_w {i : Nat} {v : Int32} (w : (Cond.constant own i v).before a0 Z = true) (d : decode bytes pc = .ok (.ldc_w i, 3)) (hq : pc + 3 = q) (g : X.G h k n q Ls (.int v :: st)) : X.G h k n pc Ls st := by
  subst hq; exact X.step g fun T _ Y t r => Y.ldcWI X.1 X.2.2.2.1 (mvT X.2.2.2.2.1 w) rfl (X.hd d) r
theorem OwC.ldc2_w {i : Nat} {v : Int64} (w : (Cond.constantLong own i v).before a0 Z = true) (d : decode bytes pc = .ok (.ldc2_w i, 3)) (hq : pc + 3 = q) (g : X.G h k n q Ls (.long v :: st)) : X.G h k n pc Ls st := by
  subst hq; exact X.step g fun T _ Y t r => Y.ldc2J X.1 X.2.2.2.1 (mvT X.2.2.2.2.1 w) rfl (X.hd d) r
/-! arithmetic -/
theorem OwC.iadd {x y : Int32} (d : decode bytes pc = .ok (.iadd, 1)) (hq : pc + 1 = q) (g : X.G h k n q Ls (.int (x + y) :: st)) : X.G h k n pc Ls (.int y :: .int x :: st) := by
  subst hq; exact X.step g fun T _ Y t r => XS.iadd Y.here X.1 rfl (X.hd d) rfl r
theorem OwC.isub {x y : Int32} (d : decode bytes pc = .ok (.isub, 1)) (hq : pc + 1 = q) (g : X.G h k n q Ls (.int (x - y) :: st)) : X.G h k n pc Ls (.int y :: .int x :: st) := by
  subst hq; exact X.step g fun T _ Y t r => XS.isub Y.here X.1 rfl (X.hd d) rfl r
theorem OwC.imul {x y : Int32} (d : decode bytes pc = .ok (.imul, 1)) (hq : pc + 1 = q) (g : X.G h k n q Ls (.int (x * y) :: st)) : X.G h k n pc Ls (.int y :: .int x :: st) := by
  subst hq; exact X.step g fun T _ Y t r => XS.imul Y.here X.1 rfl (X.hd d) rfl r
theorem OwC.iand {x y : Int32} (d : decode bytes pc = .ok (.iand, 1)) (hq : pc + 1 = q) (g : X.G h k n q Ls (.int (x &&& y) :: st)) : X.G h k n pc Ls (.int y :: .int x :: st) := by
  subst hq; exact X.step g fun T _ Y t r => XS.iand Y.here X.1 rfl (X.hd d) rfl r
theorem OwC.ixor {x y : Int32} (d : decode bytes pc = .ok (.ixor, 1)) (hq : pc + 1 = q) (g : X.G h k n q Ls (.int (x ^^^ y) :: st)) : X.G h k n pc Ls (.int y :: .int x :: st) := by
  subst hq; exact X.step g fun T _ Y t r => XT.ixor Y.here X.1 rfl (X.hd d) rfl r
theorem OwC.ior {x y : Int32} (d : decode bytes pc = .ok (.ior, 1)) (hq : pc + 1 = q) (g : X.G h k n q Ls (.int (x ||| y) :: st)) : X.G h k n pc Ls (.int y :: .int x :: st) := by
  subst hq; exact X.step g fun T _ Y t r => XT.ior Y.here X.1 rfl (X.hd d) rfl r
theorem OwC.ishl {x y : Int32} (d : decode bytes pc = .ok (.ishl, 1)) (hq : pc + 1 = q) (g : X.G h k n q Ls (.int (x <<< (y &&& 31)) :: st)) : X.G h k n pc Ls (.int y :: .int x :: st) := by
  subst hq; exact X.step g fun T _ Y t r => XT.ishl Y.here X.1 rfl (X.hd d) rfl r
theorem OwC.ishr {x y : Int32} (d : decode bytes pc = .ok (.ishr, 1)) (hq : pc + 1 = q) (g : X.G h k n q Ls (.int (x >>> (y &&& 31)) :: st)) : X.G h k n pc Ls (.int y :: .int x :: st) := by
  subst hq; exact X.step g fun T _ Y t r => XT.ishr Y.here X.1 rfl (X.hd d) rfl r
theorem OwC.iushr {x y : Int32} (d : decode bytes pc = .ok (.iushr, 1)) (hq : pc + 1 = q) (g : X.G h k n q Ls (.int (XT.ushr x y) :: st)) : X.G h k n pc Ls (.int y :: .int x :: st) := by
  subst hq; exact X.step g fun T _ Y t r => XT.iushr Y.here X.1 rfl (X.hd d) rfl r
theorem OwC.ladd {x y : Int64} (d : decode bytes pc = .ok (.ladd, 1)) (hq : pc + 1 = q) (g : X.G h k n q Ls (.long (x + y) :: st)) : X.G h k n pc Ls (.long y :: .long x :: st) := by
  subst hq; exact X.step g fun T _ Y t r => XT.ladd Y.here X.1 rfl (X.hd d) rfl r
theorem OwC.lsub {x y : Int64} (d : decode bytes pc = .ok (.lsub, 1)) (hq : pc + 1 = q) (g : X.G h k n q Ls (.long (x - y) :: st)) : X.G h k n pc Ls (.long y :: .long x :: st) := by
  subst hq; exact X.step g fun T _ Y t r => XT.lsub Y.here X.1 rfl (X.hd d) rfl r
theorem OwC.lmul {x y : Int64} (d : decode bytes pc = .ok (.lmul, 1)) (hq : pc + 1 = q) (g : X.G h k n q Ls (.long (x * y) :: st)) : X.G h k n pc Ls (.long y :: .long x :: st) := by
  subst hq; exact X.step g fun T _ Y t r => XT.lmul Y.here X.1 rfl (X.hd d) rfl r
theorem OwC.land {x y : Int64} (d : decode bytes pc = .ok (.land, 1)) (hq : pc + 1 = q) (g : X.G h k n q Ls (.long (x &&& y) :: st)) : X.G h k n pc Ls (.long y :: .long x :: st) := by
  subst hq; exact X.step g fun T _ Y t r => XT.land Y.here X.1 rfl (X.hd d) rfl r
theorem OwC.lxor {x y : Int64} (d : decode bytes pc = .ok (.lxor, 1)) (hq : pc + 1 = q) (g : X.G h k n q Ls (.long (x ^^^ y) :: st)) : X.G h k n pc Ls (.long y :: .long x :: st) := by
  subst hq; exact X.step g fun T _ Y t r => XT.lxor Y.here X.1 rfl (X.hd d) rfl r
theorem OwC.lor {x y : Int64} (d : decode bytes pc = .ok (.lor, 1)) (hq : pc + 1 = q) (g : X.G h k n q Ls (.long (x ||| y) :: st)) : X.G h k n pc Ls (.long y :: .long x :: st) := by
  subst hq; exact X.step g fun T _ Y t r => XT.lor Y.here X.1 rfl (X.hd d) rfl r
theorem OwC.lshl {x : Int64} {y : Int32} (d : decode bytes pc = .ok (.lshl, 1)) (hq : pc + 1 = q) (g : X.G h k n q Ls (.long (x <<< (y.toInt64 &&& 63)) :: st)) : X.G h k n pc Ls (.int y :: .long x :: st) := by
  subst hq; exact X.step g fun T _ Y t r => XT.lshl Y.here X.1 rfl (X.hd d) rfl r
theorem OwC.lshr {x : Int64} {y : Int32} (d : decode bytes pc = .ok (.lshr, 1)) (hq : pc + 1 = q) (g : X.G h k n q Ls (.long (x >>> (y.toInt64 &&& 63)) :: st)) : X.G h k n pc Ls (.int y :: .long x :: st) := by
  subst hq; exact X.step g fun T _ Y t r => XT.lshr Y.here X.1 rfl (X.hd d) rfl r
theorem OwC.lushr {x : Int64} {y : Int32} (d : decode bytes pc = .ok (.lushr, 1)) (hq : pc + 1 = q) (g : X.G h k n q Ls (.long (XT.ushrL x y) :: st)) : X.G h k n pc Ls (.int y :: .long x :: st) := by
  subst hq; exact X.step g fun T _ Y t r => XT.lushr Y.here X.1 rfl (X.hd d) rfl r
theorem OwC.idiv {x y : Int32} (d : decode bytes pc = .ok (.idiv, 1)) (hy : y ≠ 0) (hq : pc + 1 = q) (g : X.G h k n q Ls (.int (x / y) :: st)) : X.G h k n pc Ls (.int y :: .int x :: st) := by
  subst hq; exact X.step g fun T _ Y t r => XS.idiv Y.here X.1 rfl (X.hd d) rfl hy r
theorem OwC.ldiv {x y : Int64} (d : decode bytes pc = .ok (.ldiv, 1)) (hy : y ≠ 0) (hq : pc + 1 = q) (g : X.G h k n q Ls (.long (x / y) :: st)) : X.G h k n pc Ls (.long y :: .long x :: st) := by
  subst hq; exact X.step g fun T _ Y t r => XT.ldiv Y.here X.1 rfl (X.hd d) rfl hy r
theorem OwC.irem {x y : Int32} (d : decode bytes pc = .ok (.irem, 1)) (hy : y ≠ 0) (hq : pc + 1 = q) (g : X.G h k n q Ls (.int (x % y) :: st)) : X.G h k n pc Ls (.int y :: .int x :: st) := by
  subst hq; exact X.step g fun T _ Y t r => iremM Y X.1 rfl (X.hd d) rfl hy r
theorem ow_lrem (x y : Int64) : x - (x / y) * y = x % y := by
  rw [← Int64.toInt_inj, Int64.toInt_sub, Int64.toInt_mul, Int64.toInt_mod, Int64.toInt_div]
  have h1 : (((x.toInt.tdiv y.toInt).bmod (2 ^ 64) * y.toInt).bmod (2 ^ 64)) = (x.toInt.tdiv y.toInt * y.toInt).bmod (2 ^ 64) := by simp [Int.bmod_mul_bmod]
  rw [h1, Int.sub_bmod_bmod]
  have h2 : x.toInt - x.toInt.tdiv y.toInt * y.toInt = x.toInt.tmod y.toInt := by
    have := Int.mul_tdiv_add_tmod x.toInt y.toInt
    rw [Int.mul_comm] at this; omega
  rw [h2, ← Int64.toInt_mod, Int64.toInt_bmod]
theorem OwC.lrem {x y : Int64} (d : decode bytes pc = .ok (.lrem, 1)) (hy : y ≠ 0) (hq : pc + 1 = q) (g : X.G h k n q Ls (.long (x % y) :: st)) : X.G h k n pc Ls (.long y :: .long x :: st) := by
  subst hq; exact X.step g fun T _ Y t r => XT.lrem Y.here X.1 rfl (X.hd d) rfl hy (by rw [ow_lrem]; exact r)
theorem OwC.ineg {x : Int32} (d : decode bytes pc = .ok (.ineg, 1)) (hq : pc + 1 = q) (g : X.G h k n q Ls (.int (-x) :: st)) : X.G h k n pc Ls (.int x :: st) := by
  subst hq; exact X.step g fun T _ Y t r => XS.ineg Y.here X.1 rfl (X.hd d) rfl r
theorem OwC.lneg {x : Int64} (d : decode bytes pc = .ok (.lneg, 1)) (hq : pc + 1 = q) (g : X.G h k n q Ls (.long (-x) :: st)) : X.G h k n pc Ls (.long x :: st) := by
  subst hq; exact X.step g fun T _ Y t r => XT.lneg Y.here X.1 rfl (X.hd d) rfl r
theorem OwC.i2l {x : Int32} (d : decode bytes pc = .ok (.i2l, 1)) (hq : pc + 1 = q) (g : X.G h k n q Ls (.long (x.toInt64) :: st)) : X.G h k n pc Ls (.int x :: st) := by
  subst hq; exact X.step g fun T _ Y t r => XT.i2l Y.here X.1 rfl (X.hd d) rfl r
theorem OwC.l2i {x : Int64} (d : decode bytes pc = .ok (.l2i, 1)) (hq : pc + 1 = q) (g : X.G h k n q Ls (.int (x.toInt32) :: st)) : X.G h k n pc Ls (.long x :: st) := by
  subst hq; exact X.step g fun T _ Y t r => XT.l2i Y.here X.1 rfl (X.hd d) rfl r
theorem OwC.i2b {x : Int32} (d : decode bytes pc = .ok (.i2b, 1)) (hq : pc + 1 = q) (g : X.G h k n q Ls (.int (x.toInt8.toInt32) :: st)) : X.G h k n pc Ls (.int x :: st) := by
  subst hq; exact X.step g fun T _ Y t r => XT.i2b Y.here X.1 rfl (X.hd d) rfl r
theorem OwC.i2c {x : Int32} (d : decode bytes pc = .ok (.i2c, 1)) (hq : pc + 1 = q) (g : X.G h k n q Ls (.int (x.toUInt32.toUInt16.toUInt32.toInt32) :: st)) : X.G h k n pc Ls (.int x :: st) := by
  subst hq; exact X.step g fun T _ Y t r => XT.i2c Y.here X.1 rfl (X.hd d) rfl r
theorem OwC.iinc {j : Nat} {cst : Int} {x : Int32} (v : Int32) (d : decode bytes pc = .ok (.iinc j cst, 3)) (hv : Int32.ofInt cst = v) (hl : Ls[j]? = some (.val (.int x))) (hl' : storeLocals Ls j (.int (x + v)) = some Ls') (hq : pc + 3 = q) (g : X.G h k n q Ls' st) : X.G h k n pc Ls st := by
  subst hq hv; exact X.step g fun T _ Y t r => XS.iinc Y.here X.1 rfl (X.hd d) hl hl' r
/-! the stack -/
theorem OwC.dup {x : Value} (d : decode bytes pc = .ok (.dup, 1)) (hc : x.category = 1) (hq : pc + 1 = q) (g : X.G h k n q Ls (x :: x :: st)) : X.G h k n pc Ls (x :: st) := by
  subst hq; exact X.step g fun T _ Y t r => XS.dup Y.here X.1 rfl (X.hd d) rfl hc r
theorem OwC.pop {x : Value} (d : decode bytes pc = .ok (.pop, 1)) (hc : x.category = 1) (hq : pc + 1 = q) (g : X.G h k n q Ls st) : X.G h k n pc Ls (x :: st) := by
  subst hq; exact X.step g fun T _ Y t r => XT.pop Y.here X.1 rfl (X.hd d) rfl hc r
theorem OwC.dup_x1 {x y : Value} (d : decode bytes pc = .ok (.dup_x1, 1)) (hc : x.category = 1) (hc' : y.category = 1) (hq : pc + 1 = q) (g : X.G h k n q Ls (x :: y :: x :: st)) : X.G h k n pc Ls (x :: y :: st) := by
  subst hq; exact X.step g fun T _ Y t r => XT.dupX1 Y.here X.1 rfl (X.hd d) rfl hc hc' r
theorem OwC.dup2 {x y : Value} (d : decode bytes pc = .ok (.dup2, 1)) (hc : x.category = 1) (hc' : y.category = 1) (hq : pc + 1 = q) (g : X.G h k n q Ls (x :: y :: x :: y :: st)) : X.G h k n pc Ls (x :: y :: st) := by
  subst hq; exact X.step g fun T _ Y t r => XT.dup2 Y.here X.1 rfl (X.hd d) rfl hc hc' r
theorem OwC.dup2L {x : Int64} (d : decode bytes pc = .ok (.dup2, 1)) (hq : pc + 1 = q) (g : X.G h k n q Ls (.long x :: .long x :: st)) : X.G h k n pc Ls (.long x :: st) := by
  subst hq; exact X.step g fun T _ Y t r => XT.dup2L Y.here X.1 rfl (X.hd d) rfl r
/-! branches -/
theorem OwC.goto {o : Int} {q' : Nat} (d : decode bytes pc = .ok (.goto o, 3)) (hp : 0 ≤ (pc : Int) + o ∧ ((pc : Int) + o).toNat = q') (g : X.G h k n q' Ls st) : X.G h k n pc Ls st :=
  X.step g fun T _ Y t r => XS.goto Y.here X.1 rfl rfl (X.hd d) hp.1 hp.2 r
theorem OwC.icmpB {cd : ClassFile.Cond} {o : Int} {q' : Nat} {x y : Int32} (d : decode bytes pc = .ok (.if_icmp cd o, 3)) (hp : 0 ≤ (pc : Int) + o ∧ ((pc : Int) + o).toNat = q') (hq : pc + 3 = q) (g1 : if_icmp.holds cd x y = true → X.G h k n q' Ls st) (g0 : if_icmp.holds cd x y = false → X.G h k n q Ls st) : X.G h k n pc Ls (.int y :: .int x :: st) := by
  subst hq
  cases hc : if_icmp.holds cd x y with
  | true => exact X.step (g1 hc) fun T _ Y t r => XS.icmpYes Y.here X.1 rfl rfl (X.hd d) rfl hc hp.1 hp.2 r
  | false => exact X.step (g0 hc) fun T _ Y t r => XS.icmpNo Y.here X.1 rfl (X.hd d) rfl hc r
theorem OwC.ifB {cd : ClassFile.Cond} {o : Int} {q' : Nat} {x : Int32} (d : decode bytes pc = .ok (.ifCond cd o, 3)) (hp : 0 ≤ (pc : Int) + o ∧ ((pc : Int) + o).toNat = q') (hq : pc + 3 = q) (g1 : ifCond.holds cd x = true → X.G h k n q' Ls st) (g0 : ifCond.holds cd x = false → X.G h k n q Ls st) : X.G h k n pc Ls (.int x :: st) := by
  subst hq
  cases hc : ifCond.holds cd x with
  | true => exact X.step (g1 hc) fun T _ Y t r => XS.ifYes Y.here X.1 rfl rfl (X.hd d) rfl hc hp.1 hp.2 r
  | false => exact X.step (g0 hc) fun T _ Y t r => XS.ifNo Y.here X.1 rfl (X.hd d) rfl hc r
def owCd : ClassFile.Cond → Int → Int → Prop
  | .eq, a, b => a = b | .ne, a, b => ¬ a = b | .lt, a, b => a < b | .ge, a, b => b ≤ a | .gt, a, b => b < a | .le, a, b => a ≤ b
theorem ow_icmp (cd : ClassFile.Cond) (x y : Int32) : if_icmp.holds cd x y = true ↔ owCd cd x.toInt y.toInt := by
  cases cd <;> simp [if_icmp.holds, owCd, ← Int32.toInt_inj, Int32.lt_iff_toInt_lt, Int32.le_iff_toInt_le]
theorem ow_if (cd : ClassFile.Cond) (x : Int32) : ifCond.holds cd x = true ↔ owCd cd x.toInt 0 := by rw [if0, ow_icmp]; rfl
theorem ow_icmpF {cd : ClassFile.Cond} {x y : Int32} (hc : if_icmp.holds cd x y = false) : ¬ owCd cd x.toInt y.toInt := fun q => by rw [(ow_icmp cd x y).mpr q] at hc; cases hc
theorem ow_ifF {cd : ClassFile.Cond} {x : Int32} (hc : ifCond.holds cd x = false) : ¬ owCd cd x.toInt 0 := fun q => by rw [(ow_if cd x).mpr q] at hc; cases hc
theorem ow_lc (cd : ClassFile.Cond) (x y : Int64) : owCd cd (XT.cmpL x y).toInt 0 ↔ owCd cd x.toInt y.toInt := by
  have e1 : (1 : Int32).toInt = 1 := rfl
  have e0 : (0 : Int32).toInt = 0 := rfl
  have em : (-1 : Int32).toInt = -1 := rfl
  unfold XT.cmpL
  split
  · rename_i h1; rw [Int64.lt_iff_toInt_lt] at h1; cases cd <;> simp only [owCd, e1] <;> omega
  · rename_i h1; rw [Int64.lt_iff_toInt_lt] at h1
    split
    · rename_i h2; subst h2; cases cd <;> simp only [owCd, e0] <;> omega
    · rename_i h2; rw [← Int64.toInt_inj] at h2; cases cd <;> simp only [owCd, em] <;> omega
theorem OwC.icmp_eq {o : Int} {q' : Nat} {x y : Int32} {a b : Int} (d : decode bytes pc = .ok (.if_icmp .eq o, 3)) (hx : x.toInt = a) (hy : y.toInt = b) (hp : 0 ≤ (pc : Int) + o ∧ ((pc : Int) + o).toNat = q') (hq : pc + 3 = q) (g1 : a = b → X.G h k n q' Ls st) (g0 : ¬ a = b → X.G h k n q Ls st) : X.G h k n pc Ls (.int y :: .int x :: st) := by
  subst hx hy; exact X.icmpB d hp hq (fun hc => g1 ((ow_icmp _ _ _).mp hc)) (fun hc => g0 (by have := ow_icmpF hc; simp only [owCd] at this; omega))
theorem OwC.if_eq {o : Int} {q' : Nat} {x : Int32} {a : Int} (d : decode bytes pc = .ok (.ifCond .eq o, 3)) (hx : x.toInt = a) (hp : 0 ≤ (pc : Int) + o ∧ ((pc : Int) + o).toNat = q') (hq : pc + 3 = q) (g1 : a = 0 → X.G h k n q' Ls st) (g0 : ¬ a = 0 → X.G h k n q Ls st) : X.G h k n pc Ls (.int x :: st) := by
  subst hx; exact X.ifB d hp hq (fun hc => g1 ((ow_if _ _).mp hc)) (fun hc => g0 (by have := ow_ifF hc; simp only [owCd] at this; omega))
theorem OwC.lcmp_eq {o : Int} {q1 q' : Nat} {x y : Int64} {a b : Int} (d1 : decode bytes pc = .ok (.lcmp, 1)) (hq1 : pc + 1 = q1) (d : decode bytes q1 = .ok (.ifCond .eq o, 3)) (hx : x.toInt = a) (hy : y.toInt = b) (hp : 0 ≤ (q1 : Int) + o ∧ ((q1 : Int) + o).toNat = q') (hq : q1 + 3 = q) (g1 : a = b → X.G h k n q' Ls st) (g0 : ¬ a = b → X.G h k n q Ls st) : X.G h k n pc Ls (.long y :: .long x :: st) := by
  subst hx hy hq1; refine X.step (X.ifB d hp hq (fun hc => g1 ((ow_lc _ _ _).mp ((ow_if _ _).mp hc))) (fun hc => g0 (by have := mt (ow_lc _ _ _).mpr (ow_ifF hc); simp only [owCd] at this; omega))) fun T _ Y t r => XT.lcmp Y.here X.1 rfl (X.hd d1) rfl r
theorem OwC.icmp_ne {o : Int} {q' : Nat} {x y : Int32} {a b : Int} (d : decode bytes pc = .ok (.if_icmp .ne o, 3)) (hx : x.toInt = a) (hy : y.toInt = b) (hp : 0 ≤ (pc : Int) + o ∧ ((pc : Int) + o).toNat = q') (hq : pc + 3 = q) (g1 : ¬ a = b → X.G h k n q' Ls st) (g0 : a = b → X.G h k n q Ls st) : X.G h k n pc Ls (.int y :: .int x :: st) := by
  subst hx hy; exact X.icmpB d hp hq (fun hc => g1 ((ow_icmp _ _ _).mp hc)) (fun hc => g0 (by have := ow_icmpF hc; simp only [owCd] at this; omega))
theorem OwC.if_ne {o : Int} {q' : Nat} {x : Int32} {a : Int} (d : decode bytes pc = .ok (.ifCond .ne o, 3)) (hx : x.toInt = a) (hp : 0 ≤ (pc : Int) + o ∧ ((pc : Int) + o).toNat = q') (hq : pc + 3 = q) (g1 : ¬ a = 0 → X.G h k n q' Ls st) (g0 : a = 0 → X.G h k n q Ls st) : X.G h k n pc Ls (.int x :: st) := by
  subst hx; exact X.ifB d hp hq (fun hc => g1 ((ow_if _ _).mp hc)) (fun hc => g0 (by have := ow_ifF hc; simp only [owCd] at this; omega))
theorem OwC.lcmp_ne {o : Int} {q1 q' : Nat} {x y : Int64} {a b : Int} (d1 : decode bytes pc = .ok (.lcmp, 1)) (hq1 : pc + 1 = q1) (d : decode bytes q1 = .ok (.ifCond .ne o, 3)) (hx : x.toInt = a) (hy : y.toInt = b) (hp : 0 ≤ (q1 : Int) + o ∧ ((q1 : Int) + o).toNat = q') (hq : q1 + 3 = q) (g1 : ¬ a = b → X.G h k n q' Ls st) (g0 : a = b → X.G h k n q Ls st) : X.G h k n pc Ls (.long y :: .long x :: st) := by
  subst hx hy hq1; refine X.step (X.ifB d hp hq (fun hc => g1 ((ow_lc _ _ _).mp ((ow_if _ _).mp hc))) (fun hc => g0 (by have := mt (ow_lc _ _ _).mpr (ow_ifF hc); simp only [owCd] at this; omega))) fun T _ Y t r => XT.lcmp Y.here X.1 rfl (X.hd d1) rfl r
theorem OwC.icmp_lt {o : Int} {q' : Nat} {x y : Int32} {a b : Int} (d : decode bytes pc = .ok (.if_icmp .lt o, 3)) (hx : x.toInt = a) (hy : y.toInt = b) (hp : 0 ≤ (pc : Int) + o ∧ ((pc : Int) + o).toNat = q') (hq : pc + 3 = q) (g1 : a < b → X.G h k n q' Ls st) (g0 : b ≤ a → X.G h k n q Ls st) : X.G h k n pc Ls (.int y :: .int x :: st) := by
  subst hx hy; exact X.icmpB d hp hq (fun hc => g1 ((ow_icmp _ _ _).mp hc)) (fun hc => g0 (by have := ow_icmpF hc; simp only [owCd] at this; omega))
theorem OwC.if_lt {o : Int} {q' : Nat} {x : Int32} {a : Int} (d : decode bytes pc = .ok (.ifCond .lt o, 3)) (hx : x.toInt = a) (hp : 0 ≤ (pc : Int) + o ∧ ((pc : Int) + o).toNat = q') (hq : pc + 3 = q) (g1 : a < 0 → X.G h k n q' Ls st) (g0 : 0 ≤ a → X.G h k n q Ls st) : X.G h k n pc Ls (.int x :: st) := by
  subst hx; exact X.ifB d hp hq (fun hc => g1 ((ow_if _ _).mp hc)) (fun hc => g0 (by have := ow_ifF hc; simp only [owCd] at this; omega))
theorem OwC.lcmp_lt {o : Int} {q1 q' : Nat} {x y : Int64} {a b : Int} (d1 : decode bytes pc = .ok (.lcmp, 1)) (hq1 : pc + 1 = q1) (d : decode bytes q1 = .ok (.ifCond .lt o, 3)) (hx : x.toInt = a) (hy : y.toInt = b) (hp : 0 ≤ (q1 : Int) + o ∧ ((q1 : Int) + o).toNat = q') (hq : q1 + 3 = q) (g1 : a < b → X.G h k n q' Ls st) (g0 : b ≤ a → X.G h k n q Ls st) : X.G h k n pc Ls (.long y :: .long x :: st) := by
  subst hx hy hq1; refine X.step (X.ifB d hp hq (fun hc => g1 ((ow_lc _ _ _).mp ((ow_if _ _).mp hc))) (fun hc => g0 (by have := mt (ow_lc _ _ _).mpr (ow_ifF hc); simp only [owCd] at this; omega))) fun T _ Y t r => XT.lcmp Y.here X.1 rfl (X.hd d1) rfl r
theorem OwC.icmp_ge {o : Int} {q' : Nat} {x y : Int32} {a b : Int} (d : decode bytes pc = .ok (.if_icmp .ge o, 3)) (hx : x.toInt = a) (hy : y.toInt = b) (hp : 0 ≤ (pc : Int) + o ∧ ((pc : Int) + o).toNat = q') (hq : pc + 3 = q) (g1 : b ≤ a → X.G h k n q' Ls st) (g0 : a < b → X.G h k n q Ls st) : X.G h k n pc Ls (.int y :: .int x :: st) := by
  subst hx hy; exact X.icmpB d hp hq (fun hc => g1 ((ow_icmp _ _ _).mp hc)) (fun hc => g0 (by have := ow_icmpF hc; simp only [owCd] at this; omega))
theorem OwC.if_ge {o : Int} {q' : Nat} {x : Int32} {a : Int} (d : decode bytes pc = .ok (.ifCond .ge o, 3)) (hx : x.toInt = a) (hp : 0 ≤ (pc : Int) + o ∧ ((pc : Int) + o).toNat = q') (hq : pc + 3 = q) (g1 : 0 ≤ a → X.G h k n q' Ls st) (g0 : a < 0 → X.G h k n q Ls st) : X.G h k n pc Ls (.int x :: st) := by
  subst hx; exact X.ifB d hp hq (fun hc => g1 ((ow_if _ _).mp hc)) (fun hc => g0 (by have := ow_ifF hc; simp only [owCd] at this; omega))
theorem OwC.lcmp_ge {o : Int} {q1 q' : Nat} {x y : Int64} {a b : Int} (d1 : decode bytes pc = .ok (.lcmp, 1)) (hq1 : pc + 1 = q1) (d : decode bytes q1 = .ok (.ifCond .ge o, 3)) (hx : x.toInt = a) (hy : y.toInt = b) (hp : 0 ≤ (q1 : Int) + o ∧ ((q1 : Int) + o).toNat = q') (hq : q1 + 3 = q) (g1 : b ≤ a → X.G h k n q' Ls st) (g0 : a < b → X.G h k n q Ls st) : X.G h k n pc Ls (.long y :: .long x :: st) := by
  subst hx hy hq1; refine X.step (X.ifB d hp hq (fun hc => g1 ((ow_lc _ _ _).mp ((ow_if _ _).mp hc))) (fun hc => g0 (by have := mt (ow_lc _ _ _).mpr (ow_ifF hc); simp only [owCd] at this; omega))) fun T _ Y t r => XT.lcmp Y.here X.1 rfl (X.hd d1) rfl r
theorem OwC.icmp_gt {o : Int} {q' : Nat} {x y : Int32} {a b : Int} (d : decode bytes pc = .ok (.if_icmp .gt o, 3)) (hx : x.toInt = a) (hy : y.toInt = b) (hp : 0 ≤ (pc : Int) + o ∧ ((pc : Int) + o).toNat = q') (hq : pc + 3 = q) (g1 : b < a → X.G h k n q' Ls st) (g0 : a ≤ b → X.G h k n q Ls st) : X.G h k n pc Ls (.int y :: .int x :: st) := by
  subst hx hy; exact X.icmpB d hp hq (fun hc => g1 ((ow_icmp _ _ _).mp hc)) (fun hc => g0 (by have := ow_icmpF hc; simp only [owCd] at this; omega))
theorem OwC.if_gt {o : Int} {q' : Nat} {x : Int32} {a : Int} (d : decode bytes pc = .ok (.ifCond .gt o, 3)) (hx : x.toInt = a) (hp : 0 ≤ (pc : Int) + o ∧ ((pc : Int) + o).toNat = q') (hq : pc + 3 = q) (g1 : 0 < a → X.G h k n q' Ls st) (g0 : a ≤ 0 → X.G h k n q Ls st) : X.G h k n pc Ls (.int x :: st) := by
  subst hx; exact X.ifB d hp hq (fun hc => g1 ((ow_if _ _).mp hc)) (fun hc => g0 (by have := ow_ifF hc; simp only [owCd] at this; omega))
theorem OwC.lcmp_gt {o : Int} {q1 q' : Nat} {x y : Int64} {a b : Int} (d1 : decode bytes pc = .ok (.lcmp, 1)) (hq1 : pc + 1 = q1) (d : decode bytes q1 = .ok (.ifCond .gt o, 3)) (hx : x.toInt = a) (hy : y.toInt = b) (hp : 0 ≤ (q1 : Int) + o ∧ ((q1 : Int) + o).toNat = q') (hq : q1 + 3 = q) (g1 : b < a → X.G h k n q' Ls st) (g0 : a ≤ b → X.G h k n q Ls st) : X.G h k n pc Ls (.long y :: .long x :: st) := by
  subst hx hy hq1; refine X.step (X.ifB d hp hq (fun hc => g1 ((ow_lc _ _ _).mp ((ow_if _ _).mp hc))) (fun hc => g0 (by have := mt (ow_lc _ _ _).mpr (ow_ifF hc); simp only [owCd] at this; omega))) fun T _ Y t r => XT.lcmp Y.here X.1 rfl (X.hd d1) rfl r
theorem OwC.icmp_le {o : Int} {q' : Nat} {x y : Int32} {a b : Int} (d : decode bytes pc = .ok (.if_icmp .le o, 3)) (hx : x.toInt = a) (hy : y.toInt = b) (hp : 0 ≤ (pc : Int) + o ∧ ((pc : Int) + o).toNat = q') (hq : pc + 3 = q) (g1 : a ≤ b → X.G h k n q' Ls st) (g0 : b < a → X.G h k n q Ls st) : X.G h k n pc Ls (.int y :: .int x :: st) := by
  subst hx hy; exact X.icmpB d hp hq (fun hc => g1 ((ow_icmp _ _ _).mp hc)) (fun hc => g0 (by have := ow_icmpF hc; simp only [owCd] at this; omega))
theorem OwC.if_le {o : Int} {q' : Nat} {x : Int32} {a : Int} (d : decode bytes pc = .ok (.ifCond .le o, 3)) (hx : x.toInt = a) (hp : 0 ≤ (pc : Int) + o ∧ ((pc : Int) + o).toNat = q') (hq : pc + 3 = q) (g1 : a ≤ 0 → X.G h k n q' Ls st) (g0 : 0 < a → X.G h k n q Ls st) : X.G h k n pc Ls (.int x :: st) := by
  subst hx; exact X.ifB d hp hq (fun hc => g1 ((ow_if _ _).mp hc)) (fun hc => g0 (by have := ow_ifF hc; simp only [owCd] at this; omega))
theorem OwC.lcmp_le {o : Int} {q1 q' : Nat} {x y : Int64} {a b : Int} (d1 : decode bytes pc = .ok (.lcmp, 1)) (hq1 : pc + 1 = q1) (d : decode bytes q1 = .ok (.ifCond .le o, 3)) (hx : x.toInt = a) (hy : y.toInt = b) (hp : 0 ≤ (q1 : Int) + o ∧ ((q1 : Int) + o).toNat = q') (hq : q1 + 3 = q) (g1 : a ≤ b → X.G h k n q' Ls st) (g0 : b < a → X.G h k n q Ls st) : X.G h k n pc Ls (.long y :: .long x :: st) := by
  subst hx hy hq1; refine X.step (X.ifB d hp hq (fun hc => g1 ((ow_lc _ _ _).mp ((ow_if _ _).mp hc))) (fun hc => g0 (by have := mt (ow_lc _ _ _).mpr (ow_ifF hc); simp only [owCd] at this; omega))) fun T _ Y t r => XT.lcmp Y.here X.1 rfl (X.hd d1) rfl r
theorem OwC.ifnullT {o : Int} {q' : Nat} (d : decode bytes pc = .ok (.ifnull o, 3)) (hp : 0 ≤ (pc : Int) + o ∧ ((pc : Int) + o).toNat = q') (g : X.G h k n q' Ls st) : X.G h k n pc Ls (.null :: st) :=
  X.step g fun T _ Y t r => XS.ifnullYes Y.here X.1 rfl rfl (X.hd d) rfl hp.1 hp.2 r
theorem OwC.ifnullF {o : Int} {b : Addr} (d : decode bytes pc = .ok (.ifnull o, 3)) (hq : pc + 3 = q) (g : X.G h k n q Ls st) : X.G h k n pc Ls (.ref b :: st) := by
  subst hq; exact X.step g fun T _ Y t r => XS.ifnullNo Y.here X.1 rfl (X.hd d) rfl r
theorem OwC.ifnonnullT {o : Int} {q' : Nat} {b : Addr} (d : decode bytes pc = .ok (.ifnonnull o, 3)) (hp : 0 ≤ (pc : Int) + o ∧ ((pc : Int) + o).toNat = q') (g : X.G h k n q' Ls st) : X.G h k n pc Ls (.ref b :: st) :=
  X.step g fun T _ Y t r => XT.ifnonnullYes Y.here X.1 rfl rfl (X.hd d) rfl hp.1 hp.2 r
theorem OwC.ifnonnullF {o : Int} (d : decode bytes pc = .ok (.ifnonnull o, 3)) (hq : pc + 3 = q) (g : X.G h k n q Ls st) : X.G h k n pc Ls (.null :: st) := by
  subst hq; exact X.step g fun T _ Y t r => XT.ifnonnullNo Y.here X.1 rfl (X.hd d) rfl r
theorem OwC.acmp_ne {o : Int} {q' : Nat} {x y : Addr} (d : decode bytes pc = .ok (.if_acmp .ne o, 3)) (hp : 0 ≤ (pc : Int) + o ∧ ((pc : Int) + o).toNat = q') (hq : pc + 3 = q) (g1 : ¬ x = y → X.G h k n q' Ls st) (g0 : x = y → X.G h k n q Ls st) : X.G h k n pc Ls (.ref y :: .ref x :: st) := by
  subst hq
  by_cases hc : x = y
  · exact X.step (g0 hc) fun T _ Y t r => XT.acmpNo Y.here X.1 rfl (X.hd d) rfl rfl rfl (by simp [XT.acmp, hc]) r
  · exact X.step (g1 hc) fun T _ Y t r => XT.acmpYes Y.here X.1 rfl rfl (X.hd d) rfl rfl rfl (by simp [XT.acmp, hc]) hp.1 hp.2 r
theorem OwC.acmp_eq {o : Int} {q' : Nat} {x y : Addr} (d : decode bytes pc = .ok (.if_acmp .eq o, 3)) (hp : 0 ≤ (pc : Int) + o ∧ ((pc : Int) + o).toNat = q') (hq : pc + 3 = q) (g1 : x = y → X.G h k n q' Ls st) (g0 : ¬ x = y → X.G h k n q Ls st) : X.G h k n pc Ls (.ref y :: .ref x :: st) := by
  subst hq
  by_cases hc : x = y
  · exact X.step (g1 hc) fun T _ Y t r => XT.acmpYes Y.here X.1 rfl rfl (X.hd d) rfl rfl rfl (by simp [XT.acmp, hc]) hp.1 hp.2 r
  · exact X.step (g0 hc) fun T _ Y t r => XT.acmpNo Y.here X.1 rfl (X.hd d) rfl rfl rfl (by simp [XT.acmp, hc]) r
/-! returns -/
theorem OwC.fin {v : Option Value} (hv : meth.sig.returnType = none → v = none) (w : ∀ T locs, Stand p l e R s m args below meth c T locs k n → ∀ fs, (∀ (f : JFrame) (acts : List Action), f.method = m → f.locked = none → f.entered = [] → (doReturn e (T.setTop f) acts v).1 = T.setFrames fs) → Steps p.tables e below (T.setTop (mkF m pc Ls st)) (T.setFrames fs)) (hk : k ≤ kM) (hn : n ≤ nM) (hΦ : Φ v h) : X.G h k n pc Ls st := fun T locs Y eT N => by
  obtain ⟨fs, hr, hrun, hended, hW, hsame⟩ := Y.leave (v := v) hv X.2.2.2.2.2.2.1
  exact ⟨v, _, locs, w T locs Y fs hr, hrun, hended, ⟨by show Φ v T.heap; rw [eT]; exact hΦ, N⟩, ⟨_, rfl⟩, hW, hsame.mono hk hn⟩
theorem OwC.retV (d : decode bytes pc = .ok (.return_, 1)) (hret : ret = none) (hk : k ≤ kM) (hn : n ≤ nM) (hΦ : Φ none h) : X.G h k n pc Ls [] :=
  X.fin (fun _ => rfl) (fun T _ Y fs hr => Y.returnOut X.1 (X.2.2.2.2.2.1.trans hret) (X.hd d) hr) hk hn hΦ
theorem OwC.retI {z : Int32} (d : decode bytes pc = .ok (.ireturn, 1)) (hret : ret = some .int) (hk : k ≤ kM) (hn : n ≤ nM) (hΦ : Φ (some (.int z)) h) : X.G h k n pc Ls (.int z :: st) :=
  X.fin (fun q => by rw [X.2.2.2.2.2.1, hret] at q; cases q) (fun T _ Y fs hr => retOut Y X.1 (X.2.2.2.2.2.1.trans hret) rfl (Or.inl ⟨rfl, Or.inl rfl, z, rfl⟩) (X.hd d) hr) hk hn hΦ
theorem OwC.retN {z z' : Int32} {t : FieldType} (d : decode bytes pc = .ok (.ireturn, 1)) (hret : ret = some t) (ht : t = .boolean ∨ t = .byte ∨ t = .char ∨ t = .short) (hz : nar t z = z') (hk : k ≤ kM) (hn : n ≤ nM) (hΦ : Φ (some (.int z')) h) : X.G h k n pc Ls (.int z :: st) := by
  subst hz
  exact X.fin (fun q => by rw [X.2.2.2.2.2.1, hret] at q; cases q) (fun T _ Y fs hr => RoadKit.retN Y X.1 (X.2.2.2.2.2.1.trans hret) ht (X.hd d) hr) hk hn hΦ
theorem OwC.retJ {z : Int64} (d : decode bytes pc = .ok (.lreturn, 1)) (hret : ret = some .long) (hk : k ≤ kM) (hn : n ≤ nM) (hΦ : Φ (some (.long z)) h) : X.G h k n pc Ls (.long z :: st) :=
  X.fin (fun q => by rw [X.2.2.2.2.2.1, hret] at q; cases q) (fun T _ Y fs hr => retOut Y X.1 (X.2.2.2.2.2.1.trans hret) rfl (Or.inr (Or.inl ⟨rfl, rfl, z, rfl⟩)) (X.hd d) hr) hk hn hΦ
theorem OwC.retA {v : Value} {t : FieldType} (d : decode bytes pc = .ok (.areturn, 1)) (hret : ret = some t) (ht : t.isReference = true) (hv : v.isRef = true) (hnv : narrow t v = v) (hk : k ≤ kM) (hn : n ≤ nM) (hΦ : Φ (some v) h) : X.G h k n pc Ls (v :: st) :=
  X.fin (fun q => by rw [X.2.2.2.2.2.1, hret] at q; cases q) (fun T _ Y fs hr => retOut Y X.1 (X.2.2.2.2.2.1.trans hret) hnv (Or.inr (Or.inr (Or.inr (Or.inr ⟨rfl, ht, hv⟩)))) (X.hd d) hr) hk hn hΦ
/-! the heap -/
theorem OwC.getF {R0 O fn d0 host : String} {i : Nat} {a : Addr} {v : Value} (w : (Cond.fieldLink own i R0 fn d0).before a0 Z = true ∨ (Cond.fieldLinkNest own i R0 fn d0 host).before a0 Z = true) (via : Via Z R0 O fn d0) (F : Fld Z h a O fn d0 v) (d : decode bytes pc = .ok (.getfield i, 3)) (hq : pc + 3 = q) (g : X.G h k n q Ls (v :: st)) : X.G h k n pc Ls (.ref a :: st) := fun T locs Y eT N => by
  subst hq
  obtain ⟨T', Y', eT', w'⟩ := RoadKit.getF Y X.1 X.2.2.2.2.1 X.2.2.2.1 w via eT F (g := mkF m pc Ls (.ref a :: st)) rfl rfl (X.hd d)
  obtain ⟨v, s₂, L, r1, r⟩ := g T' locs Y' eT' N
  exact ⟨v, s₂, L, w' _ r1, r⟩
theorem OwC.getS {R0 O fn d0 : String} {i : Nat} {v : Value} (w : (Cond.fieldLink own i R0 fn d0).before a0 Z = true) (via : Via Z R0 O fn d0) (F : Sta Z h O fn d0 v) (d : decode bytes pc = .ok (.getstatic i, 3)) (hq : pc + 3 = q) (g : X.G h k n q Ls (v :: st)) : X.G h k n pc Ls st := fun T locs Y eT N => by
  subst hq
  obtain ⟨T', Y', eT', w'⟩ := RoadKit.getS (host := "") Y X.1 X.2.2.2.2.1 X.2.2.2.1 w via eT F (g := mkF m pc Ls st) rfl (X.hd d)
  obtain ⟨v, s₂, L, r1, r⟩ := g T' locs Y' eT' N
  exact ⟨v, s₂, L, w' _ r1, r⟩
theorem OwC.putF {R0 O fn d0 host C : String} {i kk : Nat} {a : Addr} {v old : Value} {ty : FieldType} (w : (Cond.fieldLink own i R0 fn d0).before a0 Z = true ∨ (Cond.fieldLinkNest own i R0 fn d0 host).before a0 Z = true) (via : Via Z R0 O fn d0) (F : Fld Z h a O fn d0 old) (E : Exa Z h a C)
    (L : (Cond.lays C O fn d0).before a0 Z = true ∨ ((Cond.laysFinal C O fn d0).before a0 Z = true ∧ own = O ∧ nm = "<init>")) (wi : (Cond.instantiable C kk).before a0 Z = true) (hty : parseFieldDescriptor d0 = some ty) (hnv : narrow ty v = v) (hf : fits ty v = true) (ge : n0 ≤ a)
    (d : decode bytes pc = .ok (.putfield i, 3)) (hq : pc + 3 = q) (g : ∀ h', Wr h h' a (RoadKit.slotOf Z O fn d0) v → X.G h' k n q Ls st) : X.G h k n pc Ls (v :: .ref a :: st) := fun T locs Y eT N => by
  subst hq
  obtain ⟨T', h', Y', eT', W, w'⟩ := RoadKit.putF Y X.1 X.2.2.2.2.1 X.2.2.2.1 w via eT F E (L.imp_right fun z => ⟨z.1, z.2.1, X.2.2.2.2.2.2.2.trans z.2.2⟩) wi hty hnv hf (g := mkF m pc Ls (v :: .ref a :: st)) rfl rfl (X.hd d)
  obtain ⟨v, s₂, L, r1, r⟩ := g h' W T' _ Y' eT' (Fr.snoc Y' N ge)
  exact ⟨v, s₂, L, w' _ r1, r⟩
theorem OwC.newO {C : String} {i N k' n' : Nat} (w : (Cond.classLink own i C).before a0 Z = true) (wi : (Cond.instantiable C N).before a0 Z = true) (wz : (Cond.initialized C).before a0 Z = true) (d : decode bytes pc = .ok (.new i, 3)) (hk : k + 1 = k') (hn : n + N = n') (hc : k' ≤ R.cells) (hs : n' ≤ R.slots) (hq : pc + 3 = q)
    (g : ∀ h' a, a = h.size → Ext h h' → Exa Z h' a C → (∀ {O fn d0 : String} {ty : FieldType}, Laid Z a0 C O fn d0 → parseFieldDescriptor d0 = some ty → Fld Z h' a O fn d0 (defaultValue ty)) → X.G h' k' n' q Ls (.ref a :: st)) : X.G h k n pc Ls st := fun T locs Y eT Nf => by
  subst hq hk hn
  obtain ⟨T', h', Y', eT', E, A, D, -, w'⟩ := RoadKit.newO Y X.1 X.2.2.2.2.1 X.2.2.2.1 w wi wz eT (g := mkF m pc Ls st) rfl (X.hd d) hc hs
  obtain ⟨v, s₂, L, r1, r⟩ := g h' h.size rfl E A D T' _ Y' eT' Nf
  exact ⟨v, s₂, L, w' _ r1, r⟩
theorem OwC.initO {i W : Nat} {a : Addr} (w1 : (Cond.methodLink own i Lib.objectInit).before a0 Z = true) (w2 : (Cond.instanceMethod Lib.objectInit).before a0 Z = true) (w3 : (Cond.code Lib.objectInit ⟨#[0xb1]⟩ 1 none).before a0 Z = true) (d : decode bytes pc = .ok (.invokespecial i, 3)) (hsz : Ls.size = mL) (hf : 1 ≤ R.frames) (hW : (st.map fun v => v.category).sum ≤ W) (hl : W + 12 ≤ R.locals) (hq : pc + 3 = q)
    (g : X.G h k n q Ls st) : X.G h k n pc Ls (.ref a :: st) := fun T locs Y eT N => by
  subst hq
  obtain ⟨T', Y', eT', w'⟩ := RoadKit.initO Y X.1 X.2.2.2.2.1 X.2.2.2.1 w1 w2 w3 eT (g := mkF m pc Ls (.ref a :: st)) rfl (hsz.trans X.2.2.1.symm) rfl (X.hd d) hf (W := W) (by show 2 * 0 + _ ≤ _; omega) hl
  obtain ⟨v, s₂, L, r1, r⟩ := g T' locs Y' eT' N
  exact ⟨v, s₂, L, w' _ r1, r⟩
/-! arrays: what stands in one, as a list -/
def OwA (Z : State) (h : Heap) (a : Addr) (ty : FieldType) (vs : List Value) : Prop := ∃ cl : Cell, Arr Z h a cl ty ∧ cl.slots.toList = vs ∧ vs.length < 2 ^ 31
variable {a : Addr} {ty : FieldType} {vs : List Value}
theorem OwA.lt (A : OwA Z h a ty vs) : a < h.size := by obtain ⟨cl, A, -⟩ := A; exact A.lt
theorem OwA.len (A : OwA Z h a ty vs) : vs.length < 2 ^ 31 := by obtain ⟨cl, A, -, r⟩ := A; exact r
theorem OwA.ext {h' : Heap} (A : OwA Z h a ty vs) (E : Ext h h') : OwA Z h' a ty vs := by obtain ⟨cl, A, r⟩ := A; exact ⟨cl, A.ext E, r⟩
theorem OwA.other {h' : Heap} {b : Addr} {sl : Nat} {v : Value} (A : OwA Z h a ty vs) (W : Wr h h' b sl v) (ne : a ≠ b) : OwA Z h' a ty vs := by obtain ⟨cl, A, r⟩ := A; exact ⟨cl, A.other W ne, r⟩
theorem OwA.keep {h' : Heap} {ws : List Addr} (A : OwA Z h a ty vs) (K : Keep h h' ws) (ni : a ∉ ws) : OwA Z h' a ty vs := by obtain ⟨cl, A, r⟩ := A; exact ⟨cl, ⟨K.2.1 a cl A.1 ni, A.2⟩, r⟩
theorem OwA.set {h' : Heap} {j : Nat} {v : Value} (A : OwA Z h a ty vs) (W : Wr h h' a j v) : OwA Z h' a ty (vs.set j v) := by
  obtain ⟨cl, A, r1, r2⟩ := A
  exact ⟨cl.setSlot j v, A.same W, by simp [Cell.setSlot, r1], by simpa using r2⟩
theorem ow_idx {i : Int32} {j : Nat} (hi : i.toInt = (j : Int)) : ¬ i < 0 ∧ i.toNatClampNeg = j := by
  refine ⟨?_, ?_⟩
  · rw [Int32.lt_iff_toInt_lt]; have : (0 : Int32).toInt = 0 := rfl; omega
  · have : i.toNatClampNeg = i.toInt.toNat := rfl
    omega
theorem OwA.inb {cl : Cell} {i : Int32} {j : Nat} (e : cl.slots.toList = vs) (hi : i.toInt = (j : Int)) (hj : j < vs.length) : ¬ (i < 0 ∨ cl.slots.size ≤ i.toNatClampNeg) := by
  obtain ⟨h1, h2⟩ := ow_idx hi
  have : cl.slots.size = vs.length := by rw [← e]; simp
  rintro (q | q)
  · exact h1 q
  · omega
theorem OwA.at {cl : Cell} {i : Int32} {j : Nat} {v : Value} (e : cl.slots.toList = vs) (hi : i.toInt = (j : Int)) (hv : vs[j]? = some v) : cl.slots[i.toNatClampNeg]? = some v := by
  rw [(ow_idx hi).2, ← hv, ← e]; simp
theorem ow_getlt {j : Nat} {v : Value} (hv : vs[j]? = some v) : j < vs.length := (List.getElem?_eq_some_iff.mp hv).1
theorem OwC.newP {aty : ArrayType} {z : Int32} {N k' n' : Nat} (w : (Cond.arrayClass (newarray.typeOf aty)).before a0 Z = true) (d : decode bytes pc = .ok (.newarray aty, 2)) (ht : newarray.typeOf aty = ty) (hz : z.toInt = (N : Int)) {cap : Nat} (hcap : N ≤ cap) (hb : cap * 8 ≤ 536870912) (hk : k + 1 = k') (hn : n + cap = n') (hc : k' ≤ R.cells) (hs : n' ≤ R.slots) (hq : pc + 2 = q)
    (g : ∀ h' a, a = h.size → Ext h h' → OwA Z h' a ty (List.replicate N (defaultValue ty)) → X.G h' k' n' q Ls (.ref a :: st)) : X.G h k n pc Ls (.int z :: st) := fun T locs Y eT Nf => by
  subst hq hk hn ht
  obtain ⟨z1, z2⟩ := ow_idx hz
  obtain ⟨T', h', cA, Y', eT', E, A, w'⟩ := RoadKit.newP Y X.1 X.2.2.2.2.1 w eT (g := mkF m pc Ls (.int z :: st)) rfl (X.hd d) rfl z1 (cap := cap) (by omega) hb hc hs
  obtain ⟨v, s₂, L, r1, r⟩ := g h' h.size rfl E ⟨_, A, by simp [newA, z2], by have := z.toInt_lt; simp; omega⟩ T' _ Y' eT' Nf
  exact ⟨v, s₂, L, w' _ r1, r⟩
theorem OwC.alen {z : Int32} (A : OwA Z h a ty vs) (hz : z.toInt = (vs.length : Int)) (d : decode bytes pc = .ok (.arraylength, 1)) (hq : pc + 1 = q) (g : X.G h k n q Ls (.int z :: st)) : X.G h k n pc Ls (.ref a :: st) := fun T locs Y eT N => by
  subst hq
  obtain ⟨cl, A, e, hl⟩ := A
  obtain ⟨v, s₂, L, r1, r⟩ := g T locs Y eT N
  have hsz : cl.slots.size = vs.length := by rw [← e]; simp
  have ez : cl.slots.size.toInt32 = z := by rw [hsz, ← Int32.toInt_inj, len_toInt hl, hz]
  exact ⟨v, s₂, L, Y.arraylength X.1 (by rw [eT]; exact A.1) (State.isArrayOf_alike X.2.2.2.2.1.alike A.2.1) (g := mkF m pc Ls (.ref a :: st)) rfl rfl (X.hd d) _ (by rw [ez]; exact r1), r⟩
theorem OwC.iaload {i : Int32} {j : Nat} {v : Value} (A : OwA Z h a .int vs) (hi : i.toInt = (j : Int)) (hv : vs[j]? = some v) (d : decode bytes pc = .ok (.iaload, 1)) (hq : pc + 1 = q) (g : X.G h k n q Ls (v :: st)) : X.G h k n pc Ls (.int i :: .ref a :: st) := fun T locs Y eT N => by
  subst hq
  obtain ⟨cl, A, e, -⟩ := A
  obtain ⟨v, s₂, L, r1, r⟩ := g T locs Y eT N
  exact ⟨v, s₂, L, Y.iaload X.1 (by rw [eT]; exact A.1) (State.isArrayOf_alike X.2.2.2.2.1.alike A.2.1) A.2.2 (OwA.inb e hi (ow_getlt hv)) (OwA.at e hi hv) (g := mkF m pc Ls (.int i :: .ref a :: st)) rfl rfl (X.hd d) _ r1, r⟩
theorem OwC.laload {i : Int32} {j : Nat} {v : Value} (A : OwA Z h a .long vs) (hi : i.toInt = (j : Int)) (hv : vs[j]? = some v) (d : decode bytes pc = .ok (.laload, 1)) (hq : pc + 1 = q) (g : X.G h k n q Ls (v :: st)) : X.G h k n pc Ls (.int i :: .ref a :: st) := fun T locs Y eT N => by
  subst hq
  obtain ⟨cl, A, e, -⟩ := A
  obtain ⟨v, s₂, L, r1, r⟩ := g T locs Y eT N
  exact ⟨v, s₂, L, Y.laload X.1 (by rw [eT]; exact A.1) (State.isArrayOf_alike X.2.2.2.2.1.alike A.2.1) A.2.2 (OwA.inb e hi (ow_getlt hv)) (OwA.at e hi hv) (g := mkF m pc Ls (.int i :: .ref a :: st)) rfl rfl (X.hd d) _ r1, r⟩
theorem OwC.baload {i : Int32} {j : Nat} {v : Value} (A : OwA Z h a .byte vs) (hi : i.toInt = (j : Int)) (hv : vs[j]? = some v) (d : decode bytes pc = .ok (.baload, 1)) (hq : pc + 1 = q) (g : X.G h k n q Ls (v :: st)) : X.G h k n pc Ls (.int i :: .ref a :: st) := fun T locs Y eT N => by
  subst hq
  obtain ⟨cl, A, e, -⟩ := A
  obtain ⟨v, s₂, L, r1, r⟩ := g T locs Y eT N
  exact ⟨v, s₂, L, Y.baloadBytes X.1 (by rw [eT]; exact A.1) (State.isArrayOf_alike X.2.2.2.2.1.alike A.2.1) A.2.2 (OwA.inb e hi (ow_getlt hv)) (OwA.at e hi hv) (g := mkF m pc Ls (.int i :: .ref a :: st)) rfl rfl (X.hd d) _ r1, r⟩
theorem OwC.caload {i : Int32} {j : Nat} {v : Value} (A : OwA Z h a .char vs) (hi : i.toInt = (j : Int)) (hv : vs[j]? = some v) (d : decode bytes pc = .ok (.caload, 1)) (hq : pc + 1 = q) (g : X.G h k n q Ls (v :: st)) : X.G h k n pc Ls (.int i :: .ref a :: st) := fun T locs Y eT N => by
  subst hq
  obtain ⟨cl, A, e, -⟩ := A
  obtain ⟨v, s₂, L, r1, r⟩ := g T locs Y eT N
  exact ⟨v, s₂, L, Y.caload X.1 (by rw [eT]; exact A.1) (State.isArrayOf_alike X.2.2.2.2.1.alike A.2.1) A.2.2 (OwA.inb e hi (ow_getlt hv)) (OwA.at e hi hv) (g := mkF m pc Ls (.int i :: .ref a :: st)) rfl rfl (X.hd d) _ r1, r⟩
theorem OwC.iastore {i : Int32} {j : Nat} {x : Int32} (A : OwA Z h a .int vs) (hi : i.toInt = (j : Int)) (hj : j < vs.length) (ge : n0 ≤ a) (d : decode bytes pc = .ok (.iastore, 1)) (hq : pc + 1 = q) (g : ∀ h', Wr h h' a j (.int x) → OwA Z h' a .int (vs.set j (.int x)) → X.G h' k n q Ls st) : X.G h k n pc Ls (.int x :: .int i :: .ref a :: st) := fun T locs Y eT N => by
  subst hq
  obtain ⟨cl, A1, e, hl⟩ := id A
  obtain ⟨T', h', Y', eT', W, w'⟩ := RoadKit.stI Y X.1 X.2.2.2.2.1 eT A1 (OwA.inb e hi hj) (g := mkF m pc Ls (.int x :: .int i :: .ref a :: st)) rfl rfl (X.hd d)
  have N' := Fr.snoc Y' N ge
  rw [(ow_idx hi).2] at W
  obtain ⟨v, s₂, L, r1, r⟩ := g h' W (A.set W) T' _ Y' eT' N'
  exact ⟨v, s₂, L, w' _ r1, r⟩
theorem OwC.lastore {i : Int32} {j : Nat} {x : Int64} (A : OwA Z h a .long vs) (hi : i.toInt = (j : Int)) (hj : j < vs.length) (ge : n0 ≤ a) (d : decode bytes pc = .ok (.lastore, 1)) (hq : pc + 1 = q) (g : ∀ h', Wr h h' a j (.long x) → OwA Z h' a .long (vs.set j (.long x)) → X.G h' k n q Ls st) : X.G h k n pc Ls (.long x :: .int i :: .ref a :: st) := fun T locs Y eT N => by
  subst hq
  obtain ⟨cl, A1, e, hl⟩ := id A
  obtain ⟨T', h', Y', eT', W, w'⟩ := RoadKit.stJ Y X.1 X.2.2.2.2.1 eT A1 (OwA.inb e hi hj) (g := mkF m pc Ls (.long x :: .int i :: .ref a :: st)) rfl rfl (X.hd d)
  have N' := Fr.snoc Y' N ge
  rw [(ow_idx hi).2] at W
  obtain ⟨v, s₂, L, r1, r⟩ := g h' W (A.set W) T' _ Y' eT' N'
  exact ⟨v, s₂, L, w' _ r1, r⟩
theorem OwC.bastore {i : Int32} {j : Nat} {x : Int32} (A : OwA Z h a .byte vs) (hi : i.toInt = (j : Int)) (hj : j < vs.length) (ge : n0 ≤ a) (d : decode bytes pc = .ok (.bastore, 1)) (hq : pc + 1 = q) (g : ∀ h', Wr h h' a j (.int (nar .byte x)) → OwA Z h' a .byte (vs.set j (.int (nar .byte x))) → X.G h' k n q Ls st) : X.G h k n pc Ls (.int x :: .int i :: .ref a :: st) := fun T locs Y eT N => by
  subst hq
  obtain ⟨cl, A1, e, hl⟩ := id A
  obtain ⟨T', h', Y', eT', W, w'⟩ := RoadKit.stB Y X.1 X.2.2.2.2.1 eT A1 (OwA.inb e hi hj) (g := mkF m pc Ls (.int x :: .int i :: .ref a :: st)) rfl rfl (X.hd d)
  have N' := Fr.snoc Y' N ge
  rw [(ow_idx hi).2] at W
  obtain ⟨v, s₂, L, r1, r⟩ := g h' W (A.set W) T' _ Y' eT' N'
  exact ⟨v, s₂, L, w' _ r1, r⟩
theorem OwC.castore {i : Int32} {j : Nat} {x : Int32} (A : OwA Z h a .char vs) (hi : i.toInt = (j : Int)) (hj : j < vs.length) (ge : n0 ≤ a) (d : decode bytes pc = .ok (.castore, 1)) (hq : pc + 1 = q) (g : ∀ h', Wr h h' a j (.int (nar .char x)) → OwA Z h' a .char (vs.set j (.int (nar .char x))) → X.G h' k n q Ls st) : X.G h k n pc Ls (.int x :: .int i :: .ref a :: st) := fun T locs Y eT N => by
  subst hq
  obtain ⟨cl, A1, e, hl⟩ := id A
  obtain ⟨T', h', Y', eT', W, w'⟩ := RoadKit.stC Y X.1 X.2.2.2.2.1 eT A1 (OwA.inb e hi hj) (g := mkF m pc Ls (.int x :: .int i :: .ref a :: st)) rfl rfl (X.hd d)
  have N' := Fr.snoc Y' N ge
  rw [(ow_idx hi).2] at W
  obtain ⟨v, s₂, L, r1, r⟩ := g h' W (A.set W) T' _ Y' eT' N'
  exact ⟨v, s₂, L, w' _ r1, r⟩
/-! contracts and calls -/
def OwM (l : Launch) (Z : State) (y : MethodName) (bytes : ByteArray) (mL : Nat) (ret : Option FieldType) (rm : Room) (kM nM : Nat) (ws : List Cond) (as : Array Value) (h0 : Heap) (n0 : Nat) (Φ : Option Value → Heap → Prop) : Prop :=
  MetFree l y (head1 (Cond.code y bytes mL ret :: ws) rm) (fun a U => a = as ∧ Z.Warmed39 U.vm ∧ U.heap = h0) (fun _ _ _ _ _ => True) (fun _ U o U' => ∃ v L, o = .returned v ∧ (Φ v U'.heap ∧ Fr n0 L) ∧ FrameEnd U o U' L kM nM)
theorem OwM.of {y : MethodName} {rm : Room} {ws : List Cond} {as : Array Value} {h0 : Heap} (hpn : plainFor y = true) (hef : ∀ m, entryFrame m as mL = mkF m 0 Ls [])
    (body : ∀ p e s m below meth c (X : OwC p l e rm s m as below meth c Z y.cls y.name bytes mL ret n0 kM nM Φ), X.G h0 0 0 0 Ls []) : OwM l Z y bytes mL ret rm kM nM ws as h0 n0 Φ := by
  refine MetFree.of_bodySF hpn hisR ?_
  intro p e s m args below meth c s₁ Bd hml0 hP hK
  obtain ⟨rfl, hZ, hh⟩ := hP
  have X : OwC p l e rm s m args below meth c Z y.cls y.name bytes mL ret n0 kM nM Φ := ⟨Bd.exec, Bd.bytes, hml0, findClass_of_methodNamed Bd.named, hZ, Bd.returns, Bd.notSynchronized, (name_of_methodNamed Bd.named Bd.method).1⟩
  obtain ⟨v, s₂, L, r1, r2, r3, r4, r5⟩ := body p e s m below meth c X s₁ [] (Stand.of_body Bd) (by rw [← hh, Bd.state]; rfl) (Fr.nil n0)
  exact ⟨s₂, _, castTop (hef m) r1, r2, r3, v, L, rfl, r4, r5⟩
variable {y : MethodName} {by' : ByteArray} {mL' : Nat} {ret' : Option FieldType} {rm : Room} {as : Array Value} {Ψ : Option Value → Heap → Prop}
theorem OwC.back (X : OwC p l e R s m args below meth c Z own nm bytes mL ret n0 kM nM Φ) {len W : Nat} (K : OwM l Z y by' mL' ret' rm rm.cells rm.slots [] as h n0 Ψ) (wc : (Cond.code y by' mL' ret').before a0 Z = true) (wz : (Cond.initialized y.cls).before a0 Z = true) (hf : rm.frames + 1 ≤ R.frames) (hl : W + (mL' + 11) + rm.locals ≤ R.locals) :
    Back l R p e below s args y len W (fun A a => a = as ∧ A.U.heap = h ∧ A.cells + rm.cells ≤ R.cells ∧ A.slots + rm.slots ≤ R.slots)
      (fun A _ v B => ∃ L, (Ψ v B.U.heap ∧ Fr n0 L) ∧ B.locs = A.locs ++ L ∧ B.cells = A.cells + rm.cells ∧ B.slots = A.slots + rm.slots) :=
  backOf (Q := fun v h L => Ψ v h ∧ Fr n0 L) K X.2.2.2.2.1 wc wz hf hl
theorem OwC.callS {i W k' n' : Nat} {argsL : List Value} {ps : List FieldType} {rt : Option FieldType} (K : OwM l Z y by' mL' ret' rm rm.cells rm.slots [] as h n0 Ψ) (w1 : (Cond.methodLink own i y).before a0 Z = true) (w2 : (Cond.static y).before a0 Z = true) (w3 : (Cond.initialized y.cls).before a0 Z = true) (w4 : (Cond.code y by' mL' ret').before a0 Z = true) (hy : y.cls ≠ "java/lang/invoke/MethodHandle" ∧ y.cls ≠ "java/lang/invoke/VarHandle")
    (pd : parseMethodDescriptor y.desc = some ⟨ps, rt⟩) (hlen : argsL.length = ps.length) (has : argsL.toArray = as) (hst : st = argsL.reverse ++ rest) (hW : (rest.map fun v => v.category).sum ≤ W) (hsz : Ls.size = mL) (hf : rm.frames + 1 ≤ R.frames) (hl : W + (mL' + 11) + rm.locals ≤ R.locals) (hk : k + rm.cells = k') (hn : n + rm.slots = n') (hc : k' ≤ R.cells) (hs : n' ≤ R.slots)
    (d : decode bytes pc = .ok (.invokestatic i, 3)) (hq : pc + 3 = q) (g : ∀ v h', Ψ v h' → X.G h' k' n' q Ls (v.toList ++ rest)) : X.G h k n pc Ls st := fun T locs Y eT N => by
  subst hq hk hn has
  obtain ⟨v, vm1, B, -, Y', ⟨L0, ⟨hΨ, N0⟩, l1, l2, l3⟩, w'⟩ := Jvm.LawKit.callS Y X.1 (y := y) X.2.2.2.1 (mvT X.2.2.2.2.1 w1) (mvT X.2.2.2.2.1 w2) (mvT X.2.2.2.2.1 w3) (mvT X.2.2.2.2.1 w4) hy (X.back K w4 w3 hf hl) (g := mkF m pc Ls st) rfl (hsz.trans X.2.2.1.symm) (argsL := argsL) (rest := rest) (lenOf pd hlen) hst (by show 2 * 0 + _ ≤ _; omega) (X.hd d) (fun _ _ => ⟨rfl, eT, hc, hs⟩)
  obtain ⟨T', L', k', n'⟩ := B
  dsimp only [Pt.U, Pt.locs, Pt.cells, Pt.slots] at Y' l1 l2 l3 w' hΨ
  subst l1 l2 l3
  obtain ⟨v, s₂, L, r1, r⟩ := g v _ hΨ T' _ Y' rfl (N.app N0)
  exact ⟨v, s₂, L, w' _ r1, r⟩
theorem OwC.special {i W k' n' : Nat} {a : Addr} {argsL : List Value} {ps : List FieldType} {rt : Option FieldType} (K : OwM l Z y by' mL' none rm rm.cells rm.slots [] as h n0 Ψ) (hin : y.name = "<init>") (w1 : (Cond.methodLink own i y).before a0 Z = true) (w2 : (Cond.instanceMethod y).before a0 Z = true) (w3 : (Cond.initialized y.cls).before a0 Z = true) (w4 : (Cond.code y by' mL' none).before a0 Z = true) (hy : y.cls ≠ "java/lang/invoke/MethodHandle" ∧ y.cls ≠ "java/lang/invoke/VarHandle")
    (pd : parseMethodDescriptor y.desc = some ⟨ps, rt⟩) (hlen : argsL.length = ps.length) (has : (.ref a :: argsL).toArray = as) (hst : st = argsL.reverse ++ .ref a :: rest) (hW : (rest.map fun v => v.category).sum ≤ W) (hsz : Ls.size = mL) (hf : rm.frames + 1 ≤ R.frames) (hl : W + (mL' + 11) + rm.locals ≤ R.locals) (hk : k + rm.cells = k') (hn : n + rm.slots = n') (hc : k' ≤ R.cells) (hs : n' ≤ R.slots)
    (d : decode bytes pc = .ok (.invokespecial i, 3)) (hq : pc + 3 = q) (g : ∀ v h', Ψ v h' → X.G h' k' n' q Ls (v.toList ++ rest)) : X.G h k n pc Ls st := fun T locs Y eT N => by
  subst hq hk hn has
  obtain ⟨v, vm1, B, -, Y', ⟨L0, ⟨hΨ, N0⟩, l1, l2, l3⟩, w'⟩ := Y.specialBack X.1 (y := y) hin X.2.2.2.1 (mvT X.2.2.2.2.1 w1) (mvT X.2.2.2.2.1 w2) (mvT X.2.2.2.2.1 w4) hy (X.back K w4 w3 hf hl) (g := mkF m pc Ls st) rfl (hsz.trans X.2.2.1.symm) (Steps.refl _) (a := a) (argsL := argsL) (rest := rest) (lenOf pd hlen) hst (by show 2 * 0 + _ ≤ _; omega) (X.hd d) (fun _ _ => ⟨rfl, eT, hc, hs⟩)
  obtain ⟨T', L', k', n'⟩ := B
  dsimp only [Pt.U, Pt.locs, Pt.cells, Pt.slots] at Y' l1 l2 l3 w' hΨ
  subst l1 l2 l3
  obtain ⟨v, s₂, L, r1, r⟩ := g v _ hΨ T' _ Y' rfl (N.app N0)
  exact ⟨v, s₂, L, w'.trans r1, r⟩
theorem OwC.virtual {C : String} {i W k' n' : Nat} {a : Addr} {argsL : List Value} {ps : List FieldType} {rt : Option FieldType} (K : OwM l Z y by' mL' ret' rm rm.cells rm.slots [] as h n0 Ψ) (w1 : (Cond.methodLink own i y).before a0 Z = true) (w2 : (Cond.declares y).before a0 Z = true) (w5 : (Cond.selects C y y).before a0 Z = true) (w6 : (Cond.instanceMethod y).before a0 Z = true) (w3 : (Cond.initialized y.cls).before a0 Z = true) (w4 : (Cond.code y by' mL' ret').before a0 Z = true) (hy : y.cls ≠ "java/lang/invoke/MethodHandle" ∧ y.cls ≠ "java/lang/invoke/VarHandle") (E : Exa Z h a C)
    (pd : parseMethodDescriptor y.desc = some ⟨ps, rt⟩) (hlen : argsL.length = ps.length) (has : (.ref a :: argsL).toArray = as) (hst : st = argsL.reverse ++ .ref a :: rest) (hW : (rest.map fun v => v.category).sum ≤ W) (hsz : Ls.size = mL) (hf : rm.frames + 1 ≤ R.frames) (hl : W + (mL' + 11) + rm.locals ≤ R.locals) (hk : k + rm.cells = k') (hn : n + rm.slots = n') (hc : k' ≤ R.cells) (hs : n' ≤ R.slots)
    (d : decode bytes pc = .ok (.invokevirtual i, 3)) (hq : pc + 3 = q) (g : ∀ v h', Ψ v h' → X.G h' k' n' q Ls (v.toList ++ rest)) : X.G h k n pc Ls st := fun T locs Y eT N => by
  subst hq hk hn has
  obtain ⟨cB, kB, q1, q2, q3⟩ := isOf (T := T) X.2.2.2.2.1 eT E
  obtain ⟨v, vm1, B, -, Y', ⟨L0, ⟨hΨ, N0⟩, l1, l2, l3⟩, w'⟩ := Y.virtualBack X.1 (y := y) (z := y) X.2.2.2.1 (mvT X.2.2.2.2.1 w1) (mvT X.2.2.2.2.1 w2) (notFace_of_selects (args := #[]) (mvT X.2.2.2.2.1 w5)) (mvT X.2.2.2.2.1 w5) (mvT X.2.2.2.2.1 w6) hy (X.back K w4 w3 hf hl) q1 q3 (g := mkF m pc Ls st) rfl (hsz.trans X.2.2.1.symm) (Steps.refl _) (argsL := argsL) (rest := rest) (lenOf pd hlen) hst (by show 2 * 0 + _ ≤ _; omega) (X.hd d) (fun _ _ => ⟨rfl, eT, hc, hs⟩)
  obtain ⟨T', L', k', n'⟩ := B
  dsimp only [Pt.U, Pt.locs, Pt.cells, Pt.slots] at Y' l1 l2 l3 w' hΨ
  subst l1 l2 l3
  obtain ⟨v, s₂, L, r1, r⟩ := g v _ hΨ T' _ Y' rfl (N.app N0)
  exact ⟨v, s₂, L, w'.trans r1, r⟩
end OwKit
/-! numbers -/
theorem own_ofNat {c : Int32} (h1 : 0 ≤ c.toInt) (h2 : c.toInt < 2147483648) : c = Int32.ofNat c.toInt.toNat := by
  rw [← Int32.toInt_inj, Int32.toInt_ofNat_small (by omega)]; omega
theorem own_natInt (x : Int32) : x.toInt = if x.toBitVec.toNat < 2147483648 then (x.toBitVec.toNat : Int) else (x.toBitVec.toNat : Int) - 4294967296 := by
  show x.toBitVec.toInt = _
  rw [BitVec.toInt_eq_toNat_cond]
  split <;> split <;> omega
theorem own_c16 (x : Int32) : x.toUInt32.toUInt16.toUInt32.toInt32.toInt = x.toInt % 65536 := by
  have e : x.toUInt32.toUInt16.toUInt32.toInt32.toBitVec.toNat = x.toBitVec.toNat % 65536 := rfl
  have h1 := own_natInt x.toUInt32.toUInt16.toUInt32.toInt32
  have h2 := own_natInt x
  have h3 := x.toBitVec.isLt
  rw [e] at h1
  split at h1 <;> split at h2 <;> omega

def own_stp (u : Int64) (b : Int32) : Int64 := (u ^^^ (b.toInt64 &&& (255 : Int64))) * (1099511628211 : Int64)
def own_fnv (xs : List Int32) : Int64 := xs.foldl own_stp (-3750763034362895579 : Int64)
theorem own_nb (e : Int32) : (nar .byte e.toInt8.toInt32).toInt64 &&& (255 : Int64) = e.toInt64 &&& (255 : Int64) := by
  rw [← Int64.toInt_inj, Jvm.Kit.i64_mask (k := 8) _ _ (by decide) (by decide), Jvm.Kit.i64_mask (k := 8) _ _ (by decide) (by decide), Int32.toInt_toInt64, Int32.toInt_toInt64]
  show (e.toInt8.toInt32.toInt8.toInt32).toInt % _ = _
  simp only [Int8.toInt_toInt32, Int32.toInt_toInt8]
  have h1 := Int.bmod_emod (x := e.toInt) (m := 2 ^ 8)
  have h2 := Int.bmod_emod (x := e.toInt.bmod (2 ^ 8)) (m := 2 ^ 8)
  omega
theorem own_d_prog_6_method_2_0 : decode prog_6_method_2_code 0 = .ok (.ldc2_w 9, 3) := by decide +kernel
theorem own_d_prog_6_method_2_3 : decode prog_6_method_2_code 3 = .ok (.lstore_n 1, 1) := by decide +kernel
theorem own_d_prog_6_method_2_4 : decode prog_6_method_2_code 4 = .ok (.aload_n 0, 1) := by decide +kernel
theorem own_d_prog_6_method_2_5 : decode prog_6_method_2_code 5 = .ok (.astore_n 3, 1) := by decide +kernel
theorem own_d_prog_6_method_2_6 : decode prog_6_method_2_code 6 = .ok (.aload_n 3, 1) := by decide +kernel
theorem own_d_prog_6_method_2_7 : decode prog_6_method_2_code 7 = .ok (.arraylength, 1) := by decide +kernel
theorem own_d_prog_6_method_2_8 : decode prog_6_method_2_code 8 = .ok (.istore 4, 2) := by decide +kernel
theorem own_d_prog_6_method_2_10 : decode prog_6_method_2_code 10 = .ok (.iconst 0, 1) := by decide +kernel
theorem own_d_prog_6_method_2_11 : decode prog_6_method_2_code 11 = .ok (.istore 5, 2) := by decide +kernel
theorem own_d_prog_6_method_2_13 : decode prog_6_method_2_code 13 = .ok (.iload 5, 2) := by decide +kernel
theorem own_d_prog_6_method_2_15 : decode prog_6_method_2_code 15 = .ok (.iload 4, 2) := by decide +kernel
theorem own_d_prog_6_method_2_17 : decode prog_6_method_2_code 17 = .ok (.if_icmp .ge 31, 3) := by decide +kernel
theorem own_d_prog_6_method_2_48 : decode prog_6_method_2_code 48 = .ok (.lload_n 1, 1) := by decide +kernel
theorem own_d_prog_6_method_2_49 : decode prog_6_method_2_code 49 = .ok (.lreturn, 1) := by decide +kernel
theorem own_d_prog_6_method_2_20 : decode prog_6_method_2_code 20 = .ok (.aload_n 3, 1) := by decide +kernel
theorem own_d_prog_6_method_2_21 : decode prog_6_method_2_code 21 = .ok (.iload 5, 2) := by decide +kernel
theorem own_d_prog_6_method_2_23 : decode prog_6_method_2_code 23 = .ok (.baload, 1) := by decide +kernel
theorem own_d_prog_6_method_2_24 : decode prog_6_method_2_code 24 = .ok (.istore 6, 2) := by decide +kernel
theorem own_d_prog_6_method_2_26 : decode prog_6_method_2_code 26 = .ok (.lload_n 1, 1) := by decide +kernel
theorem own_d_prog_6_method_2_27 : decode prog_6_method_2_code 27 = .ok (.iload 6, 2) := by decide +kernel
theorem own_d_prog_6_method_2_29 : decode prog_6_method_2_code 29 = .ok (.i2l, 1) := by decide +kernel
theorem own_d_prog_6_method_2_30 : decode prog_6_method_2_code 30 = .ok (.ldc2_w 11, 3) := by decide +kernel
theorem own_d_prog_6_method_2_33 : decode prog_6_method_2_code 33 = .ok (.land, 1) := by decide +kernel
theorem own_d_prog_6_method_2_34 : decode prog_6_method_2_code 34 = .ok (.lxor, 1) := by decide +kernel
theorem own_d_prog_6_method_2_35 : decode prog_6_method_2_code 35 = .ok (.lstore_n 1, 1) := by decide +kernel
theorem own_d_prog_6_method_2_36 : decode prog_6_method_2_code 36 = .ok (.lload_n 1, 1) := by decide +kernel
theorem own_d_prog_6_method_2_37 : decode prog_6_method_2_code 37 = .ok (.ldc2_w 13, 3) := by decide +kernel
theorem own_d_prog_6_method_2_40 : decode prog_6_method_2_code 40 = .ok (.lmul, 1) := by decide +kernel
theorem own_d_prog_6_method_2_41 : decode prog_6_method_2_code 41 = .ok (.lstore_n 1, 1) := by decide +kernel
theorem own_d_prog_6_method_2_42 : decode prog_6_method_2_code 42 = .ok (.iinc 5 1, 3) := by decide +kernel
theorem own_d_prog_6_method_2_45 : decode prog_6_method_2_code 45 = .ok (.goto (-32), 3) := by decide +kernel
def own_rm_own_hash : Room := ({ frames := 0, cells := 0, slots := 0, locals := 0 } : Room)
set_option maxRecDepth 65536 in
set_option maxHeartbeats 1000000 in
theorem own_hash (l : Launch) (Z : State) (a0 : Array Value) (hw : ∀ d ∈ tables_1, d.before a0 Z = true) (h : Heap) (n0 : Nat) (a : Addr) (xs : List Int32) (L : Int32) (hL : L.toInt = (xs.length : Int))  (hn0 : n0 ≤ h.size) (A1 : OwA Z h a .byte (xs.map Value.int)) :
    OwM l Z (⟨"com/example/vireo/vireo/fingerprint/Fnv1a64", "hash", "([B)J"⟩ : MethodName) prog_6_method_2_code 7 (some .long) own_rm_own_hash 0 0 [] #[(.ref a)] h n0 (fun r h' => r = some (.long (own_fnv xs)) ∧ h = h') := by
  refine OwM.of (Ls := #[.val (.ref a), .unset, .unset, .unset, .unset, .unset, .unset]) (by decide +kernel) (fun m => by first | (simp [entryFrame, mkF, argsToLocals, Value.category]; done) | rfl) ?_
  intro _ _ _ _ _ _ _ X
  have e0 : (0 : Int32).toInt = 0 := rfl
  have e1 : (1 : Int32).toInt = 1 := rfl
  refine X.ldc2_w (q := 3) (v := (-3750763034362895579 : Int64)) (hw _ (List.mem_of_getElem? (i := 5) rfl)) own_d_prog_6_method_2_0 rfl ?_
  refine X.lstoreN (q := 4) (Ls' := #[.val (.ref a), .val (.long (-3750763034362895579 : Int64)), .second, .unset, .unset, .unset, .unset]) own_d_prog_6_method_2_3 rfl rfl ?_
  refine X.aloadN (q := 5) own_d_prog_6_method_2_4 rfl rfl rfl ?_
  refine X.astoreN (q := 6) (Ls' := #[.val (.ref a), .val (.long (-3750763034362895579 : Int64)), .second, .val (.ref a), .unset, .unset, .unset]) own_d_prog_6_method_2_5 rfl rfl rfl ?_
  refine X.aloadN (q := 7) own_d_prog_6_method_2_6 rfl rfl rfl ?_
  refine X.alen (q := 8) (z := L) A1 (by rw [hL]; simp) own_d_prog_6_method_2_7 rfl ?_
  refine X.istore (q := 10) (Ls' := #[.val (.ref a), .val (.long (-3750763034362895579 : Int64)), .second, .val (.ref a), .val (.int L), .unset, .unset]) own_d_prog_6_method_2_8 rfl rfl ?_
  refine X.iconst (q := 11) (0 : Int32) own_d_prog_6_method_2_10 (by decide) rfl ?_
  refine X.istore (q := 13) (Ls' := #[.val (.ref a), .val (.long (-3750763034362895579 : Int64)), .second, .val (.ref a), .val (.int L), .val (.int (0 : Int32)), .unset]) own_d_prog_6_method_2_11 rfl rfl ?_
  have L13 : ∀ (N_ : Nat) (i : Int32) (u : Int64) (w6 : Slot) (j : Nat), (i.toInt = (j : Int)) → (j ≤ xs.length) → ((xs.drop j).foldl own_stp u = own_fnv xs) → (w6 = .unset ∨ ∃ v, w6 = .val v ∧ v.category = 1) → (xs.length - j = N_) → X.G h 0 0 13 #[.val (.ref a), .val (.long u), .second, .val (.ref a), .val (.int L), .val (.int i), w6] [] := by
    intro N_
    induction N_ using Nat.strongRecOn with
    | ind N_ ih =>
      intro i u w6 j hj hjl0 hu hw6 hN_
      refine X.iload (q := 15) own_d_prog_6_method_2_13 rfl rfl ?_
      refine X.iload (q := 17) own_d_prog_6_method_2_15 rfl rfl ?_
      refine X.icmp_ge (q' := 48) (q := 20) own_d_prog_6_method_2_17 rfl rfl (by decide) rfl (fun c17 => ?_) (fun c17 => ?_)
      · refine X.lloadN (q := 49) own_d_prog_6_method_2_48 rfl rfl ?_
        refine X.retJ own_d_prog_6_method_2_49 rfl (by decide) (by decide) ?_
        have ej : j = xs.length := by omega
        subst ej
        exact ⟨by simpa using hu, rfl⟩
      · have hjl : j < xs.length := by omega
        have hi1 : (i + (1 : Int32)).toInt = i.toInt + 1 := Jvm.Kit.i32_add (by have := rng32 L; omega) (by have := rng32 L; omega)
        refine X.aloadN (q := 21) own_d_prog_6_method_2_20 rfl rfl rfl ?_
        refine X.iload (q := 23) own_d_prog_6_method_2_21 rfl rfl ?_
        refine X.baload (q := 24) (j := j) (v := (.int xs[j])) A1 hj (by rw [List.getElem?_map, List.getElem?_eq_getElem hjl]; rfl) own_d_prog_6_method_2_23 rfl ?_
        refine X.istore (q := 26) (Ls' := #[.val (.ref a), .val (.long u), .second, .val (.ref a), .val (.int L), .val (.int i), .val (.int xs[j])]) own_d_prog_6_method_2_24 (XS.store1 (o := w6) rfl hw6 rfl) rfl ?_
        refine X.lloadN (q := 27) own_d_prog_6_method_2_26 rfl rfl ?_
        refine X.iload (q := 29) own_d_prog_6_method_2_27 rfl rfl ?_
        refine X.i2l (q := 30) own_d_prog_6_method_2_29 rfl ?_
        refine X.ldc2_w (q := 33) (v := (255 : Int64)) (hw _ (List.mem_of_getElem? (i := 7) rfl)) own_d_prog_6_method_2_30 rfl ?_
        refine X.land (q := 34) own_d_prog_6_method_2_33 rfl ?_
        refine X.lxor (q := 35) own_d_prog_6_method_2_34 rfl ?_
        refine X.lstoreN (q := 36) (Ls' := #[.val (.ref a), .val (.long (u ^^^ (xs[j].toInt64 &&& (255 : Int64)))), .second, .val (.ref a), .val (.int L), .val (.int i), .val (.int xs[j])]) own_d_prog_6_method_2_35 rfl rfl ?_
        refine X.lloadN (q := 37) own_d_prog_6_method_2_36 rfl rfl ?_
        refine X.ldc2_w (q := 40) (v := (1099511628211 : Int64)) (hw _ (List.mem_of_getElem? (i := 8) rfl)) own_d_prog_6_method_2_37 rfl ?_
        refine X.lmul (q := 41) own_d_prog_6_method_2_40 rfl ?_
        refine X.lstoreN (q := 42) (Ls' := #[.val (.ref a), .val (.long ((u ^^^ (xs[j].toInt64 &&& (255 : Int64))) * (1099511628211 : Int64))), .second, .val (.ref a), .val (.int L), .val (.int i), .val (.int xs[j])]) own_d_prog_6_method_2_41 rfl rfl ?_
        refine X.iinc (q := 45) (Ls' := #[.val (.ref a), .val (.long ((u ^^^ (xs[j].toInt64 &&& (255 : Int64))) * (1099511628211 : Int64))), .second, .val (.ref a), .val (.int L), .val (.int (i + (1 : Int32))), .val (.int xs[j])]) (1 : Int32) own_d_prog_6_method_2_42 (by decide) rfl rfl rfl ?_
        refine X.goto (q' := 13) own_d_prog_6_method_2_45 (by decide) ?_
        exact ih _ (by omega) _ _ _ (j + 1) (by rw [hi1]; omega) (by omega) (by rw [List.drop_eq_getElem_cons hjl, List.foldl_cons] at hu; exact hu) (by exact Or.inr ⟨_, rfl, rfl⟩) rfl
  exact L13 _ _ _ _ 0 (by rfl) (by omega) (by rfl) (by exact Or.inl rfl) rfl
theorem own_pd0 : parseMethodDescriptor "([B)J" = some ⟨[(.array .byte)], some .long⟩ := by decide +kernel
set_option maxRecDepth 65536 in
set_option maxHeartbeats 1000000 in
theorem own_law (l : Launch) (Z : State) (a0 : Array Value) (hw : ∀ d ∈ tables_1, d.before a0 Z = true) (h : Heap) (n0 : Nat) (hn0 : n0 ≤ h.size) (x0 x1 x2 x3 x4 : Int32)  :
    OwM l Z (⟨"com/example/vireo/vireo/fingerprint/Fnv1a64HashPinLaw", "law", "(IIIII)Z"⟩ : MethodName) code 15 (some .boolean) room_1 16 128 tables_1 #[(.int x0), (.int x1), (.int x2), (.int x3), (.int x4)] h n0 (fun r h' => r = some (.int 1)) := by
  refine OwM.of (Ls := #[.val (.int x0), .val (.int x1), .val (.int x2), .val (.int x3), .val (.int x4), .unset, .unset, .unset, .unset, .unset, .unset, .unset, .unset, .unset, .unset]) (by decide +kernel) (fun m => by first | (simp [entryFrame, mkF, argsToLocals, Value.category]; done) | rfl) ?_
  intro _ _ _ _ _ _ _ X
  have e0 : (0 : Int32).toInt = 0 := rfl
  have e1 : (1 : Int32).toInt = 1 := rfl
  refine X.iloadN (q := 1) at_0 rfl rfl ?_
  refine X.iconst (q := 2) (3 : Int32) at_1 (by decide) rfl ?_
  refine X.iand (q := 3) at_2 rfl ?_
  refine X.nmI (fun n hn => ?_)
  have hnr : 0 ≤ n.toInt ∧ n.toInt ≤ 3 := by rw [hn, Jvm.Kit.i32_mask (k := 2) _ _ (by decide) (by decide)]; omega
  have hsp : n = (0 : Int32) ∨ n = (1 : Int32) ∨ n = (2 : Int32) ∨ n = (3 : Int32) := (by have q_ : n.toInt = 0 ∨ n.toInt = 1 ∨ n.toInt = 2 ∨ n.toInt = 3 := (by omega); exact (Or.imp (fun e_ => Int32.toInt_inj.mp e_) (Or.imp (fun e_ => Int32.toInt_inj.mp e_) (Or.imp (fun e_ => Int32.toInt_inj.mp e_) (fun e_ => Int32.toInt_inj.mp e_)))) q_)
  rcases hsp with rfl | rfl | rfl | rfl
  · refine X.istore (q := 5) (Ls' := #[.val (.int x0), .val (.int x1), .val (.int x2), .val (.int x3), .val (.int x4), .val (.int (0 : Int32)), .unset, .unset, .unset, .unset, .unset, .unset, .unset, .unset, .unset]) at_3 rfl rfl ?_
    refine X.iload (q := 7) at_5 rfl rfl ?_
    refine X.newP (q := 9) (ty := .byte) (N := 0) (cap := 0) (k' := 1) (n' := 0) (hw _ (List.mem_of_getElem? (i := 0) rfl)) at_7 rfl rfl (Nat.le_refl _) (by decide) rfl rfl (by decide) (by decide) rfl (fun h1 a2 ga2 Eh1 Aa2 => ?_)
    have gea2 : n0 ≤ a2 := by rw [ga2]; exact hn0
    have hsh1 : n0 ≤ h1.size := Nat.le_trans hn0 Eh1.1
    have Aa2 : OwA Z h1 a2 .byte [] := Aa2
    refine X.astore (q := 11) (Ls' := #[.val (.int x0), .val (.int x1), .val (.int x2), .val (.int x3), .val (.int x4), .val (.int (0 : Int32)), .val (.ref a2), .unset, .unset, .unset, .unset, .unset, .unset, .unset, .unset]) at_9 rfl rfl rfl ?_
    refine X.iload (q := 13) at_11 rfl rfl ?_
    refine X.iconst (q := 14) (1 : Int32) at_13 (by decide) rfl ?_
    refine X.iadd (q := 15) at_14 rfl ?_
    refine X.foldI (v := (1 : Int32)) (by decide) ?_
    refine X.newP (q := 17) (ty := .byte) (N := 1) (cap := 1) (k' := 2) (n' := 1) (hw _ (List.mem_of_getElem? (i := 0) rfl)) at_15 rfl rfl (Nat.le_refl _) (by decide) rfl rfl (by decide) (by decide) rfl (fun h3 a4 ga4 Eh3 Aa4 => ?_)
    have la2_a4 : a2 < a4 := by have := Aa2.lt; rw [← ga4] at this; exact this
    have Aa2'h3 : OwA Z h3 a2 .byte [] := OwA.ext (E := Eh3) Aa2
    have gea4 : n0 ≤ a4 := by rw [ga4]; exact hsh1
    have hsh3 : n0 ≤ h3.size := Nat.le_trans hsh1 Eh3.1
    have Aa4 : OwA Z h3 a4 .byte [(.int (0 : Int32))] := Aa4
    refine X.astore (q := 19) (Ls' := #[.val (.int x0), .val (.int x1), .val (.int x2), .val (.int x3), .val (.int x4), .val (.int (0 : Int32)), .val (.ref a2), .val (.ref a4), .unset, .unset, .unset, .unset, .unset, .unset, .unset]) at_17 rfl rfl rfl ?_
    refine X.iload (q := 21) at_19 rfl rfl ?_
    refine X.if_le (a := 0) (q' := 36) (q := 24) at_21 rfl (by decide) rfl (fun c21 => ?_) (fun c21 => ?_)
    · refine X.iload (q := 38) at_36 rfl rfl ?_
      refine X.iconst (q := 39) (1 : Int32) at_38 (by decide) rfl ?_
      refine X.icmp_le (a := 0) (b := 1) (q' := 54) (q := 42) at_39 rfl rfl (by decide) rfl (fun c39 => ?_) (fun c39 => ?_)
      · refine X.iload (q := 56) at_54 rfl rfl ?_
        refine X.iconst (q := 57) (2 : Int32) at_56 (by decide) rfl ?_
        refine X.icmp_le (a := 0) (b := 2) (q' := 72) (q := 60) at_57 rfl rfl (by decide) rfl (fun c57 => ?_) (fun c57 => ?_)
        · refine X.aload (q := 74) at_72 rfl rfl rfl ?_
          refine X.iload (q := 76) at_74 rfl rfl ?_
          refine X.iload (q := 78) at_76 rfl rfl ?_
          refine X.i2b (q := 79) at_78 rfl ?_
          refine X.bastore (q := 80) (j := 0) Aa4 rfl (by simp) gea4 at_79 rfl (fun h5 Wh5 Ah5 => ?_)
          have Aa2'h5 : OwA Z h5 a2 .byte [] := OwA.other Aa2'h3 Wh5 (Nat.ne_of_lt la2_a4)
          have hsh5 : n0 ≤ h5.size := by rw [Wr.size Wh5]; exact hsh3
          have Ah5_ : OwA Z h5 a4 .byte [(.int (nar .byte x4.toInt8.toInt32))] := Ah5
          refine X.iconst (q := 81) (0 : Int32) at_80 (by decide) rfl ?_
          refine X.newP (q := 83) (ty := .byte) (N := 0) (cap := 0) (k' := 3) (n' := 1) (hw _ (List.mem_of_getElem? (i := 0) rfl)) at_81 rfl rfl (Nat.le_refl _) (by decide) rfl rfl (by decide) (by decide) rfl (fun h6 a7 ga7 Eh6 Aa7 => ?_)
          have la2_a7 : a2 < a7 := by have := Aa2'h5.lt; rw [← ga7] at this; exact this
          have la4_a7 : a4 < a7 := by have := Ah5_.lt; rw [← ga7] at this; exact this
          have Aa2'h6 : OwA Z h6 a2 .byte [] := OwA.ext (E := Eh6) Aa2'h5
          have Ah5_'h6 : OwA Z h6 a4 .byte [(.int (nar .byte x4.toInt8.toInt32))] := OwA.ext (E := Eh6) Ah5_
          have gea7 : n0 ≤ a7 := by rw [ga7]; exact hsh5
          have hsh6 : n0 ≤ h6.size := Nat.le_trans hsh5 Eh6.1
          have Aa7 : OwA Z h6 a7 .byte [] := Aa7
          refine X.callS (own_hash l Z a0 hw h6 n0 a7 [] (0 : Int32) rfl hsh6 Aa7) (hw _ (List.mem_of_getElem? (i := 1) rfl)) (hw _ (List.mem_of_getElem? (i := 2) rfl)) (hw _ (List.mem_of_getElem? (i := 3) rfl)) (hw _ (List.mem_of_getElem? (i := 4) rfl)) (by decide) own_pd0 (argsL := [(.ref a7)]) (rest := []) rfl rfl rfl (W := 0) (Nat.le_of_eq rfl) rfl (by decide) (by decide) (k' := 3) (n' := 1) rfl rfl (by decide) (by decide) at_83 (q := 86) rfl ?_
          rintro _ _ ⟨rfl, rfl⟩
          show X.G h6 3 1 86 #[.val (.int x0), .val (.int x1), .val (.int x2), .val (.int x3), .val (.int x4), .val (.int (0 : Int32)), .val (.ref a2), .val (.ref a4), .unset, .unset, .unset, .unset, .unset, .unset, .unset] [(.long (own_fnv []))]
          refine X.ldc2_w (q := 89) (v := (-3750763034362895579 : Int64)) (hw _ (List.mem_of_getElem? (i := 6) rfl)) at_86 rfl ?_
          refine X.lcmp_ne (b := (-3750763034362895579)) (q1 := 90) (q' := 97) (q := 93) at_89 rfl at_90 rfl rfl (by decide) rfl (fun c89 => ?_) (fun c89 => ?_)
          · exact absurd rfl c89
          · refine X.iconst (q := 94) (1 : Int32) at_93 (by decide) rfl ?_
            refine X.goto (q' := 98) at_94 (by decide) ?_
            refine X.istore (q := 100) (Ls' := #[.val (.int x0), .val (.int x1), .val (.int x2), .val (.int x3), .val (.int x4), .val (.int (0 : Int32)), .val (.ref a2), .val (.ref a4), .val (.int (1 : Int32)), .unset, .unset, .unset, .unset, .unset, .unset]) at_98 rfl rfl ?_
            refine X.aload (q := 102) at_100 rfl rfl rfl ?_
            refine X.callS (own_hash l Z a0 hw h6 n0 a2 [] (0 : Int32) rfl hsh6 Aa2'h6) (hw _ (List.mem_of_getElem? (i := 1) rfl)) (hw _ (List.mem_of_getElem? (i := 2) rfl)) (hw _ (List.mem_of_getElem? (i := 3) rfl)) (hw _ (List.mem_of_getElem? (i := 4) rfl)) (by decide) own_pd0 (argsL := [(.ref a2)]) (rest := []) rfl rfl rfl (W := 0) (Nat.le_of_eq rfl) rfl (by decide) (by decide) (k' := 3) (n' := 1) rfl rfl (by decide) (by decide) at_102 (q := 105) rfl ?_
            rintro _ _ ⟨rfl, rfl⟩
            show X.G h6 3 1 105 #[.val (.int x0), .val (.int x1), .val (.int x2), .val (.int x3), .val (.int x4), .val (.int (0 : Int32)), .val (.ref a2), .val (.ref a4), .val (.int (1 : Int32)), .unset, .unset, .unset, .unset, .unset, .unset] [(.long (own_fnv []))]
            refine X.lstore (q := 107) (Ls' := #[.val (.int x0), .val (.int x1), .val (.int x2), .val (.int x3), .val (.int x4), .val (.int (0 : Int32)), .val (.ref a2), .val (.ref a4), .val (.int (1 : Int32)), .val (.long (own_fnv [])), .second, .unset, .unset, .unset, .unset]) at_105 rfl rfl ?_
            refine X.aload (q := 109) at_107 rfl rfl rfl ?_
            refine X.callS (own_hash l Z a0 hw h6 n0 a4 [(nar .byte x4.toInt8.toInt32)] (1 : Int32) rfl hsh6 Ah5_'h6) (hw _ (List.mem_of_getElem? (i := 1) rfl)) (hw _ (List.mem_of_getElem? (i := 2) rfl)) (hw _ (List.mem_of_getElem? (i := 3) rfl)) (hw _ (List.mem_of_getElem? (i := 4) rfl)) (by decide) own_pd0 (argsL := [(.ref a4)]) (rest := []) rfl rfl rfl (W := 0) (Nat.le_of_eq rfl) rfl (by decide) (by decide) (k' := 3) (n' := 1) rfl rfl (by decide) (by decide) at_109 (q := 112) rfl ?_
            rintro _ _ ⟨rfl, rfl⟩
            show X.G h6 3 1 112 #[.val (.int x0), .val (.int x1), .val (.int x2), .val (.int x3), .val (.int x4), .val (.int (0 : Int32)), .val (.ref a2), .val (.ref a4), .val (.int (1 : Int32)), .val (.long (own_fnv [])), .second, .unset, .unset, .unset, .unset] [(.long (own_fnv [(nar .byte x4.toInt8.toInt32)]))]
            refine X.lstore (q := 114) (Ls' := #[.val (.int x0), .val (.int x1), .val (.int x2), .val (.int x3), .val (.int x4), .val (.int (0 : Int32)), .val (.ref a2), .val (.ref a4), .val (.int (1 : Int32)), .val (.long (own_fnv [])), .second, .val (.long (own_fnv [(nar .byte x4.toInt8.toInt32)])), .second, .unset, .unset]) at_112 rfl rfl ?_
            refine X.lload (q := 116) at_114 rfl rfl ?_
            refine X.iload (q := 118) at_116 rfl rfl ?_
            refine X.i2l (q := 119) at_118 rfl ?_
            refine X.ldc2_w (q := 122) (v := (255 : Int64)) (hw _ (List.mem_of_getElem? (i := 9) rfl)) at_119 rfl ?_
            refine X.land (q := 123) at_122 rfl ?_
            refine X.lxor (q := 124) at_123 rfl ?_
            refine X.ldc2_w (q := 127) (v := (1099511628211 : Int64)) (hw _ (List.mem_of_getElem? (i := 10) rfl)) at_124 rfl ?_
            refine X.lmul (q := 128) at_127 rfl ?_
            refine X.lstore (q := 130) (Ls' := #[.val (.int x0), .val (.int x1), .val (.int x2), .val (.int x3), .val (.int x4), .val (.int (0 : Int32)), .val (.ref a2), .val (.ref a4), .val (.int (1 : Int32)), .val (.long (own_fnv [])), .second, .val (.long (own_fnv [(nar .byte x4.toInt8.toInt32)])), .second, .val (.long (((own_fnv []) ^^^ (x4.toInt64 &&& (255 : Int64))) * (1099511628211 : Int64))), .second]) at_128 rfl rfl ?_
            refine X.iload (q := 132) at_130 rfl rfl ?_
            refine X.if_eq (a := 1) (q' := 147) (q := 135) at_132 rfl (by decide) rfl (fun c132 => ?_) (fun c132 => ?_)
            · omega
            · refine X.lload (q := 137) at_135 rfl rfl ?_
              refine X.lload (q := 139) at_137 rfl rfl ?_
              refine X.lcmp_ne (q1 := 140) (q' := 147) (q := 143) at_139 rfl at_140 rfl rfl (by decide) rfl (fun c139 => ?_) (fun c139 => ?_)
              · exact absurd (congrArg Int64.toInt (by simp only [own_fnv, List.foldl, own_stp, own_nb])) c139
              · refine X.iconst (q := 144) (1 : Int32) at_143 (by decide) rfl ?_
                refine X.goto (q' := 148) at_144 (by decide) ?_
                refine X.retN (t := .boolean) (z' := (1 : Int32)) at_148 rfl (by simp) (by decide) (by decide) (by decide) ?_
                rfl
        · omega
      · omega
    · omega
  · refine X.istore (q := 5) (Ls' := #[.val (.int x0), .val (.int x1), .val (.int x2), .val (.int x3), .val (.int x4), .val (.int (1 : Int32)), .unset, .unset, .unset, .unset, .unset, .unset, .unset, .unset, .unset]) at_3 rfl rfl ?_
    refine X.iload (q := 7) at_5 rfl rfl ?_
    refine X.newP (q := 9) (ty := .byte) (N := 1) (cap := 1) (k' := 1) (n' := 1) (hw _ (List.mem_of_getElem? (i := 0) rfl)) at_7 rfl rfl (Nat.le_refl _) (by decide) rfl rfl (by decide) (by decide) rfl (fun h8 a9 ga9 Eh8 Aa9 => ?_)
    have gea9 : n0 ≤ a9 := by rw [ga9]; exact hn0
    have hsh8 : n0 ≤ h8.size := Nat.le_trans hn0 Eh8.1
    have Aa9 : OwA Z h8 a9 .byte [(.int (0 : Int32))] := Aa9
    refine X.astore (q := 11) (Ls' := #[.val (.int x0), .val (.int x1), .val (.int x2), .val (.int x3), .val (.int x4), .val (.int (1 : Int32)), .val (.ref a9), .unset, .unset, .unset, .unset, .unset, .unset, .unset, .unset]) at_9 rfl rfl rfl ?_
    refine X.iload (q := 13) at_11 rfl rfl ?_
    refine X.iconst (q := 14) (1 : Int32) at_13 (by decide) rfl ?_
    refine X.iadd (q := 15) at_14 rfl ?_
    refine X.foldI (v := (2 : Int32)) (by decide) ?_
    refine X.newP (q := 17) (ty := .byte) (N := 2) (cap := 2) (k' := 2) (n' := 3) (hw _ (List.mem_of_getElem? (i := 0) rfl)) at_15 rfl rfl (Nat.le_refl _) (by decide) rfl rfl (by decide) (by decide) rfl (fun h10 a11 ga11 Eh10 Aa11 => ?_)
    have la9_a11 : a9 < a11 := by have := Aa9.lt; rw [← ga11] at this; exact this
    have Aa9'h10 : OwA Z h10 a9 .byte [(.int (0 : Int32))] := OwA.ext (E := Eh10) Aa9
    have gea11 : n0 ≤ a11 := by rw [ga11]; exact hsh8
    have hsh10 : n0 ≤ h10.size := Nat.le_trans hsh8 Eh10.1
    have Aa11 : OwA Z h10 a11 .byte [(.int (0 : Int32)), (.int (0 : Int32))] := Aa11
    refine X.astore (q := 19) (Ls' := #[.val (.int x0), .val (.int x1), .val (.int x2), .val (.int x3), .val (.int x4), .val (.int (1 : Int32)), .val (.ref a9), .val (.ref a11), .unset, .unset, .unset, .unset, .unset, .unset, .unset]) at_17 rfl rfl rfl ?_
    refine X.iload (q := 21) at_19 rfl rfl ?_
    refine X.if_le (a := 1) (q' := 36) (q := 24) at_21 rfl (by decide) rfl (fun c21 => ?_) (fun c21 => ?_)
    · omega
    · refine X.aload (q := 26) at_24 rfl rfl rfl ?_
      refine X.iconst (q := 27) (0 : Int32) at_26 (by decide) rfl ?_
      refine X.iloadN (q := 28) at_27 rfl rfl ?_
      refine X.i2b (q := 29) at_28 rfl ?_
      refine X.bastore (q := 30) (j := 0) Aa9'h10 rfl (by simp) gea9 at_29 rfl (fun h12 Wh12 Ah12 => ?_)
      have Aa11'h12 : OwA Z h12 a11 .byte [(.int (0 : Int32)), (.int (0 : Int32))] := OwA.other Aa11 Wh12 (Nat.ne_of_gt la9_a11)
      have hsh12 : n0 ≤ h12.size := by rw [Wr.size Wh12]; exact hsh10
      have Ah12_ : OwA Z h12 a9 .byte [(.int (nar .byte x1.toInt8.toInt32))] := Ah12
      refine X.aload (q := 32) at_30 rfl rfl rfl ?_
      refine X.iconst (q := 33) (0 : Int32) at_32 (by decide) rfl ?_
      refine X.iloadN (q := 34) at_33 rfl rfl ?_
      refine X.i2b (q := 35) at_34 rfl ?_
      refine X.bastore (q := 36) (j := 0) Aa11'h12 rfl (by simp) gea11 at_35 rfl (fun h13 Wh13 Ah13 => ?_)
      have Ah12_'h13 : OwA Z h13 a9 .byte [(.int (nar .byte x1.toInt8.toInt32))] := OwA.other Ah12_ Wh13 (Nat.ne_of_lt la9_a11)
      have hsh13 : n0 ≤ h13.size := by rw [Wr.size Wh13]; exact hsh12
      have Ah13_ : OwA Z h13 a11 .byte [(.int (nar .byte x1.toInt8.toInt32)), (.int (0 : Int32))] := Ah13
      refine X.iload (q := 38) at_36 rfl rfl ?_
      refine X.iconst (q := 39) (1 : Int32) at_38 (by decide) rfl ?_
      refine X.icmp_le (a := 1) (b := 1) (q' := 54) (q := 42) at_39 rfl rfl (by decide) rfl (fun c39 => ?_) (fun c39 => ?_)
      · refine X.iload (q := 56) at_54 rfl rfl ?_
        refine X.iconst (q := 57) (2 : Int32) at_56 (by decide) rfl ?_
        refine X.icmp_le (a := 1) (b := 2) (q' := 72) (q := 60) at_57 rfl rfl (by decide) rfl (fun c57 => ?_) (fun c57 => ?_)
        · refine X.aload (q := 74) at_72 rfl rfl rfl ?_
          refine X.iload (q := 76) at_74 rfl rfl ?_
          refine X.iload (q := 78) at_76 rfl rfl ?_
          refine X.i2b (q := 79) at_78 rfl ?_
          refine X.bastore (q := 80) (j := 1) Ah13_ rfl (by simp) gea11 at_79 rfl (fun h14 Wh14 Ah14 => ?_)
          have Ah12_'h14 : OwA Z h14 a9 .byte [(.int (nar .byte x1.toInt8.toInt32))] := OwA.other Ah12_'h13 Wh14 (Nat.ne_of_lt la9_a11)
          have hsh14 : n0 ≤ h14.size := by rw [Wr.size Wh14]; exact hsh13
          have Ah14_ : OwA Z h14 a11 .byte [(.int (nar .byte x1.toInt8.toInt32)), (.int (nar .byte x4.toInt8.toInt32))] := Ah14
          refine X.iconst (q := 81) (0 : Int32) at_80 (by decide) rfl ?_
          refine X.newP (q := 83) (ty := .byte) (N := 0) (cap := 0) (k' := 3) (n' := 3) (hw _ (List.mem_of_getElem? (i := 0) rfl)) at_81 rfl rfl (Nat.le_refl _) (by decide) rfl rfl (by decide) (by decide) rfl (fun h15 a16 ga16 Eh15 Aa16 => ?_)
          have la9_a16 : a9 < a16 := by have := Ah12_'h14.lt; rw [← ga16] at this; exact this
          have la11_a16 : a11 < a16 := by have := Ah14_.lt; rw [← ga16] at this; exact this
          have Ah12_'h15 : OwA Z h15 a9 .byte [(.int (nar .byte x1.toInt8.toInt32))] := OwA.ext (E := Eh15) Ah12_'h14
          have Ah14_'h15 : OwA Z h15 a11 .byte [(.int (nar .byte x1.toInt8.toInt32)), (.int (nar .byte x4.toInt8.toInt32))] := OwA.ext (E := Eh15) Ah14_
          have gea16 : n0 ≤ a16 := by rw [ga16]; exact hsh14
          have hsh15 : n0 ≤ h15.size := Nat.le_trans hsh14 Eh15.1
          have Aa16 : OwA Z h15 a16 .byte [] := Aa16
          refine X.callS (own_hash l Z a0 hw h15 n0 a16 [] (0 : Int32) rfl hsh15 Aa16) (hw _ (List.mem_of_getElem? (i := 1) rfl)) (hw _ (List.mem_of_getElem? (i := 2) rfl)) (hw _ (List.mem_of_getElem? (i := 3) rfl)) (hw _ (List.mem_of_getElem? (i := 4) rfl)) (by decide) own_pd0 (argsL := [(.ref a16)]) (rest := []) rfl rfl rfl (W := 0) (Nat.le_of_eq rfl) rfl (by decide) (by decide) (k' := 3) (n' := 3) rfl rfl (by decide) (by decide) at_83 (q := 86) rfl ?_
          rintro _ _ ⟨rfl, rfl⟩
          show X.G h15 3 3 86 #[.val (.int x0), .val (.int x1), .val (.int x2), .val (.int x3), .val (.int x4), .val (.int (1 : Int32)), .val (.ref a9), .val (.ref a11), .unset, .unset, .unset, .unset, .unset, .unset, .unset] [(.long (own_fnv []))]
          refine X.ldc2_w (q := 89) (v := (-3750763034362895579 : Int64)) (hw _ (List.mem_of_getElem? (i := 6) rfl)) at_86 rfl ?_
          refine X.lcmp_ne (b := (-3750763034362895579)) (q1 := 90) (q' := 97) (q := 93) at_89 rfl at_90 rfl rfl (by decide) rfl (fun c89 => ?_) (fun c89 => ?_)
          · exact absurd rfl c89
          · refine X.iconst (q := 94) (1 : Int32) at_93 (by decide) rfl ?_
            refine X.goto (q' := 98) at_94 (by decide) ?_
            refine X.istore (q := 100) (Ls' := #[.val (.int x0), .val (.int x1), .val (.int x2), .val (.int x3), .val (.int x4), .val (.int (1 : Int32)), .val (.ref a9), .val (.ref a11), .val (.int (1 : Int32)), .unset, .unset, .unset, .unset, .unset, .unset]) at_98 rfl rfl ?_
            refine X.aload (q := 102) at_100 rfl rfl rfl ?_
            refine X.callS (own_hash l Z a0 hw h15 n0 a9 [(nar .byte x1.toInt8.toInt32)] (1 : Int32) rfl hsh15 Ah12_'h15) (hw _ (List.mem_of_getElem? (i := 1) rfl)) (hw _ (List.mem_of_getElem? (i := 2) rfl)) (hw _ (List.mem_of_getElem? (i := 3) rfl)) (hw _ (List.mem_of_getElem? (i := 4) rfl)) (by decide) own_pd0 (argsL := [(.ref a9)]) (rest := []) rfl rfl rfl (W := 0) (Nat.le_of_eq rfl) rfl (by decide) (by decide) (k' := 3) (n' := 3) rfl rfl (by decide) (by decide) at_102 (q := 105) rfl ?_
            rintro _ _ ⟨rfl, rfl⟩
            show X.G h15 3 3 105 #[.val (.int x0), .val (.int x1), .val (.int x2), .val (.int x3), .val (.int x4), .val (.int (1 : Int32)), .val (.ref a9), .val (.ref a11), .val (.int (1 : Int32)), .unset, .unset, .unset, .unset, .unset, .unset] [(.long (own_fnv [(nar .byte x1.toInt8.toInt32)]))]
            refine X.lstore (q := 107) (Ls' := #[.val (.int x0), .val (.int x1), .val (.int x2), .val (.int x3), .val (.int x4), .val (.int (1 : Int32)), .val (.ref a9), .val (.ref a11), .val (.int (1 : Int32)), .val (.long (own_fnv [(nar .byte x1.toInt8.toInt32)])), .second, .unset, .unset, .unset, .unset]) at_105 rfl rfl ?_
            refine X.aload (q := 109) at_107 rfl rfl rfl ?_
            refine X.callS (own_hash l Z a0 hw h15 n0 a11 [(nar .byte x1.toInt8.toInt32), (nar .byte x4.toInt8.toInt32)] (2 : Int32) rfl hsh15 Ah14_'h15) (hw _ (List.mem_of_getElem? (i := 1) rfl)) (hw _ (List.mem_of_getElem? (i := 2) rfl)) (hw _ (List.mem_of_getElem? (i := 3) rfl)) (hw _ (List.mem_of_getElem? (i := 4) rfl)) (by decide) own_pd0 (argsL := [(.ref a11)]) (rest := []) rfl rfl rfl (W := 0) (Nat.le_of_eq rfl) rfl (by decide) (by decide) (k' := 3) (n' := 3) rfl rfl (by decide) (by decide) at_109 (q := 112) rfl ?_
            rintro _ _ ⟨rfl, rfl⟩
            show X.G h15 3 3 112 #[.val (.int x0), .val (.int x1), .val (.int x2), .val (.int x3), .val (.int x4), .val (.int (1 : Int32)), .val (.ref a9), .val (.ref a11), .val (.int (1 : Int32)), .val (.long (own_fnv [(nar .byte x1.toInt8.toInt32)])), .second, .unset, .unset, .unset, .unset] [(.long (own_fnv [(nar .byte x1.toInt8.toInt32), (nar .byte x4.toInt8.toInt32)]))]
            refine X.lstore (q := 114) (Ls' := #[.val (.int x0), .val (.int x1), .val (.int x2), .val (.int x3), .val (.int x4), .val (.int (1 : Int32)), .val (.ref a9), .val (.ref a11), .val (.int (1 : Int32)), .val (.long (own_fnv [(nar .byte x1.toInt8.toInt32)])), .second, .val (.long (own_fnv [(nar .byte x1.toInt8.toInt32), (nar .byte x4.toInt8.toInt32)])), .second, .unset, .unset]) at_112 rfl rfl ?_
            refine X.lload (q := 116) at_114 rfl rfl ?_
            refine X.iload (q := 118) at_116 rfl rfl ?_
            refine X.i2l (q := 119) at_118 rfl ?_
            refine X.ldc2_w (q := 122) (v := (255 : Int64)) (hw _ (List.mem_of_getElem? (i := 9) rfl)) at_119 rfl ?_
            refine X.land (q := 123) at_122 rfl ?_
            refine X.lxor (q := 124) at_123 rfl ?_
            refine X.ldc2_w (q := 127) (v := (1099511628211 : Int64)) (hw _ (List.mem_of_getElem? (i := 10) rfl)) at_124 rfl ?_
            refine X.lmul (q := 128) at_127 rfl ?_
            refine X.lstore (q := 130) (Ls' := #[.val (.int x0), .val (.int x1), .val (.int x2), .val (.int x3), .val (.int x4), .val (.int (1 : Int32)), .val (.ref a9), .val (.ref a11), .val (.int (1 : Int32)), .val (.long (own_fnv [(nar .byte x1.toInt8.toInt32)])), .second, .val (.long (own_fnv [(nar .byte x1.toInt8.toInt32), (nar .byte x4.toInt8.toInt32)])), .second, .val (.long (((own_fnv [(nar .byte x1.toInt8.toInt32)]) ^^^ (x4.toInt64 &&& (255 : Int64))) * (1099511628211 : Int64))), .second]) at_128 rfl rfl ?_
            refine X.iload (q := 132) at_130 rfl rfl ?_
            refine X.if_eq (a := 1) (q' := 147) (q := 135) at_132 rfl (by decide) rfl (fun c132 => ?_) (fun c132 => ?_)
            · omega
            · refine X.lload (q := 137) at_135 rfl rfl ?_
              refine X.lload (q := 139) at_137 rfl rfl ?_
              refine X.lcmp_ne (q1 := 140) (q' := 147) (q := 143) at_139 rfl at_140 rfl rfl (by decide) rfl (fun c139 => ?_) (fun c139 => ?_)
              · exact absurd (congrArg Int64.toInt (by simp only [own_fnv, List.foldl, own_stp, own_nb])) c139
              · refine X.iconst (q := 144) (1 : Int32) at_143 (by decide) rfl ?_
                refine X.goto (q' := 148) at_144 (by decide) ?_
                refine X.retN (t := .boolean) (z' := (1 : Int32)) at_148 rfl (by simp) (by decide) (by decide) (by decide) ?_
                rfl
        · omega
      · omega
  · refine X.istore (q := 5) (Ls' := #[.val (.int x0), .val (.int x1), .val (.int x2), .val (.int x3), .val (.int x4), .val (.int (2 : Int32)), .unset, .unset, .unset, .unset, .unset, .unset, .unset, .unset, .unset]) at_3 rfl rfl ?_
    refine X.iload (q := 7) at_5 rfl rfl ?_
    refine X.newP (q := 9) (ty := .byte) (N := 2) (cap := 2) (k' := 1) (n' := 2) (hw _ (List.mem_of_getElem? (i := 0) rfl)) at_7 rfl rfl (Nat.le_refl _) (by decide) rfl rfl (by decide) (by decide) rfl (fun h17 a18 ga18 Eh17 Aa18 => ?_)
    have gea18 : n0 ≤ a18 := by rw [ga18]; exact hn0
    have hsh17 : n0 ≤ h17.size := Nat.le_trans hn0 Eh17.1
    have Aa18 : OwA Z h17 a18 .byte [(.int (0 : Int32)), (.int (0 : Int32))] := Aa18
    refine X.astore (q := 11) (Ls' := #[.val (.int x0), .val (.int x1), .val (.int x2), .val (.int x3), .val (.int x4), .val (.int (2 : Int32)), .val (.ref a18), .unset, .unset, .unset, .unset, .unset, .unset, .unset, .unset]) at_9 rfl rfl rfl ?_
    refine X.iload (q := 13) at_11 rfl rfl ?_
    refine X.iconst (q := 14) (1 : Int32) at_13 (by decide) rfl ?_
    refine X.iadd (q := 15) at_14 rfl ?_
    refine X.foldI (v := (3 : Int32)) (by decide) ?_
    refine X.newP (q := 17) (ty := .byte) (N := 3) (cap := 3) (k' := 2) (n' := 5) (hw _ (List.mem_of_getElem? (i := 0) rfl)) at_15 rfl rfl (Nat.le_refl _) (by decide) rfl rfl (by decide) (by decide) rfl (fun h19 a20 ga20 Eh19 Aa20 => ?_)
    have la18_a20 : a18 < a20 := by have := Aa18.lt; rw [← ga20] at this; exact this
    have Aa18'h19 : OwA Z h19 a18 .byte [(.int (0 : Int32)), (.int (0 : Int32))] := OwA.ext (E := Eh19) Aa18
    have gea20 : n0 ≤ a20 := by rw [ga20]; exact hsh17
    have hsh19 : n0 ≤ h19.size := Nat.le_trans hsh17 Eh19.1
    have Aa20 : OwA Z h19 a20 .byte [(.int (0 : Int32)), (.int (0 : Int32)), (.int (0 : Int32))] := Aa20
    refine X.astore (q := 19) (Ls' := #[.val (.int x0), .val (.int x1), .val (.int x2), .val (.int x3), .val (.int x4), .val (.int (2 : Int32)), .val (.ref a18), .val (.ref a20), .unset, .unset, .unset, .unset, .unset, .unset, .unset]) at_17 rfl rfl rfl ?_
    refine X.iload (q := 21) at_19 rfl rfl ?_
    refine X.if_le (a := 2) (q' := 36) (q := 24) at_21 rfl (by decide) rfl (fun c21 => ?_) (fun c21 => ?_)
    · omega
    · refine X.aload (q := 26) at_24 rfl rfl rfl ?_
      refine X.iconst (q := 27) (0 : Int32) at_26 (by decide) rfl ?_
      refine X.iloadN (q := 28) at_27 rfl rfl ?_
      refine X.i2b (q := 29) at_28 rfl ?_
      refine X.bastore (q := 30) (j := 0) Aa18'h19 rfl (by simp) gea18 at_29 rfl (fun h21 Wh21 Ah21 => ?_)
      have Aa20'h21 : OwA Z h21 a20 .byte [(.int (0 : Int32)), (.int (0 : Int32)), (.int (0 : Int32))] := OwA.other Aa20 Wh21 (Nat.ne_of_gt la18_a20)
      have hsh21 : n0 ≤ h21.size := by rw [Wr.size Wh21]; exact hsh19
      have Ah21_ : OwA Z h21 a18 .byte [(.int (nar .byte x1.toInt8.toInt32)), (.int (0 : Int32))] := Ah21
      refine X.aload (q := 32) at_30 rfl rfl rfl ?_
      refine X.iconst (q := 33) (0 : Int32) at_32 (by decide) rfl ?_
      refine X.iloadN (q := 34) at_33 rfl rfl ?_
      refine X.i2b (q := 35) at_34 rfl ?_
      refine X.bastore (q := 36) (j := 0) Aa20'h21 rfl (by simp) gea20 at_35 rfl (fun h22 Wh22 Ah22 => ?_)
      have Ah21_'h22 : OwA Z h22 a18 .byte [(.int (nar .byte x1.toInt8.toInt32)), (.int (0 : Int32))] := OwA.other Ah21_ Wh22 (Nat.ne_of_lt la18_a20)
      have hsh22 : n0 ≤ h22.size := by rw [Wr.size Wh22]; exact hsh21
      have Ah22_ : OwA Z h22 a20 .byte [(.int (nar .byte x1.toInt8.toInt32)), (.int (0 : Int32)), (.int (0 : Int32))] := Ah22
      refine X.iload (q := 38) at_36 rfl rfl ?_
      refine X.iconst (q := 39) (1 : Int32) at_38 (by decide) rfl ?_
      refine X.icmp_le (a := 2) (b := 1) (q' := 54) (q := 42) at_39 rfl rfl (by decide) rfl (fun c39 => ?_) (fun c39 => ?_)
      · omega
      · refine X.aload (q := 44) at_42 rfl rfl rfl ?_
        refine X.iconst (q := 45) (1 : Int32) at_44 (by decide) rfl ?_
        refine X.iloadN (q := 46) at_45 rfl rfl ?_
        refine X.i2b (q := 47) at_46 rfl ?_
        refine X.bastore (q := 48) (j := 1) Ah21_'h22 rfl (by simp) gea18 at_47 rfl (fun h23 Wh23 Ah23 => ?_)
        have Ah22_'h23 : OwA Z h23 a20 .byte [(.int (nar .byte x1.toInt8.toInt32)), (.int (0 : Int32)), (.int (0 : Int32))] := OwA.other Ah22_ Wh23 (Nat.ne_of_gt la18_a20)
        have hsh23 : n0 ≤ h23.size := by rw [Wr.size Wh23]; exact hsh22
        have Ah23_ : OwA Z h23 a18 .byte [(.int (nar .byte x1.toInt8.toInt32)), (.int (nar .byte x2.toInt8.toInt32))] := Ah23
        refine X.aload (q := 50) at_48 rfl rfl rfl ?_
        refine X.iconst (q := 51) (1 : Int32) at_50 (by decide) rfl ?_
        refine X.iloadN (q := 52) at_51 rfl rfl ?_
        refine X.i2b (q := 53) at_52 rfl ?_
        refine X.bastore (q := 54) (j := 1) Ah22_'h23 rfl (by simp) gea20 at_53 rfl (fun h24 Wh24 Ah24 => ?_)
        have Ah23_'h24 : OwA Z h24 a18 .byte [(.int (nar .byte x1.toInt8.toInt32)), (.int (nar .byte x2.toInt8.toInt32))] := OwA.other Ah23_ Wh24 (Nat.ne_of_lt la18_a20)
        have hsh24 : n0 ≤ h24.size := by rw [Wr.size Wh24]; exact hsh23
        have Ah24_ : OwA Z h24 a20 .byte [(.int (nar .byte x1.toInt8.toInt32)), (.int (nar .byte x2.toInt8.toInt32)), (.int (0 : Int32))] := Ah24
        refine X.iload (q := 56) at_54 rfl rfl ?_
        refine X.iconst (q := 57) (2 : Int32) at_56 (by decide) rfl ?_
        refine X.icmp_le (a := 2) (b := 2) (q' := 72) (q := 60) at_57 rfl rfl (by decide) rfl (fun c57 => ?_) (fun c57 => ?_)
        · refine X.aload (q := 74) at_72 rfl rfl rfl ?_
          refine X.iload (q := 76) at_74 rfl rfl ?_
          refine X.iload (q := 78) at_76 rfl rfl ?_
          refine X.i2b (q := 79) at_78 rfl ?_
          refine X.bastore (q := 80) (j := 2) Ah24_ rfl (by simp) gea20 at_79 rfl (fun h25 Wh25 Ah25 => ?_)
          have Ah23_'h25 : OwA Z h25 a18 .byte [(.int (nar .byte x1.toInt8.toInt32)), (.int (nar .byte x2.toInt8.toInt32))] := OwA.other Ah23_'h24 Wh25 (Nat.ne_of_lt la18_a20)
          have hsh25 : n0 ≤ h25.size := by rw [Wr.size Wh25]; exact hsh24
          have Ah25_ : OwA Z h25 a20 .byte [(.int (nar .byte x1.toInt8.toInt32)), (.int (nar .byte x2.toInt8.toInt32)), (.int (nar .byte x4.toInt8.toInt32))] := Ah25
          refine X.iconst (q := 81) (0 : Int32) at_80 (by decide) rfl ?_
          refine X.newP (q := 83) (ty := .byte) (N := 0) (cap := 0) (k' := 3) (n' := 5) (hw _ (List.mem_of_getElem? (i := 0) rfl)) at_81 rfl rfl (Nat.le_refl _) (by decide) rfl rfl (by decide) (by decide) rfl (fun h26 a27 ga27 Eh26 Aa27 => ?_)
          have la18_a27 : a18 < a27 := by have := Ah23_'h25.lt; rw [← ga27] at this; exact this
          have la20_a27 : a20 < a27 := by have := Ah25_.lt; rw [← ga27] at this; exact this
          have Ah23_'h26 : OwA Z h26 a18 .byte [(.int (nar .byte x1.toInt8.toInt32)), (.int (nar .byte x2.toInt8.toInt32))] := OwA.ext (E := Eh26) Ah23_'h25
          have Ah25_'h26 : OwA Z h26 a20 .byte [(.int (nar .byte x1.toInt8.toInt32)), (.int (nar .byte x2.toInt8.toInt32)), (.int (nar .byte x4.toInt8.toInt32))] := OwA.ext (E := Eh26) Ah25_
          have gea27 : n0 ≤ a27 := by rw [ga27]; exact hsh25
          have hsh26 : n0 ≤ h26.size := Nat.le_trans hsh25 Eh26.1
          have Aa27 : OwA Z h26 a27 .byte [] := Aa27
          refine X.callS (own_hash l Z a0 hw h26 n0 a27 [] (0 : Int32) rfl hsh26 Aa27) (hw _ (List.mem_of_getElem? (i := 1) rfl)) (hw _ (List.mem_of_getElem? (i := 2) rfl)) (hw _ (List.mem_of_getElem? (i := 3) rfl)) (hw _ (List.mem_of_getElem? (i := 4) rfl)) (by decide) own_pd0 (argsL := [(.ref a27)]) (rest := []) rfl rfl rfl (W := 0) (Nat.le_of_eq rfl) rfl (by decide) (by decide) (k' := 3) (n' := 5) rfl rfl (by decide) (by decide) at_83 (q := 86) rfl ?_
          rintro _ _ ⟨rfl, rfl⟩
          show X.G h26 3 5 86 #[.val (.int x0), .val (.int x1), .val (.int x2), .val (.int x3), .val (.int x4), .val (.int (2 : Int32)), .val (.ref a18), .val (.ref a20), .unset, .unset, .unset, .unset, .unset, .unset, .unset] [(.long (own_fnv []))]
          refine X.ldc2_w (q := 89) (v := (-3750763034362895579 : Int64)) (hw _ (List.mem_of_getElem? (i := 6) rfl)) at_86 rfl ?_
          refine X.lcmp_ne (b := (-3750763034362895579)) (q1 := 90) (q' := 97) (q := 93) at_89 rfl at_90 rfl rfl (by decide) rfl (fun c89 => ?_) (fun c89 => ?_)
          · exact absurd rfl c89
          · refine X.iconst (q := 94) (1 : Int32) at_93 (by decide) rfl ?_
            refine X.goto (q' := 98) at_94 (by decide) ?_
            refine X.istore (q := 100) (Ls' := #[.val (.int x0), .val (.int x1), .val (.int x2), .val (.int x3), .val (.int x4), .val (.int (2 : Int32)), .val (.ref a18), .val (.ref a20), .val (.int (1 : Int32)), .unset, .unset, .unset, .unset, .unset, .unset]) at_98 rfl rfl ?_
            refine X.aload (q := 102) at_100 rfl rfl rfl ?_
            refine X.callS (own_hash l Z a0 hw h26 n0 a18 [(nar .byte x1.toInt8.toInt32), (nar .byte x2.toInt8.toInt32)] (2 : Int32) rfl hsh26 Ah23_'h26) (hw _ (List.mem_of_getElem? (i := 1) rfl)) (hw _ (List.mem_of_getElem? (i := 2) rfl)) (hw _ (List.mem_of_getElem? (i := 3) rfl)) (hw _ (List.mem_of_getElem? (i := 4) rfl)) (by decide) own_pd0 (argsL := [(.ref a18)]) (rest := []) rfl rfl rfl (W := 0) (Nat.le_of_eq rfl) rfl (by decide) (by decide) (k' := 3) (n' := 5) rfl rfl (by decide) (by decide) at_102 (q := 105) rfl ?_
            rintro _ _ ⟨rfl, rfl⟩
            show X.G h26 3 5 105 #[.val (.int x0), .val (.int x1), .val (.int x2), .val (.int x3), .val (.int x4), .val (.int (2 : Int32)), .val (.ref a18), .val (.ref a20), .val (.int (1 : Int32)), .unset, .unset, .unset, .unset, .unset, .unset] [(.long (own_fnv [(nar .byte x1.toInt8.toInt32), (nar .byte x2.toInt8.toInt32)]))]
            refine X.lstore (q := 107) (Ls' := #[.val (.int x0), .val (.int x1), .val (.int x2), .val (.int x3), .val (.int x4), .val (.int (2 : Int32)), .val (.ref a18), .val (.ref a20), .val (.int (1 : Int32)), .val (.long (own_fnv [(nar .byte x1.toInt8.toInt32), (nar .byte x2.toInt8.toInt32)])), .second, .unset, .unset, .unset, .unset]) at_105 rfl rfl ?_
            refine X.aload (q := 109) at_107 rfl rfl rfl ?_
            refine X.callS (own_hash l Z a0 hw h26 n0 a20 [(nar .byte x1.toInt8.toInt32), (nar .byte x2.toInt8.toInt32), (nar .byte x4.toInt8.toInt32)] (3 : Int32) rfl hsh26 Ah25_'h26) (hw _ (List.mem_of_getElem? (i := 1) rfl)) (hw _ (List.mem_of_getElem? (i := 2) rfl)) (hw _ (List.mem_of_getElem? (i := 3) rfl)) (hw _ (List.mem_of_getElem? (i := 4) rfl)) (by decide) own_pd0 (argsL := [(.ref a20)]) (rest := []) rfl rfl rfl (W := 0) (Nat.le_of_eq rfl) rfl (by decide) (by decide) (k' := 3) (n' := 5) rfl rfl (by decide) (by decide) at_109 (q := 112) rfl ?_
            rintro _ _ ⟨rfl, rfl⟩
            show X.G h26 3 5 112 #[.val (.int x0), .val (.int x1), .val (.int x2), .val (.int x3), .val (.int x4), .val (.int (2 : Int32)), .val (.ref a18), .val (.ref a20), .val (.int (1 : Int32)), .val (.long (own_fnv [(nar .byte x1.toInt8.toInt32), (nar .byte x2.toInt8.toInt32)])), .second, .unset, .unset, .unset, .unset] [(.long (own_fnv [(nar .byte x1.toInt8.toInt32), (nar .byte x2.toInt8.toInt32), (nar .byte x4.toInt8.toInt32)]))]
            refine X.lstore (q := 114) (Ls' := #[.val (.int x0), .val (.int x1), .val (.int x2), .val (.int x3), .val (.int x4), .val (.int (2 : Int32)), .val (.ref a18), .val (.ref a20), .val (.int (1 : Int32)), .val (.long (own_fnv [(nar .byte x1.toInt8.toInt32), (nar .byte x2.toInt8.toInt32)])), .second, .val (.long (own_fnv [(nar .byte x1.toInt8.toInt32), (nar .byte x2.toInt8.toInt32), (nar .byte x4.toInt8.toInt32)])), .second, .unset, .unset]) at_112 rfl rfl ?_
            refine X.lload (q := 116) at_114 rfl rfl ?_
            refine X.iload (q := 118) at_116 rfl rfl ?_
            refine X.i2l (q := 119) at_118 rfl ?_
            refine X.ldc2_w (q := 122) (v := (255 : Int64)) (hw _ (List.mem_of_getElem? (i := 9) rfl)) at_119 rfl ?_
            refine X.land (q := 123) at_122 rfl ?_
            refine X.lxor (q := 124) at_123 rfl ?_
            refine X.ldc2_w (q := 127) (v := (1099511628211 : Int64)) (hw _ (List.mem_of_getElem? (i := 10) rfl)) at_124 rfl ?_
            refine X.lmul (q := 128) at_127 rfl ?_
            refine X.lstore (q := 130) (Ls' := #[.val (.int x0), .val (.int x1), .val (.int x2), .val (.int x3), .val (.int x4), .val (.int (2 : Int32)), .val (.ref a18), .val (.ref a20), .val (.int (1 : Int32)), .val (.long (own_fnv [(nar .byte x1.toInt8.toInt32), (nar .byte x2.toInt8.toInt32)])), .second, .val (.long (own_fnv [(nar .byte x1.toInt8.toInt32), (nar .byte x2.toInt8.toInt32), (nar .byte x4.toInt8.toInt32)])), .second, .val (.long (((own_fnv [(nar .byte x1.toInt8.toInt32), (nar .byte x2.toInt8.toInt32)]) ^^^ (x4.toInt64 &&& (255 : Int64))) * (1099511628211 : Int64))), .second]) at_128 rfl rfl ?_
            refine X.iload (q := 132) at_130 rfl rfl ?_
            refine X.if_eq (a := 1) (q' := 147) (q := 135) at_132 rfl (by decide) rfl (fun c132 => ?_) (fun c132 => ?_)
            · omega
            · refine X.lload (q := 137) at_135 rfl rfl ?_
              refine X.lload (q := 139) at_137 rfl rfl ?_
              refine X.lcmp_ne (q1 := 140) (q' := 147) (q := 143) at_139 rfl at_140 rfl rfl (by decide) rfl (fun c139 => ?_) (fun c139 => ?_)
              · exact absurd (congrArg Int64.toInt (by simp only [own_fnv, List.foldl, own_stp, own_nb])) c139
              · refine X.iconst (q := 144) (1 : Int32) at_143 (by decide) rfl ?_
                refine X.goto (q' := 148) at_144 (by decide) ?_
                refine X.retN (t := .boolean) (z' := (1 : Int32)) at_148 rfl (by simp) (by decide) (by decide) (by decide) ?_
                rfl
        · omega
  · refine X.istore (q := 5) (Ls' := #[.val (.int x0), .val (.int x1), .val (.int x2), .val (.int x3), .val (.int x4), .val (.int (3 : Int32)), .unset, .unset, .unset, .unset, .unset, .unset, .unset, .unset, .unset]) at_3 rfl rfl ?_
    refine X.iload (q := 7) at_5 rfl rfl ?_
    refine X.newP (q := 9) (ty := .byte) (N := 3) (cap := 3) (k' := 1) (n' := 3) (hw _ (List.mem_of_getElem? (i := 0) rfl)) at_7 rfl rfl (Nat.le_refl _) (by decide) rfl rfl (by decide) (by decide) rfl (fun h28 a29 ga29 Eh28 Aa29 => ?_)
    have gea29 : n0 ≤ a29 := by rw [ga29]; exact hn0
    have hsh28 : n0 ≤ h28.size := Nat.le_trans hn0 Eh28.1
    have Aa29 : OwA Z h28 a29 .byte [(.int (0 : Int32)), (.int (0 : Int32)), (.int (0 : Int32))] := Aa29
    refine X.astore (q := 11) (Ls' := #[.val (.int x0), .val (.int x1), .val (.int x2), .val (.int x3), .val (.int x4), .val (.int (3 : Int32)), .val (.ref a29), .unset, .unset, .unset, .unset, .unset, .unset, .unset, .unset]) at_9 rfl rfl rfl ?_
    refine X.iload (q := 13) at_11 rfl rfl ?_
    refine X.iconst (q := 14) (1 : Int32) at_13 (by decide) rfl ?_
    refine X.iadd (q := 15) at_14 rfl ?_
    refine X.foldI (v := (4 : Int32)) (by decide) ?_
    refine X.newP (q := 17) (ty := .byte) (N := 4) (cap := 4) (k' := 2) (n' := 7) (hw _ (List.mem_of_getElem? (i := 0) rfl)) at_15 rfl rfl (Nat.le_refl _) (by decide) rfl rfl (by decide) (by decide) rfl (fun h30 a31 ga31 Eh30 Aa31 => ?_)
    have la29_a31 : a29 < a31 := by have := Aa29.lt; rw [← ga31] at this; exact this
    have Aa29'h30 : OwA Z h30 a29 .byte [(.int (0 : Int32)), (.int (0 : Int32)), (.int (0 : Int32))] := OwA.ext (E := Eh30) Aa29
    have gea31 : n0 ≤ a31 := by rw [ga31]; exact hsh28
    have hsh30 : n0 ≤ h30.size := Nat.le_trans hsh28 Eh30.1
    have Aa31 : OwA Z h30 a31 .byte [(.int (0 : Int32)), (.int (0 : Int32)), (.int (0 : Int32)), (.int (0 : Int32))] := Aa31
    refine X.astore (q := 19) (Ls' := #[.val (.int x0), .val (.int x1), .val (.int x2), .val (.int x3), .val (.int x4), .val (.int (3 : Int32)), .val (.ref a29), .val (.ref a31), .unset, .unset, .unset, .unset, .unset, .unset, .unset]) at_17 rfl rfl rfl ?_
    refine X.iload (q := 21) at_19 rfl rfl ?_
    refine X.if_le (a := 3) (q' := 36) (q := 24) at_21 rfl (by decide) rfl (fun c21 => ?_) (fun c21 => ?_)
    · omega
    · refine X.aload (q := 26) at_24 rfl rfl rfl ?_
      refine X.iconst (q := 27) (0 : Int32) at_26 (by decide) rfl ?_
      refine X.iloadN (q := 28) at_27 rfl rfl ?_
      refine X.i2b (q := 29) at_28 rfl ?_
      refine X.bastore (q := 30) (j := 0) Aa29'h30 rfl (by simp) gea29 at_29 rfl (fun h32 Wh32 Ah32 => ?_)
      have Aa31'h32 : OwA Z h32 a31 .byte [(.int (0 : Int32)), (.int (0 : Int32)), (.int (0 : Int32)), (.int (0 : Int32))] := OwA.other Aa31 Wh32 (Nat.ne_of_gt la29_a31)
      have hsh32 : n0 ≤ h32.size := by rw [Wr.size Wh32]; exact hsh30
      have Ah32_ : OwA Z h32 a29 .byte [(.int (nar .byte x1.toInt8.toInt32)), (.int (0 : Int32)), (.int (0 : Int32))] := Ah32
      refine X.aload (q := 32) at_30 rfl rfl rfl ?_
      refine X.iconst (q := 33) (0 : Int32) at_32 (by decide) rfl ?_
      refine X.iloadN (q := 34) at_33 rfl rfl ?_
      refine X.i2b (q := 35) at_34 rfl ?_
      refine X.bastore (q := 36) (j := 0) Aa31'h32 rfl (by simp) gea31 at_35 rfl (fun h33 Wh33 Ah33 => ?_)
      have Ah32_'h33 : OwA Z h33 a29 .byte [(.int (nar .byte x1.toInt8.toInt32)), (.int (0 : Int32)), (.int (0 : Int32))] := OwA.other Ah32_ Wh33 (Nat.ne_of_lt la29_a31)
      have hsh33 : n0 ≤ h33.size := by rw [Wr.size Wh33]; exact hsh32
      have Ah33_ : OwA Z h33 a31 .byte [(.int (nar .byte x1.toInt8.toInt32)), (.int (0 : Int32)), (.int (0 : Int32)), (.int (0 : Int32))] := Ah33
      refine X.iload (q := 38) at_36 rfl rfl ?_
      refine X.iconst (q := 39) (1 : Int32) at_38 (by decide) rfl ?_
      refine X.icmp_le (a := 3) (b := 1) (q' := 54) (q := 42) at_39 rfl rfl (by decide) rfl (fun c39 => ?_) (fun c39 => ?_)
      · omega
      · refine X.aload (q := 44) at_42 rfl rfl rfl ?_
        refine X.iconst (q := 45) (1 : Int32) at_44 (by decide) rfl ?_
        refine X.iloadN (q := 46) at_45 rfl rfl ?_
        refine X.i2b (q := 47) at_46 rfl ?_
        refine X.bastore (q := 48) (j := 1) Ah32_'h33 rfl (by simp) gea29 at_47 rfl (fun h34 Wh34 Ah34 => ?_)
        have Ah33_'h34 : OwA Z h34 a31 .byte [(.int (nar .byte x1.toInt8.toInt32)), (.int (0 : Int32)), (.int (0 : Int32)), (.int (0 : Int32))] := OwA.other Ah33_ Wh34 (Nat.ne_of_gt la29_a31)
        have hsh34 : n0 ≤ h34.size := by rw [Wr.size Wh34]; exact hsh33
        have Ah34_ : OwA Z h34 a29 .byte [(.int (nar .byte x1.toInt8.toInt32)), (.int (nar .byte x2.toInt8.toInt32)), (.int (0 : Int32))] := Ah34
        refine X.aload (q := 50) at_48 rfl rfl rfl ?_
        refine X.iconst (q := 51) (1 : Int32) at_50 (by decide) rfl ?_
        refine X.iloadN (q := 52) at_51 rfl rfl ?_
        refine X.i2b (q := 53) at_52 rfl ?_
        refine X.bastore (q := 54) (j := 1) Ah33_'h34 rfl (by simp) gea31 at_53 rfl (fun h35 Wh35 Ah35 => ?_)
        have Ah34_'h35 : OwA Z h35 a29 .byte [(.int (nar .byte x1.toInt8.toInt32)), (.int (nar .byte x2.toInt8.toInt32)), (.int (0 : Int32))] := OwA.other Ah34_ Wh35 (Nat.ne_of_lt la29_a31)
        have hsh35 : n0 ≤ h35.size := by rw [Wr.size Wh35]; exact hsh34
        have Ah35_ : OwA Z h35 a31 .byte [(.int (nar .byte x1.toInt8.toInt32)), (.int (nar .byte x2.toInt8.toInt32)), (.int (0 : Int32)), (.int (0 : Int32))] := Ah35
        refine X.iload (q := 56) at_54 rfl rfl ?_
        refine X.iconst (q := 57) (2 : Int32) at_56 (by decide) rfl ?_
        refine X.icmp_le (a := 3) (b := 2) (q' := 72) (q := 60) at_57 rfl rfl (by decide) rfl (fun c57 => ?_) (fun c57 => ?_)
        · omega
        · refine X.aload (q := 62) at_60 rfl rfl rfl ?_
          refine X.iconst (q := 63) (2 : Int32) at_62 (by decide) rfl ?_
          refine X.iloadN (q := 64) at_63 rfl rfl ?_
          refine X.i2b (q := 65) at_64 rfl ?_
          refine X.bastore (q := 66) (j := 2) Ah34_'h35 rfl (by simp) gea29 at_65 rfl (fun h36 Wh36 Ah36 => ?_)
          have Ah35_'h36 : OwA Z h36 a31 .byte [(.int (nar .byte x1.toInt8.toInt32)), (.int (nar .byte x2.toInt8.toInt32)), (.int (0 : Int32)), (.int (0 : Int32))] := OwA.other Ah35_ Wh36 (Nat.ne_of_gt la29_a31)
          have hsh36 : n0 ≤ h36.size := by rw [Wr.size Wh36]; exact hsh35
          have Ah36_ : OwA Z h36 a29 .byte [(.int (nar .byte x1.toInt8.toInt32)), (.int (nar .byte x2.toInt8.toInt32)), (.int (nar .byte x3.toInt8.toInt32))] := Ah36
          refine X.aload (q := 68) at_66 rfl rfl rfl ?_
          refine X.iconst (q := 69) (2 : Int32) at_68 (by decide) rfl ?_
          refine X.iloadN (q := 70) at_69 rfl rfl ?_
          refine X.i2b (q := 71) at_70 rfl ?_
          refine X.bastore (q := 72) (j := 2) Ah35_'h36 rfl (by simp) gea31 at_71 rfl (fun h37 Wh37 Ah37 => ?_)
          have Ah36_'h37 : OwA Z h37 a29 .byte [(.int (nar .byte x1.toInt8.toInt32)), (.int (nar .byte x2.toInt8.toInt32)), (.int (nar .byte x3.toInt8.toInt32))] := OwA.other Ah36_ Wh37 (Nat.ne_of_lt la29_a31)
          have hsh37 : n0 ≤ h37.size := by rw [Wr.size Wh37]; exact hsh36
          have Ah37_ : OwA Z h37 a31 .byte [(.int (nar .byte x1.toInt8.toInt32)), (.int (nar .byte x2.toInt8.toInt32)), (.int (nar .byte x3.toInt8.toInt32)), (.int (0 : Int32))] := Ah37
          refine X.aload (q := 74) at_72 rfl rfl rfl ?_
          refine X.iload (q := 76) at_74 rfl rfl ?_
          refine X.iload (q := 78) at_76 rfl rfl ?_
          refine X.i2b (q := 79) at_78 rfl ?_
          refine X.bastore (q := 80) (j := 3) Ah37_ rfl (by simp) gea31 at_79 rfl (fun h38 Wh38 Ah38 => ?_)
          have Ah36_'h38 : OwA Z h38 a29 .byte [(.int (nar .byte x1.toInt8.toInt32)), (.int (nar .byte x2.toInt8.toInt32)), (.int (nar .byte x3.toInt8.toInt32))] := OwA.other Ah36_'h37 Wh38 (Nat.ne_of_lt la29_a31)
          have hsh38 : n0 ≤ h38.size := by rw [Wr.size Wh38]; exact hsh37
          have Ah38_ : OwA Z h38 a31 .byte [(.int (nar .byte x1.toInt8.toInt32)), (.int (nar .byte x2.toInt8.toInt32)), (.int (nar .byte x3.toInt8.toInt32)), (.int (nar .byte x4.toInt8.toInt32))] := Ah38
          refine X.iconst (q := 81) (0 : Int32) at_80 (by decide) rfl ?_
          refine X.newP (q := 83) (ty := .byte) (N := 0) (cap := 0) (k' := 3) (n' := 7) (hw _ (List.mem_of_getElem? (i := 0) rfl)) at_81 rfl rfl (Nat.le_refl _) (by decide) rfl rfl (by decide) (by decide) rfl (fun h39 a40 ga40 Eh39 Aa40 => ?_)
          have la29_a40 : a29 < a40 := by have := Ah36_'h38.lt; rw [← ga40] at this; exact this
          have la31_a40 : a31 < a40 := by have := Ah38_.lt; rw [← ga40] at this; exact this
          have Ah36_'h39 : OwA Z h39 a29 .byte [(.int (nar .byte x1.toInt8.toInt32)), (.int (nar .byte x2.toInt8.toInt32)), (.int (nar .byte x3.toInt8.toInt32))] := OwA.ext (E := Eh39) Ah36_'h38
          have Ah38_'h39 : OwA Z h39 a31 .byte [(.int (nar .byte x1.toInt8.toInt32)), (.int (nar .byte x2.toInt8.toInt32)), (.int (nar .byte x3.toInt8.toInt32)), (.int (nar .byte x4.toInt8.toInt32))] := OwA.ext (E := Eh39) Ah38_
          have gea40 : n0 ≤ a40 := by rw [ga40]; exact hsh38
          have hsh39 : n0 ≤ h39.size := Nat.le_trans hsh38 Eh39.1
          have Aa40 : OwA Z h39 a40 .byte [] := Aa40
          refine X.callS (own_hash l Z a0 hw h39 n0 a40 [] (0 : Int32) rfl hsh39 Aa40) (hw _ (List.mem_of_getElem? (i := 1) rfl)) (hw _ (List.mem_of_getElem? (i := 2) rfl)) (hw _ (List.mem_of_getElem? (i := 3) rfl)) (hw _ (List.mem_of_getElem? (i := 4) rfl)) (by decide) own_pd0 (argsL := [(.ref a40)]) (rest := []) rfl rfl rfl (W := 0) (Nat.le_of_eq rfl) rfl (by decide) (by decide) (k' := 3) (n' := 7) rfl rfl (by decide) (by decide) at_83 (q := 86) rfl ?_
          rintro _ _ ⟨rfl, rfl⟩
          show X.G h39 3 7 86 #[.val (.int x0), .val (.int x1), .val (.int x2), .val (.int x3), .val (.int x4), .val (.int (3 : Int32)), .val (.ref a29), .val (.ref a31), .unset, .unset, .unset, .unset, .unset, .unset, .unset] [(.long (own_fnv []))]
          refine X.ldc2_w (q := 89) (v := (-3750763034362895579 : Int64)) (hw _ (List.mem_of_getElem? (i := 6) rfl)) at_86 rfl ?_
          refine X.lcmp_ne (b := (-3750763034362895579)) (q1 := 90) (q' := 97) (q := 93) at_89 rfl at_90 rfl rfl (by decide) rfl (fun c89 => ?_) (fun c89 => ?_)
          · exact absurd rfl c89
          · refine X.iconst (q := 94) (1 : Int32) at_93 (by decide) rfl ?_
            refine X.goto (q' := 98) at_94 (by decide) ?_
            refine X.istore (q := 100) (Ls' := #[.val (.int x0), .val (.int x1), .val (.int x2), .val (.int x3), .val (.int x4), .val (.int (3 : Int32)), .val (.ref a29), .val (.ref a31), .val (.int (1 : Int32)), .unset, .unset, .unset, .unset, .unset, .unset]) at_98 rfl rfl ?_
            refine X.aload (q := 102) at_100 rfl rfl rfl ?_
            refine X.callS (own_hash l Z a0 hw h39 n0 a29 [(nar .byte x1.toInt8.toInt32), (nar .byte x2.toInt8.toInt32), (nar .byte x3.toInt8.toInt32)] (3 : Int32) rfl hsh39 Ah36_'h39) (hw _ (List.mem_of_getElem? (i := 1) rfl)) (hw _ (List.mem_of_getElem? (i := 2) rfl)) (hw _ (List.mem_of_getElem? (i := 3) rfl)) (hw _ (List.mem_of_getElem? (i := 4) rfl)) (by decide) own_pd0 (argsL := [(.ref a29)]) (rest := []) rfl rfl rfl (W := 0) (Nat.le_of_eq rfl) rfl (by decide) (by decide) (k' := 3) (n' := 7) rfl rfl (by decide) (by decide) at_102 (q := 105) rfl ?_
            rintro _ _ ⟨rfl, rfl⟩
            show X.G h39 3 7 105 #[.val (.int x0), .val (.int x1), .val (.int x2), .val (.int x3), .val (.int x4), .val (.int (3 : Int32)), .val (.ref a29), .val (.ref a31), .val (.int (1 : Int32)), .unset, .unset, .unset, .unset, .unset, .unset] [(.long (own_fnv [(nar .byte x1.toInt8.toInt32), (nar .byte x2.toInt8.toInt32), (nar .byte x3.toInt8.toInt32)]))]
            refine X.lstore (q := 107) (Ls' := #[.val (.int x0), .val (.int x1), .val (.int x2), .val (.int x3), .val (.int x4), .val (.int (3 : Int32)), .val (.ref a29), .val (.ref a31), .val (.int (1 : Int32)), .val (.long (own_fnv [(nar .byte x1.toInt8.toInt32), (nar .byte x2.toInt8.toInt32), (nar .byte x3.toInt8.toInt32)])), .second, .unset, .unset, .unset, .unset]) at_105 rfl rfl ?_
            refine X.aload (q := 109) at_107 rfl rfl rfl ?_
            refine X.callS (own_hash l Z a0 hw h39 n0 a31 [(nar .byte x1.toInt8.toInt32), (nar .byte x2.toInt8.toInt32), (nar .byte x3.toInt8.toInt32), (nar .byte x4.toInt8.toInt32)] (4 : Int32) rfl hsh39 Ah38_'h39) (hw _ (List.mem_of_getElem? (i := 1) rfl)) (hw _ (List.mem_of_getElem? (i := 2) rfl)) (hw _ (List.mem_of_getElem? (i := 3) rfl)) (hw _ (List.mem_of_getElem? (i := 4) rfl)) (by decide) own_pd0 (argsL := [(.ref a31)]) (rest := []) rfl rfl rfl (W := 0) (Nat.le_of_eq rfl) rfl (by decide) (by decide) (k' := 3) (n' := 7) rfl rfl (by decide) (by decide) at_109 (q := 112) rfl ?_
            rintro _ _ ⟨rfl, rfl⟩
            show X.G h39 3 7 112 #[.val (.int x0), .val (.int x1), .val (.int x2), .val (.int x3), .val (.int x4), .val (.int (3 : Int32)), .val (.ref a29), .val (.ref a31), .val (.int (1 : Int32)), .val (.long (own_fnv [(nar .byte x1.toInt8.toInt32), (nar .byte x2.toInt8.toInt32), (nar .byte x3.toInt8.toInt32)])), .second, .unset, .unset, .unset, .unset] [(.long (own_fnv [(nar .byte x1.toInt8.toInt32), (nar .byte x2.toInt8.toInt32), (nar .byte x3.toInt8.toInt32), (nar .byte x4.toInt8.toInt32)]))]
            refine X.lstore (q := 114) (Ls' := #[.val (.int x0), .val (.int x1), .val (.int x2), .val (.int x3), .val (.int x4), .val (.int (3 : Int32)), .val (.ref a29), .val (.ref a31), .val (.int (1 : Int32)), .val (.long (own_fnv [(nar .byte x1.toInt8.toInt32), (nar .byte x2.toInt8.toInt32), (nar .byte x3.toInt8.toInt32)])), .second, .val (.long (own_fnv [(nar .byte x1.toInt8.toInt32), (nar .byte x2.toInt8.toInt32), (nar .byte x3.toInt8.toInt32), (nar .byte x4.toInt8.toInt32)])), .second, .unset, .unset]) at_112 rfl rfl ?_
            refine X.lload (q := 116) at_114 rfl rfl ?_
            refine X.iload (q := 118) at_116 rfl rfl ?_
            refine X.i2l (q := 119) at_118 rfl ?_
            refine X.ldc2_w (q := 122) (v := (255 : Int64)) (hw _ (List.mem_of_getElem? (i := 9) rfl)) at_119 rfl ?_
            refine X.land (q := 123) at_122 rfl ?_
            refine X.lxor (q := 124) at_123 rfl ?_
            refine X.ldc2_w (q := 127) (v := (1099511628211 : Int64)) (hw _ (List.mem_of_getElem? (i := 10) rfl)) at_124 rfl ?_
            refine X.lmul (q := 128) at_127 rfl ?_
            refine X.lstore (q := 130) (Ls' := #[.val (.int x0), .val (.int x1), .val (.int x2), .val (.int x3), .val (.int x4), .val (.int (3 : Int32)), .val (.ref a29), .val (.ref a31), .val (.int (1 : Int32)), .val (.long (own_fnv [(nar .byte x1.toInt8.toInt32), (nar .byte x2.toInt8.toInt32), (nar .byte x3.toInt8.toInt32)])), .second, .val (.long (own_fnv [(nar .byte x1.toInt8.toInt32), (nar .byte x2.toInt8.toInt32), (nar .byte x3.toInt8.toInt32), (nar .byte x4.toInt8.toInt32)])), .second, .val (.long (((own_fnv [(nar .byte x1.toInt8.toInt32), (nar .byte x2.toInt8.toInt32), (nar .byte x3.toInt8.toInt32)]) ^^^ (x4.toInt64 &&& (255 : Int64))) * (1099511628211 : Int64))), .second]) at_128 rfl rfl ?_
            refine X.iload (q := 132) at_130 rfl rfl ?_
            refine X.if_eq (a := 1) (q' := 147) (q := 135) at_132 rfl (by decide) rfl (fun c132 => ?_) (fun c132 => ?_)
            · omega
            · refine X.lload (q := 137) at_135 rfl rfl ?_
              refine X.lload (q := 139) at_137 rfl rfl ?_
              refine X.lcmp_ne (q1 := 140) (q' := 147) (q := 143) at_139 rfl at_140 rfl rfl (by decide) rfl (fun c139 => ?_) (fun c139 => ?_)
              · exact absurd (congrArg Int64.toInt (by simp only [own_fnv, List.foldl, own_stp, own_nb])) c139
              · refine X.iconst (q := 144) (1 : Int32) at_143 (by decide) rfl ?_
                refine X.goto (q' := 148) at_144 (by decide) ?_
                refine X.retN (t := .boolean) (z' := (1 : Int32)) at_148 rfl (by simp) (by decide) (by decide) (by decide) ?_
                rfl
set_option maxRecDepth 65536 in
set_option maxHeartbeats 1000000 in
theorem comes_1 {Post : Tables → Env → Array Value → State → Outcome → State → Prop} (hpost : ∀ tb e args s v u, (limb_1_1.after args s (.returned v) u = true ∧ limb_1_2.after args s (.returned v) u = true ∧ True) → FrameEnd s (.returned v) u (Jvm.fieldLocs frame_1_writes args s ++ Jvm.arrayLocs frame_1_arrays args s ++ Jvm.staticLocs frame_1_statics s) 16 128 → Post tb e args s (.returned v) u) :
    ArmFor flags0 classFile x code maxLocals ret World_1 tables_1 room_1 Calls_1 rest_1 Pre_1 Post := by
  intro l hfl _ _ p e ha hc hk s m args below hf hA hF happ hP
  obtain ⟨hcalls, hrest, hpre⟩ := hP
  obtain ⟨-, -, -, hnamed, -, -, -, hat⟩ := (Spec.applies_iff hf).mp happ
  obtain ⟨hg, hn⟩ := and_e (Cond.before_iff.mp (show (Jvm.Cond.and given_1 narrow_1).before args s = true from hpre))
  obtain ⟨hg0, hg⟩ := and_e hg
  obtain ⟨w0, w1, w2, w3, w4, rfl⟩ : ∃ w0 w1 w2 w3 w4 : Value, args = #[w0, w1, w2, w3, w4] := by
    have hs : args.size = 5 := by simpa [Cond.value, given_1] using hg0
    obtain ⟨L⟩ := args
    match L, hs with
    | [w0, w1, w2, w3, w4], _ => exact ⟨w0, w1, w2, w3, w4, rfl⟩
  have hw := fun d (hd : d ∈ tables_1) => atoms_spec (ws := Jvm.Cond.code x code maxLocals ret :: tables_1) hat d (List.mem_cons_of_mem _ hd)
  obtain ⟨ha0, hg⟩ := and_e hg
  obtain ⟨i0, e0⟩ := is_v ha0
  obtain rfl : w0 = (.int i0) := Option.some.inj e0
  obtain ⟨ha1, hg⟩ := and_e hg
  obtain ⟨i1, e1⟩ := is_v ha1
  obtain rfl : w1 = (.int i1) := Option.some.inj e1
  obtain ⟨ha2, hg⟩ := and_e hg
  obtain ⟨i2, e2⟩ := is_v ha2
  obtain rfl : w2 = (.int i2) := Option.some.inj e2
  obtain ⟨ha3, hg⟩ := and_e hg
  obtain ⟨i3, e3⟩ := is_v ha3
  obtain rfl : w3 = (.int i3) := Option.some.inj e3
  have ha4 := hg
  obtain ⟨i4, e4⟩ := is_v ha4
  obtain rfl : w4 = (.int i4) := Option.some.inj e4
  obtain ⟨n, o, h1, h2, h3, _, L, rfl, ⟨rfl, N⟩, hq⟩ := own_law l s _ hw s.heap s.heap.size (Nat.le_refl _) i0 i1 i2 i3 i4 p e ha hc hk s m _ below hf ((Spec.applies_iff_loose hf).mp happ).1 ⟨rfl, State.Warmed39.refl s, rfl⟩ trivial
  refine ⟨n, _, h1, h2, h3, hpost _ _ _ _ _ _ ⟨Cond.after_iff.mpr rfl, Cond.after_iff.mpr (eq_i res_at (Term.int_eval (1)) rfl), trivial⟩ ⟨hq.1, hq.2.1, (hq.2.2.sift fun y hy => Or.inr (N y hy)).mono (by decide) (by decide)⟩⟩
theorem main_1_1 : Claimed_1_1 := comes_1 fun _ _ _ _ _ _ h hF => ⟨h.1, hF⟩
theorem main_1_2 : Claimed_1_2 := comes_1 fun _ _ _ _ _ _ h hF => ⟨h.2.1, hF⟩
end Jvm.Pilot.@@N@@
namespace Jvm.Pilot.@@N@@
open Jvm Jvm.ClassFile Sem Op Lib Jvm.Free Jvm.Stand Jvm.Pilot.@@N@@.Jvm.D
/-! MADE BY PROGRAM (witnessworld.py) out of the Statement's table words and the real class files: 9 classes; the members and pool entries that the words name. The judged class is class 1, her method 1. -/
namespace start1
open Jvm.ClassFile
def u (s : String) : CpInfo := .utf8 (stringToUtf16 s)
/-- a pool by its gaps: so many unusable entries, then the entry; so many at the end -/
def gap : Nat → List CpInfo → List CpInfo
  | 0, r => r
  | n + 1, r => .unusable :: gap n r
def poolList (es : List (Nat × CpInfo)) (last : Nat) : List CpInfo := es.foldr (fun e r => gap e.1 (e.2 :: r)) (gap last [])
def pool (es : List (Nat × CpInfo)) (last : Nat) : Array CpInfo := ⟨poolList es last⟩
def fileOf (pool : Array CpInfo) (this : Nat) (attrs : Array Attribute := #[]) (ms : Array MethodInfo := #[]) (fl : Nat := 33) (sup : Nat := 0) (ifs : Array Nat := #[]) (fds : Array FieldInfo := #[]) : ClassFile where
  minorVersion := 0
  majorVersion := 65
  constantPool := pool
  accessFlags := fl
  thisClass := this
  superClass := sup
  interfaces := ifs
  fields := fds
  methods := ms
  attributes := attrs
def plain (name : String) (sup : Option ClassId) : Class where
  name := name
  kind := .ordinary
  loader := none
  accessFlags := 33
  super := sup
  interfaces := #[]
  cf := none
  fields := #[]
  methods := #[]
  instanceTypes := #[]
  staticTypes := #[]
  resolved := #[]
  callSites := []
  init := .initialized
  statics := none
  mirror := none

def pool0 : Array CpInfo := pool [(5, u "<init>"), (0, u "()V"), (1, .class_ 10), (1, u "java/lang/Object")] 113

def k0m0 : Method := { name := "<init>", desc := "()V", sig := { parameters := [], returnType := none }, accessFlags := 1, code := none }
/-- java/lang/Object -/
def k0 : Class := { plain "java/lang/Object" none with
  accessFlags := 33
  interfaces := #[]
  cf := some (fileOf pool0 8 #[] #[{ accessFlags := 1, nameIndex := 5, descriptorIndex := 6, attributes := #[] }] 33 0 #[] #[])
  fields := #[]
  methods := #[k0m0]
  instanceTypes := #[]
  staticTypes := #[]
  resolved := Array.replicate 124 none
  statics := none }

def pool1 : Array CpInfo := pool [(2, .class_ 4), (1, u "java/lang/Object"), (0, u "<init>"), (0, u "()V"), (0, .methodref 8 9), (0, .class_ 10), (0, .nameAndType 11 12), (0, u "com/example/vireo/vireo/fingerprint/Fnv1a64"), (0, u "hash"), (0, u "([B)J"), (0, .long 14695981039346656037), (1, .long 255), (1, .long 1099511628211), (1, .class_ 20), (0, u "com/example/vireo/vireo/fingerprint/Fnv1a64HashPinLaw"), (2, u "law"), (0, u "(IIIII)Z")] 5

def k1m0 : Method := { name := "<init>", desc := "()V", sig := { parameters := [], returnType := none }, accessFlags := 1, code := none }
def k1c1 : Code := { maxStack := 6, maxLocals := 15, code := code, exceptionTable := #[], attributes := #[] }
def k1m1 : Method := { name := "law", desc := "(IIIII)Z", sig := { parameters := [.int, .int, .int, .int, .int], returnType := some .boolean }, accessFlags := 9, code := some k1c1 }
/-- com/example/vireo/vireo/fingerprint/Fnv1a64HashPinLaw -/
def k1 : Class := { plain "com/example/vireo/vireo/fingerprint/Fnv1a64HashPinLaw" (some 0) with
  accessFlags := 49
  interfaces := #[]
  cf := some (fileOf pool1 19 #[] #[{ accessFlags := 1, nameIndex := 5, descriptorIndex := 6, attributes := #[] }, { accessFlags := 9, nameIndex := 23, descriptorIndex := 24, attributes := #[] }] 49 2 #[] #[])
  fields := #[]
  methods := #[k1m0, k1m1]
  instanceTypes := #[]
  staticTypes := #[]
  resolved := Array.replicate 30 none
  statics := none }

def pool2 : Array CpInfo := pool [(2, .class_ 4), (1, u "java/lang/Object"), (0, u "<init>"), (0, u "()V"), (0, .class_ 8), (0, u "com/example/vireo/vireo/fingerprint/Fnv1a64"), (0, .long 14695981039346656037), (1, .long 255), (1, .long 1099511628211), (1, u "OFFSET_BASIS"), (0, u "J"), (1, u "PRIME"), (2, u "hash"), (0, u "([B)J")] 5

def k2m0 : Method := { name := "<init>", desc := "()V", sig := { parameters := [], returnType := none }, accessFlags := 2, code := none }
def k2c1 : Code := { maxStack := 6, maxLocals := 7, code := prog_6_method_2_code, exceptionTable := #[], attributes := #[] }
def k2m1 : Method := { name := "hash", desc := "([B)J", sig := { parameters := [(.array .byte)], returnType := some .long }, accessFlags := 9, code := some k2c1 }
/-- com/example/vireo/vireo/fingerprint/Fnv1a64 -/
def k2 : Class := { plain "com/example/vireo/vireo/fingerprint/Fnv1a64" (some 0) with
  accessFlags := 49
  interfaces := #[]
  cf := some (fileOf pool2 7 #[] #[{ accessFlags := 2, nameIndex := 5, descriptorIndex := 6, attributes := #[] }, { accessFlags := 9, nameIndex := 21, descriptorIndex := 22, attributes := #[] }] 49 2 #[] #[{ accessFlags := 26, nameIndex := 15, descriptorIndex := 16, attributes := #[] }, { accessFlags := 26, nameIndex := 18, descriptorIndex := 16, attributes := #[] }])
  fields := #[{ name := "OFFSET_BASIS", type := .long, accessFlags := 26, slot := 0, constantValue := 0 }, { name := "PRIME", type := .long, accessFlags := 26, slot := 1, constantValue := 0 }]
  methods := #[k2m0, k2m1]
  instanceTypes := #[]
  staticTypes := #[.long, .long]
  resolved := Array.replicate 28 none
  statics := none }

def pool3 : Array CpInfo := pool [(1, u "java/lang/Cloneable"), (0, .class_ 1), (0, u "java/lang/Object"), (0, .class_ 3)] 3

/-- java/lang/Cloneable -/
def k3 : Class := { plain "java/lang/Cloneable" (some 0) with
  accessFlags := 1537
  interfaces := #[]
  cf := some (fileOf pool3 2 #[] #[] 1537 4 #[] #[])
  fields := #[]
  methods := #[]
  instanceTypes := #[]
  staticTypes := #[]
  resolved := Array.replicate 8 none
  statics := none }

def pool4 : Array CpInfo := pool [(1, u "java/io/Serializable"), (0, .class_ 1), (0, u "java/lang/Object"), (0, .class_ 3)] 3

/-- java/io/Serializable -/
def k4 : Class := { plain "java/io/Serializable" (some 0) with
  accessFlags := 1537
  interfaces := #[]
  cf := some (fileOf pool4 2 #[] #[] 1537 4 #[] #[])
  fields := #[]
  methods := #[]
  instanceTypes := #[]
  staticTypes := #[]
  resolved := Array.replicate 8 none
  statics := none }

/-- the primitive byte -/
def k5 : Class := { plain "byte" none with kind := .primitive 'B', accessFlags := 0x411 }
/-- [B -/
def k6 : Class := { plain "[B" (some 0) with kind := .array 5 .byte, interfaces := #[3, 4], accessFlags := 1041 }

/-- the primitive int -/
def k7 : Class := { plain "int" none with kind := .primitive 'I', accessFlags := 0x411 }
/-- [I -/
def k8 : Class := { plain "[I" (some 0) with kind := .array 7 .int, interfaces := #[3, 4], accessFlags := 1041 }

def heap : Heap := #[]
def classes : Array Class := #[k0, k1, k2, k3, k4, k5, k6, k7, k8]
def interned : List (Array UInt16 × Addr) := []
def slotsUsed : Nat := 0
def theMethod : MethodId := ⟨1, 1⟩
def args0 : Array Value := #[.int 5, .int 1, .int 2, .int 3, .int 4]
def aboutOver (below : List Frame) : State where
  vm := { classes := classes, interned := interned.toArray }
  heap := heap
  slotsUsed := slotsUsed
  threads := #[{ frames := .invoking theMethod args0 :: below }]
def below0 : List Frame := [.native { method := ⟨0, 0⟩, args := #[] }]
def about1 : State := aboutOver below0
def p0 : Program := .bare "" "" ""
def e0 : Env := launch0.env 0 0 0
theorem w_frames : about1.frames = Frame.invoking theMethod args0 :: below0 := rfl
set_option maxRecDepth 65536 in
theorem w_args : argsFit about1.vm theMethod args0 = true := by decide +kernel
set_option maxRecDepth 65536 in
theorem w_heap : heapFits about1 = true := by decide +kernel
set_option maxRecDepth 65536 in
theorem w_runnable : about1.curStatus? = some .runnable := by decide +kernel
set_option maxRecDepth 65536 in
theorem w_alone : about1.alone = true := by decide +kernel
set_option maxRecDepth 65536 in
theorem w_named : about1.methodNamed? x = some theMethod := by decide +kernel
set_option maxRecDepth 65536 in
theorem w_hears : about1.hears theMethod below0 = true := by decide +kernel
set_option maxRecDepth 65536 in
theorem w_ripe : about1.ripe theMethod args0 below0 = true := by decide +kernel
theorem w_running : about1.status = .running := rfl
set_option maxRecDepth 65536 in
theorem w_room : about1.hasRoom e0.platform room_1 = true :=
  launch0.hasRoom_least _ room_1 (by decide +kernel) (by decide +kernel) (by decide +kernel) (by decide +kernel) (by decide +kernel) (by decide +kernel)
theorem allAtoms_all (ts : List Jvm.Cond) (a : Array Jvm.Value) (st : Jvm.State) : (allAtoms ts).before a st = ts.all (fun c => c.before a st) := by
  induction ts with
  | nil => rfl
  | cons c t ih =>
    show (Jvm.Cond.and c (allAtoms t)).before a st = _
    rw [Jvm.Cond.before_and, ih, List.all_cons]
def words1 : List Jvm.Cond := Jvm.Cond.code x code maxLocals ret :: tables_1
/-- a 'code' word, met by the world's own term for the bytes: nothing is compared byte by byte -/
theorem code_word {y : MethodName} {bytes : ByteArray} {mx : Nat} {rt : Option FieldType} {a : Array Value} {s : State} {m : MethodId} {meth : Method} {c : Code} (h1 : s.methodNamed? y = some m) (h2 : s.vm.method? m = some meth) (h3 : meth.code = some c) (h4 : c.code = bytes)
    (h5 : (c.maxLocals == mx && c.exceptionTable.isEmpty && decide (c.maxStack ≤ mostOperands) && decide (meth.sig.returnType = rt) && !meth.locks && decide (parseMethodDescriptor y.desc = some meth.sig)) = true) : (Jvm.Cond.code y bytes mx rt).before a s = true := by
  simp only [Bool.and_eq_true, beq_iff_eq, Bool.not_eq_true', decide_eq_true_eq] at h5
  obtain ⟨⟨⟨⟨⟨g1, g2⟩, g3⟩, g4⟩, g5⟩, g6⟩ := h5
  simp [Cond.before, Cond.holds, Cond.value, h1, h2, h3, h4, g1, g2, g3, g4, g5, g6]
def isCode : Jvm.Cond → Bool
  | .code _ _ _ _ => true
  | _ => false
theorem all_split {L : List Jvm.Cond} {P : Jvm.Cond → Bool} (h1 : L.all (fun c => isCode c || P c) = true) (h2 : ∀ c ∈ L.filter isCode, P c = true) : L.all P = true := by
  refine List.all_eq_true.mpr fun c hc => ?_
  have h := List.all_eq_true.mp h1 c hc
  rcases Bool.eq_false_or_eq_true (isCode c) with hi | hi
  · exact h2 c (List.mem_filter.mpr ⟨hc, hi⟩)
  · simpa [hi] using h
set_option maxRecDepth 65536 in
theorem w_c0 : (Jvm.Cond.code x code maxLocals ret).before args0 about1 = true := code_word (m := ⟨1, 1⟩) (meth := k1m1) (c := k1c1) (by decide +kernel) rfl rfl rfl (by decide +kernel)
set_option maxRecDepth 65536 in
theorem w_c1 : (Jvm.Cond.code ({ cls := "com/example/vireo/vireo/fingerprint/Fnv1a64", name := "hash", desc := "([B)J" } : Jvm.MethodName) prog_6_method_2_code (7 : Nat) (Option.some Jvm.ClassFile.FieldType.long)).before args0 about1 = true := code_word (m := ⟨2, 1⟩) (meth := k2m1) (c := k2c1) (by decide +kernel) rfl rfl rfl (by decide +kernel)
def codes1 : List Jvm.Cond := [Jvm.Cond.code x code maxLocals ret, Jvm.Cond.code ({ cls := "com/example/vireo/vireo/fingerprint/Fnv1a64", name := "hash", desc := "([B)J" } : Jvm.MethodName) prog_6_method_2_code (7 : Nat) (Option.some Jvm.ClassFile.FieldType.long)]
set_option maxRecDepth 65536 in
theorem codes_eq : words1.filter isCode = codes1 := rfl
theorem w_codes : ∀ c ∈ words1.filter isCode, c.before args0 about1 = true := by
  rw [codes_eq]
  intro c hc
  simp only [codes1, List.mem_cons, List.not_mem_nil, or_false] at hc
  rcases hc with rfl | rfl
  · exact w_c0
  · exact w_c1
set_option maxRecDepth 65536 in
theorem w_t1 : words1.all (fun c => isCode c || c.before args0 about1) = true := by decide +kernel
theorem w_tables : (allAtoms (Jvm.Cond.code x code maxLocals ret :: tables_1)).before args0 about1 = true := by
  rw [allAtoms_all]
  show words1.all (fun c => c.before args0 about1) = true
  refine all_split ?_ w_codes
  rw [w_t1]
set_option maxRecDepth 65536 in
theorem w_case : (Jvm.Cond.and given_1 narrow_1).before args0 about1 = true := by decide +kernel
theorem w_applies : (headSpec (Jvm.Cond.code x code maxLocals ret :: tables_1) room_1).applies x e0.platform about1 = true :=
  (Spec.applies_iff w_frames).mpr ⟨w_running, w_runnable, w_alone, w_named, w_hears, w_ripe, w_room, w_tables⟩
theorem atStart : AtStart classFile x code maxLocals ret World_1 tables_1 room_1 Calls_1 rest_1 Pre_1 launch0 p0 e0 about1 theMethod args0 below0 :=
  ⟨lists_1, trivial, launch0.admits_env _ _ _, launch0.least_env, fairChoices_fair.cas, fairChoices_fair.clock, w_frames, w_args, w_heap, w_applies, trivial, trivial, w_case⟩
end start1
theorem witness_1 : WitnessClaimed_1 := ⟨start1.p0, start1.e0, start1.about1, start1.theMethod, start1.args0, start1.below0, start1.atStart⟩
end Jvm.Pilot.@@N@@
