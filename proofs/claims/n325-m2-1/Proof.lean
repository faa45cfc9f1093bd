import JvmDerived
import JvmDerived.Pilot.@@N@@Statement
import JvmDerived.Pilot.@@N@@Code
set_option linter.unusedVariables false
set_option linter.unusedSimpArgs false
@@BLOCK:NumsL.lean.txt@@
namespace Jvm.Pilot.@@N@@
open Jvm Jvm.ClassFile Sem Op Lib Jvm.Free Jvm.Stand Jvm.LawKit Jvm.RoadKit Bundle Jvm.Pilot.@@N@@.Jvm.D
/-! ## the walk's own kit: 'from this pc on the body comes to its end, in Φ' (X.G), and one rule a step -/
def OwC (p : Program) (l : Launch) (e : Env) (R : Room) (s : State) (m : MethodId) (args : Array Value) (below : List Frame) (meth : Method) (c : Code) (Z : State) (own nm : String) (bytes : ByteArray) (mL : Nat) (ret : Option FieldType) (n0 kM nM : Nat) (Φ : Option Value → Heap → Prop) : Prop :=
  p.tables.exec = Jvm.exec ∧ c.code = bytes ∧ c.maxLocals = mL ∧ s.vm.findClass own = some m.cls ∧ Z.Warmed39 s.vm ∧ meth.sig.returnType = ret ∧ meth.locks = false ∧ meth.name = nm
section OwKit
variable {p : Program} {l : Launch} {e : Env} {R : Room} {s : State} {m : MethodId} {args : Array Value} {below : List Frame} {meth : Method} {c : Code} {Z : State} {own nm : String} {bytes : ByteArray} {mL : Nat} {ret : Option FieldType} {n0 kM nM : Nat} {Φ : Option Value → Heap → Prop}
variable {a0 : Array Value} {h : Heap} {k n pc q : Nat} {Ls Ls' : Array Slot} {st rest : List Value}
def OwC.G (_X : OwC p l e R s m args below meth c Z own nm bytes mL ret n0 kM nM Φ) (h : Heap) (k n pc : Nat) (Ls : Array Slot) (st : List Value) : Prop :=
  ∀ T locs, Stand p l e R s m args below meth c T locs k n → T.heap = h → Fr n0 locs →
    ∃ v s₂ L, Steps p.tables e below (T.setTop (mkF m pc Ls st)) s₂ ∧ s₂.status = .running ∧ Ended s₂ below (.returned v) ∧ (Φ v s₂.heap ∧ Fr n0 L) ∧ FrameEnd s (.returned v) s₂ L kM nM
variable (X : OwC p l e R s m args below meth c Z own nm bytes mL ret n0 kM nM Φ)
theorem OwC.step {pc' : Nat} {st' : List Value} (g : X.G h k n pc' Ls' st') (w : ∀ T locs, Stand p l e R s m args below meth c T locs k n → ∀ t, Steps p.tables e below (T.setTop (mkF m pc' Ls' st')) t → Steps p.tables e below (T.setTop (mkF m pc Ls st)) t) : X.G h k n pc Ls st := fun T locs Y eT N => by
  obtain ⟨v, s₂, L, r1, r⟩ := g T locs Y eT N
  exact ⟨v, s₂, L, w T locs Y _ r1, r⟩
theorem OwC.hd (X : OwC p l e R s m args below meth c Z own nm bytes mL ret n0 kM nM Φ) {i : Instr} {len : Nat} (d : decode bytes pc = .ok (i, len)) : decode c.code pc = .ok (i, len) := hb X.2.1 d
/-! a name for the top of the stack -/
theorem OwC.nmI {x : Int32} (g : ∀ v : Int32, v = x → X.G h k n pc Ls (.int v :: st)) : X.G h k n pc Ls (.int x :: st) := g x rfl
theorem OwC.nmJ {x : Int64} (g : ∀ v : Int64, v = x → X.G h k n pc Ls (.long v :: st)) : X.G h k n pc Ls (.long x :: st) := g x rfl
theorem OwC.foldI {x v : Int32} (e : x = v) (g : X.G h k n pc Ls (.int v :: st)) : X.G h k n pc Ls (.int x :: st) := by subst e; exact g
theorem OwC.foldJ {x v : Int64} (e : x = v) (g : X.G h k n pc Ls (.long v :: st)) : X.G h k n pc Ls (.long x :: st) := by subst e; exact g
/-! loads and stores -/
theorem OwC.iloadN {j : Fin 4} {v : Int32} (d : decode bytes pc = .ok (.iload_n j, 1)) (hl : Ls[j.val]? = some (.val (.int v))) (hq : pc + 1 = q) (g : X.G h k n q Ls (.int v :: st)) : X.G h k n pc Ls st := by
  subst hq; exact X.step g fun T _ Y t r => XS.iloadN Y.here X.1 rfl (X.hd d) hl r
theorem OwC.iload {j : Nat} {v : Int32} (d : decode bytes pc = .ok (.iload j, 2)) (hl : Ls[j]? = some (.val (.int v))) (hq : pc + 2 = q) (g : X.G h k n q Ls (.int v :: st)) : X.G h k n pc Ls st := by
  subst hq; exact X.step g fun T _ Y t r => XS.iload Y.here X.1 rfl (X.hd d) hl r
theorem OwC.lloadN {j : Fin 4} {v : Int64} (d : decode bytes pc = .ok (.lload_n j, 1)) (hl : Ls[j.val]? = some (.val (.long v))) (hq : pc + 1 = q) (g : X.G h k n q Ls (.long v :: st)) : X.G h k n pc Ls st := by
  subst hq; exact X.step g fun T _ Y t r => XT.lloadN Y.here X.1 rfl (X.hd d) hl r
theorem OwC.lload {j : Nat} {v : Int64} (d : decode bytes pc = .ok (.lload j, 2)) (hl : Ls[j]? = some (.val (.long v))) (hq : pc + 2 = q) (g : X.G h k n q Ls (.long v :: st)) : X.G h k n pc Ls st := by
  subst hq; exact X.step g fun T _ Y t r => XT.lload Y.here X.1 rfl (X.hd d) hl r
theorem OwC.aloadN {j : Fin 4} {v : Value} (d : decode bytes pc = .ok (.aload_n j, 1)) (hl : Ls[j.val]? = some (.val v)) (hv : v.isRef = true) (hq : pc + 1 = q) (g : X.G h k n q Ls (v :: st)) : X.G h k n pc Ls st := by
  subst hq; exact X.step g fun T _ Y t r => XS.aloadN Y.here X.1 rfl (X.hd d) hl hv r
theorem OwC.aload {j : Nat} {v : Value} (d : decode bytes pc = .ok (.aload j, 2)) (hl : Ls[j]? = some (.val v)) (hv : v.isRef = true) (hq : pc + 2 = q) (g : X.G h k n q Ls (v :: st)) : X.G h k n pc Ls st := by
  subst hq; exact X.step g fun T _ Y t r => XS.aload Y.here X.1 rfl (X.hd d) hl hv r
theorem OwC.istoreN {j : Fin 4} {x : Int32} (d : decode bytes pc = .ok (.istore_n j, 1)) (hl : storeLocals Ls j.val (.int x) = some Ls') (hq : pc + 1 = q) (g : X.G h k n q Ls' st) : X.G h k n pc Ls (.int x :: st) := by
  subst hq; exact X.step g fun T _ Y t r => XS.istoreN Y.here X.1 rfl (X.hd d) rfl hl r
theorem OwC.istore {j : Nat} {x : Int32} (d : decode bytes pc = .ok (.istore j, 2)) (hl : storeLocals Ls j (.int x) = some Ls') (hq : pc + 2 = q) (g : X.G h k n q Ls' st) : X.G h k n pc Ls (.int x :: st) := by
  subst hq; exact X.step g fun T _ Y t r => XS.istore Y.here X.1 rfl (X.hd d) rfl hl r
theorem OwC.lstoreN {j : Fin 4} {x : Int64} (d : decode bytes pc = .ok (.lstore_n j, 1)) (hl : storeLocals Ls j.val (.long x) = some Ls') (hq : pc + 1 = q) (g : X.G h k n q Ls' st) : X.G h k n pc Ls (.long x :: st) := by
  subst hq; exact X.step g fun T _ Y t r => XT.lstoreN Y.here X.1 rfl (X.hd d) rfl hl r
theorem OwC.lstore {j : Nat} {x : Int64} (d : decode bytes pc = .ok (.lstore j, 2)) (hl : storeLocals Ls j (.long x) = some Ls') (hq : pc + 2 = q) (g : X.G h k n q Ls' st) : X.G h k n pc Ls (.long x :: st) := by
  subst hq; exact X.step g fun T _ Y t r => XT.lstore Y.here X.1 rfl (X.hd d) rfl hl r
theorem OwC.astoreN {j : Fin 4} {x : Value} (d : decode bytes pc = .ok (.astore_n j, 1)) (hv : x.isRef = true) (hl : storeLocals Ls j.val x = some Ls') (hq : pc + 1 = q) (g : X.G h k n q Ls' st) : X.G h k n pc Ls (x :: st) := by
  subst hq; exact X.step g fun T _ Y t r => XS.astoreN Y.here X.1 rfl (X.hd d) rfl hv hl r
theorem OwC.astore {j : Nat} {x : Value} (d : decode bytes pc = .ok (.astore j, 2)) (hv : x.isRef = true) (hl : storeLocals Ls j x = some Ls') (hq : pc + 2 = q) (g : X.G h k n q Ls' st) : X.G h k n pc Ls (x :: st) := by
  subst hq; exact X.step g fun T _ Y t r => XS.astore Y.here X.1 rfl (X.hd d) rfl hv hl r
/-! constants -/
theorem OwC.iconst {i : Int} (v : Int32) (d : decode bytes pc = .ok (.iconst i, 1)) (hv : Int32.ofInt i = v) (hq : pc + 1 = q) (g : X.G h k n q Ls (.int v :: st)) : X.G h k n pc Ls st := by
  subst hq hv; exact X.step g fun T _ Y t r => XS.iconst Y.here X.1 rfl (X.hd d) r
theorem OwC.bipush {i : Int} (v : Int32) (d : decode bytes pc = .ok (.bipush i, 2)) (hv : (Int8.ofInt i).toInt32 = v) (hq : pc + 2 = q) (g : X.G h k n q Ls (.int v :: st)) : X.G h k n pc Ls st := by
  subst hq hv; exact X.step g fun T _ Y t r => XS.bipush Y.here X.1 rfl (X.hd d) r
theorem OwC.sipush {i : Int} (v : Int32) (d : decode bytes pc = .ok (.sipush i, 3)) (hv : (Int16.ofInt i).toInt32 = v) (hq : pc + 3 = q) (g : X.G h k n q Ls (.int v :: st)) : X.G h k n pc Ls st := by
  subst hq hv; exact X.step g fun T _ Y t r => XS.sipush Y.here X.1 rfl (X.hd d) r
theorem OwC.lconst {j : Fin 2} (v : Int64) (d : decode bytes pc = .ok (.lconst j, 1)) (hv : Int64.ofNat j = v) (hq : pc + 1 = q) (g : X.G h k n q Ls (.long v :: st)) : X.G h k n pc Ls st := by
  subst hq hv; exact X.step g fun T _ Y t r => XT.lconst Y.here X.1 rfl (X.hd d) r
theorem OwC.aconstNull (d : decode bytes pc = .ok (.aconst_null, 1)) (hq : pc + 1 = q) (g : X.G h k n q Ls (.null :: st)) : X.G h k n pc Ls st := by
  subst hq; exact X.step g fun T _ Y t r => XS.aconstNull Y.here X.1 rfl (X.hd d) r
theorem OwC.ldc {i : Nat} {v : Int32} (w : (Cond.constant own i v).before a0 Z = true) (d : decode bytes pc = .ok (.ldc i, 2)) (hq : pc + 2 = q) (g : X.G h k n q Ls (.int v :: st)) : X.G h k n pc Ls st := by
  subst hq; exact X.step g fun T _ Y t r => Y.ldcI X.1 X.2.2.2.1 (mvT X.2.2.2.2.1 w) rfl (X.hd d) r
theorem OwC.ldc_w {i : Nat} {v : Int32} (w : (Cond.constant own i v).before a0 Z = true) (d : decode bytes pc = .ok (.ldc_w i, 3)) (hq : pc + 3 = q) (g : X.G h k n q Ls (.int v :: st)) : X.G h k n pc Ls st := by
  subst hq; exact X.step g fun T _ Y t r => Y.ldcWI X.1 X.2.2.2.1 (mvT X.2.2.2.2.1 w) rfl (X.hd d) r
theorem OwC.ldc2_w {i : Nat} {v : Int64} (w : (Cond.constantLong own i v).before a0 Z = true) (d : decode bytes pc = .ok (.ldc2_w i, 3)) (hq : pc + 3 = q) (g : X.G h k n q Ls (.long v :: st)) : X.G h k n pc Ls st := by
  subst hq; exact X.step g fun T _ Y t r => Y.ldc2J X.1 X.2.2.2.1 (mvT X.2.2.2.2.1 w) rfl (X.hd d) r
/-! arithmetic -/
theorem OwC.iadd {x y : Int32} (d : decode bytes pc = .ok (.iadd, 1)) (hq : pc + 1 = q) (g : X.G h k n q Ls (.int (x + y) :: st)) : X.G h k n pc Ls (.int y :: .int x :: st) := by
  subst hq; exact X.step g fun T _ Y t r => XS.iadd Y.here X.1 rfl (X.hd d) rfl r
theorem OwC.isub {x y : Int32} (d : decode bytes pc = .ok (.isub, 1)) (hq : pc + 1 = q) (g : X.G h k n q Ls (.int (x - y) :: st)) : X.G h k n pc Ls (.int y :: .int x :: st) := by
  subst hq; exact X.step g fun T _ Y t r => XS.isub Y.here X.1 rfl (X.hd d) rfl r
theorem OwC.imul {x y : Int32} (d : decode bytes pc = .ok (.imul, 1)) (hq : pc + 1 = q) (g : X.G h k n q Ls (.int (x * y) :: st)) : X.G h k n pc Ls (.int y :: .int x :: st) := by
  subst hq; exact X.step g fun T _ Y t r => XS.imul Y.here X.1 rfl (X.hd d) rfl r
theorem OwC.iand {x y : Int32} (d : decode bytes pc = .ok (.iand, 1)) (hq : pc + 1 = q) (g : X.G h k n q Ls (.int (x &&& y) :: st)) : X.G h k n pc Ls (.int y :: .int x :: st) := by
  subst hq; exact X.step g fun T _ Y t r => XS.iand Y.here X.1 rfl (X.hd d) rfl r
theorem OwC.ixor {x y : Int32} (d : decode bytes pc = .ok (.ixor, 1)) (hq : pc + 1 = q) (g : X.G h k n q Ls (.int (x ^^^ y) :: st)) : X.G h k n pc Ls (.int y :: .int x :: st) := by
  subst hq; exact X.step g fun T _ Y t r => XT.ixor Y.here X.1 rfl (X.hd d) rfl r
theorem OwC.ior {x y : Int32} (d : decode bytes pc = .ok (.ior, 1)) (hq : pc + 1 = q) (g : X.G h k n q Ls (.int (x ||| y) :: st)) : X.G h k n pc Ls (.int y :: .int x :: st) := by
  subst hq; exact X.step g fun T _ Y t r => XT.ior Y.here X.1 rfl (X.hd d) rfl r
theorem OwC.ishl {x y : Int32} (d : decode bytes pc = .ok (.ishl, 1)) (hq : pc + 1 = q) (g : X.G h k n q Ls (.int (x <<< (y &&& 31)) :: st)) : X.G h k n pc Ls (.int y :: .int x :: st) := by
  subst hq; exact X.step g fun T _ Y t r => XT.ishl Y.here X.1 rfl (X.hd d) rfl r
theorem OwC.ishr {x y : Int32} (d : decode bytes pc = .ok (.ishr, 1)) (hq : pc + 1 = q) (g : X.G h k n q Ls (.int (x >>> (y &&& 31)) :: st)) : X.G h k n pc Ls (.int y :: .int x :: st) := by
  subst hq; exact X.step g fun T _ Y t r => XT.ishr Y.here X.1 rfl (X.hd d) rfl r
theorem OwC.iushr {x y : Int32} (d : decode bytes pc = .ok (.iushr, 1)) (hq : pc + 1 = q) (g : X.G h k n q Ls (.int (XT.ushr x y) :: st)) : X.G h k n pc Ls (.int y :: .int x :: st) := by
  subst hq; exact X.step g fun T _ Y t r => XT.iushr Y.here X.1 rfl (X.hd d) rfl r
theorem OwC.ladd {x y : Int64} (d : decode bytes pc = .ok (.ladd, 1)) (hq : pc + 1 = q) (g : X.G h k n q Ls (.long (x + y) :: st)) : X.G h k n pc Ls (.long y :: .long x :: st) := by
  subst hq; exact X.step g fun T _ Y t r => XT.ladd Y.here X.1 rfl (X.hd d) rfl r
theorem OwC.lsub {x y : Int64} (d : decode bytes pc = .ok (.lsub, 1)) (hq : pc + 1 = q) (g : X.G h k n q Ls (.long (x - y) :: st)) : X.G h k n pc Ls (.long y :: .long x :: st) := by
  subst hq; exact X.step g fun T _ Y t r => XT.lsub Y.here X.1 rfl (X.hd d) rfl r
theorem OwC.lmul {x y : Int64} (d : decode bytes pc = .ok (.lmul, 1)) (hq : pc + 1 = q) (g : X.G h k n q Ls (.long (x * y) :: st)) : X.G h k n pc Ls (.long y :: .long x :: st) := by
  subst hq; exact X.step g fun T _ Y t r => XT.lmul Y.here X.1 rfl (X.hd d) rfl r
theorem OwC.land {x y : Int64} (d : decode bytes pc = .ok (.land, 1)) (hq : pc + 1 = q) (g : X.G h k n q Ls (.long (x &&& y) :: st)) : X.G h k n pc Ls (.long y :: .long x :: st) := by
  subst hq; exact X.step g fun T _ Y t r => XT.land Y.here X.1 rfl (X.hd d) rfl r
theorem OwC.lxor {x y : Int64} (d : decode bytes pc = .ok (.lxor, 1)) (hq : pc + 1 = q) (g : X.G h k n q Ls (.long (x ^^^ y) :: st)) : X.G h k n pc Ls (.long y :: .long x :: st) := by
  subst hq; exact X.step g fun T _ Y t r => XT.lxor Y.here X.1 rfl (X.hd d) rfl r
theorem OwC.lor {x y : Int64} (d : decode bytes pc = .ok (.lor, 1)) (hq : pc + 1 = q) (g : X.G h k n q Ls (.long (x ||| y) :: st)) : X.G h k n pc Ls (.long y :: .long x :: st) := by
  subst hq; exact X.step g fun T _ Y t r => XT.lor Y.here X.1 rfl (X.hd d) rfl r
theorem OwC.lshl {x : Int64} {y : Int32} (d : decode bytes pc = .ok (.lshl, 1)) (hq : pc + 1 = q) (g : X.G h k n q Ls (.long (x <<< (y.toInt64 &&& 63)) :: st)) : X.G h k n pc Ls (.int y :: .long x :: st) := by
  subst hq; exact X.step g fun T _ Y t r => XT.lshl Y.here X.1 rfl (X.hd d) rfl r
theorem OwC.lshr {x : Int64} {y : Int32} (d : decode bytes pc = .ok (.lshr, 1)) (hq : pc + 1 = q) (g : X.G h k n q Ls (.long (x >>> (y.toInt64 &&& 63)) :: st)) : X.G h k n pc Ls (.int y :: .long x :: st) := by
  subst hq; exact X.step g fun T _ Y t r => XT.lshr Y.here X.1 rfl (X.hd d) rfl r
theorem OwC.lushr {x : Int64} {y : Int32} (d : decode bytes pc = .ok (.lushr, 1)) (hq : pc + 1 = q) (g : X.G h k n q Ls (.long (XT.ushrL x y) :: st)) : X.G h k n pc Ls (.int y :: .long x :: st) := by
  subst hq; exact X.step g fun T _ Y t r => XT.lushr Y.here X.1 rfl (X.hd d) rfl r
theorem OwC.idiv {x y : Int32} (d : decode bytes pc = .ok (.idiv, 1)) (hy : y ≠ 0) (hq : pc + 1 = q) (g : X.G h k n q Ls (.int (x / y) :: st)) : X.G h k n pc Ls (.int y :: .int x :: st) := by
  subst hq; exact X.step g fun T _ Y t r => XS.idiv Y.here X.1 rfl (X.hd d) rfl hy r
theorem OwC.ldiv {x y : Int64} (d : decode bytes pc = .ok (.ldiv, 1)) (hy : y ≠ 0) (hq : pc + 1 = q) (g : X.G h k n q Ls (.long (x / y) :: st)) : X.G h k n pc Ls (.long y :: .long x :: st) := by
  subst hq; exact X.step g fun T _ Y t r => XT.ldiv Y.here X.1 rfl (X.hd d) rfl hy r
theorem OwC.irem {x y : Int32} (d : decode bytes pc = .ok (.irem, 1)) (hy : y ≠ 0) (hq : pc + 1 = q) (g : X.G h k n q Ls (.int (x % y) :: st)) : X.G h k n pc Ls (.int y :: .int x :: st) := by
  subst hq; exact X.step g fun T _ Y t r => iremM Y X.1 rfl (X.hd d) rfl hy r
theorem ow_lrem (x y : Int64) : x - (x / y) * y = x % y := by
  rw [← Int64.toInt_inj, Int64.toInt_sub, Int64.toInt_mul, Int64.toInt_mod, Int64.toInt_div]
  have h1 : (((x.toInt.tdiv y.toInt).bmod (2 ^ 64) * y.toInt).bmod (2 ^ 64)) = (x.toInt.tdiv y.toInt * y.toInt).bmod (2 ^ 64) := by simp [Int.bmod_mul_bmod]
  rw [h1, Int.sub_bmod_bmod]
  have h2 : x.toInt - x.toInt.tdiv y.toInt * y.toInt = x.toInt.tmod y.toInt := by
    have := Int.mul_tdiv_add_tmod x.toInt y.toInt
    rw [Int.mul_comm] at this; omega
  rw [h2, ← Int64.toInt_mod, Int64.toInt_bmod]
theorem OwC.lrem {x y : Int64} (d : decode bytes pc = .ok (.lrem, 1)) (hy : y ≠ 0) (hq : pc + 1 = q) (g : X.G h k n q Ls (.long (x % y) :: st)) : X.G h k n pc Ls (.long y :: .long x :: st) := by
  subst hq; exact X.step g fun T _ Y t r => XT.lrem Y.here X.1 rfl (X.hd d) rfl hy (by rw [ow_lrem]; exact r)
theorem OwC.ineg {x : Int32} (d : decode bytes pc = .ok (.ineg, 1)) (hq : pc + 1 = q) (g : X.G h k n q Ls (.int (-x) :: st)) : X.G h k n pc Ls (.int x :: st) := by
  subst hq; exact X.step g fun T _ Y t r => XS.ineg Y.here X.1 rfl (X.hd d) rfl r
theorem OwC.lneg {x : Int64} (d : decode bytes pc = .ok (.lneg, 1)) (hq : pc + 1 = q) (g : X.G h k n q Ls (.long (-x) :: st)) : X.G h k n pc Ls (.long x :: st) := by
  subst hq; exact X.step g fun T _ Y t r => XT.lneg Y.here X.1 rfl (X.hd d) rfl r
theorem OwC.i2l {x : Int32} (d : decode bytes pc = .ok (.i2l, 1)) (hq : pc + 1 = q) (g : X.G h k n q Ls (.long (x.toInt64) :: st)) : X.G h k n pc Ls (.int x :: st) := by
  subst hq; exact X.step g fun T _ Y t r => XT.i2l Y.here X.1 rfl (X.hd d) rfl r
theorem OwC.l2i {x : Int64} (d : decode bytes pc = .ok (.l2i, 1)) (hq : pc + 1 = q) (g : X.G h k n q Ls (.int (x.toInt32) :: st)) : X.G h k n pc Ls (.long x :: st) := by
  subst hq; exact X.step g fun T _ Y t r => XT.l2i Y.here X.1 rfl (X.hd d) rfl r
theorem OwC.i2b {x : Int32} (d : decode bytes pc = .ok (.i2b, 1)) (hq : pc + 1 = q) (g : X.G h k n q Ls (.int (x.toInt8.toInt32) :: st)) : X.G h k n pc Ls (.int x :: st) := by
  subst hq; exact X.step g fun T _ Y t r => XT.i2b Y.here X.1 rfl (X.hd d) rfl r
theorem OwC.i2c {x : Int32} (d : decode bytes pc = .ok (.i2c, 1)) (hq : pc + 1 = q) (g : X.G h k n q Ls (.int (x.toUInt32.toUInt16.toUInt32.toInt32) :: st)) : X.G h k n pc Ls (.int x :: st) := by
  subst hq; exact X.step g fun T _ Y t r => XT.i2c Y.here X.1 rfl (X.hd d) rfl r
theorem OwC.iinc {j : Nat} {cst : Int} {x : Int32} (v : Int32) (d : decode bytes pc = .ok (.iinc j cst, 3)) (hv : Int32.ofInt cst = v) (hl : Ls[j]? = some (.val (.int x))) (hl' : storeLocals Ls j (.int (x + v)) = some Ls') (hq : pc + 3 = q) (g : X.G h k n q Ls' st) : X.G h k n pc Ls st := by
  subst hq hv; exact X.step g fun T _ Y t r => XS.iinc Y.here X.1 rfl (X.hd d) hl hl' r
/-! the stack -/
theorem OwC.dup {x : Value} (d : decode bytes pc = .ok (.dup, 1)) (hc : x.category = 1) (hq : pc + 1 = q) (g : X.G h k n q Ls (x :: x :: st)) : X.G h k n pc Ls (x :: st) := by
  subst hq; exact X.step g fun T _ Y t r => XS.dup Y.here X.1 rfl (X.hd d) rfl hc r
theorem OwC.pop {x : Value} (d : decode bytes pc = .ok (.pop, 1)) (hc : x.category = 1) (hq : pc + 1 = q) (g : X.G h k n q Ls st) : X.G h k n pc Ls (x :: st) := by
  subst hq; exact X.step g fun T _ Y t r => XT.pop Y.here X.1 rfl (X.hd d) rfl hc r
theorem OwC.dup_x1 {x y : Value} (d : decode bytes pc = .ok (.dup_x1, 1)) (hc : x.category = 1) (hc' : y.category = 1) (hq : pc + 1 = q) (g : X.G h k n q Ls (x :: y :: x :: st)) : X.G h k n pc Ls (x :: y :: st) := by
  subst hq; exact X.step g fun T _ Y t r => XT.dupX1 Y.here X.1 rfl (X.hd d) rfl hc hc' r
theorem OwC.dup2 {x y : Value} (d : decode bytes pc = .ok (.dup2, 1)) (hc : x.category = 1) (hc' : y.category = 1) (hq : pc + 1 = q) (g : X.G h k n q Ls (x :: y :: x :: y :: st)) : X.G h k n pc Ls (x :: y :: st) := by
  subst hq; exact X.step g fun T _ Y t r => XT.dup2 Y.here X.1 rfl (X.hd d) rfl hc hc' r
theorem OwC.dup2L {x : Int64} (d : decode bytes pc = .ok (.dup2, 1)) (hq : pc + 1 = q) (g : X.G h k n q Ls (.long x :: .long x :: st)) : X.G h k n pc Ls (.long x :: st) := by
  subst hq; exact X.step g fun T _ Y t r => XT.dup2L Y.here X.1 rfl (X.hd d) rfl r
/-! branches -/
theorem OwC.goto {o : Int} {q' : Nat} (d : decode bytes pc = .ok (.goto o, 3)) (hp : 0 ≤ (pc : Int) + o ∧ ((pc : Int) + o).toNat = q') (g : X.G h k n q' Ls st) : X.G h k n pc Ls st :=
  X.step g fun T _ Y t r => XS.goto Y.here X.1 rfl rfl (X.hd d) hp.1 hp.2 r
theorem OwC.icmpB {cd : ClassFile.Cond} {o : Int} {q' : Nat} {x y : Int32} (d : decode bytes pc = .ok (.if_icmp cd o, 3)) (hp : 0 ≤ (pc : Int) + o ∧ ((pc : Int) + o).toNat = q') (hq : pc + 3 = q) (g1 : if_icmp.holds cd x y = true → X.G h k n q' Ls st) (g0 : if_icmp.holds cd x y = false → X.G h k n q Ls st) : X.G h k n pc Ls (.int y :: .int x :: st) := by
  subst hq
  cases hc : if_icmp.holds cd x y with
  | true => exact X.step (g1 hc) fun T _ Y t r => XS.icmpYes Y.here X.1 rfl rfl (X.hd d) rfl hc hp.1 hp.2 r
  | false => exact X.step (g0 hc) fun T _ Y t r => XS.icmpNo Y.here X.1 rfl (X.hd d) rfl hc r
theorem OwC.ifB {cd : ClassFile.Cond} {o : Int} {q' : Nat} {x : Int32} (d : decode bytes pc = .ok (.ifCond cd o, 3)) (hp : 0 ≤ (pc : Int) + o ∧ ((pc : Int) + o).toNat = q') (hq : pc + 3 = q) (g1 : ifCond.holds cd x = true → X.G h k n q' Ls st) (g0 : ifCond.holds cd x = false → X.G h k n q Ls st) : X.G h k n pc Ls (.int x :: st) := by
  subst hq
  cases hc : ifCond.holds cd x with
  | true => exact X.step (g1 hc) fun T _ Y t r => XS.ifYes Y.here X.1 rfl rfl (X.hd d) rfl hc hp.1 hp.2 r
  | false => exact X.step (g0 hc) fun T _ Y t r => XS.ifNo Y.here X.1 rfl (X.hd d) rfl hc r
def owCd : ClassFile.Cond → Int → Int → Prop
  | .eq, a, b => a = b | .ne, a, b => ¬ a = b | .lt, a, b => a < b | .ge, a, b => b ≤ a | .gt, a, b => b < a | .le, a, b => a ≤ b
theorem ow_icmp (cd : ClassFile.Cond) (x y : Int32) : if_icmp.holds cd x y = true ↔ owCd cd x.toInt y.toInt := by
  cases cd <;> simp [if_icmp.holds, owCd, ← Int32.toInt_inj, Int32.lt_iff_toInt_lt, Int32.le_iff_toInt_le]
theorem ow_if (cd : ClassFile.Cond) (x : Int32) : ifCond.holds cd x = true ↔ owCd cd x.toInt 0 := by rw [if0, ow_icmp]; rfl
theorem ow_icmpF {cd : ClassFile.Cond} {x y : Int32} (hc : if_icmp.holds cd x y = false) : ¬ owCd cd x.toInt y.toInt := fun q => by rw [(ow_icmp cd x y).mpr q] at hc; cases hc
theorem ow_ifF {cd : ClassFile.Cond} {x : Int32} (hc : ifCond.holds cd x = false) : ¬ owCd cd x.toInt 0 := fun q => by rw [(ow_if cd x).mpr q] at hc; cases hc
theorem ow_lc (cd : ClassFile.Cond) (x y : Int64) : owCd cd (XT.cmpL x y).toInt 0 ↔ owCd cd x.toInt y.toInt := by
  have e1 : (1 : Int32).toInt = 1 := rfl
  have e0 : (0 : Int32).toInt = 0 := rfl
  have em : (-1 : Int32).toInt = -1 := rfl
  unfold XT.cmpL
  split
  · rename_i h1; rw [Int64.lt_iff_toInt_lt] at h1; cases cd <;> simp only [owCd, e1] <;> omega
  · rename_i h1; rw [Int64.lt_iff_toInt_lt] at h1
    split
    · rename_i h2; subst h2; cases cd <;> simp only [owCd, e0] <;> omega
    · rename_i h2; rw [← Int64.toInt_inj] at h2; cases cd <;> simp only [owCd, em] <;> omega
theorem OwC.icmp_eq {o : Int} {q' : Nat} {x y : Int32} {a b : Int} (d : decode bytes pc = .ok (.if_icmp .eq o, 3)) (hx : x.toInt = a) (hy : y.toInt = b) (hp : 0 ≤ (pc : Int) + o ∧ ((pc : Int) + o).toNat = q') (hq : pc + 3 = q) (g1 : a = b → X.G h k n q' Ls st) (g0 : ¬ a = b → X.G h k n q Ls st) : X.G h k n pc Ls (.int y :: .int x :: st) := by
  subst hx hy; exact X.icmpB d hp hq (fun hc => g1 ((ow_icmp _ _ _).mp hc)) (fun hc => g0 (by have := ow_icmpF hc; simp only [owCd] at this; omega))
theorem OwC.if_eq {o : Int} {q' : Nat} {x : Int32} {a : Int} (d : decode bytes pc = .ok (.ifCond .eq o, 3)) (hx : x.toInt = a) (hp : 0 ≤ (pc : Int) + o ∧ ((pc : Int) + o).toNat = q') (hq : pc + 3 = q) (g1 : a = 0 → X.G h k n q' Ls st) (g0 : ¬ a = 0 → X.G h k n q Ls st) : X.G h k n pc Ls (.int x :: st) := by
  subst hx; exact X.ifB d hp hq (fun hc => g1 ((ow_if _ _).mp hc)) (fun hc => g0 (by have := ow_ifF hc; simp only [owCd] at this; omega))
theorem OwC.lcmp_eq {o : Int} {q1 q' : Nat} {x y : Int64} {a b : Int} (d1 : decode bytes pc = .ok (.lcmp, 1)) (hq1 : pc + 1 = q1) (d : decode bytes q1 = .ok (.ifCond .eq o, 3)) (hx : x.toInt = a) (hy : y.toInt = b) (hp : 0 ≤ (q1 : Int) + o ∧ ((q1 : Int) + o).toNat = q') (hq : q1 + 3 = q) (g1 : a = b → X.G h k n q' Ls st) (g0 : ¬ a = b → X.G h k n q Ls st) : X.G h k n pc Ls (.long y :: .long x :: st) := by
  subst hx hy hq1; refine X.step (X.ifB d hp hq (fun hc => g1 ((ow_lc _ _ _).mp ((ow_if _ _).mp hc))) (fun hc => g0 (by have := mt (ow_lc _ _ _).mpr (ow_ifF hc); simp only [owCd] at this; omega))) fun T _ Y t r => XT.lcmp Y.here X.1 rfl (X.hd d1) rfl r
theorem OwC.icmp_ne {o : Int} {q' : Nat} {x y : Int32} {a b : Int} (d : decode bytes pc = .ok (.if_icmp .ne o, 3)) (hx : x.toInt = a) (hy : y.toInt = b) (hp : 0 ≤ (pc : Int) + o ∧ ((pc : Int) + o).toNat = q') (hq : pc + 3 = q) (g1 : ¬ a = b → X.G h k n q' Ls st) (g0 : a = b → X.G h k n q Ls st) : X.G h k n pc Ls (.int y :: .int x :: st) := by
  subst hx hy; exact X.icmpB d hp hq (fun hc => g1 ((ow_icmp _ _ _).mp hc)) (fun hc => g0 (by have := ow_icmpF hc; simp only [owCd] at this; omega))
theorem OwC.if_ne {o : Int} {q' : Nat} {x : Int32} {a : Int} (d : decode bytes pc = .ok (.ifCond .ne o, 3)) (hx : x.toInt = a) (hp : 0 ≤ (pc : Int) + o ∧ ((pc : Int) + o).toNat = q') (hq : pc + 3 = q) (g1 : ¬ a = 0 → X.G h k n q' Ls st) (g0 : a = 0 → X.G h k n q Ls st) : X.G h k n pc Ls (.int x :: st) := by
  subst hx; exact X.ifB d hp hq (fun hc => g1 ((ow_if _ _).mp hc)) (fun hc => g0 (by have := ow_ifF hc; simp only [owCd] at this; omega))
theorem OwC.lcmp_ne {o : Int} {q1 q' : Nat} {x y : Int64} {a b : Int} (d1 : decode bytes pc = .ok (.lcmp, 1)) (hq1 : pc + 1 = q1) (d : decode bytes q1 = .ok (.ifCond .ne o, 3)) (hx : x.toInt = a) (hy : y.toInt = b) (hp : 0 ≤ (q1 : Int) + o ∧ ((q1 : Int) + o).toNat = q') (hq : q1 + 3 = q) (g1 : ¬ a = b → X.G h k n q' Ls st) (g0 : a = b → X.G h k n q Ls st) : X.G h k n pc Ls (.long y :: .long x :: st) := by
  subst hx hy hq1; refine X.step (X.ifB d hp hq (fun hc => g1 ((ow_lc _ _ _).mp ((ow_if _ _).mp hc))) (fun hc => g0 (by have := mt (ow_lc _ _ _).mpr (ow_ifF hc); simp only [owCd] at this; omega))) fun T _ Y t r => XT.lcmp Y.here X.1 rfl (X.hd d1) rfl r
theorem OwC.icmp_lt {o : Int} {q' : Nat} {x y : Int32} {a b : Int} (d : decode bytes pc = .ok (.if_icmp .lt o, 3)) (hx : x.toInt = a) (hy : y.toInt = b) (hp : 0 ≤ (pc : Int) + o ∧ ((pc : Int) + o).toNat = q') (hq : pc + 3 = q) (g1 : a < b → X.G h k n q' Ls st) (g0 : b ≤ a → X.G h k n q Ls st) : X.G h k n pc Ls (.int y :: .int x :: st) := by
  subst hx hy; exact X.icmpB d hp hq (fun hc => g1 ((ow_icmp _ _ _).mp hc)) (fun hc => g0 (by have := ow_icmpF hc; simp only [owCd] at this; omega))
theorem OwC.if_lt {o : Int} {q' : Nat} {x : Int32} {a : Int} (d : decode bytes pc = .ok (.ifCond .lt o, 3)) (hx : x.toInt = a) (hp : 0 ≤ (pc : Int) + o ∧ ((pc : Int) + o).toNat = q') (hq : pc + 3 = q) (g1 : a < 0 → X.G h k n q' Ls st) (g0 : 0 ≤ a → X.G h k n q Ls st) : X.G h k n pc Ls (.int x :: st) := by
  subst hx; exact X.ifB d hp hq (fun hc => g1 ((ow_if _ _).mp hc)) (fun hc => g0 (by have := ow_ifF hc; simp only [owCd] at this; omega))
theorem OwC.lcmp_lt {o : Int} {q1 q' : Nat} {x y : Int64} {a b : Int} (d1 : decode bytes pc = .ok (.lcmp, 1)) (hq1 : pc + 1 = q1) (d : decode bytes q1 = .ok (.ifCond .lt o, 3)) (hx : x.toInt = a) (hy : y.toInt = b) (hp : 0 ≤ (q1 : Int) + o ∧ ((q1 : Int) + o).toNat = q') (hq : q1 + 3 = q) (g1 : a < b → X.G h k n q' Ls st) (g0 : b ≤ a → X.G h k n q Ls st) : X.G h k n pc Ls (.long y :: .long x :: st) := by
  subst hx hy hq1; refine X.step (X.ifB d hp hq (fun hc => g1 ((ow_lc _ _ _).mp ((ow_if _ _).mp hc))) (fun hc => g0 (by have := mt (ow_lc _ _ _).mpr (ow_ifF hc); simp only [owCd] at this; omega))) fun T _ Y t r => XT.lcmp Y.here X.1 rfl (X.hd d1) rfl r
theorem OwC.icmp_ge {o : Int} {q' : Nat} {x y : Int32} {a b : Int} (d : decode bytes pc = .ok (.if_icmp .ge o, 3)) (hx : x.toInt = a) (hy : y.toInt = b) (hp : 0 ≤ (pc : Int) + o ∧ ((pc : Int) + o).toNat = q') (hq : pc + 3 = q) (g1 : b ≤ a → X.G h k n q' Ls st) (g0 : a < b → X.G h k n q Ls st) : X.G h k n pc Ls (.int y :: .int x :: st) := by
  subst hx hy; exact X.icmpB d hp hq (fun hc => g1 ((ow_icmp _ _ _).mp hc)) (fun hc => g0 (by have := ow_icmpF hc; simp only [owCd] at this; omega))
theorem OwC.if_ge {o : Int} {q' : Nat} {x : Int32} {a : Int} (d : decode bytes pc = .ok (.ifCond .ge o, 3)) (hx : x.toInt = a) (hp : 0 ≤ (pc : Int) + o ∧ ((pc : Int) + o).toNat = q') (hq : pc + 3 = q) (g1 : 0 ≤ a → X.G h k n q' Ls st) (g0 : a < 0 → X.G h k n q Ls st) : X.G h k n pc Ls (.int x :: st) := by
  subst hx; exact X.ifB d hp hq (fun hc => g1 ((ow_if _ _).mp hc)) (fun hc => g0 (by have := ow_ifF hc; simp only [owCd] at this; omega))
theorem OwC.lcmp_ge {o : Int} {q1 q' : Nat} {x y : Int64} {a b : Int} (d1 : decode bytes pc = .ok (.lcmp, 1)) (hq1 : pc + 1 = q1) (d : decode bytes q1 = .ok (.ifCond .ge o, 3)) (hx : x.toInt = a) (hy : y.toInt = b) (hp : 0 ≤ (q1 : Int) + o ∧ ((q1 : Int) + o).toNat = q') (hq : q1 + 3 = q) (g1 : b ≤ a → X.G h k n q' Ls st) (g0 : a < b → X.G h k n q Ls st) : X.G h k n pc Ls (.long y :: .long x :: st) := by
  subst hx hy hq1; refine X.step (X.ifB d hp hq (fun hc => g1 ((ow_lc _ _ _).mp ((ow_if _ _).mp hc))) (fun hc => g0 (by have := mt (ow_lc _ _ _).mpr (ow_ifF hc); simp only [owCd] at this; omega))) fun T _ Y t r => XT.lcmp Y.here X.1 rfl (X.hd d1) rfl r
theorem OwC.icmp_gt {o : Int} {q' : Nat} {x y : Int32} {a b : Int} (d : decode bytes pc = .ok (.if_icmp .gt o, 3)) (hx : x.toInt = a) (hy : y.toInt = b) (hp : 0 ≤ (pc : Int) + o ∧ ((pc : Int) + o).toNat = q') (hq : pc + 3 = q) (g1 : b < a → X.G h k n q' Ls st) (g0 : a ≤ b → X.G h k n q Ls st) : X.G h k n pc Ls (.int y :: .int x :: st) := by
  subst hx hy; exact X.icmpB d hp hq (fun hc => g1 ((ow_icmp _ _ _).mp hc)) (fun hc => g0 (by have := ow_icmpF hc; simp only [owCd] at this; omega))
theorem OwC.if_gt {o : Int} {q' : Nat} {x : Int32} {a : Int} (d : decode bytes pc = .ok (.ifCond .gt o, 3)) (hx : x.toInt = a) (hp : 0 ≤ (pc : Int) + o ∧ ((pc : Int) + o).toNat = q') (hq : pc + 3 = q) (g1 : 0 < a → X.G h k n q' Ls st) (g0 : a ≤ 0 → X.G h k n q Ls st) : X.G h k n pc Ls (.int x :: st) := by
  subst hx; exact X.ifB d hp hq (fun hc => g1 ((ow_if _ _).mp hc)) (fun hc => g0 (by have := ow_ifF hc; simp only [owCd] at this; omega))
theorem OwC.lcmp_gt {o : Int} {q1 q' : Nat} {x y : Int64} {a b : Int} (d1 : decode bytes pc = .ok (.lcmp, 1)) (hq1 : pc + 1 = q1) (d : decode bytes q1 = .ok (.ifCond .gt o, 3)) (hx : x.toInt = a) (hy : y.toInt = b) (hp : 0 ≤ (q1 : Int) + o ∧ ((q1 : Int) + o).toNat = q') (hq : q1 + 3 = q) (g1 : b < a → X.G h k n q' Ls st) (g0 : a ≤ b → X.G h k n q Ls st) : X.G h k n pc Ls (.long y :: .long x :: st) := by
  subst hx hy hq1; refine X.step (X.ifB d hp hq (fun hc => g1 ((ow_lc _ _ _).mp ((ow_if _ _).mp hc))) (fun hc => g0 (by have := mt (ow_lc _ _ _).mpr (ow_ifF hc); simp only [owCd] at this; omega))) fun T _ Y t r => XT.lcmp Y.here X.1 rfl (X.hd d1) rfl r
theorem OwC.icmp_le {o : Int} {q' : Nat} {x y : Int32} {a b : Int} (d : decode bytes pc = .ok (.if_icmp .le o, 3)) (hx : x.toInt = a) (hy : y.toInt = b) (hp : 0 ≤ (pc : Int) + o ∧ ((pc : Int) + o).toNat = q') (hq : pc + 3 = q) (g1 : a ≤ b → X.G h k n q' Ls st) (g0 : b < a → X.G h k n q Ls st) : X.G h k n pc Ls (.int y :: .int x :: st) := by
  subst hx hy; exact X.icmpB d hp hq (fun hc => g1 ((ow_icmp _ _ _).mp hc)) (fun hc => g0 (by have := ow_icmpF hc; simp only [owCd] at this; omega))
theorem OwC.if_le {o : Int} {q' : Nat} {x : Int32} {a : Int} (d : decode bytes pc = .ok (.ifCond .le o, 3)) (hx : x.toInt = a) (hp : 0 ≤ (pc : Int) + o ∧ ((pc : Int) + o).toNat = q') (hq : pc + 3 = q) (g1 : a ≤ 0 → X.G h k n q' Ls st) (g0 : 0 < a → X.G h k n q Ls st) : X.G h k n pc Ls (.int x :: st) := by
  subst hx; exact X.ifB d hp hq (fun hc => g1 ((ow_if _ _).mp hc)) (fun hc => g0 (by have := ow_ifF hc; simp only [owCd] at this; omega))
theorem OwC.lcmp_le {o : Int} {q1 q' : Nat} {x y : Int64} {a b : Int} (d1 : decode bytes pc = .ok (.lcmp, 1)) (hq1 : pc + 1 = q1) (d : decode bytes q1 = .ok (.ifCond .le o, 3)) (hx : x.toInt = a) (hy : y.toInt = b) (hp : 0 ≤ (q1 : Int) + o ∧ ((q1 : Int) + o).toNat = q') (hq : q1 + 3 = q) (g1 : a ≤ b → X.G h k n q' Ls st) (g0 : b < a → X.G h k n q Ls st) : X.G h k n pc Ls (.long y :: .long x :: st) := by
  subst hx hy hq1; refine X.step (X.ifB d hp hq (fun hc => g1 ((ow_lc _ _ _).mp ((ow_if _ _).mp hc))) (fun hc => g0 (by have := mt (ow_lc _ _ _).mpr (ow_ifF hc); simp only [owCd] at this; omega))) fun T _ Y t r => XT.lcmp Y.here X.1 rfl (X.hd d1) rfl r
theorem OwC.ifnullT {o : Int} {q' : Nat} (d : decode bytes pc = .ok (.ifnull o, 3)) (hp : 0 ≤ (pc : Int) + o ∧ ((pc : Int) + o).toNat = q') (g : X.G h k n q' Ls st) : X.G h k n pc Ls (.null :: st) :=
  X.step g fun T _ Y t r => XS.ifnullYes Y.here X.1 rfl rfl (X.hd d) rfl hp.1 hp.2 r
theorem OwC.ifnullF {o : Int} {b : Addr} (d : decode bytes pc = .ok (.ifnull o, 3)) (hq : pc + 3 = q) (g : X.G h k n q Ls st) : X.G h k n pc Ls (.ref b :: st) := by
  subst hq; exact X.step g fun T _ Y t r => XS.ifnullNo Y.here X.1 rfl (X.hd d) rfl r
theorem OwC.ifnonnullT {o : Int} {q' : Nat} {b : Addr} (d : decode bytes pc = .ok (.ifnonnull o, 3)) (hp : 0 ≤ (pc : Int) + o ∧ ((pc : Int) + o).toNat = q') (g : X.G h k n q' Ls st) : X.G h k n pc Ls (.ref b :: st) :=
  X.step g fun T _ Y t r => XT.ifnonnullYes Y.here X.1 rfl rfl (X.hd d) rfl hp.1 hp.2 r
theorem OwC.ifnonnullF {o : Int} (d : decode bytes pc = .ok (.ifnonnull o, 3)) (hq : pc + 3 = q) (g : X.G h k n q Ls st) : X.G h k n pc Ls (.null :: st) := by
  subst hq; exact X.step g fun T _ Y t r => XT.ifnonnullNo Y.here X.1 rfl (X.hd d) rfl r
theorem OwC.acmp_ne {o : Int} {q' : Nat} {x y : Addr} (d : decode bytes pc = .ok (.if_acmp .ne o, 3)) (hp : 0 ≤ (pc : Int) + o ∧ ((pc : Int) + o).toNat = q') (hq : pc + 3 = q) (g1 : ¬ x = y → X.G h k n q' Ls st) (g0 : x = y → X.G h k n q Ls st) : X.G h k n pc Ls (.ref y :: .ref x :: st) := by
  subst hq
  by_cases hc : x = y
  · exact X.step (g0 hc) fun T _ Y t r => XT.acmpNo Y.here X.1 rfl (X.hd d) rfl rfl rfl (by simp [XT.acmp, hc]) r
  · exact X.step (g1 hc) fun T _ Y t r => XT.acmpYes Y.here X.1 rfl rfl (X.hd d) rfl rfl rfl (by simp [XT.acmp, hc]) hp.1 hp.2 r
theorem OwC.acmp_eq {o : Int} {q' : Nat} {x y : Addr} (d : decode bytes pc = .ok (.if_acmp .eq o, 3)) (hp : 0 ≤ (pc : Int) + o ∧ ((pc : Int) + o).toNat = q') (hq : pc + 3 = q) (g1 : x = y → X.G h k n q' Ls st) (g0 : ¬ x = y → X.G h k n q Ls st) : X.G h k n pc Ls (.ref y :: .ref x :: st) := by
  subst hq
  by_cases hc : x = y
  · exact X.step (g1 hc) fun T _ Y t r => XT.acmpYes Y.here X.1 rfl rfl (X.hd d) rfl rfl rfl (by simp [XT.acmp, hc]) hp.1 hp.2 r
  · exact X.step (g0 hc) fun T _ Y t r => XT.acmpNo Y.here X.1 rfl (X.hd d) rfl rfl rfl (by simp [XT.acmp, hc]) r
/-! returns -/
theorem OwC.fin {v : Option Value} (hv : meth.sig.returnType = none → v = none) (w : ∀ T locs, Stand p l e R s m args below meth c T locs k n → ∀ fs, (∀ (f : JFrame) (acts : List Action), f.method = m → f.locked = none → f.entered = [] → (doReturn e (T.setTop f) acts v).1 = T.setFrames fs) → Steps p.tables e below (T.setTop (mkF m pc Ls st)) (T.setFrames fs)) (hk : k ≤ kM) (hn : n ≤ nM) (hΦ : Φ v h) : X.G h k n pc Ls st := fun T locs Y eT N => by
  obtain ⟨fs, hr, hrun, hended, hW, hsame⟩ := Y.leave (v := v) hv X.2.2.2.2.2.2.1
  exact ⟨v, _, locs, w T locs Y fs hr, hrun, hended, ⟨by show Φ v T.heap; rw [eT]; exact hΦ, N⟩, ⟨_, rfl⟩, hW, hsame.mono hk hn⟩
theorem OwC.retV (d : decode bytes pc = .ok (.return_, 1)) (hret : ret = none) (hk : k ≤ kM) (hn : n ≤ nM) (hΦ : Φ none h) : X.G h k n pc Ls [] :=
  X.fin (fun _ => rfl) (fun T _ Y fs hr => Y.returnOut X.1 (X.2.2.2.2.2.1.trans hret) (X.hd d) hr) hk hn hΦ
theorem OwC.retI {z : Int32} (d : decode bytes pc = .ok (.ireturn, 1)) (hret : ret = some .int) (hk : k ≤ kM) (hn : n ≤ nM) (hΦ : Φ (some (.int z)) h) : X.G h k n pc Ls (.int z :: st) :=
  X.fin (fun q => by rw [X.2.2.2.2.2.1, hret] at q; cases q) (fun T _ Y fs hr => retOut Y X.1 (X.2.2.2.2.2.1.trans hret) rfl (Or.inl ⟨rfl, Or.inl rfl, z, rfl⟩) (X.hd d) hr) hk hn hΦ
theorem OwC.retN {z z' : Int32} {t : FieldType} (d : decode bytes pc = .ok (.ireturn, 1)) (hret : ret = some t) (ht : t = .boolean ∨ t = .byte ∨ t = .char ∨ t = .short) (hz : nar t z = z') (hk : k ≤ kM) (hn : n ≤ nM) (hΦ : Φ (some (.int z')) h) : X.G h k n pc Ls (.int z :: st) := by
  subst hz
  exact X.fin (fun q => by rw [X.2.2.2.2.2.1, hret] at q; cases q) (fun T _ Y fs hr => RoadKit.retN Y X.1 (X.2.2.2.2.2.1.trans hret) ht (X.hd d) hr) hk hn hΦ
theorem OwC.retJ {z : Int64} (d : decode bytes pc = .ok (.lreturn, 1)) (hret : ret = some .long) (hk : k ≤ kM) (hn : n ≤ nM) (hΦ : Φ (some (.long z)) h) : X.G h k n pc Ls (.long z :: st) :=
  X.fin (fun q => by rw [X.2.2.2.2.2.1, hret] at q; cases q) (fun T _ Y fs hr => retOut Y X.1 (X.2.2.2.2.2.1.trans hret) rfl (Or.inr (Or.inl ⟨rfl, rfl, z, rfl⟩)) (X.hd d) hr) hk hn hΦ
theorem OwC.retA {v : Value} {t : FieldType} (d : decode bytes pc = .ok (.areturn, 1)) (hret : ret = some t) (ht : t.isReference = true) (hv : v.isRef = true) (hnv : narrow t v = v) (hk : k ≤ kM) (hn : n ≤ nM) (hΦ : Φ (some v) h) : X.G h k n pc Ls (v :: st) :=
  X.fin (fun q => by rw [X.2.2.2.2.2.1, hret] at q; cases q) (fun T _ Y fs hr => retOut Y X.1 (X.2.2.2.2.2.1.trans hret) hnv (Or.inr (Or.inr (Or.inr (Or.inr ⟨rfl, ht, hv⟩)))) (X.hd d) hr) hk hn hΦ
/-! the heap -/
theorem OwC.getF {R0 O fn d0 host : String} {i : Nat} {a : Addr} {v : Value} (w : (Cond.fieldLink own i R0 fn d0).before a0 Z = true ∨ (Cond.fieldLinkNest own i R0 fn d0 host).before a0 Z = true) (via : Via Z R0 O fn d0) (F : Fld Z h a O fn d0 v) (d : decode bytes pc = .ok (.getfield i, 3)) (hq : pc + 3 = q) (g : X.G h k n q Ls (v :: st)) : X.G h k n pc Ls (.ref a :: st) := fun T locs Y eT N => by
  subst hq
  obtain ⟨T', Y', eT', w'⟩ := RoadKit.getF Y X.1 X.2.2.2.2.1 X.2.2.2.1 w via eT F (g := mkF m pc Ls (.ref a :: st)) rfl rfl (X.hd d)
  obtain ⟨v, s₂, L, r1, r⟩ := g T' locs Y' eT' N
  exact ⟨v, s₂, L, w' _ r1, r⟩
theorem OwC.getR {R0 fn d0 : String} {i : Nat} {a : Addr} {v : Value} (w : (Cond.fieldRef own i R0 fn d0).before a0 Z = true) (F : Fld Z h a R0 fn d0 v) (d : decode bytes pc = .ok (.getfield i, 3)) (hq : pc + 3 = q) (g : X.G h k n q Ls (v :: st)) : X.G h k n pc Ls (.ref a :: st) := fun T locs Y eT N => by
  subst hq
  have hT : Z.Warmed39 T.vm := wtrans X.2.2.2.2.1 Y.warmed
  have w' := Cond.fieldRef_warmed39 hT w
  have hcur : (Z.setVm T.vm).vm.findClass own = some m.cls := by rw [State.vm_setVm, Y.warmed.alike.findClass]; exact X.2.2.2.1
  obtain ⟨c1, k1, i1, f1, e1, e2⟩ := Cond.fieldRef_spec hcur w'
  obtain ⟨cell, cf, k, j, f, h1, h2, h3, h4, h5, h6, h7⟩ := F
  obtain ⟨k', q1, -⟩ := State.fieldFound?_setVm (s := Z) hT.alike h2
  cases q1.symm.trans e1
  obtain ⟨v', s₂, L, r1, r⟩ := g T locs Y eT N
  exact ⟨v', s₂, L, (Y.getfieldR X.1 (g := mkF m pc Ls (.ref a :: st)) rfl e2 h3 rfl (by rw [eT]; exact h1) h4 h7 (X.hd d) (Steps.refl _)).trans r1, r⟩
theorem OwC.getS {R0 O fn d0 : String} {i : Nat} {v : Value} (w : (Cond.fieldLink own i R0 fn d0).before a0 Z = true) (via : Via Z R0 O fn d0) (F : Sta Z h O fn d0 v) (d : decode bytes pc = .ok (.getstatic i, 3)) (hq : pc + 3 = q) (g : X.G h k n q Ls (v :: st)) : X.G h k n pc Ls st := fun T locs Y eT N => by
  subst hq
  obtain ⟨T', Y', eT', w'⟩ := RoadKit.getS (host := "") Y X.1 X.2.2.2.2.1 X.2.2.2.1 w via eT F (g := mkF m pc Ls st) rfl (X.hd d)
  obtain ⟨v, s₂, L, r1, r⟩ := g T' locs Y' eT' N
  exact ⟨v, s₂, L, w' _ r1, r⟩
theorem OwC.putF {R0 O fn d0 host C : String} {i kk : Nat} {a : Addr} {v old : Value} {ty : FieldType} (w : (Cond.fieldLink own i R0 fn d0).before a0 Z = true ∨ (Cond.fieldLinkNest own i R0 fn d0 host).before a0 Z = true) (via : Via Z R0 O fn d0) (F : Fld Z h a O fn d0 old) (E : Exa Z h a C)
    (L : (Cond.lays C O fn d0).before a0 Z = true ∨ ((Cond.laysFinal C O fn d0).before a0 Z = true ∧ own = O ∧ nm = "<init>")) (wi : (Cond.instantiable C kk).before a0 Z = true) (hty : parseFieldDescriptor d0 = some ty) (hnv : narrow ty v = v) (hf : fits ty v = true) (ge : n0 ≤ a)
    (d : decode bytes pc = .ok (.putfield i, 3)) (hq : pc + 3 = q) (g : ∀ h', Wr h h' a (RoadKit.slotOf Z O fn d0) v → X.G h' k n q Ls st) : X.G h k n pc Ls (v :: .ref a :: st) := fun T locs Y eT N => by
  subst hq
  obtain ⟨T', h', Y', eT', W, w'⟩ := RoadKit.putF Y X.1 X.2.2.2.2.1 X.2.2.2.1 w via eT F E (L.imp_right fun z => ⟨z.1, z.2.1, X.2.2.2.2.2.2.2.trans z.2.2⟩) wi hty hnv hf (g := mkF m pc Ls (v :: .ref a :: st)) rfl rfl (X.hd d)
  obtain ⟨v, s₂, L, r1, r⟩ := g h' W T' _ Y' eT' (Fr.snoc Y' N ge)
  exact ⟨v, s₂, L, w' _ r1, r⟩
theorem OwC.newO {C : String} {i N k' n' : Nat} (w : (Cond.classLink own i C).before a0 Z = true) (wi : (Cond.instantiable C N).before a0 Z = true) (wz : (Cond.initialized C).before a0 Z = true) (d : decode bytes pc = .ok (.new i, 3)) (hk : k + 1 = k') (hn : n + N = n') (hc : k' ≤ R.cells) (hs : n' ≤ R.slots) (hq : pc + 3 = q)
    (g : ∀ h' a, a = h.size → Ext h h' → Exa Z h' a C → (∀ {O fn d0 : String} {ty : FieldType}, Laid Z a0 C O fn d0 → parseFieldDescriptor d0 = some ty → Fld Z h' a O fn d0 (defaultValue ty)) → X.G h' k' n' q Ls (.ref a :: st)) : X.G h k n pc Ls st := fun T locs Y eT Nf => by
  subst hq hk hn
  obtain ⟨T', h', Y', eT', E, A, D, -, w'⟩ := RoadKit.newO Y X.1 X.2.2.2.2.1 X.2.2.2.1 w wi wz eT (g := mkF m pc Ls st) rfl (X.hd d) hc hs
  obtain ⟨v, s₂, L, r1, r⟩ := g h' h.size rfl E A D T' _ Y' eT' Nf
  exact ⟨v, s₂, L, w' _ r1, r⟩
theorem OwC.initO {i W : Nat} {a : Addr} (w1 : (Cond.methodLink own i Lib.objectInit).before a0 Z = true) (w2 : (Cond.instanceMethod Lib.objectInit).before a0 Z = true) (w3 : (Cond.code Lib.objectInit ⟨#[0xb1]⟩ 1 none).before a0 Z = true) (d : decode bytes pc = .ok (.invokespecial i, 3)) (hsz : Ls.size = mL) (hf : 1 ≤ R.frames) (hW : (st.map fun v => v.category).sum ≤ W) (hl : W + 12 ≤ R.locals) (hq : pc + 3 = q)
    (g : X.G h k n q Ls st) : X.G h k n pc Ls (.ref a :: st) := fun T locs Y eT N => by
  subst hq
  obtain ⟨T', Y', eT', w'⟩ := RoadKit.initO Y X.1 X.2.2.2.2.1 X.2.2.2.1 w1 w2 w3 eT (g := mkF m pc Ls (.ref a :: st)) rfl (hsz.trans X.2.2.1.symm) rfl (X.hd d) hf (W := W) (by show 2 * 0 + _ ≤ _; omega) hl
  obtain ⟨v, s₂, L, r1, r⟩ := g T' locs Y' eT' N
  exact ⟨v, s₂, L, w' _ r1, r⟩
/-! arrays: what stands in one, as a list -/
def OwA (Z : State) (h : Heap) (a : Addr) (ty : FieldType) (vs : List Value) : Prop := ∃ cl : Cell, Arr Z h a cl ty ∧ cl.slots.toList = vs ∧ vs.length < 2 ^ 31
variable {a : Addr} {ty : FieldType} {vs : List Value}
theorem OwA.lt (A : OwA Z h a ty vs) : a < h.size := by obtain ⟨cl, A, -⟩ := A; exact A.lt
theorem OwA.len (A : OwA Z h a ty vs) : vs.length < 2 ^ 31 := by obtain ⟨cl, A, -, r⟩ := A; exact r
theorem OwA.ext {h' : Heap} (A : OwA Z h a ty vs) (E : Ext h h') : OwA Z h' a ty vs := by obtain ⟨cl, A, r⟩ := A; exact ⟨cl, A.ext E, r⟩
theorem OwA.other {h' : Heap} {b : Addr} {sl : Nat} {v : Value} (A : OwA Z h a ty vs) (W : Wr h h' b sl v) (ne : a ≠ b) : OwA Z h' a ty vs := by obtain ⟨cl, A, r⟩ := A; exact ⟨cl, A.other W ne, r⟩
theorem OwA.keep {h' : Heap} {ws : List Addr} (A : OwA Z h a ty vs) (K : Keep h h' ws) (ni : a ∉ ws) : OwA Z h' a ty vs := by obtain ⟨cl, A, r⟩ := A; exact ⟨cl, ⟨K.2.1 a cl A.1 ni, A.2⟩, r⟩
theorem OwA.set {h' : Heap} {j : Nat} {v : Value} (A : OwA Z h a ty vs) (W : Wr h h' a j v) : OwA Z h' a ty (vs.set j v) := by
  obtain ⟨cl, A, r1, r2⟩ := A
  exact ⟨cl.setSlot j v, A.same W, by simp [Cell.setSlot, r1], by simpa using r2⟩
theorem ow_idx {i : Int32} {j : Nat} (hi : i.toInt = (j : Int)) : ¬ i < 0 ∧ i.toNatClampNeg = j := by
  refine ⟨?_, ?_⟩
  · rw [Int32.lt_iff_toInt_lt]; have : (0 : Int32).toInt = 0 := rfl; omega
  · have : i.toNatClampNeg = i.toInt.toNat := rfl
    omega
theorem OwA.inb {cl : Cell} {i : Int32} {j : Nat} (e : cl.slots.toList = vs) (hi : i.toInt = (j : Int)) (hj : j < vs.length) : ¬ (i < 0 ∨ cl.slots.size ≤ i.toNatClampNeg) := by
  obtain ⟨h1, h2⟩ := ow_idx hi
  have : cl.slots.size = vs.length := by rw [← e]; simp
  rintro (q | q)
  · exact h1 q
  · omega
theorem OwA.at {cl : Cell} {i : Int32} {j : Nat} {v : Value} (e : cl.slots.toList = vs) (hi : i.toInt = (j : Int)) (hv : vs[j]? = some v) : cl.slots[i.toNatClampNeg]? = some v := by
  rw [(ow_idx hi).2, ← hv, ← e]; simp
theorem ow_getlt {j : Nat} {v : Value} (hv : vs[j]? = some v) : j < vs.length := (List.getElem?_eq_some_iff.mp hv).1
theorem OwC.newP {aty : ArrayType} {z : Int32} {N k' n' : Nat} (w : (Cond.arrayClass (newarray.typeOf aty)).before a0 Z = true) (d : decode bytes pc = .ok (.newarray aty, 2)) (ht : newarray.typeOf aty = ty) (hz : z.toInt = (N : Int)) {cap : Nat} (hcap : N ≤ cap) (hb : cap * 8 ≤ 536870912) (hk : k + 1 = k') (hn : n + cap = n') (hc : k' ≤ R.cells) (hs : n' ≤ R.slots) (hq : pc + 2 = q)
    (g : ∀ h' a, a = h.size → Ext h h' → OwA Z h' a ty (List.replicate N (defaultValue ty)) → X.G h' k' n' q Ls (.ref a :: st)) : X.G h k n pc Ls (.int z :: st) := fun T locs Y eT Nf => by
  subst hq hk hn ht
  obtain ⟨z1, z2⟩ := ow_idx hz
  obtain ⟨T', h', cA, Y', eT', E, A, w'⟩ := RoadKit.newP Y X.1 X.2.2.2.2.1 w eT (g := mkF m pc Ls (.int z :: st)) rfl (X.hd d) rfl z1 (cap := cap) (by omega) hb hc hs
  obtain ⟨v, s₂, L, r1, r⟩ := g h' h.size rfl E ⟨_, A, by simp [newA, z2], by have := z.toInt_lt; simp; omega⟩ T' _ Y' eT' Nf
  exact ⟨v, s₂, L, w' _ r1, r⟩
theorem OwC.alen {z : Int32} (A : OwA Z h a ty vs) (hz : z.toInt = (vs.length : Int)) (d : decode bytes pc = .ok (.arraylength, 1)) (hq : pc + 1 = q) (g : X.G h k n q Ls (.int z :: st)) : X.G h k n pc Ls (.ref a :: st) := fun T locs Y eT N => by
  subst hq
  obtain ⟨cl, A, e, hl⟩ := A
  obtain ⟨v, s₂, L, r1, r⟩ := g T locs Y eT N
  have hsz : cl.slots.size = vs.length := by rw [← e]; simp
  have ez : cl.slots.size.toInt32 = z := by rw [hsz, ← Int32.toInt_inj, len_toInt hl, hz]
  exact ⟨v, s₂, L, Y.arraylength X.1 (by rw [eT]; exact A.1) (State.isArrayOf_alike X.2.2.2.2.1.alike A.2.1) (g := mkF m pc Ls (.ref a :: st)) rfl rfl (X.hd d) _ (by rw [ez]; exact r1), r⟩
theorem OwC.iaload {i : Int32} {j : Nat} {v : Value} (A : OwA Z h a .int vs) (hi : i.toInt = (j : Int)) (hv : vs[j]? = some v) (d : decode bytes pc = .ok (.iaload, 1)) (hq : pc + 1 = q) (g : X.G h k n q Ls (v :: st)) : X.G h k n pc Ls (.int i :: .ref a :: st) := fun T locs Y eT N => by
  subst hq
  obtain ⟨cl, A, e, -⟩ := A
  obtain ⟨v, s₂, L, r1, r⟩ := g T locs Y eT N
  exact ⟨v, s₂, L, Y.iaload X.1 (by rw [eT]; exact A.1) (State.isArrayOf_alike X.2.2.2.2.1.alike A.2.1) A.2.2 (OwA.inb e hi (ow_getlt hv)) (OwA.at e hi hv) (g := mkF m pc Ls (.int i :: .ref a :: st)) rfl rfl (X.hd d) _ r1, r⟩
theorem OwC.laload {i : Int32} {j : Nat} {v : Value} (A : OwA Z h a .long vs) (hi : i.toInt = (j : Int)) (hv : vs[j]? = some v) (d : decode bytes pc = .ok (.laload, 1)) (hq : pc + 1 = q) (g : X.G h k n q Ls (v :: st)) : X.G h k n pc Ls (.int i :: .ref a :: st) := fun T locs Y eT N => by
  subst hq
  obtain ⟨cl, A, e, -⟩ := A
  obtain ⟨v, s₂, L, r1, r⟩ := g T locs Y eT N
  exact ⟨v, s₂, L, Y.laload X.1 (by rw [eT]; exact A.1) (State.isArrayOf_alike X.2.2.2.2.1.alike A.2.1) A.2.2 (OwA.inb e hi (ow_getlt hv)) (OwA.at e hi hv) (g := mkF m pc Ls (.int i :: .ref a :: st)) rfl rfl (X.hd d) _ r1, r⟩
theorem OwC.baload {i : Int32} {j : Nat} {v : Value} (A : OwA Z h a .byte vs) (hi : i.toInt = (j : Int)) (hv : vs[j]? = some v) (d : decode bytes pc = .ok (.baload, 1)) (hq : pc + 1 = q) (g : X.G h k n q Ls (v :: st)) : X.G h k n pc Ls (.int i :: .ref a :: st) := fun T locs Y eT N => by
  subst hq
  obtain ⟨cl, A, e, -⟩ := A
  obtain ⟨v, s₂, L, r1, r⟩ := g T locs Y eT N
  exact ⟨v, s₂, L, Y.baloadBytes X.1 (by rw [eT]; exact A.1) (State.isArrayOf_alike X.2.2.2.2.1.alike A.2.1) A.2.2 (OwA.inb e hi (ow_getlt hv)) (OwA.at e hi hv) (g := mkF m pc Ls (.int i :: .ref a :: st)) rfl rfl (X.hd d) _ r1, r⟩
theorem OwC.caload {i : Int32} {j : Nat} {v : Value} (A : OwA Z h a .char vs) (hi : i.toInt = (j : Int)) (hv : vs[j]? = some v) (d : decode bytes pc = .ok (.caload, 1)) (hq : pc + 1 = q) (g : X.G h k n q Ls (v :: st)) : X.G h k n pc Ls (.int i :: .ref a :: st) := fun T locs Y eT N => by
  subst hq
  obtain ⟨cl, A, e, -⟩ := A
  obtain ⟨v, s₂, L, r1, r⟩ := g T locs Y eT N
  exact ⟨v, s₂, L, Y.caload X.1 (by rw [eT]; exact A.1) (State.isArrayOf_alike X.2.2.2.2.1.alike A.2.1) A.2.2 (OwA.inb e hi (ow_getlt hv)) (OwA.at e hi hv) (g := mkF m pc Ls (.int i :: .ref a :: st)) rfl rfl (X.hd d) _ r1, r⟩
theorem OwC.iastore {i : Int32} {j : Nat} {x : Int32} (A : OwA Z h a .int vs) (hi : i.toInt = (j : Int)) (hj : j < vs.length) (ge : n0 ≤ a) (d : decode bytes pc = .ok (.iastore, 1)) (hq : pc + 1 = q) (g : ∀ h', Wr h h' a j (.int x) → OwA Z h' a .int (vs.set j (.int x)) → X.G h' k n q Ls st) : X.G h k n pc Ls (.int x :: .int i :: .ref a :: st) := fun T locs Y eT N => by
  subst hq
  obtain ⟨cl, A1, e, hl⟩ := id A
  obtain ⟨T', h', Y', eT', W, w'⟩ := RoadKit.stI Y X.1 X.2.2.2.2.1 eT A1 (OwA.inb e hi hj) (g := mkF m pc Ls (.int x :: .int i :: .ref a :: st)) rfl rfl (X.hd d)
  have N' := Fr.snoc Y' N ge
  rw [(ow_idx hi).2] at W
  obtain ⟨v, s₂, L, r1, r⟩ := g h' W (A.set W) T' _ Y' eT' N'
  exact ⟨v, s₂, L, w' _ r1, r⟩
theorem OwC.lastore {i : Int32} {j : Nat} {x : Int64} (A : OwA Z h a .long vs) (hi : i.toInt = (j : Int)) (hj : j < vs.length) (ge : n0 ≤ a) (d : decode bytes pc = .ok (.lastore, 1)) (hq : pc + 1 = q) (g : ∀ h', Wr h h' a j (.long x) → OwA Z h' a .long (vs.set j (.long x)) → X.G h' k n q Ls st) : X.G h k n pc Ls (.long x :: .int i :: .ref a :: st) := fun T locs Y eT N => by
  subst hq
  obtain ⟨cl, A1, e, hl⟩ := id A
  obtain ⟨T', h', Y', eT', W, w'⟩ := RoadKit.stJ Y X.1 X.2.2.2.2.1 eT A1 (OwA.inb e hi hj) (g := mkF m pc Ls (.long x :: .int i :: .ref a :: st)) rfl rfl (X.hd d)
  have N' := Fr.snoc Y' N ge
  rw [(ow_idx hi).2] at W
  obtain ⟨v, s₂, L, r1, r⟩ := g h' W (A.set W) T' _ Y' eT' N'
  exact ⟨v, s₂, L, w' _ r1, r⟩
theorem OwC.bastore {i : Int32} {j : Nat} {x : Int32} (A : OwA Z h a .byte vs) (hi : i.toInt = (j : Int)) (hj : j < vs.length) (ge : n0 ≤ a) (d : decode bytes pc = .ok (.bastore, 1)) (hq : pc + 1 = q) (g : ∀ h', Wr h h' a j (.int (nar .byte x)) → OwA Z h' a .byte (vs.set j (.int (nar .byte x))) → X.G h' k n q Ls st) : X.G h k n pc Ls (.int x :: .int i :: .ref a :: st) := fun T locs Y eT N => by
  subst hq
  obtain ⟨cl, A1, e, hl⟩ := id A
  obtain ⟨T', h', Y', eT', W, w'⟩ := RoadKit.stB Y X.1 X.2.2.2.2.1 eT A1 (OwA.inb e hi hj) (g := mkF m pc Ls (.int x :: .int i :: .ref a :: st)) rfl rfl (X.hd d)
  have N' := Fr.snoc Y' N ge
  rw [(ow_idx hi).2] at W
  obtain ⟨v, s₂, L, r1, r⟩ := g h' W (A.set W) T' _ Y' eT' N'
  exact ⟨v, s₂, L, w' _ r1, r⟩
theorem OwC.castore {i : Int32} {j : Nat} {x : Int32} (A : OwA Z h a .char vs) (hi : i.toInt = (j : Int)) (hj : j < vs.length) (ge : n0 ≤ a) (d : decode bytes pc = .ok (.castore, 1)) (hq : pc + 1 = q) (g : ∀ h', Wr h h' a j (.int (nar .char x)) → OwA Z h' a .char (vs.set j (.int (nar .char x))) → X.G h' k n q Ls st) : X.G h k n pc Ls (.int x :: .int i :: .ref a :: st) := fun T locs Y eT N => by
  subst hq
  obtain ⟨cl, A1, e, hl⟩ := id A
  obtain ⟨T', h', Y', eT', W, w'⟩ := RoadKit.stC Y X.1 X.2.2.2.2.1 eT A1 (OwA.inb e hi hj) (g := mkF m pc Ls (.int x :: .int i :: .ref a :: st)) rfl rfl (X.hd d)
  have N' := Fr.snoc Y' N ge
  rw [(ow_idx hi).2] at W
  obtain ⟨v, s₂, L, r1, r⟩ := g h' W (A.set W) T' _ Y' eT' N'
  exact ⟨v, s₂, L, w' _ r1, r⟩
theorem OwC.cast {K C : String} {i : Nat} {a : Addr} (w : (Cond.classLink own i K).before a0 Z = true) (wc : (Cond.castable C K).before a0 Z = true) (E : Exa Z h a C) (d : decode bytes pc = .ok (.checkcast i, 3)) (hq : pc + 3 = q) (g : X.G h k n q Ls (.ref a :: st)) : X.G h k n pc Ls (.ref a :: st) := fun T locs Y eT N => by
  subst hq
  obtain ⟨T', Y', eT', w'⟩ := RoadKit.castY Y X.1 X.2.2.2.2.1 X.2.2.2.1 w eT (Ins.of_exa E wc) (g := mkF m pc Ls (.ref a :: st)) rfl rfl (X.hd d)
  obtain ⟨v, s₂, L, r1, r⟩ := g T' locs Y' eT' N
  exact ⟨v, s₂, L, w' _ r1, r⟩
theorem OwC.instY {K C : String} {i : Nat} {a : Addr} (w : (Cond.classLink own i K).before a0 Z = true) (wc : (Cond.castable C K).before a0 Z = true) (E : Exa Z h a C) (d : decode bytes pc = .ok (.instanceof i, 3)) (hq : pc + 3 = q) (g : X.G h k n q Ls (.int 1 :: st)) : X.G h k n pc Ls (.ref a :: st) := fun T locs Y eT N => by
  subst hq
  obtain ⟨T', Y', eT', w'⟩ := RoadKit.instY Y X.1 X.2.2.2.2.1 X.2.2.2.1 w eT (Ins.of_exa E wc) (g := mkF m pc Ls (.ref a :: st)) rfl rfl (X.hd d)
  obtain ⟨v, s₂, L, r1, r⟩ := g T' locs Y' eT' N
  exact ⟨v, s₂, L, w' _ r1, r⟩
theorem OwC.instNo {K C : String} {i : Nat} {a : Addr} (w : (Cond.classLink own i K).before a0 Z = true) (F : ∃ c t, Z.vm.findClass C = some c ∧ Z.vm.findClass K = some t ∧ Z.vm.assignable c t = false) (E : Exa Z h a C) (d : decode bytes pc = .ok (.instanceof i, 3)) (hq : pc + 3 = q) (g : X.G h k n q Ls (.int 0 :: st)) : X.G h k n pc Ls (.ref a :: st) := fun T locs Y eT N => by
  subst hq
  obtain ⟨T', Y', eT', w'⟩ := RoadKit.instNo Y X.1 X.2.2.2.2.1 X.2.2.2.1 w eT E F (g := mkF m pc Ls (.ref a :: st)) rfl rfl (X.hd d)
  obtain ⟨v, s₂, L, r1, r⟩ := g T' locs Y' eT' N
  exact ⟨v, s₂, L, w' _ r1, r⟩
theorem OwC.instNull {i : Nat} (d : decode bytes pc = .ok (.instanceof i, 3)) (hq : pc + 3 = q) (g : X.G h k n q Ls (.int 0 :: st)) : X.G h k n pc Ls (.null :: st) := by
  subst hq; exact X.step g fun T _ Y t r => Y.instanceofNull X.1 (g := mkF m pc Ls (.null :: st)) rfl rfl (X.hd d) t r
theorem ow_noSub {C K : String} {nn : Nat} (w : (Cond.superclass C "java/lang/Object").before a0 Z = true) (wo : (Cond.noSuperclass "java/lang/Object").before a0 Z = true) (wk : (Cond.instantiable K nn).before a0 Z = true) (h1 : C ≠ K) (h2 : "java/lang/Object" ≠ K) : ∃ c t, Z.vm.findClass C = some c ∧ Z.vm.findClass K = some t ∧ Z.vm.assignable c t = false := by
  obtain ⟨t, kt, g0, g2, g5, g7, -, -⟩ := Cond.instantiable_spec wk
  obtain ⟨o, ko, o1, o2, o3, -, -⟩ := Cond.noSuperclass_spec wo
  obtain ⟨c, h0⟩ := found_sup w
  obtain ⟨p, k, kp, e1, e2, e3, e4, e5, -, e7⟩ := Cond.superclass_spec h0 w
  cases o1.symm.trans e1
  have ne1 := ids_ne h0 g0 h1
  have ne2 := ids_ne o1 g0 h2
  have nO : ∀ fuel, Z.vm.isSubclassAux fuel o t = false := fun fuel => by cases fuel with
    | zero => rfl
    | succ f => simp [Vm.isSubclassAux, ne2, o2, o3]
  have nC : ∀ fuel, Z.vm.isSubclassAux fuel c t = false := fun fuel => by cases fuel with
    | zero => rfl
    | succ f => simp [Vm.isSubclassAux, ne1, e2, e4, nO]
  have g8 : kt.isInterface = false := by cases hh : kt.isInterface with
    | false => rfl
    | true => rw [hh] at g7; cases g7
  refine ⟨c, t, h0, g0, ?_⟩
  show Z.vm.assignableAux (255 + 1) c t = false
  simp [Vm.assignableAux, ne1, e2, g2, e5, g5, g8, Vm.isSubclass, nC]
theorem Exa.neOwA {x b : Addr} {C : String} {nn : Nat} (E : Exa Z h x C) (F : OwA Z h b ty vs) (w : (Cond.instantiable C nn).before a0 Z = true) : x ≠ b := fun e => by
  subst e
  obtain ⟨t, kt, g0, g2, g5, -⟩ := Cond.instantiable_spec w
  obtain ⟨c1, k1, e1, f1, g1, -⟩ := E
  obtain ⟨c2, ⟨e2, ⟨-, kk, hk, comp, hkind⟩, -⟩, -⟩ := F
  cases e1.symm.trans e2
  cases f1.symm.trans g0
  cases g2.symm.trans hk
  rw [g5] at hkind; cases hkind
/-! contracts and calls -/
def OwM (l : Launch) (Z : State) (y : MethodName) (bytes : ByteArray) (mL : Nat) (ret : Option FieldType) (rm : Room) (kM nM : Nat) (ws : List Cond) (as : Array Value) (h0 : Heap) (n0 : Nat) (Φ : Option Value → Heap → Prop) : Prop :=
  MetFree l y (head1 (Cond.code y bytes mL ret :: ws) rm) (fun a U => a = as ∧ Z.Warmed39 U.vm ∧ U.heap = h0) (fun _ _ _ _ _ => True) (fun _ U o U' => ∃ v L, o = .returned v ∧ (Φ v U'.heap ∧ Fr n0 L) ∧ FrameEnd U o U' L kM nM)
theorem OwM.of {y : MethodName} {rm : Room} {ws : List Cond} {as : Array Value} {h0 : Heap} (hpn : plainFor y = true) (hef : ∀ m, entryFrame m as mL = mkF m 0 Ls [])
    (body : ∀ p e s m below meth c (X : OwC p l e rm s m as below meth c Z y.cls y.name bytes mL ret n0 kM nM Φ), X.G h0 0 0 0 Ls []) : OwM l Z y bytes mL ret rm kM nM ws as h0 n0 Φ := by
  refine MetFree.of_bodySF hpn hisR ?_
  intro p e s m args below meth c s₁ Bd hml0 hP hK
  obtain ⟨rfl, hZ, hh⟩ := hP
  have X : OwC p l e rm s m args below meth c Z y.cls y.name bytes mL ret n0 kM nM Φ := ⟨Bd.exec, Bd.bytes, hml0, findClass_of_methodNamed Bd.named, hZ, Bd.returns, Bd.notSynchronized, (name_of_methodNamed Bd.named Bd.method).1⟩
  obtain ⟨v, s₂, L, r1, r2, r3, r4, r5⟩ := body p e s m below meth c X s₁ [] (Stand.of_body Bd) (by rw [← hh, Bd.state]; rfl) (Fr.nil n0)
  exact ⟨s₂, _, castTop (hef m) r1, r2, r3, v, L, rfl, r4, r5⟩
theorem OwM.mono {y : MethodName} {rm : Room} {ws : List Cond} {as : Array Value} {Ψ : Option Value → Heap → Prop} (K : OwM l Z y bytes mL ret rm kM nM ws as h n0 Φ) (hi : ∀ v h', Φ v h' → Ψ v h') : OwM l Z y bytes mL ret rm kM nM ws as h n0 Ψ :=
  MetFree.mono K (fun _ _ q => q) (fun _ _ _ _ _ q => q) (fun _ _ _ _ _ ⟨v, L, h1, ⟨h2, h3⟩, h4⟩ => ⟨v, L, h1, ⟨hi _ _ h2, h3⟩, h4⟩)
variable {y : MethodName} {by' : ByteArray} {mL' : Nat} {ret' : Option FieldType} {rm : Room} {as : Array Value} {Ψ : Option Value → Heap → Prop}
theorem OwC.back (X : OwC p l e R s m args below meth c Z own nm bytes mL ret n0 kM nM Φ) {len W : Nat} (K : OwM l Z y by' mL' ret' rm rm.cells rm.slots [] as h n0 Ψ) (wc : (Cond.code y by' mL' ret').before a0 Z = true) (wz : (Cond.initialized y.cls).before a0 Z = true) (hf : rm.frames + 1 ≤ R.frames) (hl : W + (mL' + 11) + rm.locals ≤ R.locals) :
    Back l R p e below s args y len W (fun A a => a = as ∧ A.U.heap = h ∧ A.cells + rm.cells ≤ R.cells ∧ A.slots + rm.slots ≤ R.slots)
      (fun A _ v B => ∃ L, (Ψ v B.U.heap ∧ Fr n0 L) ∧ B.locs = A.locs ++ L ∧ B.cells = A.cells + rm.cells ∧ B.slots = A.slots + rm.slots) :=
  backOf (Q := fun v h L => Ψ v h ∧ Fr n0 L) K X.2.2.2.2.1 wc wz hf hl
theorem OwC.callS {i W k' n' : Nat} {argsL : List Value} {ps : List FieldType} {rt : Option FieldType} (K : OwM l Z y by' mL' ret' rm rm.cells rm.slots [] as h n0 Ψ) (w1 : (Cond.methodLink own i y).before a0 Z = true) (w2 : (Cond.static y).before a0 Z = true) (w3 : (Cond.initialized y.cls).before a0 Z = true) (w4 : (Cond.code y by' mL' ret').before a0 Z = true) (hy : y.cls ≠ "java/lang/invoke/MethodHandle" ∧ y.cls ≠ "java/lang/invoke/VarHandle")
    (pd : parseMethodDescriptor y.desc = some ⟨ps, rt⟩) (hlen : argsL.length = ps.length) (has : argsL.toArray = as) (hst : st = argsL.reverse ++ rest) (hW : (rest.map fun v => v.category).sum ≤ W) (hsz : Ls.size = mL) (hf : rm.frames + 1 ≤ R.frames) (hl : W + (mL' + 11) + rm.locals ≤ R.locals) (hk : k + rm.cells = k') (hn : n + rm.slots = n') (hc : k' ≤ R.cells) (hs : n' ≤ R.slots)
    (d : decode bytes pc = .ok (.invokestatic i, 3)) (hq : pc + 3 = q) (g : ∀ v h', Ψ v h' → X.G h' k' n' q Ls (v.toList ++ rest)) : X.G h k n pc Ls st := fun T locs Y eT N => by
  subst hq hk hn has
  obtain ⟨v, vm1, B, -, Y', ⟨L0, ⟨hΨ, N0⟩, l1, l2, l3⟩, w'⟩ := Jvm.LawKit.callS Y X.1 (y := y) X.2.2.2.1 (mvT X.2.2.2.2.1 w1) (mvT X.2.2.2.2.1 w2) (mvT X.2.2.2.2.1 w3) (mvT X.2.2.2.2.1 w4) hy (X.back K w4 w3 hf hl) (g := mkF m pc Ls st) rfl (hsz.trans X.2.2.1.symm) (argsL := argsL) (rest := rest) (lenOf pd hlen) hst (by show 2 * 0 + _ ≤ _; omega) (X.hd d) (fun _ _ => ⟨rfl, eT, hc, hs⟩)
  obtain ⟨T', L', k', n'⟩ := B
  dsimp only [Pt.U, Pt.locs, Pt.cells, Pt.slots] at Y' l1 l2 l3 w' hΨ
  subst l1 l2 l3
  obtain ⟨v, s₂, L, r1, r⟩ := g v _ hΨ T' _ Y' rfl (N.app N0)
  exact ⟨v, s₂, L, w' _ r1, r⟩
theorem OwC.special {i W k' n' : Nat} {a : Addr} {argsL : List Value} {ps : List FieldType} {rt : Option FieldType} (K : OwM l Z y by' mL' none rm rm.cells rm.slots [] as h n0 Ψ) (hin : y.name = "<init>") (w1 : (Cond.methodLink own i y).before a0 Z = true) (w2 : (Cond.instanceMethod y).before a0 Z = true) (w3 : (Cond.initialized y.cls).before a0 Z = true) (w4 : (Cond.code y by' mL' none).before a0 Z = true) (hy : y.cls ≠ "java/lang/invoke/MethodHandle" ∧ y.cls ≠ "java/lang/invoke/VarHandle")
    (pd : parseMethodDescriptor y.desc = some ⟨ps, rt⟩) (hlen : argsL.length = ps.length) (has : (.ref a :: argsL).toArray = as) (hst : st = argsL.reverse ++ .ref a :: rest) (hW : (rest.map fun v => v.category).sum ≤ W) (hsz : Ls.size = mL) (hf : rm.frames + 1 ≤ R.frames) (hl : W + (mL' + 11) + rm.locals ≤ R.locals) (hk : k + rm.cells = k') (hn : n + rm.slots = n') (hc : k' ≤ R.cells) (hs : n' ≤ R.slots)
    (d : decode bytes pc = .ok (.invokespecial i, 3)) (hq : pc + 3 = q) (g : ∀ v h', Ψ v h' → X.G h' k' n' q Ls (v.toList ++ rest)) : X.G h k n pc Ls st := fun T locs Y eT N => by
  subst hq hk hn has
  obtain ⟨v, vm1, B, -, Y', ⟨L0, ⟨hΨ, N0⟩, l1, l2, l3⟩, w'⟩ := Y.specialBack X.1 (y := y) hin X.2.2.2.1 (mvT X.2.2.2.2.1 w1) (mvT X.2.2.2.2.1 w2) (mvT X.2.2.2.2.1 w4) hy (X.back K w4 w3 hf hl) (g := mkF m pc Ls st) rfl (hsz.trans X.2.2.1.symm) (Steps.refl _) (a := a) (argsL := argsL) (rest := rest) (lenOf pd hlen) hst (by show 2 * 0 + _ ≤ _; omega) (X.hd d) (fun _ _ => ⟨rfl, eT, hc, hs⟩)
  obtain ⟨T', L', k', n'⟩ := B
  dsimp only [Pt.U, Pt.locs, Pt.cells, Pt.slots] at Y' l1 l2 l3 w' hΨ
  subst l1 l2 l3
  obtain ⟨v, s₂, L, r1, r⟩ := g v _ hΨ T' _ Y' rfl (N.app N0)
  exact ⟨v, s₂, L, w'.trans r1, r⟩
theorem OwC.virtual {C : String} {i W k' n' : Nat} {a : Addr} {argsL : List Value} {ps : List FieldType} {rt : Option FieldType} (K : OwM l Z y by' mL' ret' rm rm.cells rm.slots [] as h n0 Ψ) (w1 : (Cond.methodLink own i y).before a0 Z = true) (w2 : (Cond.declares y).before a0 Z = true) (w5 : (Cond.selects C y y).before a0 Z = true) (w6 : (Cond.instanceMethod y).before a0 Z = true) (w3 : (Cond.initialized y.cls).before a0 Z = true) (w4 : (Cond.code y by' mL' ret').before a0 Z = true) (hy : y.cls ≠ "java/lang/invoke/MethodHandle" ∧ y.cls ≠ "java/lang/invoke/VarHandle") (E : Exa Z h a C)
    (pd : parseMethodDescriptor y.desc = some ⟨ps, rt⟩) (hlen : argsL.length = ps.length) (has : (.ref a :: argsL).toArray = as) (hst : st = argsL.reverse ++ .ref a :: rest) (hW : (rest.map fun v => v.category).sum ≤ W) (hsz : Ls.size = mL) (hf : rm.frames + 1 ≤ R.frames) (hl : W + (mL' + 11) + rm.locals ≤ R.locals) (hk : k + rm.cells = k') (hn : n + rm.slots = n') (hc : k' ≤ R.cells) (hs : n' ≤ R.slots)
    (d : decode bytes pc = .ok (.invokevirtual i, 3)) (hq : pc + 3 = q) (g : ∀ v h', Ψ v h' → X.G h' k' n' q Ls (v.toList ++ rest)) : X.G h k n pc Ls st := fun T locs Y eT N => by
  subst hq hk hn has
  obtain ⟨cB, kB, q1, q2, q3⟩ := isOf (T := T) X.2.2.2.2.1 eT E
  obtain ⟨v, vm1, B, -, Y', ⟨L0, ⟨hΨ, N0⟩, l1, l2, l3⟩, w'⟩ := Y.virtualBack X.1 (y := y) (z := y) X.2.2.2.1 (mvT X.2.2.2.2.1 w1) (mvT X.2.2.2.2.1 w2) (notFace_of_selects (args := #[]) (mvT X.2.2.2.2.1 w5)) (mvT X.2.2.2.2.1 w5) (mvT X.2.2.2.2.1 w6) hy (X.back K w4 w3 hf hl) q1 q3 (g := mkF m pc Ls st) rfl (hsz.trans X.2.2.1.symm) (Steps.refl _) (argsL := argsL) (rest := rest) (lenOf pd hlen) hst (by show 2 * 0 + _ ≤ _; omega) (X.hd d) (fun _ _ => ⟨rfl, eT, hc, hs⟩)
  obtain ⟨T', L', k', n'⟩ := B
  dsimp only [Pt.U, Pt.locs, Pt.cells, Pt.slots] at Y' l1 l2 l3 w' hΨ
  subst l1 l2 l3
  obtain ⟨v, s₂, L, r1, r⟩ := g v _ hΨ T' _ Y' rfl (N.app N0)
  exact ⟨v, s₂, L, w'.trans r1, r⟩
theorem OwC.private {C : String} {i W k' n' kk : Nat} {a : Addr} {argsL : List Value} {ps : List FieldType} {rt : Option FieldType} (K : OwM l Z y by' mL' ret' rm rm.cells rm.slots [] as h n0 Ψ) (w1 : (Cond.methodLink own i y).before a0 Z = true) (w6 : (Cond.instanceMethod y).before a0 Z = true) (w7 : (Cond.privateMethod y).before a0 Z = true) (w8 : (Cond.instantiable y.cls kk).before a0 Z = true) (w3 : (Cond.initialized y.cls).before a0 Z = true) (w4 : (Cond.code y by' mL' ret').before a0 Z = true) (hy : y.cls ≠ "java/lang/invoke/MethodHandle" ∧ y.cls ≠ "java/lang/invoke/VarHandle") (E : Exa Z h a C)
    (pd : parseMethodDescriptor y.desc = some ⟨ps, rt⟩) (hlen : argsL.length = ps.length) (has : (.ref a :: argsL).toArray = as) (hst : st = argsL.reverse ++ .ref a :: rest) (hW : (rest.map fun v => v.category).sum ≤ W) (hsz : Ls.size = mL) (hf : rm.frames + 1 ≤ R.frames) (hl : W + (mL' + 11) + rm.locals ≤ R.locals) (hk : k + rm.cells = k') (hn : n + rm.slots = n') (hc : k' ≤ R.cells) (hs : n' ≤ R.slots)
    (d : decode bytes pc = .ok (.invokevirtual i, 3)) (hq : pc + 3 = q) (g : ∀ v h', Ψ v h' → X.G h' k' n' q Ls (v.toList ++ rest)) : X.G h k n pc Ls st := fun T locs Y eT N => by
  subst hq hk hn has
  obtain ⟨cell, e1, e2⟩ := E.cell
  obtain ⟨c8, k8, f1, f2, -, f4, -⟩ := Cond.instantiable_spec (mvT (args := #[]) X.2.2.2.2.1 w8)
  have hni : k8.isInterface = false := by cases hh : k8.isInterface with
    | false => rfl
    | true => rw [hh] at f4; cases f4
  have hpr := Cond.privateMethod_at (mvP X.2.2.2.2.1 w7 (args := #[]))
  obtain ⟨v, vm1, B, -, Y', ⟨L0, ⟨hΨ, N0⟩, l1, l2, l3⟩, w'⟩ := Y.privateBack X.1 (y := y) X.2.2.2.1 (mvT X.2.2.2.2.1 w1) (mvT X.2.2.2.2.1 w6) (Jvm.Stand.selects_self_of_private f1 f2 hni hpr (mvT X.2.2.2.2.1 w6) hy) hpr (mvT X.2.2.2.2.1 w4) hy (X.back K w4 w3 hf hl) (g := mkF m pc Ls st) rfl (hsz.trans X.2.2.1.symm) (Steps.refl _) (a := a) (cell := cell) (by rw [eT]; exact e1) e2 (argsL := argsL) (rest := rest) (lenOf pd hlen) hst (by show 2 * 0 + _ ≤ _; omega) (X.hd d) (fun _ _ => ⟨rfl, eT, hc, hs⟩)
  obtain ⟨T', L', k', n'⟩ := B
  dsimp only [Pt.U, Pt.locs, Pt.cells, Pt.slots] at Y' l1 l2 l3 w' hΨ
  subst l1 l2 l3
  obtain ⟨v, s₂, L, r1, r⟩ := g v _ hΨ T' _ Y' rfl (N.app N0)
  exact ⟨v, s₂, L, w'.trans r1, r⟩
end OwKit

/-! more rules: arrays of references, a constructor through a resolved entry, a static call through a nest-mate's entry, arraycopy -/
section OwKit2
variable {p : Program} {l : Launch} {e : Env} {R : Room} {s : State} {m : MethodId} {args : Array Value} {below : List Frame} {meth : Method} {c : Code} {Z : State} {own nm : String} {bytes : ByteArray} {mL : Nat} {ret : Option FieldType} {n0 kM nM : Nat} {Φ : Option Value → Heap → Prop}
variable {a0 : Array Value} {h : Heap} {k n pc q : Nat} {Ls Ls' : Array Slot} {st rest : List Value}
variable {a : Addr} {ty : FieldType} {vs : List Value}
variable (X : OwC p l e R s m args below meth c Z own nm bytes mL ret n0 kM nM Φ)
/-- an array over the class C: its class takes objects of C -/
def OwV (Z : State) (h : Heap) (a : Addr) (C : String) : Prop := ∃ (cl : Cell) (t : FieldType), Arr Z h a cl t ∧ Ovr Z cl.cls C
theorem OwV.ext {h' : Heap} {C : String} (V : OwV Z h a C) (E : Ext h h') : OwV Z h' a C := by obtain ⟨cl, t, A, O⟩ := V; exact ⟨cl, t, A.ext E, O⟩
theorem OwV.keep {h' : Heap} {C : String} {ws : List Addr} (V : OwV Z h a C) (K : Keep h h' ws) : OwV Z h' a C := by
  obtain ⟨cl, t, ⟨A1, ⟨A2, kk, A3, A4⟩, A5⟩, O⟩ := V
  obtain ⟨c', q1, q2, q3, q4⟩ := K.2.2 a cl A1
  exact ⟨c', t, ⟨q1, ⟨by rw [q3]; exact A2, kk, by rw [q2]; exact A3, A4⟩, by rw [q3]; exact A5⟩, by rw [q2]; exact O⟩
theorem OwV.wr {h' : Heap} {C : String} {b : Addr} {sl : Nat} {v : Value} (V : OwV Z h a C) (W : Wr h h' b sl v) : OwV Z h' a C := V.keep (Keep.of_wr W)
theorem OwC.newR {C : String} {i : Nat} {z : Int32} {N k' n' : Nat} (w1 : (Cond.classLink own i C).before a0 Z = true) (w2 : (Cond.arrayOver (.object C)).before a0 Z = true) (d : decode bytes pc = .ok (.anewarray i, 3)) (hz : z.toInt = (N : Int)) {cap : Nat} (hcap : N ≤ cap) (hb : cap * 8 ≤ 536870912) (hk : k + 1 = k') (hn : n + cap = n') (hc : k' ≤ R.cells) (hs : n' ≤ R.slots) (hq : pc + 3 = q)
    (g : ∀ h' a, a = h.size → Ext h h' → OwA Z h' a (.object C) (List.replicate N .null) → OwV Z h' a C → X.G h' k' n' q Ls (.ref a :: st)) : X.G h k n pc Ls (.int z :: st) := fun T locs Y eT Nf => by
  subst hq hk hn
  obtain ⟨z1, z2⟩ := ow_idx hz
  obtain ⟨T', h', cA, Y', eT', E, A, -, O, w'⟩ := RoadKit.newRE Y X.1 X.2.2.2.2.1 X.2.2.2.1 w1 w2 eT (g := mkF m pc Ls (.int z :: st)) rfl (X.hd d) rfl z1 (cap := cap) (by omega) hb hc hs rfl
  obtain ⟨v, s₂, L, r1, r⟩ := g h' h.size rfl E ⟨_, A, by simp [newA, z2, defaultValue], by have := z.toInt_lt; simp; omega⟩ ⟨_, _, A, O⟩ T' _ Y' eT' Nf
  exact ⟨v, s₂, L, w' _ r1, r⟩
theorem OwC.aaload {i : Int32} {j : Nat} {v : Value} (A : OwA Z h a ty vs) (ht : ty.isReference = true) (hi : i.toInt = (j : Int)) (hv : vs[j]? = some v) (d : decode bytes pc = .ok (.aaload, 1)) (hq : pc + 1 = q) (g : X.G h k n q Ls (v :: st)) : X.G h k n pc Ls (.int i :: .ref a :: st) := fun T locs Y eT N => by
  subst hq
  obtain ⟨cl, A, e, -⟩ := A
  obtain ⟨v, s₂, L, r1, r⟩ := g T locs Y eT N
  exact ⟨v, s₂, L, Y.aaload X.1 (by rw [eT]; exact A.1) (State.isArrayOf_alike X.2.2.2.2.1.alike A.2.1) ht A.2.2 (OwA.inb e hi (ow_getlt hv)) (OwA.at e hi hv) (g := mkF m pc Ls (.int i :: .ref a :: st)) rfl rfl (X.hd d) _ r1, r⟩
theorem OwC.aastore {i : Int32} {j : Nat} {y : Addr} {C D : String} (A : OwA Z h a ty vs) (V : OwV Z h a C) (ht : ty.isReference = true) (E : Exa Z h y D) (wc : (Cond.castable D C).before a0 Z = true) (hi : i.toInt = (j : Int)) (hj : j < vs.length) (ge : n0 ≤ a) (d : decode bytes pc = .ok (.aastore, 1)) (hq : pc + 1 = q) (g : ∀ h', Wr h h' a j (.ref y) → OwA Z h' a ty (vs.set j (.ref y)) → X.G h' k n q Ls st) : X.G h k n pc Ls (.ref y :: .int i :: .ref a :: st) := fun T locs Y eT N => by
  subst hq
  obtain ⟨cl, A1, e, hl⟩ := id A
  obtain ⟨cl2, t2, A2, O⟩ := V
  obtain ⟨T', h', Y', eT', W, w'⟩ := RoadKit.stR Y X.1 X.2.2.2.2.1 eT A1 (OwA.inb e hi hj) ht (Sto.of A2 O (Ins.of_exa E wc)) (g := mkF m pc Ls (.ref y :: .int i :: .ref a :: st)) rfl rfl (X.hd d)
  have N' := Fr.snoc Y' N ge
  rw [(ow_idx hi).2] at W
  obtain ⟨v, s₂, L, r1, r⟩ := g h' W (A.set W) T' _ Y' eT' N'
  exact ⟨v, s₂, L, w' _ r1, r⟩
variable {y : MethodName} {by' : ByteArray} {mL' : Nat} {ret' : Option FieldType} {rm : Room} {as : Array Value} {Ψ : Option Value → Heap → Prop}
theorem OwC.callSN {host : String} {i W k' n' : Nat} {argsL : List Value} {ps : List FieldType} {rt : Option FieldType} (K : OwM l Z y by' mL' ret' rm rm.cells rm.slots [] as h n0 Ψ) (w1 : (Cond.methodLinkNest own i y host).before a0 Z = true) (w2 : (Cond.static y).before a0 Z = true) (w3 : (Cond.initialized y.cls).before a0 Z = true) (w4 : (Cond.code y by' mL' ret').before a0 Z = true) (hy : y.cls ≠ "java/lang/invoke/MethodHandle" ∧ y.cls ≠ "java/lang/invoke/VarHandle")
    (pd : parseMethodDescriptor y.desc = some ⟨ps, rt⟩) (hlen : argsL.length = ps.length) (has : argsL.toArray = as) (hst : st = argsL.reverse ++ rest) (hW : (rest.map fun v => v.category).sum ≤ W) (hsz : Ls.size = mL) (hf : rm.frames + 1 ≤ R.frames) (hl : W + (mL' + 11) + rm.locals ≤ R.locals) (hk : k + rm.cells = k') (hn : n + rm.slots = n') (hc : k' ≤ R.cells) (hs : n' ≤ R.slots)
    (d : decode bytes pc = .ok (.invokestatic i, 3)) (hq : pc + 3 = q) (g : ∀ v h', Ψ v h' → X.G h' k' n' q Ls (v.toList ++ rest)) : X.G h k n pc Ls st := fun T locs Y eT N => by
  subst hq hk hn has
  obtain ⟨v, vm1, B, -, Y', ⟨L0, ⟨hΨ, N0⟩, l1, l2, l3⟩, w'⟩ := Jvm.RoadKit.callSN Y X.1 (y := y) X.2.2.2.1 (Cond.methodLinkNest_wide X.2.2.2.2.1 w1 :) (mvT X.2.2.2.2.1 w2) (mvT X.2.2.2.2.1 w3) (mvT X.2.2.2.2.1 w4) hy (X.back K w4 w3 hf hl) (g := mkF m pc Ls st) rfl (hsz.trans X.2.2.1.symm) (argsL := argsL) (rest := rest) (lenOf pd hlen) hst (by show 2 * 0 + _ ≤ _; omega) (X.hd d) (fun _ _ => ⟨rfl, eT, hc, hs⟩)
  obtain ⟨T', L', k', n'⟩ := B
  dsimp only [Pt.U, Pt.locs, Pt.cells, Pt.slots] at Y' l1 l2 l3 w' hΨ
  subst l1 l2 l3
  obtain ⟨v, s₂, L, r1, r⟩ := g v _ hΨ T' _ Y' rfl (N.app N0)
  exact ⟨v, s₂, L, w'.trans r1, r⟩
theorem OwC.specialR {i W k' n' : Nat} {a : Addr} {argsL : List Value} {ps : List FieldType} {rt : Option FieldType} (K : OwM l Z y by' mL' none rm rm.cells rm.slots [] as h n0 Ψ) (hin : y.name = "<init>") (w1 : (Cond.methodRef own i y).before a0 Z = true) (w2 : (Cond.instanceMethod y).before a0 Z = true) (w3 : (Cond.initialized y.cls).before a0 Z = true) (w4 : (Cond.code y by' mL' none).before a0 Z = true) (hy : y.cls ≠ "java/lang/invoke/MethodHandle" ∧ y.cls ≠ "java/lang/invoke/VarHandle")
    (pd : parseMethodDescriptor y.desc = some ⟨ps, rt⟩) (hlen : argsL.length = ps.length) (has : (.ref a :: argsL).toArray = as) (hst : st = argsL.reverse ++ .ref a :: rest) (hW : (rest.map fun v => v.category).sum ≤ W) (hsz : Ls.size = mL) (hf : rm.frames + 1 ≤ R.frames) (hl : W + (mL' + 11) + rm.locals ≤ R.locals) (hk : k + rm.cells = k') (hn : n + rm.slots = n') (hc : k' ≤ R.cells) (hs : n' ≤ R.slots)
    (d : decode bytes pc = .ok (.invokespecial i, 3)) (hq : pc + 3 = q) (g : ∀ v h', Ψ v h' → X.G h' k' n' q Ls (v.toList ++ rest)) : X.G h k n pc Ls st := fun T locs Y eT N => by
  subst hq hk hn has
  have hT : Z.Warmed39 T.vm := wtrans X.2.2.2.2.1 Y.warmed
  obtain ⟨mz, methz, hnz, -⟩ := Cond.instanceMethod_spec w2
  obtain ⟨mk, methM, hnamed, hmethM, hstM, habM⟩ := Cond.instanceMethod_spec (mv (s := T) (args := #[]) hT w2)
  obtain ⟨m2, cM, q1, -, -, -, -, -, -, hsig⟩ := Cond.code_spec hnamed (mv (s := T) (args := #[]) hT w4)
  cases hmethM.symm.trans q1
  have wT := Cond.methodRef_warmed39 hT hnz hy w1
  have hcur : (Z.setVm T.vm).vm.findClass own = some m.cls := by rw [State.vm_setVm, Y.warmed.alike.findClass]; exact X.2.2.2.1
  obtain ⟨mm, c', hfound, hready, hfc, hres⟩ := Cond.methodRef_named e hcur wT
  have hfn : (Z.setVm T.vm).methodFound? y.cls y.name y.desc = some mk := State.methodFound?_of_named (s := Z.setVm T.vm) (show (Z.setVm T.vm).methodNamed? y = some mk from hnamed) hy
  cases hfound.symm.trans hfn
  have hcm : T.vm.findClass y.cls = some mk.cls := findClass_of_methodNamed hnamed
  cases (show T.vm.findClass y.cls = some c' from hfc).symm.trans hcm
  obtain ⟨kP, hkP, -⟩ := className_of_methodNamed hnamed
  obtain ⟨hnm, hds⟩ := name_of_methodNamed hnamed hmethM
  have hlook : lookupSpecial T.vm mk.cls "<init>" methM.desc = .method mk := by rw [hds, ← hin]; exact lookupSpecial_of_named hnamed hmethM hstM
  have hstep : ∀ target, (∀ acts, Steps p.tables e below (doInvoke e (T.setTop { (mkF m pc Ls st) with stack := rest }) acts mk (.ref a :: argsL).toArray).1 target) → Steps p.tables e below (T.setTop (mkF m pc Ls st)) target := fun target hrest => by
    have hd : decode c.code (mkF m pc Ls st).pc = .ok (.invokespecial i, 3) := X.hd d
    have hH : At T (mkF m pc Ls st).method c below := Y.here
    jvm_step hH [X.1, hd, invokespecial.wp_init (e := e) (s := T) (k := kP) (meth := methM) (m := mk) (a := a) (args := argsL) (rest := rest) (f := mkF m pc Ls st) hH.top hres hready hkP hmethM (by rw [hnm]; exact hin) hstM habM hlook (lenOf pd hlen _ hsig) hst]
    exact hrest
  obtain ⟨v, B, Y', ⟨L0, ⟨hΨ, N0⟩, l1, l2, l3⟩, w'⟩ := X.back (len := 3) (W := W) K w4 w3 hf hl m meth c ⟨T, locs, k, n⟩ { (mkF m pc Ls st) with stack := rest } (.invokespecial i) mk (.ref a :: argsL).toArray Y rfl (hsz.trans X.2.2.1.symm) (X.hd d) (by show 2 * 0 + (rest.map fun v => v.category).sum ≤ W; omega) hnamed ⟨rfl, eT, hc, hs⟩
  obtain ⟨T', L', k', n'⟩ := B
  dsimp only [Pt.U, Pt.locs, Pt.cells, Pt.slots] at Y' l1 l2 l3 w' hΨ
  subst l1 l2 l3
  obtain ⟨v, s₂, L, r1, r⟩ := g v _ hΨ T' _ Y' rfl (N.app N0)
  exact ⟨v, s₂, L, (hstep _ fun acts => by rw [doInvoke_state]; exact Steps.refl _).trans (w'.trans r1), r⟩
theorem ow_ofArv {b : Addr} {kc : ClassId} {z : Int32} {vs : List Value} {d : Value} {ty : FieldType} (F : Arv Z h b kc ty z vs d) (hl : z.toNatClampNeg = vs.length) : OwA Z h b ty vs := by
  obtain ⟨cl, A, -, hsz, -, H, -⟩ := F
  refine ⟨cl, A, ?_, ?_⟩
  · apply List.ext_getElem?
    intro j
    rw [Array.getElem?_toList]
    by_cases hj : j < cl.slots.size
    · rw [H j hj, List.getElem?_eq_getElem (by omega)]; simp [List.getElem?_eq_getElem (show j < vs.length by omega)]
    · rw [Array.getElem?_eq_none (by omega), List.getElem?_eq_none (by omega)]
  · have h1 : z.toNatClampNeg = z.toInt.toNat := rfl
    have := z.toInt_lt; omega
theorem ow_toArv (F : OwA Z h a ty vs) (hf : ∀ v ∈ vs, fits ty v = true) (d : Value) : ∃ kc z, Arv Z h a kc ty z vs d ∧ z.toNatClampNeg = vs.length := by
  obtain ⟨cl, A, e, hl⟩ := F
  have hz : (Int32.ofNat vs.length).toInt = (vs.length : Int) := Int32.toInt_ofNat_of_lt (by omega)
  obtain ⟨z1, z2⟩ := ow_idx hz
  have hsz : cl.slots.size = vs.length := by rw [← e]; simp
  refine ⟨cl.cls, Int32.ofNat vs.length, ⟨cl, A, rfl, by rw [z2, hsz], z1, fun j hj => ?_, fun j hj => ?_⟩, z2⟩
  · have : cl.slots[j]? = vs[j]? := by rw [← e]; simp
    rw [this, List.getElem?_eq_getElem (by omega)]; simp [List.getElem?_eq_getElem (show j < vs.length by omega)]
  · have : vs.getD j d = vs[j]'(by omega) := by simp [List.getElem?_eq_getElem (show j < vs.length by omega)]
    rw [this]; exact hf _ (List.getElem_mem _)
/-- System.arraycopy of the first nn elements of a into the front of b -/
theorem OwC.arraycopy {i W : Nat} {b : Addr} {ws : List Value} {nn : Int32} {N : Nat} (w1 : (Cond.methodLink own i Jvm.Stand.acN).before a0 Z = true) (w2 : (Cond.native Jvm.Stand.acN).before a0 Z = true) (w3 : (Cond.static Jvm.Stand.acN).before a0 Z = true) (w4 : (Cond.initialized "java/lang/System").before a0 Z = true) (A : OwA Z h a .long vs) (B : OwA Z h b .long ws) (fa : ∀ v ∈ vs, fits .long v = true) (fb : ∀ v ∈ ws, fits .long v = true) (hN : nn.toInt = (N : Int)) (h4 : N ≤ vs.length) (h5 : N ≤ ws.length) (ge : n0 ≤ b)
    (d : decode bytes pc = .ok (.invokestatic i, 3)) (hsz : Ls.size = mL) (hf : 1 ≤ R.frames) (hW : (st.map fun v => v.category).sum ≤ W) (hl : W + (nativeFrameWords "java/lang/System" "arraycopy" 5 + 11) ≤ R.locals) (hq : pc + 3 = q)
    (g : ∀ h', Keep h h' [b] → OwA Z h' b .long (vs.take N ++ ws.drop N) → X.G h' k n q Ls st) : X.G h k n pc Ls (.int nn :: .int 0 :: .ref b :: .int 0 :: .ref a :: st) := fun T locs Y eT Nf => by
  subst hq
  obtain ⟨ka, za, A', la⟩ := ow_toArv A fa (.long 0)
  obtain ⟨kb, zb, B', lb⟩ := ow_toArv B fb (.long 0)
  obtain ⟨n1, n2⟩ := ow_idx hN
  have z0 : (0 : Int32).toNatClampNeg = 0 := rfl
  obtain ⟨T', h', L, Y', eT', N', Kp, F, w'⟩ := RoadKit.cpA (sp := 0) (dp := 0) (nn := nn) (us := vs.take N) Y X.1 X.2.2.2.2.1 X.2.2.2.1 w1 w2 w3 w4 eT A' B' (Or.inl ⟨rfl, rfl⟩) (by decide) (by decide) n1 (by rw [z0, n2, la]; omega) (by rw [z0, n2, lb]; omega)
    (by
      rw [n2, z0]
      apply List.ext_getElem?
      intro j
      by_cases hj : j < N
      · rw [List.getElem?_take_of_lt hj, List.getElem?_map, List.getElem?_range hj, List.getElem?_eq_getElem (by omega)]; simp [List.getElem?_eq_getElem (show j < vs.length by omega)]
      · rw [List.getElem?_eq_none (by simp; omega), List.getElem?_eq_none (by simp; omega)])
    (by rw [z0, n2]; omega) Nf ge (g := mkF m pc Ls (.int nn :: .int 0 :: .ref b :: .int 0 :: .ref a :: st)) rfl (hsz.trans X.2.2.1.symm) rfl (X.hd d) hf (W := W) (by show 2 * 0 + _ ≤ _; omega) hl
  rw [z0, n2] at F
  have F' : OwA Z h' b .long (vs.take N ++ ws.drop N) := by
    have := ow_ofArv F (by rw [lb]; simp; omega)
    simpa using this
  obtain ⟨v, s₂, L2, r1, r⟩ := g h' Kp F' T' _ Y' eT' N'
  exact ⟨v, s₂, L2, w' _ r1, r⟩
end OwKit2
/-! numbers -/
theorem own_ofNat {c : Int32} (h1 : 0 ≤ c.toInt) (h2 : c.toInt < 2147483648) : c = Int32.ofNat c.toInt.toNat := by
  rw [← Int32.toInt_inj, Int32.toInt_ofNat_small (by omega)]; omega
theorem own_natInt (x : Int32) : x.toInt = if x.toBitVec.toNat < 2147483648 then (x.toBitVec.toNat : Int) else (x.toBitVec.toNat : Int) - 4294967296 := by
  show x.toBitVec.toInt = _
  rw [BitVec.toInt_eq_toNat_cond]
  split <;> split <;> omega
theorem own_c16 (x : Int32) : x.toUInt32.toUInt16.toUInt32.toInt32.toInt = x.toInt % 65536 := by
  have e : x.toUInt32.toUInt16.toUInt32.toInt32.toBitVec.toNat = x.toBitVec.toNat % 65536 := rfl
  have h1 := own_natInt x.toUInt32.toUInt16.toUInt32.toInt32
  have h2 := own_natInt x
  have h3 := x.toBitVec.isLt
  rw [e] at h1
  split at h1 <;> split at h2 <;> omega

theorem own_sub {x y : Int32} {b : Int} (hy : y.toInt = b) (h1 : -2147483648 ≤ x.toInt - b) (h2 : x.toInt - b < 2147483648) : (x - y).toInt = x.toInt - b := by
  subst hy; rw [Int32.toInt_sub]; exact Int.bmod_eq_of_le (by omega) (by omega)
theorem own_add {x y : Int32} {b : Int} (hy : y.toInt = b) (h1 : -2147483648 ≤ x.toInt + b) (h2 : x.toInt + b < 2147483648) : (x + y).toInt = x.toInt + b := by
  subst hy; rw [Int32.toInt_add]; exact Int.bmod_eq_of_le (by omega) (by omega)
theorem own_nor32 (n : Nat) : n ||| 32 = n + 32 * (1 - n / 32 % 2) := by
  have h1 : (n ||| 32) / 64 = n / 64 := by
    have := Nat.or_div_two_pow (a := n) (b := 32) (n := 6)
    simpa using this
  have h2 : (n ||| 32) % 64 = (n % 64) ||| 32 := by
    have := Nat.or_mod_two_pow (a := n) (b := 32) (n := 6)
    simpa using this
  have key : ∀ k : Fin 64, k.val ||| 32 = k.val + 32 * (1 - k.val / 32 % 2) := by decide
  have h3 := key ⟨n % 64, Nat.mod_lt _ (by omega)⟩
  simp only at h3
  rw [h3] at h2
  omega
theorem own_or32 (c : Int32) (h0 : 0 ≤ c.toInt) : (c ||| 32).toInt = c.toInt + 32 * (1 - c.toInt / 32 % 2) := by
  have e : (c ||| 32).toBitVec.toNat = c.toBitVec.toNat ||| 32 := rfl
  have h1 := own_natInt (c ||| 32)
  have h2 := own_natInt c
  have h3 := c.toBitVec.isLt
  rw [e, own_nor32] at h1
  split at h1 <;> split at h2 <;> omega

/-! bits of longs -/
theorem own_k63 {y : Int32} {j : Nat} (hj : y.toInt = (j : Int)) (h : j < 64) : ((y.toInt64 &&& 63).toBitVec.smod 64).toNat = j := by
  have key : ∀ k : Fin 64, (((Int32.ofNat k.val).toInt64 &&& 63).toBitVec.smod 64).toNat = k.val := by decide +kernel
  have e := own_ofNat (c := y) (by omega) (by omega)
  have e2 : y.toInt.toNat = j := by omega
  rw [e2] at e
  rw [e]; exact key ⟨j, h⟩
theorem own_u63 {y : Int32} {j : Nat} (hj : y.toInt = (j : Int)) (h : j < 64) : ((y.toInt64.toUInt64 &&& Int64.toUInt64 63).toBitVec % 64#64).toNat = j := by
  have key : ∀ k : Fin 64, (((Int32.ofNat k.val).toInt64.toUInt64 &&& Int64.toUInt64 63).toBitVec % 64#64).toNat = k.val := by decide +kernel
  have e := own_ofNat (c := y) (by omega) (by omega)
  have e2 : y.toInt.toNat = j := by omega
  rw [e2] at e
  rw [e]; exact key ⟨j, h⟩
theorem own_shl (x : Int64) {y : Int32} {j : Nat} (hj : y.toInt = (j : Int)) (h : j < 64) : (x <<< (y.toInt64 &&& 63)).toBitVec = x.toBitVec <<< j := by
  have e : (x <<< (y.toInt64 &&& 63)).toBitVec = x.toBitVec <<< ((y.toInt64 &&& 63).toBitVec.smod 64) := rfl
  rw [e, BitVec.shiftLeft_eq', own_k63 hj h]
theorem own_ushr (x : Int64) {y : Int32} {j : Nat} (hj : y.toInt = (j : Int)) (h : j < 64) : (XT.ushrL x y).toBitVec = x.toBitVec >>> j := by
  have e : (XT.ushrL x y).toBitVec = x.toBitVec >>> ((y.toInt64.toUInt64 &&& Int64.toUInt64 63).toBitVec % 64#64) := rfl
  rw [e, BitVec.ushiftRight_eq', own_u63 hj h]
theorem own_bit1 (x : Int64) {y : Int32} {j : Nat} (hj : y.toInt = (j : Int)) (h : j < 64) : XT.ushrL x y &&& 1 = if x.toBitVec.getLsbD j then 1 else 0 := by
  rw [← Int64.toBitVec_inj, Int64.toBitVec_and, own_ushr x hj h]
  have e1 : (1 : Int64).toBitVec = 1#64 := rfl
  have e0 : (0 : Int64).toBitVec = 0#64 := rfl
  apply BitVec.eq_of_getLsbD_eq
  intro i hi
  rw [e1, BitVec.getLsbD_and, BitVec.getLsbD_ushiftRight]
  by_cases q : i = 0
  · subst q; cases hb : x.toBitVec.getLsbD j <;> simp [hb, e1, e0]
  · cases hb : x.toBitVec.getLsbD j <;> simp [hb, e1, e0, q, BitVec.getLsbD_one]

theorem own_not (x : Int64) (i : Nat) (hi : i < 64) : (x ^^^ (-1 : Int64)).toBitVec.getLsbD i = !x.toBitVec.getLsbD i := by
  have e : (-1 : Int64).toBitVec = BitVec.allOnes 64 := by decide
  rw [Int64.toBitVec_xor, BitVec.getLsbD_xor, e, BitVec.getLsbD_allOnes]
  cases x.toBitVec.getLsbD i <;> simp [hi]
theorem own_mask (y : Int32) {w : Nat} (hy : y.toInt = ((64 - w : Nat) : Int)) (h1 : 1 ≤ w) (h2 : w ≤ 64) (i : Nat) : (XT.ushrL (-1 : Int64) y).toBitVec.getLsbD i = decide (i < w) := by
  rw [own_ushr _ hy (by omega), BitVec.getLsbD_ushiftRight]
  have e : (-1 : Int64).toBitVec = BitVec.allOnes 64 := by decide
  rw [e, BitVec.getLsbD_allOnes]
  by_cases q : i < w <;> simp [q] <;> omega
def own_T (f w : Nat) (val orig : Int64) (n i : Nat) : Bool := if f ≤ n ∧ n < f + w then val.toBitVec.getLsbD (n - f) else orig.toBitVec.getLsbD i
theorem own_lowm {n : Nat} (y : Int32) (hy : y.toInt = (n : Int)) (h : n < 64) (i : Nat) (hi : i < 64) : ((1 : Int64) <<< (y.toInt64 &&& 63) - 1).toBitVec.getLsbD i = decide (i < n) := by
  have e : ((1 : Int64) <<< (y.toInt64 &&& 63) - 1).toBitVec = BitVec.ofNat 64 (2 ^ n - 1) := by
    rw [Int64.toBitVec_sub, own_shl _ hy h]
    apply BitVec.eq_of_toNat_eq
    have p1 : 0 < 2 ^ n := Nat.pow_pos (by decide)
    have p2 : 2 ^ n < 2 ^ 64 := Nat.pow_lt_pow_right (by decide) h
    have o1 : (1 : Int64).toBitVec.toNat = 1 := rfl
    rw [BitVec.toNat_sub, BitVec.toNat_shiftLeft, o1, Nat.shiftLeft_eq, BitVec.toNat_ofNat]
    omega
  rw [e, BitVec.getLsbD_ofNat, Nat.testBit_two_pow_sub_one]
  simp [hi]
theorem own_wordA (orig val m : Int64) {y : Int32} {sh w : Nat} (hy : y.toInt = (sh : Int)) (hs : sh < 64) (hm : ∀ i, m.toBitVec.getLsbD i = decide (i < w)) (hv : ∀ i, w ≤ i → val.toBitVec.getLsbD i = false) (i : Nat) (hi : i < 64) :
    ((orig &&& (m <<< (y.toInt64 &&& 63) ^^^ (-1 : Int64))) ||| val <<< (y.toInt64 &&& 63)).toBitVec.getLsbD i = if sh ≤ i ∧ i < sh + w then val.toBitVec.getLsbD (i - sh) else orig.toBitVec.getLsbD i := by
  rw [Int64.toBitVec_or, BitVec.getLsbD_or, Int64.toBitVec_and, BitVec.getLsbD_and, own_not _ i hi, own_shl m hy hs, own_shl val hy hs, BitVec.getLsbD_shiftLeft, BitVec.getLsbD_shiftLeft, hm]
  by_cases q1 : sh ≤ i
  · by_cases q2 : i < sh + w
    · have q3 : ¬ i < sh := by omega
      have q4 : i - sh < w := by omega
      simp [q1, q2, q3, q4, hi]
    · have q3 : ¬ i < sh := by omega
      have q4 : ¬ i - sh < w := by omega
      simp [q1, q2, q3, q4, hi, hv (i - sh) (by omega)]
  · have q3 : i < sh := by omega
    simp [q1, q3, hi]
theorem own_wordB (orig val m : Int64) {y : Int32} {lo w : Nat} (hy : y.toInt = (lo : Int)) (hs : lo < 64) (hm : ∀ i, m.toBitVec.getLsbD i = decide (i < w)) (hv : ∀ i, w ≤ i → val.toBitVec.getLsbD i = false) (i : Nat) (hi : i < 64) :
    ((orig &&& (XT.ushrL m y ^^^ (-1 : Int64))) ||| XT.ushrL val y).toBitVec.getLsbD i = if lo + i < w then val.toBitVec.getLsbD (lo + i) else orig.toBitVec.getLsbD i := by
  rw [Int64.toBitVec_or, BitVec.getLsbD_or, Int64.toBitVec_and, BitVec.getLsbD_and, own_not _ i hi, own_ushr m hy hs, own_ushr val hy hs, BitVec.getLsbD_ushiftRight, BitVec.getLsbD_ushiftRight, hm]
  by_cases q1 : lo + i < w
  · simp [q1]
  · simp [q1, hv (lo + i) (by omega)]
theorem own_ext (x y : Int64) (h : ∀ i, i < 64 → x.toBitVec.getLsbD i = y.toBitVec.getLsbD i) : x = y := by
  rw [← Int64.toBitVec_inj]; exact BitVec.eq_of_getLsbD_eq h

/-! the count of bits, byte by byte -/
def own_M (m : Nat) : Nat → Nat
  | 0 => 0
  | n + 1 => own_M m n * 256 + m
def own_map (f : Nat → Nat) : Nat → Nat → Nat
  | 0, _ => 0
  | n + 1, x => own_map f n (x / 256) * 256 + f (x % 256)
def own_tot (f : Nat → Nat) : Nat → Nat → Nat
  | 0, _ => 0
  | n + 1, x => own_tot f n (x / 256) + f (x % 256)
theorem own_map4 (f : Nat → Nat) (x : Nat) : own_map f 4 x = (((0 * 256 + f (x / 256 / 256 / 256 % 256)) * 256 + f (x / 256 / 256 % 256)) * 256 + f (x / 256 % 256)) * 256 + f (x % 256) := rfl
theorem own_tot4 (f : Nat → Nat) (x : Nat) : own_tot f 4 x = (((0 + f (x / 256 / 256 / 256 % 256)) + f (x / 256 / 256 % 256)) + f (x / 256 % 256)) + f (x % 256) := rfl
def own_f1 (b : Nat) : Nat := b - ((b / 2) &&& 0x55)
def own_f2 (b : Nat) : Nat := (b &&& 0x33) + ((b / 4) &&& 0x33)
def own_f3 (b : Nat) : Nat := (b + b / 16) % 16
theorem own_andB (a b c d : Nat) (hb : b < 256) (hd : d < 256) : (a * 256 + b) &&& (c * 256 + d) = (a &&& c) * 256 + (b &&& d) := by
  have h1 := Nat.and_div_two_pow (a := a * 256 + b) (b := c * 256 + d) (n := 8)
  have h2 := Nat.and_mod_two_pow (a := a * 256 + b) (b := c * 256 + d) (n := 8)
  rw [show (a * 256 + b) / 2 ^ 8 = a by omega, show (c * 256 + d) / 2 ^ 8 = c by omega] at h1
  rw [show (a * 256 + b) % 2 ^ 8 = b by omega, show (c * 256 + d) % 2 ^ 8 = d by omega] at h2
  omega
theorem own_map_mod (f : Nat → Nat) (n x : Nat) (hf : ∀ b, b < 256 → f b < 256) : own_map f (n + 1) x % 256 = f (x % 256) ∧ own_map f (n + 1) x / 256 = own_map f n (x / 256) := by
  have := hf (x % 256) (by omega)
  simp only [own_map]; omega
theorem own_map_map (f g : Nat → Nat) (hf : ∀ b, b < 256 → f b < 256) : ∀ n x, own_map g n (own_map f n x) = own_map (fun b => g (f b)) n x
  | 0, _ => rfl
  | n + 1, x => by
    obtain ⟨h1, h2⟩ := own_map_mod f n x hf
    show own_map g n (own_map f (n + 1) x / 256) * 256 + g (own_map f (n + 1) x % 256) = _
    rw [h1, h2, own_map_map f g hf n]; rfl
theorem own_k1 : ∀ c : Fin 2, ∀ b : Fin 256, ((c.val * 128 + b.val / 2) &&& 0x55) = ((b.val / 2) &&& 0x55) ∧ ((b.val / 2) &&& 0x55) ≤ b.val := by decide +kernel
theorem own_k2 : ∀ c : Fin 4, ∀ b : Fin 256, ((c.val * 64 + b.val / 4) &&& 0x33) = ((b.val / 4) &&& 0x33) ∧ (b.val &&& 0x33) + ((b.val / 4) &&& 0x33) < 256 := by decide +kernel
theorem own_s1 : ∀ n x, x < 256 ^ n → ((x / 2) &&& own_M 0x55 n) ≤ x ∧ x - ((x / 2) &&& own_M 0x55 n) = own_map own_f1 n x
  | 0, x, hx => by simp at hx; subst hx; simp [own_M, own_map]
  | n + 1, x, hx => by
    obtain ⟨i1, i2⟩ := own_s1 n (x / 256) (by rw [Nat.pow_succ] at hx; omega)
    have e : x / 2 = (x / 256 / 2) * 256 + ((x / 256) % 2 * 128 + x % 256 / 2) := by omega
    obtain ⟨q1, q2⟩ := own_k1 ⟨(x / 256) % 2, by omega⟩ ⟨x % 256, by omega⟩
    simp only at q1 q2
    have e2 : (x / 2) &&& own_M 0x55 (n + 1) = ((x / 256 / 2) &&& own_M 0x55 n) * 256 + ((x % 256 / 2) &&& 0x55) := by
      rw [e]; show _ &&& (own_M 0x55 n * 256 + 0x55) = _
      rw [own_andB _ _ _ _ (by omega) (by decide), q1]
    rw [e2]
    simp only [own_map, own_f1]
    rw [← i2]; omega
theorem own_s2 : ∀ n x, x < 256 ^ n → (x &&& own_M 0x33 n) + ((x / 4) &&& own_M 0x33 n) = own_map own_f2 n x
  | 0, x, hx => by simp [own_M, own_map]
  | n + 1, x, hx => by
    have i2 := own_s2 n (x / 256) (by rw [Nat.pow_succ] at hx; omega)
    have e : x / 4 = (x / 256 / 4) * 256 + ((x / 256) % 4 * 64 + x % 256 / 4) := by omega
    obtain ⟨q1, q2⟩ := own_k2 ⟨(x / 256) % 4, by omega⟩ ⟨x % 256, by omega⟩
    simp only at q1 q2
    have e2 : (x / 4) &&& own_M 0x33 (n + 1) = ((x / 256 / 4) &&& own_M 0x33 n) * 256 + ((x % 256 / 4) &&& 0x33) := by
      rw [e]; show _ &&& (own_M 0x33 n * 256 + 0x33) = _
      rw [own_andB _ _ _ _ (by omega) (by decide), q1]
    have e3 : x &&& own_M 0x33 (n + 1) = ((x / 256) &&& own_M 0x33 n) * 256 + ((x % 256) &&& 0x33) := by
      conv => lhs; rw [show x = x / 256 * 256 + x % 256 by omega]
      show _ &&& (own_M 0x33 n * 256 + 0x33) = _
      rw [own_andB _ _ _ _ (by omega) (by decide)]
    rw [e2, e3]
    simp only [own_map, own_f2]
    rw [← i2]; omega
/-- nibbles at most 4 -/
def own_nib (b : Nat) : Prop := b % 16 ≤ 4 ∧ b / 16 ≤ 4
theorem own_and15 (b : Nat) : b &&& 0x0f = b % 16 := Nat.and_two_pow_sub_one_eq_mod b 4
theorem own_s3 (g : Nat → Nat) (hg : ∀ b, b < 256 → own_nib (g b)) : ∀ n x, x < 256 ^ n → (own_map g n x + own_map g n x / 16) &&& own_M 0x0f n = own_map (fun b => own_f3 (g b)) n x
  | 0, x, hx => by simp [own_M, own_map]
  | n + 1, x, hx => by
    have i2 := own_s3 g hg n (x / 256) (by rw [Nat.pow_succ] at hx; omega)
    have n1 := hg (x % 256) (by omega)
    have n2 : own_map g n (x / 256) % 16 ≤ 4 := by
      cases n with
      | zero => simp [own_map]
      | succ m =>
        have := hg (x / 256 % 256) (by omega)
        simp only [own_map]
        have := this.1
        omega
    unfold own_nib at n1
    set_option maxRecDepth 65536 in
    show (own_map g n (x / 256) * 256 + g (x % 256) + (own_map g n (x / 256) * 256 + g (x % 256)) / 16) &&& (own_M 0x0f n * 256 + 0x0f) = own_map (fun b => own_f3 (g b)) n (x / 256) * 256 + own_f3 (g (x % 256))
    generalize hy : own_map g n (x / 256) = y at *
    generalize hc : g (x % 256) = c at *
    have e : y * 256 + c + (y * 256 + c) / 16 = (y + y / 16) * 256 + (c + c / 16 + y % 16 * 16) := by omega
    rw [e, own_andB _ _ _ _ (by omega) (by decide), i2, own_and15]
    unfold own_f3
    omega
def own_pc (b : Nat) : Nat := own_f3 (own_f2 (own_f1 b))
theorem own_kb : ∀ b : Fin 256, own_f1 b.val < 256 ∧ own_f2 (own_f1 b.val) < 256 ∧ (own_f2 (own_f1 b.val) % 16 ≤ 4 ∧ own_f2 (own_f1 b.val) / 16 ≤ 4) ∧ own_pc b.val ≤ 8 := by decide +kernel
theorem own_swar (n x : Nat) (hx : x < 256 ^ n) (x1 x2 : Nat) (h1 : x1 = x - ((x / 2) &&& own_M 0x55 n)) (h2 : x2 = (x1 &&& own_M 0x33 n) + ((x1 / 4) &&& own_M 0x33 n)) : (x2 + x2 / 16) &&& own_M 0x0f n = own_map own_pc n x := by
  have b1 : ∀ b, b < 256 → own_f1 b < 256 := fun b hb => (own_kb ⟨b, hb⟩).1
  have e1 : x1 = own_map own_f1 n x := h1.trans (own_s1 n x hx).2
  have hx1 : x1 < 256 ^ n := by rw [h1]; omega
  have e2 : x2 = own_map (fun b => own_f2 (own_f1 b)) n x := by rw [h2, own_s2 n x1 hx1, e1, own_map_map _ _ b1]
  rw [e2, own_s3 (fun b => own_f2 (own_f1 b)) (fun b hb => show own_nib (own_f2 (own_f1 b)) from (own_kb ⟨b, hb⟩).2.2.1) n x hx]; rfl

theorem own_map8 (f : Nat → Nat) (x : Nat) : own_map f 8 x = ((((((((0 * 256 + f (x / 256 / 256 / 256 / 256 / 256 / 256 / 256 % 256)) * 256 + f (x / 256 / 256 / 256 / 256 / 256 / 256 % 256)) * 256 + f (x / 256 / 256 / 256 / 256 / 256 % 256)) * 256 + f (x / 256 / 256 / 256 / 256 % 256)) * 256 + f (x / 256 / 256 / 256 % 256)) * 256 + f (x / 256 / 256 % 256)) * 256 + f (x / 256 % 256)) * 256 + f (x % 256)) := rfl
theorem own_tot8 (f : Nat → Nat) (x : Nat) : own_tot f 8 x = ((((((((0 + f (x / 256 / 256 / 256 / 256 / 256 / 256 / 256 % 256)) + f (x / 256 / 256 / 256 / 256 / 256 / 256 % 256)) + f (x / 256 / 256 / 256 / 256 / 256 % 256)) + f (x / 256 / 256 / 256 / 256 % 256)) + f (x / 256 / 256 / 256 % 256)) + f (x / 256 / 256 % 256)) + f (x / 256 % 256)) + f (x % 256)) := rfl
theorem own_map_le (g : Nat → Nat) (m : Nat) (hg : ∀ b, b < 256 → g b ≤ m) : ∀ n x, own_map g n x ≤ m * own_M 1 n
  | 0, _ => by simp [own_map]
  | n + 1, x => by
    have h1 := own_map_le g m hg n (x / 256)
    have h2 := hg (x % 256) (by omega)
    simp only [own_map, own_M]
    rw [Nat.mul_add, ← Nat.mul_assoc]; omega
theorem own_fold8 (c d e f c0 c1 c2 c3 c4 c5 c6 c7 : Nat) (h : c = (c0) + 256 * (c1) + 65536 * (c2) + 16777216 * (c3) + 4294967296 * (c4) + 1099511627776 * (c5) + 281474976710656 * (c6) + 72057594037927936 * (c7)) (p0 : c0 ≤ 8) (p1 : c1 ≤ 8) (p2 : c2 ≤ 8) (p3 : c3 ≤ 8) (p4 : c4 ≤ 8) (p5 : c5 ≤ 8) (p6 : c6 ≤ 8) (p7 : c7 ≤ 8) (e4 : d = (c + c / 256) % 18446744073709551616) (e5 : e = (d + d / 65536) % 18446744073709551616) (e6 : f = (e + e / 4294967296) % 18446744073709551616) : f % 128 = c0 + c1 + c2 + c3 + c4 + c5 + c6 + c7 := by
  have hcb : c ≤ 578721382704613384 := by omega
  have d1 : d = c + c / 256 := by rw [e4]; exact Nat.mod_eq_of_lt (by omega)
  have f1 : c / 256 = (c1) + 256 * (c2) + 65536 * (c3) + 16777216 * (c4) + 4294967296 * (c5) + 1099511627776 * (c6) + 281474976710656 * (c7) := by clear e4 e5 e6 d1; omega
  have f2 : d = (c0 + c1) + 256 * (c1 + c2) + 65536 * (c2 + c3) + 16777216 * (c3 + c4) + 4294967296 * (c4 + c5) + 1099511627776 * (c5 + c6) + 281474976710656 * (c6 + c7) + 72057594037927936 * (c7) := by rw [d1, f1, h]; clear e4 e5 e6 d1 f1 h hcb; omega
  have hdb : d ≤ 1157442765409226768 := by rw [d1]; clear e4 e5 e6 f1 f2 h; omega
  have d2 : e = d + d / 65536 := by rw [e5]; exact Nat.mod_eq_of_lt (by clear e4 e5 e6 f1 f2 h d1; omega)
  have g1 : d / 65536 = (c2 + c3) + 256 * (c3 + c4) + 65536 * (c4 + c5) + 16777216 * (c5 + c6) + 4294967296 * (c6 + c7) + 1099511627776 * (c7) := by clear e4 e5 e6 d1 f1 h hcb hdb d2; omega
  have f3 : e = (c0 + c1 + (c2 + c3)) + 256 * (c1 + c2 + (c3 + c4)) + 65536 * (c2 + c3 + (c4 + c5)) + 16777216 * (c3 + c4 + (c5 + c6)) + 4294967296 * (c4 + c5 + (c6 + c7)) + 1099511627776 * (c5 + c6 + (c7)) + 281474976710656 * (c6 + c7) + 72057594037927936 * (c7) := by rw [d2, g1, f2]; clear e4 e5 e6 d1 f1 h hcb hdb d2 g1 f2; omega
  have heb : e ≤ 2314885530818453536 := by rw [d2]; clear e4 e5 e6 f1 f2 h g1 f3 d1; omega
  have d3 : f = e + e / 4294967296 := by rw [e6]; exact Nat.mod_eq_of_lt (by clear e4 e5 e6 f1 f2 h d1 g1 f3 d2; omega)
  have g2 : e / 4294967296 = (c4 + c5 + (c6 + c7)) + 256 * (c5 + c6 + (c7)) + 65536 * (c6 + c7) + 16777216 * (c7) := by clear e4 e5 e6 d1 f1 h hcb hdb d2 g1 f2 heb d3; omega
  rw [d3, g2, f3]; clear e4 e5 e6 d1 f1 h hcb hdb d2 g1 f2 heb d3 g2 f3; omega
theorem own_ushr64 (x : Int64) {y : Int32} {j : Nat} (hy : ((y.toInt64 &&& 63).toUInt64.toBitVec % 64#64).toNat = j) : (XT.ushrL x y).toBitVec.toNat = x.toBitVec.toNat / 2 ^ j := by
  have e : (XT.ushrL x y).toBitVec = x.toBitVec >>> ((y.toInt64 &&& 63).toUInt64.toBitVec % 64#64) := rfl
  rw [e, BitVec.ushiftRight_eq', hy, BitVec.toNat_ushiftRight, Nat.shiftRight_eq_div_pow]
theorem own_add64 (x y : Int64) : (x + y).toBitVec.toNat = (x.toBitVec.toNat + y.toBitVec.toNat) % 18446744073709551616 := rfl
theorem own_and64 (x y : Int64) : (x &&& y).toBitVec.toNat = x.toBitVec.toNat &&& y.toBitVec.toNat := rfl
theorem own_sub64 (x y : Int64) (h : y.toBitVec.toNat ≤ x.toBitVec.toNat) : (x - y).toBitVec.toNat = x.toBitVec.toNat - y.toBitVec.toNat := by
  have e : (x - y).toBitVec = x.toBitVec - y.toBitVec := rfl
  have := x.toBitVec.isLt
  rw [e, BitVec.toNat_sub]; omega
theorem own_pcle (b : Nat) (hb : b < 256) : own_pc b ≤ 8 := (own_kb ⟨b, hb⟩).2.2.2
theorem own_totle (n : Nat) : own_tot own_pc 8 n ≤ 64 := by
  rw [own_tot8]
  have p0 := own_pcle (n % 256) (by omega)
  have p1 := own_pcle (n / 256 % 256) (by omega)
  have p2 := own_pcle (n / 256 / 256 % 256) (by omega)
  have p3 := own_pcle (n / 256 / 256 / 256 % 256) (by omega)
  have p4 := own_pcle (n / 256 / 256 / 256 / 256 % 256) (by omega)
  have p5 := own_pcle (n / 256 / 256 / 256 / 256 / 256 % 256) (by omega)
  have p6 := own_pcle (n / 256 / 256 / 256 / 256 / 256 / 256 % 256) (by omega)
  have p7 := own_pcle (n / 256 / 256 / 256 / 256 / 256 / 256 / 256 % 256) (by omega)
  omega
/-- what Long.bitCount computes is the number of ones -/
theorem own_pop64 (v a b c d e f : Int64) (ha : a = v - (XT.ushrL v 1 &&& 6148914691236517205)) (hb : b = (a &&& 3689348814741910323) + (XT.ushrL a 2 &&& 3689348814741910323)) (hc : c = (b + XT.ushrL b 4) &&& 1085102592571150095) (hd : d = c + XT.ushrL c 8) (he : e = d + XT.ushrL d 16) (hf : f = e + XT.ushrL e 32) :
    (f.toInt32 &&& 127).toInt = (own_tot own_pc 8 v.toBitVec.toNat : Int) := by
  have hv := v.toBitVec.isLt
  generalize hn : v.toBitVec.toNat = n at *
  have m5 : (6148914691236517205 : Int64).toBitVec.toNat = own_M 0x55 8 := by decide
  have m3 : (3689348814741910323 : Int64).toBitVec.toNat = own_M 0x33 8 := by decide
  have mf : (1085102592571150095 : Int64).toBitVec.toNat = own_M 0x0f 8 := by decide
  have s1 := own_s1 8 n (by omega)
  have e1 : a.toBitVec.toNat = n - ((n / 2) &&& own_M 0x55 8) := by
    have q : (XT.ushrL v 1 &&& 6148914691236517205).toBitVec.toNat = (n / 2) &&& own_M 0x55 8 := by rw [own_and64, own_ushr64 v (j := 1) (by decide), m5, hn]
    rw [ha, own_sub64 _ _ (by rw [q, hn]; exact s1.1), q, hn]
  have ka := a.toBitVec.isLt
  have hx1 : a.toBitVec.toNat < 256 ^ 8 := by omega
  have s2 := own_s2 8 a.toBitVec.toNat hx1
  have b1 : ∀ b, b < 256 → own_f1 b < 256 := fun b hb => (own_kb ⟨b, hb⟩).1
  have b2 : ∀ b, b < 256 → own_f2 (own_f1 b) < 256 := fun b hb => (own_kb ⟨b, hb⟩).2.1
  have e1' : a.toBitVec.toNat = own_map own_f1 8 n := e1.trans s1.2
  have lt2 : own_map own_f2 8 a.toBitVec.toNat < 18446744073709551616 := by
    rw [e1', own_map_map _ _ b1]
    have q := own_map_le (fun b => own_f2 (own_f1 b)) 255 (fun b hb => Nat.le_of_lt_succ (b2 b hb)) 8 n
    have m : 255 * own_M 1 8 = 18446744073709551615 := by decide
    omega
  have e2 : b.toBitVec.toNat = own_map own_f2 8 a.toBitVec.toNat := by
    rw [hb, own_add64, own_and64, own_and64, own_ushr64 a (j := 2) (by decide), m3, s2, Nat.mod_eq_of_lt lt2]
  have sw := own_swar 8 n (by omega) a.toBitVec.toNat b.toBitVec.toNat e1 (e2.trans s2.symm)
  have kb := b.toBitVec.isLt
  have e2' : b.toBitVec.toNat = own_map (fun b => own_f2 (own_f1 b)) 8 n := by rw [e2, e1', own_map_map _ _ b1]
  have lt3 : b.toBitVec.toNat + b.toBitVec.toNat / 16 < 18446744073709551616 := by
    have q := own_map_le (fun b => own_f2 (own_f1 b)) 68 (fun b hb => by have q : own_f2 (own_f1 b) % 16 ≤ 4 ∧ own_f2 (own_f1 b) / 16 ≤ 4 := (own_kb ⟨b, hb⟩).2.2.1; show own_f2 (own_f1 b) ≤ 68; omega) 8 n
    have m : 68 * own_M 1 8 = 4919131752989213764 := by decide
    rw [← e2'] at q
    omega
  have e3 : c.toBitVec.toNat = own_map own_pc 8 n := by
    rw [hc, own_and64, own_add64, own_ushr64 b (j := 4) (by decide), mf, show (2 : Nat) ^ 4 = 16 from rfl, Nat.mod_eq_of_lt lt3]; exact sw
  have p0 := own_pcle (n % 256) (by omega)
  have p1 := own_pcle (n / 256 % 256) (by omega)
  have p2 := own_pcle (n / 256 / 256 % 256) (by omega)
  have p3 := own_pcle (n / 256 / 256 / 256 % 256) (by omega)
  have p4 := own_pcle (n / 256 / 256 / 256 / 256 % 256) (by omega)
  have p5 := own_pcle (n / 256 / 256 / 256 / 256 / 256 % 256) (by omega)
  have p6 := own_pcle (n / 256 / 256 / 256 / 256 / 256 / 256 % 256) (by omega)
  have p7 := own_pcle (n / 256 / 256 / 256 / 256 / 256 / 256 / 256 % 256) (by omega)
  have e4 : d.toBitVec.toNat = (c.toBitVec.toNat + c.toBitVec.toNat / 256) % 18446744073709551616 := by rw [hd, own_add64, own_ushr64 c (j := 8) (by decide)]
  have e5 : e.toBitVec.toNat = (d.toBitVec.toNat + d.toBitVec.toNat / 65536) % 18446744073709551616 := by rw [he, own_add64, own_ushr64 d (j := 16) (by decide)]
  have e6 : f.toBitVec.toNat = (e.toBitVec.toNat + e.toBitVec.toNat / 4294967296) % 18446744073709551616 := by rw [hf, own_add64, own_ushr64 e (j := 32) (by decide)]
  have e7 : (f.toInt32 &&& 127).toInt = ((f.toBitVec.toNat % 128 : Nat) : Int) := by
    have q0 : f.toInt32.toBitVec.toNat = f.toBitVec.toNat % 4294967296 := by
      show (f.toBitVec.signExtend 32).toNat = _
      rw [BitVec.signExtend_eq_setWidth_of_le _ (by decide)]; simp
    have q : (f.toInt32 &&& 127).toBitVec.toNat = f.toInt32.toBitVec.toNat % 128 := Nat.and_two_pow_sub_one_eq_mod _ 7
    have := own_natInt (f.toInt32 &&& 127)
    rw [q, q0] at this; split at this <;> omega
  rw [e7]
  rw [own_map8] at e3
  rw [own_tot8]
  generalize own_pc (n % 256) = c0 at *
  generalize own_pc (n / 256 % 256) = c1 at *
  generalize own_pc (n / 256 / 256 % 256) = c2 at *
  generalize own_pc (n / 256 / 256 / 256 % 256) = c3 at *
  generalize own_pc (n / 256 / 256 / 256 / 256 % 256) = c4 at *
  generalize own_pc (n / 256 / 256 / 256 / 256 / 256 % 256) = c5 at *
  generalize own_pc (n / 256 / 256 / 256 / 256 / 256 / 256 % 256) = c6 at *
  generalize own_pc (n / 256 / 256 / 256 / 256 / 256 / 256 / 256 % 256) = c7 at *
  have := own_fold8 _ _ _ _ c0 c1 c2 c3 c4 c5 c6 c7 (by rw [e3]; clear e4 e5 e6 e7 sw s1 s2; omega) p0 p1 p2 p3 p4 p5 p6 p7 e4 e5 e6
  rw [this]; clear e4 e5 e6 e7 sw s1 s2 e3; omega

/-! the table's numbers: bits of masks and entries -/
def own_mk (m : Int64) (lo n : Nat) : Prop := ∀ i, i < 64 → m.toBitVec.getLsbD i = decide (lo ≤ i ∧ i < lo + n)
def own_b0 (w : Int32) : Int64 := if w.toInt = 64 then -1 else (1 : Int64) <<< (w.toInt64 &&& 63) - 1
theorem own_b0bit {w : Int32} {n : Nat} (hw : w.toInt = (n : Int)) (h2 : n ≤ 64) (i : Nat) (hi : i < 64) : (own_b0 w).toBitVec.getLsbD i = decide (i < n) := by
  unfold own_b0
  by_cases q : w.toInt = 64
  · rw [if_pos q]
    have e : (-1 : Int64).toBitVec = BitVec.allOnes 64 := by decide
    rw [e, BitVec.getLsbD_allOnes]
    have : n = 64 := by omega
    subst this; rfl
  · rw [if_neg q]; exact own_lowm w hw (by omega) i hi
theorem own_bm {w s : Int32} {n lo : Nat} (hw : w.toInt = (n : Int)) (hs : s.toInt = (lo : Int)) (h1 : 1 ≤ n) (h : lo + n ≤ 64) : own_mk (own_b0 w <<< (s.toInt64 &&& 63)) lo n := by
  intro i hi
  rw [own_shl _ hs (by omega), BitVec.getLsbD_shiftLeft]
  by_cases q : lo ≤ i
  · have q' : ¬ i < lo := by omega
    rw [own_b0bit hw (by omega) (i - lo) (by omega)]
    simp only [hi, q', q, decide_true, decide_false, Bool.not_false, Bool.true_and, true_and]
    congr 1; apply propext; omega
  · have q' : i < lo := by omega
    simp [q, q']
theorem own_pow : ∀ k : Fin 17, ((1 : Int32) <<< (Int32.ofNat k.val &&& 31)).toInt = 2 ^ k.val ∧ ((1 : Int32) <<< (Int32.ofNat k.val &&& 31) - 1).toBitVec = BitVec.ofNat 32 (2 ^ k.val - 1) ∧ ((1 : Int32) <<< (Int32.ofNat k.val &&& 31) - 1).toInt64.toBitVec = BitVec.ofNat 64 (2 ^ k.val - 1) ∧ ((Int32.ofNat k.val &&& 31).toBitVec.smod 32).toNat = k.val ∧ ((Int32.ofNat k.val &&& 31).toUInt32.toBitVec % 32#32).toNat = k.val ∧ ((1 : Int32) <<< (Int32.ofNat k.val &&& 31) - 1).toBitVec.toNat = 2 ^ k.val - 1 := by decide +kernel
theorem own_kbE {kb : Int32} {k : Nat} (h : kb.toInt = (k : Int)) (h2 : k ≤ 16) : kb = Int32.ofNat k := by
  have e := own_ofNat (c := kb) (by omega) (by omega)
  have e2 : kb.toInt.toNat = k := by omega
  rw [e2] at e; exact e
theorem own_l2ibit (f : Int64) {ks : Int32} {sx : Nat} (hks : ks.toInt = (sx : Int)) (h : sx < 64) (i : Nat) (hi : i < 32) : (XT.ushrL f ks).toInt32.toBitVec.getLsbD i = f.toBitVec.getLsbD (sx + i) := by
  have a : i < 64 := by omega
  rw [Int64.toBitVec_toInt32, BitVec.getLsbD_signExtend, own_ushr f hks h, BitVec.getLsbD_ushiftRight]
  simp [hi, a]
section
variable {kb ks lm : Int32} {km : Int64} {k sx : Nat}
theorem own_pow1 (hkb : kb.toInt = (k : Int)) (h2 : k ≤ 16) : ((1 : Int32) <<< (kb &&& 31)).toInt = ((2 ^ k : Nat) : Int) := by
  rw [own_kbE hkb h2]; have := (own_pow ⟨k, by omega⟩).1; simp only at this; rw [this]; simp
theorem own_lmbit (hkb : kb.toInt = (k : Int)) (h2 : k ≤ 16) (hlm : lm = (1 : Int32) <<< (kb &&& 31) - 1) (i : Nat) : lm.toBitVec.getLsbD i = decide (i < k) := by
  rw [hlm, own_kbE hkb h2, (own_pow ⟨k, by omega⟩).2.1, BitVec.getLsbD_ofNat, Nat.testBit_two_pow_sub_one]
  by_cases q : i < k
  · have : i < 32 := by omega
    simp [q, this]
  · simp [q]
theorem own_lmmask (hkb : kb.toInt = (k : Int)) (h2 : k ≤ 16) (hlm : lm = (1 : Int32) <<< (kb &&& 31) - 1) (x : Int32) : (x &&& lm).toInt = x.toInt % ((2 ^ k : Nat) : Int) := by
  rw [Jvm.Kit.i32_mask x lm (k := k) (by omega) (by rw [hlm, own_kbE hkb h2]; exact (own_pow ⟨k, by omega⟩).2.2.2.2.2)]
  simp
theorem own_km (hkb : kb.toInt = (k : Int)) (h1 : 1 ≤ k) (h2 : k ≤ 16) (hks : ks.toInt = (sx : Int)) (h3 : sx + k ≤ 64) (hlm : lm = (1 : Int32) <<< (kb &&& 31) - 1) (hkm : km = lm.toInt64 <<< (ks.toInt64 &&& 63)) : own_mk km sx k := by
  intro i hi
  rw [hkm, own_shl _ hks (by omega), BitVec.getLsbD_shiftLeft, hlm, own_kbE hkb h2, (own_pow ⟨k, by omega⟩).2.2.1, BitVec.getLsbD_ofNat, Nat.testBit_two_pow_sub_one]
  by_cases q : sx ≤ i
  · have q' : ¬ i < sx := by omega
    have q2 : i - sx < 64 := by omega
    simp only [hi, q', q, q2, decide_true, decide_false, Bool.not_false, Bool.true_and, true_and]
    congr 1; apply propext; omega
  · have q' : i < sx := by omega
    simp [q, q']
theorem own_shl32 (hkb : kb.toInt = (k : Int)) (h2 : k ≤ 16) (x : Int32) : (x <<< (kb &&& 31)).toBitVec = x.toBitVec <<< k := by
  have e : (x <<< (kb &&& 31)).toBitVec = x.toBitVec <<< ((kb &&& 31).toBitVec.smod 32) := rfl
  rw [e, BitVec.shiftLeft_eq', own_kbE hkb h2, (own_pow ⟨k, by omega⟩).2.2.2.1]
theorem own_ushr32 (hkb : kb.toInt = (k : Int)) (h2 : k ≤ 16) (x : Int32) : (XT.ushr x kb).toBitVec = x.toBitVec >>> k := by
  have e : (XT.ushr x kb).toBitVec = x.toBitVec >>> ((kb &&& 31).toUInt32.toBitVec % 32#32) := rfl
  rw [e, BitVec.ushiftRight_eq', own_kbE hkb h2, (own_pow ⟨k, by omega⟩).2.2.2.2.1]
theorem own_ushr32i (hkb : kb.toInt = (k : Int)) (h2 : k ≤ 16) {p : Int32} {P : Nat} (hp : p.toInt = (P : Int)) : (XT.ushr p kb).toInt = ((P / 2 ^ k : Nat) : Int) := by
  have a := own_natInt (XT.ushr p kb)
  have b := own_natInt p
  rw [own_ushr32 hkb h2, BitVec.toNat_ushiftRight, Nat.shiftRight_eq_div_pow] at a
  have c := p.toInt_lt
  have d : p.toBitVec.toNat = P := by split at b <;> omega
  rw [d] at a
  have e : P / 2 ^ k ≤ P := Nat.div_le_self _ _
  rw [a, if_pos (by omega)]
theorem own_keyeq (hkb : kb.toInt = (k : Int)) (h2 : k ≤ 16) (hks : ks.toInt = (sx : Int)) (h3 : sx + k ≤ 64) (hlm : lm = (1 : Int32) <<< (kb &&& 31) - 1) {f g : Int64} (hfg : ∀ i, sx ≤ i → i < sx + k → f.toBitVec.getLsbD i = g.toBitVec.getLsbD i) : (XT.ushrL f ks).toInt32 &&& lm = (XT.ushrL g ks).toInt32 &&& lm := by
  by_cases z : k = 0
  · subst z
    rw [← Int32.toBitVec_inj]
    apply BitVec.eq_of_getLsbD_eq
    intro i hi
    rw [Int32.toBitVec_and, Int32.toBitVec_and, BitVec.getLsbD_and, BitVec.getLsbD_and, own_lmbit hkb h2 hlm]; simp
  rw [← Int32.toBitVec_inj]
  apply BitVec.eq_of_getLsbD_eq
  intro i hi
  rw [Int32.toBitVec_and, Int32.toBitVec_and, BitVec.getLsbD_and, BitVec.getLsbD_and, own_lmbit hkb h2 hlm, own_l2ibit f hks (by omega) i hi, own_l2ibit g hks (by omega) i hi]
  by_cases q : i < k
  · rw [hfg (sx + i) (by omega) (by omega)]
  · simp [q]
theorem own_ent (hkb : kb.toInt = (k : Int)) (h1 : 1 ≤ k) (h2 : k ≤ 16) (hks : ks.toInt = (sx : Int)) (h3 : sx + k ≤ 64) (hlm : lm = (1 : Int32) <<< (kb &&& 31) - 1) (hkm : km = lm.toInt64 <<< (ks.toInt64 &&& 63)) (f : Int64) (p : Int32) (i : Nat) (hi : i < 64) : ((f &&& (km ^^^ (-1 : Int64))) ||| ((p &&& lm).toInt64 <<< (ks.toInt64 &&& 63))).toBitVec.getLsbD i = if sx ≤ i ∧ i < sx + k then p.toBitVec.getLsbD (i - sx) else f.toBitVec.getLsbD i := by
  rw [Int64.toBitVec_or, BitVec.getLsbD_or, Int64.toBitVec_and, BitVec.getLsbD_and, own_not _ i hi, own_km hkb h1 h2 hks h3 hlm hkm i hi, own_shl _ hks (by omega), BitVec.getLsbD_shiftLeft, Int32.toBitVec_toInt64, BitVec.getLsbD_signExtend]
  have hm : (p &&& lm).toBitVec.msb = false := by
    rw [BitVec.msb_eq_getLsbD_last, Int32.toBitVec_and, BitVec.getLsbD_and, own_lmbit hkb h2 hlm]
    have : ¬ (32 - 1 < k) := by omega
    simp only [this, decide_false, Bool.and_false]
  rw [hm, Int32.toBitVec_and, BitVec.getLsbD_and, own_lmbit hkb h2 hlm]
  by_cases q : sx ≤ i ∧ i < sx + k
  · have a1 : ¬ i < sx := by omega
    have a2 : i - sx < 64 := by omega
    have a3 : i - sx < 32 := by omega
    have a4 : i - sx < k := by omega
    rw [if_pos q]
    simp only [q, hi, a1, a2, a3, a4, and_self, decide_true, decide_false, Bool.not_true, Bool.not_false, Bool.and_false, Bool.false_or, Bool.true_and, Bool.and_true, if_true]
  · rw [if_neg q]
    by_cases q1 : i < sx
    · have q2 : ¬ sx ≤ i := by omega
      simp only [q1, q2, false_and, decide_true, decide_false, Bool.not_true, Bool.not_false, Bool.and_false, Bool.false_and, Bool.or_false, Bool.and_true]
    · have a4 : ¬ i - sx < k := by omega
      simp only [q, a4, decide_false, Bool.not_false, Bool.and_false, Bool.or_false, Bool.and_true, ite_self]
theorem own_xb (hkb : kb.toInt = (k : Int)) (h1 : 1 ≤ k) (h2 : k ≤ 16) (hks : ks.toInt = (sx : Int)) (h3 : sx + k ≤ 64) (hlm : lm = (1 : Int32) <<< (kb &&& 31) - 1) (hkm : km = lm.toInt64 <<< (ks.toInt64 &&& 63)) {f g bm : Int64} (p : Int32) {lo n : Nat} (hbm : own_mk bm lo n) (hfg : ∀ i, lo ≤ i → i < lo + n → f.toBitVec.getLsbD i = g.toBitVec.getLsbD i) : ((((f &&& (km ^^^ (-1 : Int64))) ||| ((p &&& lm).toInt64 <<< (ks.toInt64 &&& 63))) ^^^ g) &&& (km ^^^ (-1 : Int64))) &&& bm = 0 := by
  rw [← Int64.toBitVec_inj]
  apply BitVec.eq_of_getLsbD_eq
  intro i hi
  have e0 : (0 : Int64).toBitVec = 0#64 := rfl
  rw [Int64.toBitVec_and, BitVec.getLsbD_and, Int64.toBitVec_and, BitVec.getLsbD_and, Int64.toBitVec_xor, BitVec.getLsbD_xor, own_ent hkb h1 h2 hks h3 hlm hkm f p i hi, own_not _ i hi, own_km hkb h1 h2 hks h3 hlm hkm i hi, hbm i hi, e0, BitVec.getLsbD_zero]
  by_cases q : sx ≤ i ∧ i < sx + k
  · simp [q]
  · rw [if_neg q]
    by_cases q2 : lo ≤ i ∧ i < lo + n
    · rw [hfg i q2.1 q2.2]; simp
    · simp [q2]
theorem own_lowb (hkb : kb.toInt = (k : Int)) (h1 : 1 ≤ k) (h2 : k ≤ 16) (hks : ks.toInt = (sx : Int)) (h3 : sx + k ≤ 64) (hlm : lm = (1 : Int32) <<< (kb &&& 31) - 1) (hkm : km = lm.toInt64 <<< (ks.toInt64 &&& 63)) (f : Int64) (p : Int32) : (XT.ushrL ((f &&& (km ^^^ (-1 : Int64))) ||| ((p &&& lm).toInt64 <<< (ks.toInt64 &&& 63))) ks).toInt32 &&& lm = p &&& lm := by
  rw [← Int32.toBitVec_inj]
  apply BitVec.eq_of_getLsbD_eq
  intro i hi
  rw [Int32.toBitVec_and, Int32.toBitVec_and, BitVec.getLsbD_and, BitVec.getLsbD_and, own_lmbit hkb h2 hlm, own_l2ibit _ hks (by omega) i hi]
  by_cases q : i < k
  · rw [own_ent hkb h1 h2 hks h3 hlm hkm f p (sx + i) (by omega), if_pos (by omega), show sx + i - sx = i by omega]
  · simp [q]
theorem own_pos (hkb : kb.toInt = (k : Int)) (h1 : 1 ≤ k) (h2 : k ≤ 16) (hks : ks.toInt = (sx : Int)) (h3 : sx + k ≤ 64) (hlm : lm = (1 : Int32) <<< (kb &&& 31) - 1) (hkm : km = lm.toInt64 <<< (ks.toInt64 &&& 63)) (f : Int64) {p x : Int32} {P : Nat} (hp : p.toInt = (P : Int)) (hx : x.toInt = ((P / 2 ^ k : Nat) : Int)) : (x <<< (kb &&& 31)) ||| ((XT.ushrL ((f &&& (km ^^^ (-1 : Int64))) ||| ((p &&& lm).toInt64 <<< (ks.toInt64 &&& 63))) ks).toInt32 &&& lm) = p := by
  rw [own_lowb hkb h1 h2 hks h3 hlm hkm]
  have e : x = XT.ushr p kb := by rw [← Int32.toInt_inj, own_ushr32i hkb h2 hp, hx]
  rw [e, ← Int32.toBitVec_inj]
  apply BitVec.eq_of_getLsbD_eq
  intro i hi
  rw [Int32.toBitVec_or, BitVec.getLsbD_or, own_shl32 hkb h2, own_ushr32 hkb h2, BitVec.getLsbD_shiftLeft, BitVec.getLsbD_ushiftRight, Int32.toBitVec_and, BitVec.getLsbD_and, own_lmbit hkb h2 hlm]
  by_cases q : i < k
  · simp [q]
  · have : k + (i - k) = i := by omega
    rw [this]; simp [q, hi]
theorem own_fpr (hkb : kb.toInt = (k : Int)) (h1 : 1 ≤ k) (h2 : k ≤ 16) (hks : ks.toInt = (sx : Int)) (h3 : sx + k ≤ 64) (hlm : lm = (1 : Int32) <<< (kb &&& 31) - 1) (hkm : km = lm.toInt64 <<< (ks.toInt64 &&& 63)) {f g : Int64} (p : Int32) (hfg : ∀ i, sx ≤ i → i < sx + k → f.toBitVec.getLsbD i = g.toBitVec.getLsbD i) : (((f &&& (km ^^^ (-1 : Int64))) ||| ((p &&& lm).toInt64 <<< (ks.toInt64 &&& 63))) &&& (km ^^^ (-1 : Int64))) ||| (g &&& km) = f := by
  rw [← Int64.toBitVec_inj]
  apply BitVec.eq_of_getLsbD_eq
  intro i hi
  rw [Int64.toBitVec_or, BitVec.getLsbD_or, Int64.toBitVec_and, BitVec.getLsbD_and, own_ent hkb h1 h2 hks h3 hlm hkm f p i hi, own_not _ i hi, Int64.toBitVec_and, BitVec.getLsbD_and, own_km hkb h1 h2 hks h3 hlm hkm i hi]
  by_cases q : sx ≤ i ∧ i < sx + k
  · rw [if_pos q, hfg i q.1 q.2]; simp [q]
  · rw [if_neg q]; simp [q]
end
theorem own_g2 {f1 f2 bm : Int64} {lo n : Nat} (hbm : own_mk bm lo n) (h : lo + n ≤ 64) (i : Nat) (h1 : lo ≤ i) (h2 : i < lo + n) : ((f2 &&& (bm ^^^ (-1 : Int64))) ||| (f1 &&& bm)).toBitVec.getLsbD i = f1.toBitVec.getLsbD i := by
  have hi : i < 64 := by omega
  rw [Int64.toBitVec_or, BitVec.getLsbD_or, Int64.toBitVec_and, BitVec.getLsbD_and, own_not _ i hi, Int64.toBitVec_and, BitVec.getLsbD_and, hbm i hi]
  simp [h1, h2]
/-! set bits of a word -/
def own_bit (H : Nat) : Int64 := Int64.ofBitVec (1#64 <<< (H % 64))
theorem own_bitE {y : Int32} {H : Nat} (h : y.toInt = (H : Int)) : (1 : Int64) <<< (y.toInt64 &&& 63) = own_bit H := by
  have m : (y.toInt64 &&& 63).toInt = ((H % 64 : Nat) : Int) := by
    rw [Jvm.Kit.i64_mask (k := 6) _ _ (by decide) (by decide), Int32.toInt_toInt64, h]; omega
  have e : y.toInt64 &&& 63 = Int64.ofNat (H % 64) := by
    rw [← Int64.toInt_inj, m, Int64.toInt_ofNat_of_lt (by omega)]
  have key : ∀ n : Fin 64, (1 : Int64) <<< (Int64.ofNat n.val) = Int64.ofBitVec (1#64 <<< n.val) := by decide +kernel
  rw [e]; exact key ⟨H % 64, by omega⟩
def own_bc (v : Int64) : Nat := own_tot own_pc 8 v.toBitVec.toNat
def own_nz4 (i n : Int32) : Int32 := n + XT.ushr i 1
def own_nz3 (i n : Int32) : Int32 := if i.toInt ≤ 4 then own_nz4 i n else own_nz4 (XT.ushr i 2) (n + 2)
def own_nz2 (i n : Int32) : Int32 := if i.toInt ≤ 16 then own_nz3 i n else own_nz3 (XT.ushr i 4) (n + 4)
def own_nz1 (i n : Int32) : Int32 := if i.toInt ≤ 256 then own_nz2 i n else own_nz2 (XT.ushr i 8) (n + 8)
def own_nz0 (i n : Int32) : Int32 := if i.toInt ≤ 65536 then own_nz1 i n else own_nz1 (XT.ushr i 16) (n + 16)
def own_nzA (i : Int32) : Int32 := if 0 < i.toInt then own_nz0 i 1 else i &&& 32
def own_ntz32 (x : Int32) : Int32 := own_nzA ((x ^^^ (-1 : Int32)) &&& (x - 1))
def own_ntz64 (v : Int64) : Int32 := if v.toInt32.toInt = 0 then 32 + own_ntz32 (XT.ushrL v 32).toInt32 else own_ntz32 v.toInt32
theorem own_t1 : ∀ j : Fin 64, own_bc (Int64.ofBitVec (1#64 <<< j.val)) = 1 ∧ (own_ntz64 (Int64.ofBitVec (1#64 <<< j.val))).toInt = (j.val : Int) := by decide +kernel
theorem own_t2 : ∀ j k : Fin 64, j.val < k.val → own_bc (Int64.ofBitVec (1#64 <<< j.val) ||| Int64.ofBitVec (1#64 <<< k.val)) = 2 ∧ (own_ntz64 (Int64.ofBitVec (1#64 <<< j.val) ||| Int64.ofBitVec (1#64 <<< k.val))).toInt = (j.val : Int) ∧ (own_ntz64 ((Int64.ofBitVec (1#64 <<< j.val) ||| Int64.ofBitVec (1#64 <<< k.val)) &&& ((Int64.ofBitVec (1#64 <<< j.val) ||| Int64.ofBitVec (1#64 <<< k.val)) - 1))).toInt = (k.val : Int) := by decide +kernel
/-! the array of high bits -/
def own_H (L : Nat) (f : Nat → Int64) : List Value := (List.range L).map fun j => Value.long (f j)
theorem own_Hlen (L : Nat) (f : Nat → Int64) : (own_H L f).length = L := by simp [own_H]
theorem own_Hat {L j : Nat} (f : Nat → Int64) (h : j < L) : (own_H L f)[j]? = some (.long (f j)) := by
  simp [own_H, List.getElem?_range h]
theorem own_H0 (L : Nat) : List.replicate L (Value.long 0) = own_H L (fun _ => 0) := by
  apply List.ext_getElem?
  intro j
  by_cases q : j < L
  · rw [own_Hat _ q]; simp [List.getElem?_replicate, q]
  · rw [List.getElem?_eq_none (by simp; omega), List.getElem?_eq_none (by rw [own_Hlen]; omega)]
theorem own_Hset {L i : Nat} (f : Nat → Int64) (v : Int64) : (own_H L f).set i (.long v) = own_H L (fun j => if j = i then v else f j) := by
  apply List.ext_getElem?
  intro j
  rw [List.getElem?_set]
  by_cases q : j < L
  · rw [own_Hat _ q, own_Hat _ q, own_Hlen]
    by_cases e : i = j
    · subst e; simp [q]
    · have e' : ¬ j = i := fun h => e h.symm
      simp [e, e']
  · rw [List.getElem?_eq_none (l := own_H L f) (by rw [own_Hlen]; omega), List.getElem?_eq_none (l := own_H L _) (by rw [own_Hlen]; omega), own_Hlen]
    have : ¬ i < L ∨ ¬ i = j := by omega
    rcases this with r | r <;> simp [r]
theorem own_Hcpy {L N : Nat} (f : Nat → Int64) (h : L ≤ N) (hf : ∀ j, L ≤ j → f j = 0) : (own_H L f).take L ++ (List.replicate N (Value.long 0)).drop L = own_H N f := by
  apply List.ext_getElem?
  intro j
  have e : (own_H L f).take L = own_H L f := List.take_of_length_le (by rw [own_Hlen]; omega)
  rw [e]
  by_cases q : j < L
  · rw [List.getElem?_append_left (by rw [own_Hlen]; exact q), own_Hat _ q, own_Hat _ (by omega)]
  · rw [List.getElem?_append_right (by rw [own_Hlen]; omega), own_Hlen]
    by_cases q2 : j < N
    · rw [own_Hat _ q2, hf j (by omega)]
      simp only [List.drop_replicate, List.getElem?_replicate]
      rw [if_pos (by omega)]
    · rw [List.getElem?_eq_none (by simp; omega), List.getElem?_eq_none (by rw [own_Hlen]; omega)]
def own_up (f : Nat → Int64) (H : Nat) : Nat → Int64 := fun j => if j = H / 64 then f (H / 64) ||| own_bit H else f j
theorem own_Hup {L : Nat} (f : Nat → Int64) (H : Nat) : (own_H L f).set (H / 64) (.long (f (H / 64) ||| own_bit H)) = own_H L (own_up f H) := own_Hset f _
/-- what find needs to know of the words -/
def own_fx (F : Nat → Int64) (H1 H2 : Nat) : Prop := (∀ j, j < H1 / 64 → own_bc (F j) = 0) ∧ (own_ntz64 (F (H1 / 64))).toInt = ((H1 % 64 : Nat) : Int) ∧
  ((H1 / 64 = H2 / 64 ∧ own_bc (F (H1 / 64)) = 2 ∧ (own_ntz64 (F (H1 / 64) &&& (F (H1 / 64) - 1))).toInt = ((H2 % 64 : Nat) : Int)) ∨
   (H1 / 64 < H2 / 64 ∧ own_bc (F (H1 / 64)) = 1 ∧ (∀ j, H1 / 64 < j → j < H2 / 64 → own_bc (F j) = 0) ∧ own_bc (F (H2 / 64)) = 1 ∧ (own_ntz64 (F (H2 / 64))).toInt = ((H2 % 64 : Nat) : Int)))
theorem own_bc0 : own_bc 0 = 0 := by decide +kernel
theorem own_zor (x : Int64) : 0 ||| x = x := by rw [← Int64.toBitVec_inj]; simp
theorem own_fxE {H1 H2 : Nat} (h : H1 < H2) : own_fx (own_up (own_up (fun _ => 0) H1) H2) H1 H2 := by
  have v1 : own_up (fun _ => 0) H1 (H1 / 64) = own_bit H1 := by simp [own_up, own_zor]
  have v0 : ∀ j, ¬ j = H1 / 64 → own_up (fun _ => 0) H1 j = 0 := fun j q => by simp [own_up, q]
  by_cases q : H1 / 64 = H2 / 64
  · have w : own_up (own_up (fun _ => 0) H1) H2 (H1 / 64) = own_bit H1 ||| own_bit H2 := by
      show (if H1 / 64 = H2 / 64 then own_up (fun _ => 0) H1 (H2 / 64) ||| own_bit H2 else _) = _
      rw [if_pos q, ← q, v1]
    obtain ⟨t1, t2, t3⟩ := own_t2 ⟨H1 % 64, by omega⟩ ⟨H2 % 64, by omega⟩ (by simp only; omega)
    refine ⟨fun j hj => ?_, ?_, Or.inl ⟨q, ?_, ?_⟩⟩
    · have : own_up (own_up (fun _ => 0) H1) H2 j = 0 := by
        show (if j = H2 / 64 then _ else own_up (fun _ => 0) H1 j) = _
        rw [if_neg (by omega), v0 j (by omega)]
      rw [this, own_bc0]
    · rw [w]; exact t2
    · rw [w]; exact t1
    · rw [w]; exact t3
  · have lt : H1 / 64 < H2 / 64 := by omega
    have w1 : own_up (own_up (fun _ => 0) H1) H2 (H1 / 64) = own_bit H1 := by
      show (if H1 / 64 = H2 / 64 then _ else own_up (fun _ => 0) H1 (H1 / 64)) = _
      rw [if_neg q, v1]
    have w2 : own_up (own_up (fun _ => 0) H1) H2 (H2 / 64) = own_bit H2 := by
      show (if H2 / 64 = H2 / 64 then own_up (fun _ => 0) H1 (H2 / 64) ||| own_bit H2 else _) = _
      rw [if_pos rfl, v0 _ (by omega), own_zor]
    have w0 : ∀ j, ¬ j = H1 / 64 → ¬ j = H2 / 64 → own_bc (own_up (own_up (fun _ => 0) H1) H2 j) = 0 := fun j a b => by
      have : own_up (own_up (fun _ => 0) H1) H2 j = 0 := by
        show (if j = H2 / 64 then _ else own_up (fun _ => 0) H1 j) = _
        rw [if_neg b, v0 j a]
      rw [this, own_bc0]
    have a := own_t1 ⟨H1 % 64, by omega⟩
    have b := own_t1 ⟨H2 % 64, by omega⟩
    refine ⟨fun j hj => w0 j (by omega) (by omega), ?_, Or.inr ⟨lt, ?_, fun j x y => w0 j (by omega) (by omega), ?_, ?_⟩⟩
    · rw [w1]; exact a.2
    · rw [w1]; exact a.1
    · rw [w2]; exact b.1
    · rw [w2]; exact b.2
theorem own_d64 {x : Int32} {H : Nat} (h : x.toInt = (H : Int)) : (x / (64 : Int32)).toInt = ((H / 64 : Nat) : Int) := by
  have e : (64 : Int32).toInt = 64 := rfl
  rw [Jvm.Kit.i32_div (by rw [e]; omega), e, h, Int.tdiv_eq_ediv_of_nonneg (by omega)]
  omega
theorem own_keyj {kb lm : Int32} {k : Nat} (hkb : kb.toInt = (k : Int)) (h2 : k ≤ 16) (hlm : lm = (1 : Int32) <<< (kb &&& 31) - 1) (x : Int32) : ∃ j : Nat, (x &&& lm).toInt = (j : Int) ∧ j < 2 ^ k := by
  have m := own_lmmask hkb h2 hlm x
  have pw : 0 < 2 ^ k := Nat.pow_pos (by decide)
  generalize 2 ^ k = N at m pw ⊢
  have a := Int.emod_nonneg x.toInt (b := (N : Int)) (by omega)
  have b := Int.emod_lt_of_pos x.toInt (b := (N : Int)) (by omega)
  rw [← m] at a b
  exact ⟨(x &&& lm).toInt.toNat, by omega, by omega⟩
theorem own_half {k P B : Nat} (h : 1 ≤ k) (hP : P < 2 * B) : P / 2 ^ k < B := by
  have a : 2 ^ 1 ≤ 2 ^ k := Nat.pow_le_pow_right (by decide) h
  have b : P / 2 ^ k ≤ P / 2 := Nat.div_le_div_left a (by decide)
  generalize P / 2 ^ k = y at b ⊢
  omega
theorem own_fxv {F : Nat → Int64} {H1 H2 : Nat} (h : own_fx F H1 H2) (W : Nat) (hW : W ≤ H2 / 64) : (W < H1 / 64 ∧ own_bc (F W) = 0) ∨ (W = H1 / 64 ∧ H1 / 64 = H2 / 64 ∧ own_bc (F W) = 2) ∨ (W = H1 / 64 ∧ H1 / 64 < H2 / 64 ∧ own_bc (F W) = 1) ∨ (H1 / 64 < W ∧ W < H2 / 64 ∧ own_bc (F W) = 0) ∨ (H1 / 64 < W ∧ W = H2 / 64 ∧ own_bc (F W) = 1) := by
  obtain ⟨a, b, c⟩ := h
  by_cases q1 : W < H1 / 64
  · exact Or.inl ⟨q1, a W q1⟩
  by_cases q2 : W = H1 / 64
  · subst q2
    rcases c with ⟨c1, c2, -⟩ | ⟨c1, c2, -⟩
    · exact Or.inr (Or.inl ⟨rfl, c1, c2⟩)
    · exact Or.inr (Or.inr (Or.inl ⟨rfl, c1, c2⟩))
  rcases c with ⟨c1, -⟩ | ⟨c1, -, c3, c4, -⟩
  · omega
  by_cases q3 : W = H2 / 64
  · subst q3; exact Or.inr (Or.inr (Or.inr (Or.inr ⟨by omega, rfl, c4⟩)))
  · exact Or.inr (Or.inr (Or.inr (Or.inl ⟨by omega, by omega, c3 W (by omega) (by omega)⟩)))
theorem own_fxr0 {F : Nat → Int64} {H1 H2 W : Nat} {nn : Int32} (h : own_fx F H1 H2) (hW : W = H1 / 64) (hn : nn.toInt = 0) : ∃ R : Int32, ((nn.toInt = 0 ∧ R = own_ntz64 (F W)) ∨ (nn.toInt = 1 ∧ R = own_ntz64 (F W &&& (F W - 1)))) ∧ R.toInt = ((H1 % 64 : Nat) : Int) := by
  subst hW; exact ⟨_, Or.inl ⟨hn, rfl⟩, h.2.1⟩
theorem own_fxr1 {F : Nat → Int64} {H1 H2 W : Nat} {nn : Int32} (h : own_fx F H1 H2) (hW : (W = H1 / 64 ∧ H1 / 64 = H2 / 64 ∧ nn.toInt = 1) ∨ (W = H2 / 64 ∧ H1 / 64 < H2 / 64 ∧ nn.toInt = 0)) : ∃ R : Int32, ((nn.toInt = 0 ∧ R = own_ntz64 (F W)) ∨ (nn.toInt = 1 ∧ R = own_ntz64 (F W &&& (F W - 1)))) ∧ R.toInt = ((H2 % 64 : Nat) : Int) := by
  rcases hW with ⟨rfl, q, hn⟩ | ⟨rfl, q, hn⟩
  · rcases h.2.2 with ⟨-, -, c⟩ | ⟨c, -⟩
    · exact ⟨_, Or.inr ⟨hn, rfl⟩, c⟩
    · omega
  · rcases h.2.2 with ⟨c, -⟩ | ⟨-, -, -, -, c⟩
    · omega
    · exact ⟨_, Or.inl ⟨hn, rfl⟩, c⟩
theorem own_and0 (y : Int64) : y &&& 0 = 0 := by rw [← Int64.toBitVec_inj]; simp
theorem own_neo {x b b' m : Nat} (hb : b' = b ∨ m ≤ b') (h1 : x ≠ b) (h2 : x < m) : x ≠ b' := by omega
theorem own_geo {b b' m n0 : Nat} (hb : b' = b ∨ m ≤ b') (h1 : n0 ≤ b) (h2 : n0 ≤ m) : n0 ≤ b' := by omega
theorem own_up0 {f : Nat → Int64} {H L : Nat} (hf : ∀ j, L ≤ j → f j = 0) (h : H / 64 < L) : ∀ j, L ≤ j → own_up f H j = 0 := fun j hj => by
  show (if j = H / 64 then _ else f j) = 0
  rw [if_neg (by omega)]; exact hf j hj

theorem own_Hfit (L : Nat) (f : Nat → Int64) : ∀ v ∈ own_H L f, fits .long v = true := by
  intro v hv
  simp only [own_H, List.mem_map] at hv
  obtain ⟨j, -, rfl⟩ := hv
  rfl
theorem own_Rfit (N : Nat) : ∀ v ∈ List.replicate N (Value.long 0), fits .long v = true := by
  intro v hv
  rw [List.eq_of_mem_replicate hv]; rfl
theorem own_b0m {w s : Int32} (hw : w.toInt = 64) (hs : s.toInt = 0) : (-1 : Int64) = own_b0 w <<< (s.toInt64 &&& 63) := by
  have e : s = 0 := by rw [← Int32.toInt_inj, hs]; rfl
  subst e
  rw [own_b0, if_pos hw]; decide
theorem own_d_jdk_29_method_69_0 : decode jdk_29_method_69_code 0 = .ok (.iload_n 0, 1) := by decide +kernel
theorem own_d_jdk_29_method_69_1 : decode jdk_29_method_69_code 1 = .ok (.iload_n 1, 1) := by decide +kernel
theorem own_d_jdk_29_method_69_2 : decode jdk_29_method_69_code 2 = .ok (.if_icmp .gt 7, 3) := by decide +kernel
theorem own_d_jdk_29_method_69_9 : decode jdk_29_method_69_code 9 = .ok (.iload_n 1, 1) := by decide +kernel
theorem own_d_jdk_29_method_69_10 : decode jdk_29_method_69_code 10 = .ok (.ireturn, 1) := by decide +kernel
theorem own_d_jdk_29_method_69_5 : decode jdk_29_method_69_code 5 = .ok (.iload_n 0, 1) := by decide +kernel
theorem own_d_jdk_29_method_69_6 : decode jdk_29_method_69_code 6 = .ok (.goto 4, 3) := by decide +kernel
def own_rm_own_min : Room := ({ frames := 0, cells := 0, slots := 0, locals := 0 } : Room)
set_option maxRecDepth 65536 in
set_option maxHeartbeats 40000000 in
theorem own_min (l : Launch) (Z : State) (a0 : Array Value) (hw : ∀ d ∈ tables_1, d.before a0 Z = true) (h : Heap) (n0 : Nat) (x y : Int32)  :
    OwM l Z (⟨"java/lang/Math", "min", "(II)I"⟩ : MethodName) jdk_29_method_69_code 2 (some .int) own_rm_own_min 0 0 [] #[(.int x), (.int y)] h n0 (fun r h' => ∃ z : Int32, r = some (.int z) ∧ ((x.toInt ≤ y.toInt ∧ z.toInt = x.toInt) ∨ (y.toInt < x.toInt ∧ z.toInt = y.toInt)) ∧ h = h') := by
  refine OwM.of (Ls := #[.val (.int x), .val (.int y)]) (by decide +kernel) (fun m => by first | (simp [entryFrame, mkF, argsToLocals, Value.category]; done) | rfl) ?_
  intro _ _ _ _ _ _ _ X
  refine X.iloadN (q := 1) own_d_jdk_29_method_69_0 rfl rfl ?_
  refine X.iloadN (q := 2) own_d_jdk_29_method_69_1 rfl rfl ?_
  refine X.icmp_gt (q' := 9) (q := 5) own_d_jdk_29_method_69_2 rfl rfl (by decide) rfl (fun c2 => ?_) (fun c2 => ?_)
  · refine X.iloadN (q := 10) own_d_jdk_29_method_69_9 rfl rfl ?_
    refine X.retI own_d_jdk_29_method_69_10 rfl (by decide) (by decide) ?_
    exact ⟨_, rfl, by omega, rfl⟩
  · refine X.iloadN (q := 6) own_d_jdk_29_method_69_5 rfl rfl ?_
    refine X.goto (q' := 10) own_d_jdk_29_method_69_6 (by decide) ?_
    refine X.retI own_d_jdk_29_method_69_10 rfl (by decide) (by decide) ?_
    exact ⟨_, rfl, by omega, rfl⟩
theorem own_d_jdk_29_method_65_0 : decode jdk_29_method_65_code 0 = .ok (.iload_n 0, 1) := by decide +kernel
theorem own_d_jdk_29_method_65_1 : decode jdk_29_method_65_code 1 = .ok (.iload_n 1, 1) := by decide +kernel
theorem own_d_jdk_29_method_65_2 : decode jdk_29_method_65_code 2 = .ok (.if_icmp .lt 7, 3) := by decide +kernel
theorem own_d_jdk_29_method_65_9 : decode jdk_29_method_65_code 9 = .ok (.iload_n 1, 1) := by decide +kernel
theorem own_d_jdk_29_method_65_10 : decode jdk_29_method_65_code 10 = .ok (.ireturn, 1) := by decide +kernel
theorem own_d_jdk_29_method_65_5 : decode jdk_29_method_65_code 5 = .ok (.iload_n 0, 1) := by decide +kernel
theorem own_d_jdk_29_method_65_6 : decode jdk_29_method_65_code 6 = .ok (.goto 4, 3) := by decide +kernel
def own_rm_own_max : Room := ({ frames := 0, cells := 0, slots := 0, locals := 0 } : Room)
set_option maxRecDepth 65536 in
set_option maxHeartbeats 40000000 in
theorem own_max (l : Launch) (Z : State) (a0 : Array Value) (hw : ∀ d ∈ tables_1, d.before a0 Z = true) (h : Heap) (n0 : Nat) (x y : Int32)  :
    OwM l Z (⟨"java/lang/Math", "max", "(II)I"⟩ : MethodName) jdk_29_method_65_code 2 (some .int) own_rm_own_max 0 0 [] #[(.int x), (.int y)] h n0 (fun r h' => ∃ z : Int32, r = some (.int z) ∧ ((y.toInt ≤ x.toInt ∧ z.toInt = x.toInt) ∨ (x.toInt < y.toInt ∧ z.toInt = y.toInt)) ∧ h = h') := by
  refine OwM.of (Ls := #[.val (.int x), .val (.int y)]) (by decide +kernel) (fun m => by first | (simp [entryFrame, mkF, argsToLocals, Value.category]; done) | rfl) ?_
  intro _ _ _ _ _ _ _ X
  refine X.iloadN (q := 1) own_d_jdk_29_method_65_0 rfl rfl ?_
  refine X.iloadN (q := 2) own_d_jdk_29_method_65_1 rfl rfl ?_
  refine X.icmp_lt (q' := 9) (q := 5) own_d_jdk_29_method_65_2 rfl rfl (by decide) rfl (fun c2 => ?_) (fun c2 => ?_)
  · refine X.iloadN (q := 10) own_d_jdk_29_method_65_9 rfl rfl ?_
    refine X.retI own_d_jdk_29_method_65_10 rfl (by decide) (by decide) ?_
    exact ⟨_, rfl, by omega, rfl⟩
  · refine X.iloadN (q := 6) own_d_jdk_29_method_65_5 rfl rfl ?_
    refine X.goto (q' := 10) own_d_jdk_29_method_65_6 (by decide) ?_
    refine X.retI own_d_jdk_29_method_65_10 rfl (by decide) (by decide) ?_
    exact ⟨_, rfl, by omega, rfl⟩
theorem own_d_prog_8_method_6_0 : decode prog_8_method_6_code 0 = .ok (.lload_n 1, 1) := by decide +kernel
theorem own_d_prog_8_method_6_1 : decode prog_8_method_6_code 1 = .ok (.aload_n 0, 1) := by decide +kernel
theorem own_d_prog_8_method_6_2 : decode prog_8_method_6_code 2 = .ok (.getfield 37, 3) := by decide +kernel
theorem own_d_prog_8_method_6_5 : decode prog_8_method_6_code 5 = .ok (.lushr, 1) := by decide +kernel
theorem own_d_prog_8_method_6_6 : decode prog_8_method_6_code 6 = .ok (.l2i, 1) := by decide +kernel
theorem own_d_prog_8_method_6_7 : decode prog_8_method_6_code 7 = .ok (.aload_n 0, 1) := by decide +kernel
theorem own_d_prog_8_method_6_8 : decode prog_8_method_6_code 8 = .ok (.getfield 40, 3) := by decide +kernel
theorem own_d_prog_8_method_6_11 : decode prog_8_method_6_code 11 = .ok (.iand, 1) := by decide +kernel
theorem own_d_prog_8_method_6_12 : decode prog_8_method_6_code 12 = .ok (.ireturn, 1) := by decide +kernel
def own_rm_own_keyc : Room := ({ frames := 0, cells := 0, slots := 0, locals := 0 } : Room)
set_option maxRecDepth 65536 in
set_option maxHeartbeats 40000000 in
theorem own_keyc (l : Launch) (Z : State) (a0 : Array Value) (hw : ∀ d ∈ tables_1, d.before a0 Z = true) (h : Heap) (n0 : Nat) (t : Addr) (f : Int64) (ks lm : Int32)  (hn0 : n0 ≤ h.size) (FkeyShift : Fld Z h t "com/example/vireo/vireo/index/BlockTable" "keyShift" "I" (.int ks)) (FlowMask : Fld Z h t "com/example/vireo/vireo/index/BlockTable" "lowMask" "I" (.int lm)) :
    OwM l Z (⟨"com/example/vireo/vireo/index/BlockTable", "key", "(J)I"⟩ : MethodName) prog_8_method_6_code 3 (some .int) own_rm_own_keyc 0 0 [] #[(.ref t), (.long f)] h n0 (fun r h' => r = some (.int ((XT.ushrL f ks).toInt32 &&& lm)) ∧ h = h') := by
  refine OwM.of (Ls := #[.val (.ref t), .val (.long f), .second]) (by decide +kernel) (fun m => by first | (simp [entryFrame, mkF, argsToLocals, Value.category]; done) | rfl) ?_
  intro _ _ _ _ _ _ _ X
  refine X.lloadN (q := 1) own_d_prog_8_method_6_0 rfl rfl ?_
  refine X.aloadN (q := 2) own_d_prog_8_method_6_1 rfl rfl rfl ?_
  refine X.getF (q := 5) (host := "") (Or.inl (hw _ (List.mem_of_getElem? (i := 26) rfl))) Via.refl FkeyShift own_d_prog_8_method_6_2 rfl ?_
  refine X.lushr (q := 6) own_d_prog_8_method_6_5 rfl ?_
  refine X.l2i (q := 7) own_d_prog_8_method_6_6 rfl ?_
  refine X.aloadN (q := 8) own_d_prog_8_method_6_7 rfl rfl rfl ?_
  refine X.getF (q := 11) (host := "") (Or.inl (hw _ (List.mem_of_getElem? (i := 28) rfl))) Via.refl FlowMask own_d_prog_8_method_6_8 rfl ?_
  refine X.iand (q := 12) own_d_prog_8_method_6_11 rfl ?_
  refine X.retI own_d_prog_8_method_6_12 rfl (by decide) (by decide) ?_
  exact ⟨rfl, rfl⟩
theorem own_d_prog_8_method_9_0 : decode prog_8_method_9_code 0 = .ok (.iload_n 0, 1) := by decide +kernel
theorem own_d_prog_8_method_9_1 : decode prog_8_method_9_code 1 = .ok (.iload_n 0, 1) := by decide +kernel
theorem own_d_prog_8_method_9_2 : decode prog_8_method_9_code 2 = .ok (.iconst 3, 1) := by decide +kernel
theorem own_d_prog_8_method_9_3 : decode prog_8_method_9_code 3 = .ok (.iushr, 1) := by decide +kernel
theorem own_d_prog_8_method_9_4 : decode prog_8_method_9_code 4 = .ok (.iconst 4, 1) := by decide +kernel
theorem own_d_prog_8_method_9_5 : decode prog_8_method_9_code 5 = .ok (.invokestatic 94, 3) := by decide +kernel
theorem own_pd0 : parseMethodDescriptor "(II)I" = some ⟨[.int, .int], some .int⟩ := by decide +kernel
theorem own_d_prog_8_method_9_8 : decode prog_8_method_9_code 8 = .ok (.iadd, 1) := by decide +kernel
theorem own_d_prog_8_method_9_9 : decode prog_8_method_9_code 9 = .ok (.ireturn, 1) := by decide +kernel
def own_rm_own_grown : Room := ({ frames := 1, cells := 0, slots := 0, locals := 14 } : Room)
set_option maxRecDepth 65536 in
set_option maxHeartbeats 40000000 in
theorem own_grown (l : Launch) (Z : State) (a0 : Array Value) (hw : ∀ d ∈ tables_1, d.before a0 Z = true) (h : Heap) (n0 : Nat) (n : Int32) (hn : 0 ≤ n.toInt ∧ n.toInt ≤ 65536)  :
    OwM l Z (⟨"com/example/vireo/vireo/index/BlockTable", "grown", "(I)I"⟩ : MethodName) prog_8_method_9_code 1 (some .int) own_rm_own_grown 0 0 [] #[(.int n)] h n0 (fun r h' => ∃ z : Int32, r = some (.int z) ∧ (n.toInt + 4 ≤ z.toInt ∧ z.toInt ≤ n.toInt + n.toInt / 8 + 4) ∧ h = h') := by
  refine OwM.of (Ls := #[.val (.int n)]) (by decide +kernel) (fun m => by first | (simp [entryFrame, mkF, argsToLocals, Value.category]; done) | rfl) ?_
  intro _ _ _ _ _ _ _ X
  have e4 : (4 : Int32).toInt = 4 := rfl
  refine X.iloadN (q := 1) own_d_prog_8_method_9_0 rfl rfl ?_
  refine X.iloadN (q := 2) own_d_prog_8_method_9_1 rfl rfl ?_
  refine X.iconst (q := 3) (3 : Int32) own_d_prog_8_method_9_2 (by decide) rfl ?_
  refine X.iushr (q := 4) own_d_prog_8_method_9_3 rfl ?_
  refine X.nmI (fun d hd => ?_)
  have hd_ : d.toInt = n.toInt / 8 := by
    have q_ := own_ushr32i (kb := 3) (k := 3) rfl (by decide) (p := n) (P := n.toInt.toNat) (by omega)
    rw [hd, q_]; omega
  clear hd
  refine X.iconst (q := 5) (4 : Int32) own_d_prog_8_method_9_4 (by decide) rfl ?_
  refine X.callS (own_max l Z a0 hw h n0 d 4) (hw _ (List.mem_of_getElem? (i := 140) rfl)) (hw _ (List.mem_of_getElem? (i := 141) rfl)) (hw _ (List.mem_of_getElem? (i := 22) rfl)) (hw _ (List.mem_of_getElem? (i := 142) rfl)) (by decide) own_pd0 (argsL := [(.int d), (.int (4 : Int32))]) (rest := [(.int n)]) rfl rfl rfl (W := 1) (Nat.le_of_eq rfl) rfl (by decide) (by decide) (k' := 0) (n' := 0) rfl rfl (by decide) (by decide) own_d_prog_8_method_9_5 (q := 8) rfl ?_
  rintro _ _ ⟨y, rfl, hy, rfl⟩
  show X.G h 0 0 8 #[.val (.int n)] [(.int y), (.int n)]
  refine X.iadd (q := 9) own_d_prog_8_method_9_8 rfl ?_
  refine X.nmI (fun sm hsm => ?_)
  have hsm_ : sm.toInt = n.toInt + y.toInt := by rw [hsm, own_add rfl (by omega) (by omega)]
  refine X.retI own_d_prog_8_method_9_9 rfl (by decide) (by decide) ?_
  exact ⟨_, rfl, by omega, rfl⟩
theorem own_d_jdk_35_method_50_0 : decode jdk_35_method_50_code 0 = .ok (.lload_n 0, 1) := by decide +kernel
theorem own_d_jdk_35_method_50_1 : decode jdk_35_method_50_code 1 = .ok (.lload_n 0, 1) := by decide +kernel
theorem own_d_jdk_35_method_50_2 : decode jdk_35_method_50_code 2 = .ok (.iconst 1, 1) := by decide +kernel
theorem own_d_jdk_35_method_50_3 : decode jdk_35_method_50_code 3 = .ok (.lushr, 1) := by decide +kernel
theorem own_d_jdk_35_method_50_4 : decode jdk_35_method_50_code 4 = .ok (.ldc2_w 314, 3) := by decide +kernel
theorem own_d_jdk_35_method_50_7 : decode jdk_35_method_50_code 7 = .ok (.land, 1) := by decide +kernel
theorem own_d_jdk_35_method_50_8 : decode jdk_35_method_50_code 8 = .ok (.lsub, 1) := by decide +kernel
theorem own_d_jdk_35_method_50_9 : decode jdk_35_method_50_code 9 = .ok (.lstore_n 0, 1) := by decide +kernel
theorem own_d_jdk_35_method_50_10 : decode jdk_35_method_50_code 10 = .ok (.lload_n 0, 1) := by decide +kernel
theorem own_d_jdk_35_method_50_11 : decode jdk_35_method_50_code 11 = .ok (.ldc2_w 316, 3) := by decide +kernel
theorem own_d_jdk_35_method_50_14 : decode jdk_35_method_50_code 14 = .ok (.land, 1) := by decide +kernel
theorem own_d_jdk_35_method_50_15 : decode jdk_35_method_50_code 15 = .ok (.lload_n 0, 1) := by decide +kernel
theorem own_d_jdk_35_method_50_16 : decode jdk_35_method_50_code 16 = .ok (.iconst 2, 1) := by decide +kernel
theorem own_d_jdk_35_method_50_17 : decode jdk_35_method_50_code 17 = .ok (.lushr, 1) := by decide +kernel
theorem own_d_jdk_35_method_50_18 : decode jdk_35_method_50_code 18 = .ok (.ldc2_w 316, 3) := by decide +kernel
theorem own_d_jdk_35_method_50_21 : decode jdk_35_method_50_code 21 = .ok (.land, 1) := by decide +kernel
theorem own_d_jdk_35_method_50_22 : decode jdk_35_method_50_code 22 = .ok (.ladd, 1) := by decide +kernel
theorem own_d_jdk_35_method_50_23 : decode jdk_35_method_50_code 23 = .ok (.lstore_n 0, 1) := by decide +kernel
theorem own_d_jdk_35_method_50_24 : decode jdk_35_method_50_code 24 = .ok (.lload_n 0, 1) := by decide +kernel
theorem own_d_jdk_35_method_50_25 : decode jdk_35_method_50_code 25 = .ok (.lload_n 0, 1) := by decide +kernel
theorem own_d_jdk_35_method_50_26 : decode jdk_35_method_50_code 26 = .ok (.iconst 4, 1) := by decide +kernel
theorem own_d_jdk_35_method_50_27 : decode jdk_35_method_50_code 27 = .ok (.lushr, 1) := by decide +kernel
theorem own_d_jdk_35_method_50_28 : decode jdk_35_method_50_code 28 = .ok (.ladd, 1) := by decide +kernel
theorem own_d_jdk_35_method_50_29 : decode jdk_35_method_50_code 29 = .ok (.ldc2_w 318, 3) := by decide +kernel
theorem own_d_jdk_35_method_50_32 : decode jdk_35_method_50_code 32 = .ok (.land, 1) := by decide +kernel
theorem own_d_jdk_35_method_50_33 : decode jdk_35_method_50_code 33 = .ok (.lstore_n 0, 1) := by decide +kernel
theorem own_d_jdk_35_method_50_34 : decode jdk_35_method_50_code 34 = .ok (.lload_n 0, 1) := by decide +kernel
theorem own_d_jdk_35_method_50_35 : decode jdk_35_method_50_code 35 = .ok (.lload_n 0, 1) := by decide +kernel
theorem own_d_jdk_35_method_50_36 : decode jdk_35_method_50_code 36 = .ok (.bipush 8, 2) := by decide +kernel
theorem own_d_jdk_35_method_50_38 : decode jdk_35_method_50_code 38 = .ok (.lushr, 1) := by decide +kernel
theorem own_d_jdk_35_method_50_39 : decode jdk_35_method_50_code 39 = .ok (.ladd, 1) := by decide +kernel
theorem own_d_jdk_35_method_50_40 : decode jdk_35_method_50_code 40 = .ok (.lstore_n 0, 1) := by decide +kernel
theorem own_d_jdk_35_method_50_41 : decode jdk_35_method_50_code 41 = .ok (.lload_n 0, 1) := by decide +kernel
theorem own_d_jdk_35_method_50_42 : decode jdk_35_method_50_code 42 = .ok (.lload_n 0, 1) := by decide +kernel
theorem own_d_jdk_35_method_50_43 : decode jdk_35_method_50_code 43 = .ok (.bipush 16, 2) := by decide +kernel
theorem own_d_jdk_35_method_50_45 : decode jdk_35_method_50_code 45 = .ok (.lushr, 1) := by decide +kernel
theorem own_d_jdk_35_method_50_46 : decode jdk_35_method_50_code 46 = .ok (.ladd, 1) := by decide +kernel
theorem own_d_jdk_35_method_50_47 : decode jdk_35_method_50_code 47 = .ok (.lstore_n 0, 1) := by decide +kernel
theorem own_d_jdk_35_method_50_48 : decode jdk_35_method_50_code 48 = .ok (.lload_n 0, 1) := by decide +kernel
theorem own_d_jdk_35_method_50_49 : decode jdk_35_method_50_code 49 = .ok (.lload_n 0, 1) := by decide +kernel
theorem own_d_jdk_35_method_50_50 : decode jdk_35_method_50_code 50 = .ok (.bipush 32, 2) := by decide +kernel
theorem own_d_jdk_35_method_50_52 : decode jdk_35_method_50_code 52 = .ok (.lushr, 1) := by decide +kernel
theorem own_d_jdk_35_method_50_53 : decode jdk_35_method_50_code 53 = .ok (.ladd, 1) := by decide +kernel
theorem own_d_jdk_35_method_50_54 : decode jdk_35_method_50_code 54 = .ok (.lstore_n 0, 1) := by decide +kernel
theorem own_d_jdk_35_method_50_55 : decode jdk_35_method_50_code 55 = .ok (.lload_n 0, 1) := by decide +kernel
theorem own_d_jdk_35_method_50_56 : decode jdk_35_method_50_code 56 = .ok (.l2i, 1) := by decide +kernel
theorem own_d_jdk_35_method_50_57 : decode jdk_35_method_50_code 57 = .ok (.bipush 127, 2) := by decide +kernel
theorem own_d_jdk_35_method_50_59 : decode jdk_35_method_50_code 59 = .ok (.iand, 1) := by decide +kernel
theorem own_d_jdk_35_method_50_60 : decode jdk_35_method_50_code 60 = .ok (.ireturn, 1) := by decide +kernel
def own_rm_own_bitc : Room := ({ frames := 0, cells := 0, slots := 0, locals := 0 } : Room)
set_option maxRecDepth 65536 in
set_option maxHeartbeats 40000000 in
theorem own_bitc (l : Launch) (Z : State) (a0 : Array Value) (hw : ∀ d ∈ tables_1, d.before a0 Z = true) (h : Heap) (n0 : Nat) (v : Int64)  :
    OwM l Z (⟨"java/lang/Long", "bitCount", "(J)I"⟩ : MethodName) jdk_35_method_50_code 2 (some .int) own_rm_own_bitc 0 0 [] #[(.long v)] h n0 (fun r h' => ∃ z : Int32, r = some (.int z) ∧ (z.toInt = (own_bc v : Int) ∧ z.toInt ≤ 64) ∧ h = h') := by
  refine OwM.of (Ls := #[.val (.long v), .second]) (by decide +kernel) (fun m => by first | (simp [entryFrame, mkF, argsToLocals, Value.category]; done) | rfl) ?_
  intro _ _ _ _ _ _ _ X
  refine X.lloadN (q := 1) own_d_jdk_35_method_50_0 rfl rfl ?_
  refine X.lloadN (q := 2) own_d_jdk_35_method_50_1 rfl rfl ?_
  refine X.iconst (q := 3) (1 : Int32) own_d_jdk_35_method_50_2 (by decide) rfl ?_
  refine X.lushr (q := 4) own_d_jdk_35_method_50_3 rfl ?_
  refine X.ldc2_w (q := 7) (v := (6148914691236517205 : Int64)) (hw _ (List.mem_of_getElem? (i := 101) rfl)) own_d_jdk_35_method_50_4 rfl ?_
  refine X.land (q := 8) own_d_jdk_35_method_50_7 rfl ?_
  refine X.lsub (q := 9) own_d_jdk_35_method_50_8 rfl ?_
  refine X.nmJ (fun va ha => ?_)
  refine X.lstoreN (q := 10) (Ls' := #[.val (.long va), .second]) own_d_jdk_35_method_50_9 rfl rfl ?_
  refine X.lloadN (q := 11) own_d_jdk_35_method_50_10 rfl rfl ?_
  refine X.ldc2_w (q := 14) (v := (3689348814741910323 : Int64)) (hw _ (List.mem_of_getElem? (i := 102) rfl)) own_d_jdk_35_method_50_11 rfl ?_
  refine X.land (q := 15) own_d_jdk_35_method_50_14 rfl ?_
  refine X.lloadN (q := 16) own_d_jdk_35_method_50_15 rfl rfl ?_
  refine X.iconst (q := 17) (2 : Int32) own_d_jdk_35_method_50_16 (by decide) rfl ?_
  refine X.lushr (q := 18) own_d_jdk_35_method_50_17 rfl ?_
  refine X.ldc2_w (q := 21) (v := (3689348814741910323 : Int64)) (hw _ (List.mem_of_getElem? (i := 102) rfl)) own_d_jdk_35_method_50_18 rfl ?_
  refine X.land (q := 22) own_d_jdk_35_method_50_21 rfl ?_
  refine X.ladd (q := 23) own_d_jdk_35_method_50_22 rfl ?_
  refine X.nmJ (fun vb hb => ?_)
  refine X.lstoreN (q := 24) (Ls' := #[.val (.long vb), .second]) own_d_jdk_35_method_50_23 rfl rfl ?_
  refine X.lloadN (q := 25) own_d_jdk_35_method_50_24 rfl rfl ?_
  refine X.lloadN (q := 26) own_d_jdk_35_method_50_25 rfl rfl ?_
  refine X.iconst (q := 27) (4 : Int32) own_d_jdk_35_method_50_26 (by decide) rfl ?_
  refine X.lushr (q := 28) own_d_jdk_35_method_50_27 rfl ?_
  refine X.ladd (q := 29) own_d_jdk_35_method_50_28 rfl ?_
  refine X.ldc2_w (q := 32) (v := (1085102592571150095 : Int64)) (hw _ (List.mem_of_getElem? (i := 103) rfl)) own_d_jdk_35_method_50_29 rfl ?_
  refine X.land (q := 33) own_d_jdk_35_method_50_32 rfl ?_
  refine X.nmJ (fun vc hc => ?_)
  refine X.lstoreN (q := 34) (Ls' := #[.val (.long vc), .second]) own_d_jdk_35_method_50_33 rfl rfl ?_
  refine X.lloadN (q := 35) own_d_jdk_35_method_50_34 rfl rfl ?_
  refine X.lloadN (q := 36) own_d_jdk_35_method_50_35 rfl rfl ?_
  refine X.bipush (q := 38) (8 : Int32) own_d_jdk_35_method_50_36 (by decide) rfl ?_
  refine X.lushr (q := 39) own_d_jdk_35_method_50_38 rfl ?_
  refine X.ladd (q := 40) own_d_jdk_35_method_50_39 rfl ?_
  refine X.nmJ (fun vd hd => ?_)
  refine X.lstoreN (q := 41) (Ls' := #[.val (.long vd), .second]) own_d_jdk_35_method_50_40 rfl rfl ?_
  refine X.lloadN (q := 42) own_d_jdk_35_method_50_41 rfl rfl ?_
  refine X.lloadN (q := 43) own_d_jdk_35_method_50_42 rfl rfl ?_
  refine X.bipush (q := 45) (16 : Int32) own_d_jdk_35_method_50_43 (by decide) rfl ?_
  refine X.lushr (q := 46) own_d_jdk_35_method_50_45 rfl ?_
  refine X.ladd (q := 47) own_d_jdk_35_method_50_46 rfl ?_
  refine X.nmJ (fun ve he => ?_)
  refine X.lstoreN (q := 48) (Ls' := #[.val (.long ve), .second]) own_d_jdk_35_method_50_47 rfl rfl ?_
  refine X.lloadN (q := 49) own_d_jdk_35_method_50_48 rfl rfl ?_
  refine X.lloadN (q := 50) own_d_jdk_35_method_50_49 rfl rfl ?_
  refine X.bipush (q := 52) (32 : Int32) own_d_jdk_35_method_50_50 (by decide) rfl ?_
  refine X.lushr (q := 53) own_d_jdk_35_method_50_52 rfl ?_
  refine X.ladd (q := 54) own_d_jdk_35_method_50_53 rfl ?_
  refine X.nmJ (fun vf hf => ?_)
  refine X.lstoreN (q := 55) (Ls' := #[.val (.long vf), .second]) own_d_jdk_35_method_50_54 rfl rfl ?_
  refine X.lloadN (q := 56) own_d_jdk_35_method_50_55 rfl rfl ?_
  refine X.l2i (q := 57) own_d_jdk_35_method_50_56 rfl ?_
  refine X.bipush (q := 59) (127 : Int32) own_d_jdk_35_method_50_57 (by decide) rfl ?_
  refine X.iand (q := 60) own_d_jdk_35_method_50_59 rfl ?_
  refine X.retI own_d_jdk_35_method_50_60 rfl (by decide) (by decide) ?_
  have q_ : (vf.toInt32 &&& (127 : Int32)).toInt = (own_bc v : Int) := own_pop64 v va vb vc vd ve vf ha hb hc hd he hf
  have q2_ : own_bc v ≤ 64 := own_totle _
  exact ⟨_, rfl, ⟨q_, by rw [q_]; omega⟩, rfl⟩
theorem own_d_jdk_33_method_48_0 : decode jdk_33_method_48_code 0 = .ok (.iload_n 0, 1) := by decide +kernel
theorem own_d_jdk_33_method_48_1 : decode jdk_33_method_48_code 1 = .ok (.iconst (-1), 1) := by decide +kernel
theorem own_d_jdk_33_method_48_2 : decode jdk_33_method_48_code 2 = .ok (.ixor, 1) := by decide +kernel
theorem own_d_jdk_33_method_48_3 : decode jdk_33_method_48_code 3 = .ok (.iload_n 0, 1) := by decide +kernel
theorem own_d_jdk_33_method_48_4 : decode jdk_33_method_48_code 4 = .ok (.iconst 1, 1) := by decide +kernel
theorem own_d_jdk_33_method_48_5 : decode jdk_33_method_48_code 5 = .ok (.isub, 1) := by decide +kernel
theorem own_d_jdk_33_method_48_6 : decode jdk_33_method_48_code 6 = .ok (.iand, 1) := by decide +kernel
theorem own_d_jdk_33_method_48_7 : decode jdk_33_method_48_code 7 = .ok (.istore_n 0, 1) := by decide +kernel
theorem own_d_jdk_33_method_48_8 : decode jdk_33_method_48_code 8 = .ok (.iload_n 0, 1) := by decide +kernel
theorem own_d_jdk_33_method_48_9 : decode jdk_33_method_48_code 9 = .ok (.ifCond .gt 8, 3) := by decide +kernel
theorem own_d_jdk_33_method_48_17 : decode jdk_33_method_48_code 17 = .ok (.iconst 1, 1) := by decide +kernel
theorem own_d_jdk_33_method_48_18 : decode jdk_33_method_48_code 18 = .ok (.istore_n 1, 1) := by decide +kernel
theorem own_d_jdk_33_method_48_19 : decode jdk_33_method_48_code 19 = .ok (.iload_n 0, 1) := by decide +kernel
theorem own_d_jdk_33_method_48_20 : decode jdk_33_method_48_code 20 = .ok (.ldc_w 264, 3) := by decide +kernel
theorem own_d_jdk_33_method_48_34 : decode jdk_33_method_48_code 34 = .ok (.iload_n 0, 1) := by decide +kernel
theorem own_d_jdk_33_method_48_35 : decode jdk_33_method_48_code 35 = .ok (.sipush 256, 3) := by decide +kernel
theorem own_d_jdk_33_method_48_49 : decode jdk_33_method_48_code 49 = .ok (.iload_n 0, 1) := by decide +kernel
theorem own_d_jdk_33_method_48_50 : decode jdk_33_method_48_code 50 = .ok (.bipush 16, 2) := by decide +kernel
theorem own_d_jdk_33_method_48_62 : decode jdk_33_method_48_code 62 = .ok (.iload_n 0, 1) := by decide +kernel
theorem own_d_jdk_33_method_48_63 : decode jdk_33_method_48_code 63 = .ok (.iconst 4, 1) := by decide +kernel
theorem own_d_jdk_33_method_48_74 : decode jdk_33_method_48_code 74 = .ok (.iload_n 1, 1) := by decide +kernel
theorem own_d_jdk_33_method_48_75 : decode jdk_33_method_48_code 75 = .ok (.iload_n 0, 1) := by decide +kernel
theorem own_d_jdk_33_method_48_76 : decode jdk_33_method_48_code 76 = .ok (.iconst 1, 1) := by decide +kernel
theorem own_d_jdk_33_method_48_77 : decode jdk_33_method_48_code 77 = .ok (.iushr, 1) := by decide +kernel
theorem own_d_jdk_33_method_48_78 : decode jdk_33_method_48_code 78 = .ok (.iadd, 1) := by decide +kernel
theorem own_d_jdk_33_method_48_79 : decode jdk_33_method_48_code 79 = .ok (.ireturn, 1) := by decide +kernel
theorem own_d_jdk_33_method_48_64 : decode jdk_33_method_48_code 64 = .ok (.if_icmp .le 10, 3) := by decide +kernel
theorem own_d_jdk_33_method_48_67 : decode jdk_33_method_48_code 67 = .ok (.iinc 1 2, 3) := by decide +kernel
theorem own_d_jdk_33_method_48_70 : decode jdk_33_method_48_code 70 = .ok (.iload_n 0, 1) := by decide +kernel
theorem own_d_jdk_33_method_48_71 : decode jdk_33_method_48_code 71 = .ok (.iconst 2, 1) := by decide +kernel
theorem own_d_jdk_33_method_48_72 : decode jdk_33_method_48_code 72 = .ok (.iushr, 1) := by decide +kernel
theorem own_d_jdk_33_method_48_73 : decode jdk_33_method_48_code 73 = .ok (.istore_n 0, 1) := by decide +kernel
theorem own_d_jdk_33_method_48_52 : decode jdk_33_method_48_code 52 = .ok (.if_icmp .le 10, 3) := by decide +kernel
theorem own_d_jdk_33_method_48_55 : decode jdk_33_method_48_code 55 = .ok (.iinc 1 4, 3) := by decide +kernel
theorem own_d_jdk_33_method_48_58 : decode jdk_33_method_48_code 58 = .ok (.iload_n 0, 1) := by decide +kernel
theorem own_d_jdk_33_method_48_59 : decode jdk_33_method_48_code 59 = .ok (.iconst 4, 1) := by decide +kernel
theorem own_d_jdk_33_method_48_60 : decode jdk_33_method_48_code 60 = .ok (.iushr, 1) := by decide +kernel
theorem own_d_jdk_33_method_48_61 : decode jdk_33_method_48_code 61 = .ok (.istore_n 0, 1) := by decide +kernel
theorem own_d_jdk_33_method_48_38 : decode jdk_33_method_48_code 38 = .ok (.if_icmp .le 11, 3) := by decide +kernel
theorem own_d_jdk_33_method_48_41 : decode jdk_33_method_48_code 41 = .ok (.iinc 1 8, 3) := by decide +kernel
theorem own_d_jdk_33_method_48_44 : decode jdk_33_method_48_code 44 = .ok (.iload_n 0, 1) := by decide +kernel
theorem own_d_jdk_33_method_48_45 : decode jdk_33_method_48_code 45 = .ok (.bipush 8, 2) := by decide +kernel
theorem own_d_jdk_33_method_48_47 : decode jdk_33_method_48_code 47 = .ok (.iushr, 1) := by decide +kernel
theorem own_d_jdk_33_method_48_48 : decode jdk_33_method_48_code 48 = .ok (.istore_n 0, 1) := by decide +kernel
theorem own_d_jdk_33_method_48_23 : decode jdk_33_method_48_code 23 = .ok (.if_icmp .le 11, 3) := by decide +kernel
theorem own_d_jdk_33_method_48_26 : decode jdk_33_method_48_code 26 = .ok (.iinc 1 16, 3) := by decide +kernel
theorem own_d_jdk_33_method_48_29 : decode jdk_33_method_48_code 29 = .ok (.iload_n 0, 1) := by decide +kernel
theorem own_d_jdk_33_method_48_30 : decode jdk_33_method_48_code 30 = .ok (.bipush 16, 2) := by decide +kernel
theorem own_d_jdk_33_method_48_32 : decode jdk_33_method_48_code 32 = .ok (.iushr, 1) := by decide +kernel
theorem own_d_jdk_33_method_48_33 : decode jdk_33_method_48_code 33 = .ok (.istore_n 0, 1) := by decide +kernel
theorem own_d_jdk_33_method_48_12 : decode jdk_33_method_48_code 12 = .ok (.iload_n 0, 1) := by decide +kernel
theorem own_d_jdk_33_method_48_13 : decode jdk_33_method_48_code 13 = .ok (.bipush 32, 2) := by decide +kernel
theorem own_d_jdk_33_method_48_15 : decode jdk_33_method_48_code 15 = .ok (.iand, 1) := by decide +kernel
theorem own_d_jdk_33_method_48_16 : decode jdk_33_method_48_code 16 = .ok (.ireturn, 1) := by decide +kernel
def own_rm_own_n32 : Room := ({ frames := 0, cells := 0, slots := 0, locals := 0 } : Room)
set_option maxRecDepth 65536 in
set_option maxHeartbeats 40000000 in
theorem own_n32 (l : Launch) (Z : State) (a0 : Array Value) (hw : ∀ d ∈ tables_1, d.before a0 Z = true) (h : Heap) (n0 : Nat) (x R : Int32) (hR : own_ntz32 x = R)  :
    OwM l Z (⟨"java/lang/Integer", "numberOfTrailingZeros", "(I)I"⟩ : MethodName) jdk_33_method_48_code 2 (some .int) own_rm_own_n32 0 0 [] #[(.int x)] h n0 (fun r h' => r = some (.int R) ∧ h = h') := by
  refine OwM.of (Ls := #[.val (.int x), .unset]) (by decide +kernel) (fun m => by first | (simp [entryFrame, mkF, argsToLocals, Value.category]; done) | rfl) ?_
  intro _ _ _ _ _ _ _ X
  refine X.iloadN (q := 1) own_d_jdk_33_method_48_0 rfl rfl ?_
  refine X.iconst (q := 2) (-1 : Int32) own_d_jdk_33_method_48_1 (by decide) rfl ?_
  refine X.ixor (q := 3) own_d_jdk_33_method_48_2 rfl ?_
  refine X.iloadN (q := 4) own_d_jdk_33_method_48_3 rfl rfl ?_
  refine X.iconst (q := 5) (1 : Int32) own_d_jdk_33_method_48_4 (by decide) rfl ?_
  refine X.isub (q := 6) own_d_jdk_33_method_48_5 rfl ?_
  refine X.iand (q := 7) own_d_jdk_33_method_48_6 rfl ?_
  refine X.nmI (fun i0 hi0 => ?_)
  have hR0 : own_nzA i0 = R := by rw [hi0]; exact hR
  refine X.istoreN (q := 8) (Ls' := #[.val (.int i0), .unset]) own_d_jdk_33_method_48_7 rfl rfl ?_
  refine X.iloadN (q := 9) own_d_jdk_33_method_48_8 rfl rfl ?_
  refine X.if_gt (q' := 17) (q := 12) own_d_jdk_33_method_48_9 rfl (by decide) rfl (fun c9 => ?_) (fun c9 => ?_)
  · refine X.iconst (q := 18) (1 : Int32) own_d_jdk_33_method_48_17 (by decide) rfl ?_
    refine X.istoreN (q := 19) (Ls' := #[.val (.int i0), .val (.int (1 : Int32))]) own_d_jdk_33_method_48_18 rfl rfl ?_
    have hR1 : own_nz0 i0 1 = R := by have q_ := hR0; rw [own_nzA, if_pos (by omega)] at q_; exact q_
    refine X.iloadN (q := 20) own_d_jdk_33_method_48_19 rfl rfl ?_
    refine X.ldc_w (q := 23) (v := (65536 : Int32)) (hw _ (List.mem_of_getElem? (i := 114) rfl)) own_d_jdk_33_method_48_20 rfl ?_
    have J34 : ∀ (i1 : Int32) (n1 : Int32), (own_nz1 i1 n1 = R) →  X.G h 0 0 34 #[.val (.int i1), .val (.int n1)] [] := by
      intro i1 n1 hR2
      refine X.iloadN (q := 35) own_d_jdk_33_method_48_34 rfl rfl ?_
      refine X.sipush (q := 38) (256 : Int32) own_d_jdk_33_method_48_35 (by decide) rfl ?_
      have J49 : ∀ (i2 : Int32) (n2 : Int32), (own_nz2 i2 n2 = R) →  X.G h 0 0 49 #[.val (.int i2), .val (.int n2)] [] := by
        intro i2 n2 hR3
        refine X.iloadN (q := 50) own_d_jdk_33_method_48_49 rfl rfl ?_
        refine X.bipush (q := 52) (16 : Int32) own_d_jdk_33_method_48_50 (by decide) rfl ?_
        have J62 : ∀ (i3 : Int32) (n3 : Int32), (own_nz3 i3 n3 = R) →  X.G h 0 0 62 #[.val (.int i3), .val (.int n3)] [] := by
          intro i3 n3 hR4
          refine X.iloadN (q := 63) own_d_jdk_33_method_48_62 rfl rfl ?_
          refine X.iconst (q := 64) (4 : Int32) own_d_jdk_33_method_48_63 (by decide) rfl ?_
          have J74 : ∀ (i4 : Int32) (n4 : Int32), (own_nz4 i4 n4 = R) →  X.G h 0 0 74 #[.val (.int i4), .val (.int n4)] [] := by
            intro i4 n4 hR5
            refine X.iloadN (q := 75) own_d_jdk_33_method_48_74 rfl rfl ?_
            refine X.iloadN (q := 76) own_d_jdk_33_method_48_75 rfl rfl ?_
            refine X.iconst (q := 77) (1 : Int32) own_d_jdk_33_method_48_76 (by decide) rfl ?_
            refine X.iushr (q := 78) own_d_jdk_33_method_48_77 rfl ?_
            refine X.iadd (q := 79) own_d_jdk_33_method_48_78 rfl ?_
            refine X.retI own_d_jdk_33_method_48_79 rfl (by decide) (by decide) ?_
            exact ⟨by rw [← hR5, own_nz4], rfl⟩
          refine X.icmp_le (b := 4) (q' := 74) (q := 67) own_d_jdk_33_method_48_64 rfl rfl (by decide) rfl (fun c64 => ?_) (fun c64 => ?_)
          · exact J74 _ _ (by have q_ := hR4; unfold own_nz3 at q_; first | (rw [if_pos (by omega)] at q_; exact q_) | (rw [if_neg (by omega)] at q_; exact q_))
          · refine X.iinc (q := 70) (Ls' := #[.val (.int i3), .val (.int (n3 + (2 : Int32)))]) (2 : Int32) own_d_jdk_33_method_48_67 (by decide) rfl rfl rfl ?_
            refine X.iloadN (q := 71) own_d_jdk_33_method_48_70 rfl rfl ?_
            refine X.iconst (q := 72) (2 : Int32) own_d_jdk_33_method_48_71 (by decide) rfl ?_
            refine X.iushr (q := 73) own_d_jdk_33_method_48_72 rfl ?_
            refine X.istoreN (q := 74) (Ls' := #[.val (.int (XT.ushr i3 (2 : Int32))), .val (.int (n3 + (2 : Int32)))]) own_d_jdk_33_method_48_73 rfl rfl ?_
            exact J74 _ _ (by have q_ := hR4; unfold own_nz3 at q_; first | (rw [if_pos (by omega)] at q_; exact q_) | (rw [if_neg (by omega)] at q_; exact q_))
        refine X.icmp_le (b := 16) (q' := 62) (q := 55) own_d_jdk_33_method_48_52 rfl rfl (by decide) rfl (fun c52 => ?_) (fun c52 => ?_)
        · exact J62 _ _ (by have q_ := hR3; unfold own_nz2 at q_; first | (rw [if_pos (by omega)] at q_; exact q_) | (rw [if_neg (by omega)] at q_; exact q_))
        · refine X.iinc (q := 58) (Ls' := #[.val (.int i2), .val (.int (n2 + (4 : Int32)))]) (4 : Int32) own_d_jdk_33_method_48_55 (by decide) rfl rfl rfl ?_
          refine X.iloadN (q := 59) own_d_jdk_33_method_48_58 rfl rfl ?_
          refine X.iconst (q := 60) (4 : Int32) own_d_jdk_33_method_48_59 (by decide) rfl ?_
          refine X.iushr (q := 61) own_d_jdk_33_method_48_60 rfl ?_
          refine X.istoreN (q := 62) (Ls' := #[.val (.int (XT.ushr i2 (4 : Int32))), .val (.int (n2 + (4 : Int32)))]) own_d_jdk_33_method_48_61 rfl rfl ?_
          exact J62 _ _ (by have q_ := hR3; unfold own_nz2 at q_; first | (rw [if_pos (by omega)] at q_; exact q_) | (rw [if_neg (by omega)] at q_; exact q_))
      refine X.icmp_le (b := 256) (q' := 49) (q := 41) own_d_jdk_33_method_48_38 rfl rfl (by decide) rfl (fun c38 => ?_) (fun c38 => ?_)
      · exact J49 _ _ (by have q_ := hR2; unfold own_nz1 at q_; first | (rw [if_pos (by omega)] at q_; exact q_) | (rw [if_neg (by omega)] at q_; exact q_))
      · refine X.iinc (q := 44) (Ls' := #[.val (.int i1), .val (.int (n1 + (8 : Int32)))]) (8 : Int32) own_d_jdk_33_method_48_41 (by decide) rfl rfl rfl ?_
        refine X.iloadN (q := 45) own_d_jdk_33_method_48_44 rfl rfl ?_
        refine X.bipush (q := 47) (8 : Int32) own_d_jdk_33_method_48_45 (by decide) rfl ?_
        refine X.iushr (q := 48) own_d_jdk_33_method_48_47 rfl ?_
        refine X.istoreN (q := 49) (Ls' := #[.val (.int (XT.ushr i1 (8 : Int32))), .val (.int (n1 + (8 : Int32)))]) own_d_jdk_33_method_48_48 rfl rfl ?_
        exact J49 _ _ (by have q_ := hR2; unfold own_nz1 at q_; first | (rw [if_pos (by omega)] at q_; exact q_) | (rw [if_neg (by omega)] at q_; exact q_))
    refine X.icmp_le (b := 65536) (q' := 34) (q := 26) own_d_jdk_33_method_48_23 rfl rfl (by decide) rfl (fun c23 => ?_) (fun c23 => ?_)
    · exact J34 _ _ (by have q_ := hR1; unfold own_nz0 at q_; first | (rw [if_pos (by omega)] at q_; exact q_) | (rw [if_neg (by omega)] at q_; exact q_))
    · refine X.iinc (q := 29) (Ls' := #[.val (.int i0), .val (.int (17 : Int32))]) (16 : Int32) own_d_jdk_33_method_48_26 (by decide) rfl rfl rfl ?_
      refine X.iloadN (q := 30) own_d_jdk_33_method_48_29 rfl rfl ?_
      refine X.bipush (q := 32) (16 : Int32) own_d_jdk_33_method_48_30 (by decide) rfl ?_
      refine X.iushr (q := 33) own_d_jdk_33_method_48_32 rfl ?_
      refine X.istoreN (q := 34) (Ls' := #[.val (.int (XT.ushr i0 (16 : Int32))), .val (.int (17 : Int32))]) own_d_jdk_33_method_48_33 rfl rfl ?_
      exact J34 _ _ (by have q_ := hR1; unfold own_nz0 at q_; first | (rw [if_pos (by omega)] at q_; exact q_) | (rw [if_neg (by omega)] at q_; exact q_))
  · refine X.iloadN (q := 13) own_d_jdk_33_method_48_12 rfl rfl ?_
    refine X.bipush (q := 15) (32 : Int32) own_d_jdk_33_method_48_13 (by decide) rfl ?_
    refine X.iand (q := 16) own_d_jdk_33_method_48_15 rfl ?_
    refine X.retI own_d_jdk_33_method_48_16 rfl (by decide) (by decide) ?_
    exact ⟨by rw [← hR0, own_nzA, if_neg (by omega)], rfl⟩
theorem own_d_jdk_35_method_49_0 : decode jdk_35_method_49_code 0 = .ok (.lload_n 0, 1) := by decide +kernel
theorem own_d_jdk_35_method_49_1 : decode jdk_35_method_49_code 1 = .ok (.l2i, 1) := by decide +kernel
theorem own_d_jdk_35_method_49_2 : decode jdk_35_method_49_code 2 = .ok (.istore_n 2, 1) := by decide +kernel
theorem own_d_jdk_35_method_49_3 : decode jdk_35_method_49_code 3 = .ok (.iload_n 2, 1) := by decide +kernel
theorem own_d_jdk_35_method_49_4 : decode jdk_35_method_49_code 4 = .ok (.ifCond .ne 17, 3) := by decide +kernel
theorem own_d_jdk_35_method_49_21 : decode jdk_35_method_49_code 21 = .ok (.iload_n 2, 1) := by decide +kernel
theorem own_d_jdk_35_method_49_22 : decode jdk_35_method_49_code 22 = .ok (.invokestatic 311, 3) := by decide +kernel
theorem own_pd1 : parseMethodDescriptor "(I)I" = some ⟨[.int], some .int⟩ := by decide +kernel
theorem own_d_jdk_35_method_49_25 : decode jdk_35_method_49_code 25 = .ok (.ireturn, 1) := by decide +kernel
theorem own_d_jdk_35_method_49_7 : decode jdk_35_method_49_code 7 = .ok (.bipush 32, 2) := by decide +kernel
theorem own_d_jdk_35_method_49_9 : decode jdk_35_method_49_code 9 = .ok (.lload_n 0, 1) := by decide +kernel
theorem own_d_jdk_35_method_49_10 : decode jdk_35_method_49_code 10 = .ok (.bipush 32, 2) := by decide +kernel
theorem own_d_jdk_35_method_49_12 : decode jdk_35_method_49_code 12 = .ok (.lushr, 1) := by decide +kernel
theorem own_d_jdk_35_method_49_13 : decode jdk_35_method_49_code 13 = .ok (.l2i, 1) := by decide +kernel
theorem own_d_jdk_35_method_49_14 : decode jdk_35_method_49_code 14 = .ok (.invokestatic 311, 3) := by decide +kernel
theorem own_d_jdk_35_method_49_17 : decode jdk_35_method_49_code 17 = .ok (.iadd, 1) := by decide +kernel
theorem own_d_jdk_35_method_49_18 : decode jdk_35_method_49_code 18 = .ok (.goto 7, 3) := by decide +kernel
def own_rm_own_n64 : Room := ({ frames := 1, cells := 0, slots := 0, locals := 14 } : Room)
set_option maxRecDepth 65536 in
set_option maxHeartbeats 40000000 in
theorem own_n64 (l : Launch) (Z : State) (a0 : Array Value) (hw : ∀ d ∈ tables_1, d.before a0 Z = true) (h : Heap) (n0 : Nat) (v : Int64)  :
    OwM l Z (⟨"java/lang/Long", "numberOfTrailingZeros", "(J)I"⟩ : MethodName) jdk_35_method_49_code 3 (some .int) own_rm_own_n64 0 0 [] #[(.long v)] h n0 (fun r h' => r = some (.int (own_ntz64 v)) ∧ h = h') := by
  refine OwM.of (Ls := #[.val (.long v), .second, .unset]) (by decide +kernel) (fun m => by first | (simp [entryFrame, mkF, argsToLocals, Value.category]; done) | rfl) ?_
  intro _ _ _ _ _ _ _ X
  have e0 : (0 : Int32).toInt = 0 := rfl
  have e32 : (32 : Int32).toInt = 32 := rfl
  refine X.lloadN (q := 1) own_d_jdk_35_method_49_0 rfl rfl ?_
  refine X.l2i (q := 2) own_d_jdk_35_method_49_1 rfl ?_
  refine X.istoreN (q := 3) (Ls' := #[.val (.long v), .second, .val (.int v.toInt32)]) own_d_jdk_35_method_49_2 rfl rfl ?_
  refine X.iloadN (q := 4) own_d_jdk_35_method_49_3 rfl rfl ?_
  refine X.if_ne (q' := 21) (q := 7) own_d_jdk_35_method_49_4 rfl (by decide) rfl (fun c4 => ?_) (fun c4 => ?_)
  · refine X.iloadN (q := 22) own_d_jdk_35_method_49_21 rfl rfl ?_
    refine X.callS (own_n32 l Z a0 hw h n0 v.toInt32 _ rfl) (hw _ (List.mem_of_getElem? (i := 110) rfl)) (hw _ (List.mem_of_getElem? (i := 111) rfl)) (hw _ (List.mem_of_getElem? (i := 112) rfl)) (hw _ (List.mem_of_getElem? (i := 113) rfl)) (by decide) own_pd1 (argsL := [(.int v.toInt32)]) (rest := []) rfl rfl rfl (W := 0) (Nat.le_of_eq rfl) rfl (by decide) (by decide) (k' := 0) (n' := 0) rfl rfl (by decide) (by decide) own_d_jdk_35_method_49_22 (q := 25) rfl ?_
    rintro _ _ ⟨rfl, rfl⟩
    show X.G h 0 0 25 #[.val (.long v), .second, .val (.int v.toInt32)] [(.int (own_ntz32 v.toInt32))]
    refine X.retI own_d_jdk_35_method_49_25 rfl (by decide) (by decide) ?_
    exact ⟨by rw [own_ntz64, if_neg c4], rfl⟩
  · refine X.bipush (q := 9) (32 : Int32) own_d_jdk_35_method_49_7 (by decide) rfl ?_
    refine X.lloadN (q := 10) own_d_jdk_35_method_49_9 rfl rfl ?_
    refine X.bipush (q := 12) (32 : Int32) own_d_jdk_35_method_49_10 (by decide) rfl ?_
    refine X.lushr (q := 13) own_d_jdk_35_method_49_12 rfl ?_
    refine X.l2i (q := 14) own_d_jdk_35_method_49_13 rfl ?_
    refine X.callS (own_n32 l Z a0 hw h n0 (XT.ushrL v (32 : Int32)).toInt32 _ rfl) (hw _ (List.mem_of_getElem? (i := 110) rfl)) (hw _ (List.mem_of_getElem? (i := 111) rfl)) (hw _ (List.mem_of_getElem? (i := 112) rfl)) (hw _ (List.mem_of_getElem? (i := 113) rfl)) (by decide) own_pd1 (argsL := [(.int (XT.ushrL v (32 : Int32)).toInt32)]) (rest := [(.int (32 : Int32))]) rfl rfl rfl (W := 1) (Nat.le_of_eq rfl) rfl (by decide) (by decide) (k' := 0) (n' := 0) rfl rfl (by decide) (by decide) own_d_jdk_35_method_49_14 (q := 17) rfl ?_
    rintro _ _ ⟨rfl, rfl⟩
    show X.G h 0 0 17 #[.val (.long v), .second, .val (.int v.toInt32)] [(.int (own_ntz32 (XT.ushrL v (32 : Int32)).toInt32)), (.int (32 : Int32))]
    refine X.iadd (q := 18) own_d_jdk_35_method_49_17 rfl ?_
    refine X.goto (q' := 25) own_d_jdk_35_method_49_18 (by decide) ?_
    refine X.retI own_d_jdk_35_method_49_25 rfl (by decide) (by decide) ?_
    exact ⟨by rw [own_ntz64, if_pos c4], rfl⟩
theorem own_d_prog_8_method_8_0 : decode prog_8_method_8_code 0 = .ok (.lload_n 0, 1) := by decide +kernel
theorem own_d_prog_8_method_8_1 : decode prog_8_method_8_code 1 = .ok (.lstore_n 3, 1) := by decide +kernel
theorem own_d_prog_8_method_8_2 : decode prog_8_method_8_code 2 = .ok (.iconst 0, 1) := by decide +kernel
theorem own_d_prog_8_method_8_3 : decode prog_8_method_8_code 3 = .ok (.istore 5, 2) := by decide +kernel
theorem own_d_prog_8_method_8_5 : decode prog_8_method_8_code 5 = .ok (.iload 5, 2) := by decide +kernel
theorem own_d_prog_8_method_8_7 : decode prog_8_method_8_code 7 = .ok (.iload_n 2, 1) := by decide +kernel
theorem own_d_prog_8_method_8_8 : decode prog_8_method_8_code 8 = .ok (.if_icmp .ge 15, 3) := by decide +kernel
theorem own_d_prog_8_method_8_23 : decode prog_8_method_8_code 23 = .ok (.lload_n 3, 1) := by decide +kernel
theorem own_d_prog_8_method_8_24 : decode prog_8_method_8_code 24 = .ok (.invokestatic 91, 3) := by decide +kernel
theorem own_pd2 : parseMethodDescriptor "(J)I" = some ⟨[.long], some .int⟩ := by decide +kernel
theorem own_d_prog_8_method_8_27 : decode prog_8_method_8_code 27 = .ok (.ireturn, 1) := by decide +kernel
def own_rm_own_nth0 : Room := ({ frames := 2, cells := 0, slots := 0, locals := 28 } : Room)
set_option maxRecDepth 65536 in
set_option maxHeartbeats 40000000 in
theorem own_nth0 (l : Launch) (Z : State) (a0 : Array Value) (hw : ∀ d ∈ tables_1, d.before a0 Z = true) (h : Heap) (n0 : Nat) (v : Int64)  :
    OwM l Z (⟨"com/example/vireo/vireo/index/BlockTable", "nthSetBit", "(JI)I"⟩ : MethodName) prog_8_method_8_code 6 (some .int) own_rm_own_nth0 0 0 [] #[(.long v), (.int (0 : Int32))] h n0 (fun r h' => r = some (.int (own_ntz64 v)) ∧ h = h') := by
  refine OwM.of (Ls := #[.val (.long v), .second, .val (.int (0 : Int32)), .unset, .unset, .unset]) (by decide +kernel) (fun m => by first | (simp [entryFrame, mkF, argsToLocals, Value.category]; done) | rfl) ?_
  intro _ _ _ _ _ _ _ X
  refine X.lloadN (q := 1) own_d_prog_8_method_8_0 rfl rfl ?_
  refine X.lstoreN (q := 2) (Ls' := #[.val (.long v), .second, .val (.int (0 : Int32)), .val (.long v), .second, .unset]) own_d_prog_8_method_8_1 rfl rfl ?_
  refine X.iconst (q := 3) (0 : Int32) own_d_prog_8_method_8_2 (by decide) rfl ?_
  refine X.istore (q := 5) (Ls' := #[.val (.long v), .second, .val (.int (0 : Int32)), .val (.long v), .second, .val (.int (0 : Int32))]) own_d_prog_8_method_8_3 rfl rfl ?_
  refine X.iload (q := 7) own_d_prog_8_method_8_5 rfl rfl ?_
  refine X.iloadN (q := 8) own_d_prog_8_method_8_7 rfl rfl ?_
  refine X.icmp_ge (a := 0) (b := 0) (q' := 23) (q := 11) own_d_prog_8_method_8_8 rfl rfl (by decide) rfl (fun c8 => ?_) (fun c8 => ?_)
  · refine X.lloadN (q := 24) own_d_prog_8_method_8_23 rfl rfl ?_
    refine X.callS (own_n64 l Z a0 hw h n0 v) (hw _ (List.mem_of_getElem? (i := 107) rfl)) (hw _ (List.mem_of_getElem? (i := 108) rfl)) (hw _ (List.mem_of_getElem? (i := 99) rfl)) (hw _ (List.mem_of_getElem? (i := 109) rfl)) (by decide) own_pd2 (argsL := [(.long v)]) (rest := []) rfl rfl rfl (W := 0) (Nat.le_of_eq rfl) rfl (by decide) (by decide) (k' := 0) (n' := 0) rfl rfl (by decide) (by decide) own_d_prog_8_method_8_24 (q := 27) rfl ?_
    rintro _ _ ⟨rfl, rfl⟩
    show X.G h 0 0 27 #[.val (.long v), .second, .val (.int (0 : Int32)), .val (.long v), .second, .val (.int (0 : Int32))] [(.int (own_ntz64 v))]
    refine X.retI own_d_prog_8_method_8_27 rfl (by decide) (by decide) ?_
    exact ⟨rfl, rfl⟩
  · omega
theorem own_d_prog_8_method_8_11 : decode prog_8_method_8_code 11 = .ok (.lload_n 3, 1) := by decide +kernel
theorem own_d_prog_8_method_8_12 : decode prog_8_method_8_code 12 = .ok (.lload_n 3, 1) := by decide +kernel
theorem own_d_prog_8_method_8_13 : decode prog_8_method_8_code 13 = .ok (.lconst 1, 1) := by decide +kernel
theorem own_d_prog_8_method_8_14 : decode prog_8_method_8_code 14 = .ok (.lsub, 1) := by decide +kernel
theorem own_d_prog_8_method_8_15 : decode prog_8_method_8_code 15 = .ok (.land, 1) := by decide +kernel
theorem own_d_prog_8_method_8_16 : decode prog_8_method_8_code 16 = .ok (.lstore_n 3, 1) := by decide +kernel
theorem own_d_prog_8_method_8_17 : decode prog_8_method_8_code 17 = .ok (.iinc 5 1, 3) := by decide +kernel
theorem own_d_prog_8_method_8_20 : decode prog_8_method_8_code 20 = .ok (.goto (-15), 3) := by decide +kernel
def own_rm_own_nth1 : Room := ({ frames := 2, cells := 0, slots := 0, locals := 28 } : Room)
set_option maxRecDepth 65536 in
set_option maxHeartbeats 40000000 in
theorem own_nth1 (l : Launch) (Z : State) (a0 : Array Value) (hw : ∀ d ∈ tables_1, d.before a0 Z = true) (h : Heap) (n0 : Nat) (v : Int64)  :
    OwM l Z (⟨"com/example/vireo/vireo/index/BlockTable", "nthSetBit", "(JI)I"⟩ : MethodName) prog_8_method_8_code 6 (some .int) own_rm_own_nth1 0 0 [] #[(.long v), (.int (1 : Int32))] h n0 (fun r h' => r = some (.int (own_ntz64 (v &&& (v - 1)))) ∧ h = h') := by
  refine OwM.of (Ls := #[.val (.long v), .second, .val (.int (1 : Int32)), .unset, .unset, .unset]) (by decide +kernel) (fun m => by first | (simp [entryFrame, mkF, argsToLocals, Value.category]; done) | rfl) ?_
  intro _ _ _ _ _ _ _ X
  refine X.lloadN (q := 1) own_d_prog_8_method_8_0 rfl rfl ?_
  refine X.lstoreN (q := 2) (Ls' := #[.val (.long v), .second, .val (.int (1 : Int32)), .val (.long v), .second, .unset]) own_d_prog_8_method_8_1 rfl rfl ?_
  refine X.iconst (q := 3) (0 : Int32) own_d_prog_8_method_8_2 (by decide) rfl ?_
  refine X.istore (q := 5) (Ls' := #[.val (.long v), .second, .val (.int (1 : Int32)), .val (.long v), .second, .val (.int (0 : Int32))]) own_d_prog_8_method_8_3 rfl rfl ?_
  refine X.iload (q := 7) own_d_prog_8_method_8_5 rfl rfl ?_
  refine X.iloadN (q := 8) own_d_prog_8_method_8_7 rfl rfl ?_
  refine X.icmp_ge (a := 0) (b := 1) (q' := 23) (q := 11) own_d_prog_8_method_8_8 rfl rfl (by decide) rfl (fun c8 => ?_) (fun c8 => ?_)
  · omega
  · refine X.lloadN (q := 12) own_d_prog_8_method_8_11 rfl rfl ?_
    refine X.lloadN (q := 13) own_d_prog_8_method_8_12 rfl rfl ?_
    refine X.lconst (q := 14) (1 : Int64) own_d_prog_8_method_8_13 (by decide) rfl ?_
    refine X.lsub (q := 15) own_d_prog_8_method_8_14 rfl ?_
    refine X.land (q := 16) own_d_prog_8_method_8_15 rfl ?_
    refine X.lstoreN (q := 17) (Ls' := #[.val (.long v), .second, .val (.int (1 : Int32)), .val (.long (v &&& (v - (1 : Int64)))), .second, .val (.int (0 : Int32))]) own_d_prog_8_method_8_16 rfl rfl ?_
    refine X.iinc (q := 20) (Ls' := #[.val (.long v), .second, .val (.int (1 : Int32)), .val (.long (v &&& (v - (1 : Int64)))), .second, .val (.int (1 : Int32))]) (1 : Int32) own_d_prog_8_method_8_17 (by decide) rfl rfl rfl ?_
    refine X.goto (q' := 5) own_d_prog_8_method_8_20 (by decide) ?_
    refine X.iload (q := 7) own_d_prog_8_method_8_5 rfl rfl ?_
    refine X.iloadN (q := 8) own_d_prog_8_method_8_7 rfl rfl ?_
    refine X.icmp_ge (a := 1) (b := 1) (q' := 23) (q := 11) own_d_prog_8_method_8_8 rfl rfl (by decide) rfl (fun c8 => ?_) (fun c8 => ?_)
    · refine X.lloadN (q := 24) own_d_prog_8_method_8_23 rfl rfl ?_
      refine X.callS (own_n64 l Z a0 hw h n0 (v &&& (v - (1 : Int64)))) (hw _ (List.mem_of_getElem? (i := 107) rfl)) (hw _ (List.mem_of_getElem? (i := 108) rfl)) (hw _ (List.mem_of_getElem? (i := 99) rfl)) (hw _ (List.mem_of_getElem? (i := 109) rfl)) (by decide) own_pd2 (argsL := [(.long (v &&& (v - (1 : Int64))))]) (rest := []) rfl rfl rfl (W := 0) (Nat.le_of_eq rfl) rfl (by decide) (by decide) (k' := 0) (n' := 0) rfl rfl (by decide) (by decide) own_d_prog_8_method_8_24 (q := 27) rfl ?_
      rintro _ _ ⟨rfl, rfl⟩
      show X.G h 0 0 27 #[.val (.long v), .second, .val (.int (1 : Int32)), .val (.long (v &&& (v - (1 : Int64)))), .second, .val (.int (1 : Int32))] [(.int (own_ntz64 (v &&& (v - (1 : Int64)))))]
      refine X.retI own_d_prog_8_method_8_27 rfl (by decide) (by decide) ?_
      exact ⟨rfl, rfl⟩
    · omega
def own_rm_own_nth : Room := ({ frames := 2, cells := 0, slots := 0, locals := 28 } : Room)
theorem own_nth (l : Launch) (Z : State) (a0 : Array Value) (hw : ∀ d ∈ tables_1, d.before a0 Z = true) (h : Heap) (n0 : Nat) (v : Int64) (n R : Int32) (hR : (n.toInt = 0 ∧ R = own_ntz64 v) ∨ (n.toInt = 1 ∧ R = own_ntz64 (v &&& (v - 1)))) :
    OwM l Z (⟨"com/example/vireo/vireo/index/BlockTable", "nthSetBit", "(JI)I"⟩ : MethodName) prog_8_method_8_code 6 (some .int) own_rm_own_nth 0 0 [] #[(.long v), (.int n)] h n0 (fun r h' => r = some (.int R) ∧ h = h') := by
  rcases hR with ⟨q, rfl⟩ | ⟨q, rfl⟩
  · obtain rfl : n = 0 := by rw [← Int32.toInt_inj, q]; rfl
    exact own_nth0 l Z a0 hw h n0 v
  · obtain rfl : n = 1 := by rw [← Int32.toInt_inj, q]; rfl
    exact own_nth1 l Z a0 hw h n0 v
theorem own_d_prog_8_method_7_0 : decode prog_8_method_7_code 0 = .ok (.lload_n 1, 1) := by decide +kernel
theorem own_d_prog_8_method_7_1 : decode prog_8_method_7_code 1 = .ok (.aload_n 0, 1) := by decide +kernel
theorem own_d_prog_8_method_7_2 : decode prog_8_method_7_code 2 = .ok (.getfield 24, 3) := by decide +kernel
theorem own_d_prog_8_method_7_5 : decode prog_8_method_7_code 5 = .ok (.land, 1) := by decide +kernel
theorem own_d_prog_8_method_7_6 : decode prog_8_method_7_code 6 = .ok (.aload_n 0, 1) := by decide +kernel
theorem own_d_prog_8_method_7_7 : decode prog_8_method_7_code 7 = .ok (.getfield 24, 3) := by decide +kernel
theorem own_d_prog_8_method_7_10 : decode prog_8_method_7_code 10 = .ok (.ladd, 1) := by decide +kernel
theorem own_d_prog_8_method_7_11 : decode prog_8_method_7_code 11 = .ok (.lload_n 1, 1) := by decide +kernel
theorem own_d_prog_8_method_7_12 : decode prog_8_method_7_code 12 = .ok (.lor, 1) := by decide +kernel
theorem own_d_prog_8_method_7_13 : decode prog_8_method_7_code 13 = .ok (.aload_n 0, 1) := by decide +kernel
theorem own_d_prog_8_method_7_14 : decode prog_8_method_7_code 14 = .ok (.getfield 21, 3) := by decide +kernel
theorem own_d_prog_8_method_7_17 : decode prog_8_method_7_code 17 = .ok (.land, 1) := by decide +kernel
theorem own_d_prog_8_method_7_18 : decode prog_8_method_7_code 18 = .ok (.lstore_n 3, 1) := by decide +kernel
theorem own_d_prog_8_method_7_19 : decode prog_8_method_7_code 19 = .ok (.lload_n 3, 1) := by decide +kernel
theorem own_d_prog_8_method_7_20 : decode prog_8_method_7_code 20 = .ok (.aload_n 0, 1) := by decide +kernel
theorem own_d_prog_8_method_7_21 : decode prog_8_method_7_code 21 = .ok (.getfield 21, 3) := by decide +kernel
theorem own_d_prog_8_method_7_24 : decode prog_8_method_7_code 24 = .ok (.lcmp, 1) := by decide +kernel
theorem own_d_prog_8_method_7_25 : decode prog_8_method_7_code 25 = .ok (.ifCond .eq 7, 3) := by decide +kernel
theorem own_d_prog_8_method_7_32 : decode prog_8_method_7_code 32 = .ok (.iconst 0, 1) := by decide +kernel
theorem own_d_prog_8_method_7_33 : decode prog_8_method_7_code 33 = .ok (.ireturn, 1) := by decide +kernel
def own_rm_own_ae : Room := ({ frames := 0, cells := 0, slots := 0, locals := 0 } : Room)
set_option maxRecDepth 65536 in
set_option maxHeartbeats 40000000 in
theorem own_ae (l : Launch) (Z : State) (a0 : Array Value) (hw : ∀ d ∈ tables_1, d.before a0 Z = true) (h : Heap) (n0 : Nat) (t : Addr) (x : Int64)  (hn0 : n0 ≤ h.size) (FearlierTops : Fld Z h t "com/example/vireo/vireo/index/BlockTable" "earlierTops" "J" (.long (0 : Int64))) (FearlierRests : Fld Z h t "com/example/vireo/vireo/index/BlockTable" "earlierRests" "J" (.long (0 : Int64))) :
    OwM l Z (⟨"com/example/vireo/vireo/index/BlockTable", "agreesEarlier", "(J)Z"⟩ : MethodName) prog_8_method_7_code 5 (some .boolean) own_rm_own_ae 0 0 [] #[(.ref t), (.long x)] h n0 (fun r h' => r = some (.int 0) ∧ h = h') := by
  refine OwM.of (Ls := #[.val (.ref t), .val (.long x), .second, .unset, .unset]) (by decide +kernel) (fun m => by first | (simp [entryFrame, mkF, argsToLocals, Value.category]; done) | rfl) ?_
  intro _ _ _ _ _ _ _ X
  refine X.lloadN (q := 1) own_d_prog_8_method_7_0 rfl rfl ?_
  refine X.aloadN (q := 2) own_d_prog_8_method_7_1 rfl rfl rfl ?_
  refine X.getF (q := 5) (host := "") (Or.inl (hw _ (List.mem_of_getElem? (i := 18) rfl))) Via.refl FearlierRests own_d_prog_8_method_7_2 rfl ?_
  refine X.land (q := 6) own_d_prog_8_method_7_5 rfl ?_
  refine X.aloadN (q := 7) own_d_prog_8_method_7_6 rfl rfl rfl ?_
  refine X.getF (q := 10) (host := "") (Or.inl (hw _ (List.mem_of_getElem? (i := 18) rfl))) Via.refl FearlierRests own_d_prog_8_method_7_7 rfl ?_
  refine X.ladd (q := 11) own_d_prog_8_method_7_10 rfl ?_
  refine X.lloadN (q := 12) own_d_prog_8_method_7_11 rfl rfl ?_
  refine X.lor (q := 13) own_d_prog_8_method_7_12 rfl ?_
  refine X.aloadN (q := 14) own_d_prog_8_method_7_13 rfl rfl rfl ?_
  refine X.getF (q := 17) (host := "") (Or.inl (hw _ (List.mem_of_getElem? (i := 15) rfl))) Via.refl FearlierTops own_d_prog_8_method_7_14 rfl ?_
  refine X.land (q := 18) own_d_prog_8_method_7_17 rfl ?_
  refine X.foldJ (v := (0 : Int64)) (own_and0 _) ?_
  refine X.lstoreN (q := 19) (Ls' := #[.val (.ref t), .val (.long x), .second, .val (.long (0 : Int64)), .second]) own_d_prog_8_method_7_18 rfl rfl ?_
  refine X.lloadN (q := 20) own_d_prog_8_method_7_19 rfl rfl ?_
  refine X.aloadN (q := 21) own_d_prog_8_method_7_20 rfl rfl rfl ?_
  refine X.getF (q := 24) (host := "") (Or.inl (hw _ (List.mem_of_getElem? (i := 15) rfl))) Via.refl FearlierTops own_d_prog_8_method_7_21 rfl ?_
  refine X.lcmp_eq (a := 0) (b := 0) (q1 := 25) (q' := 32) (q := 28) own_d_prog_8_method_7_24 rfl own_d_prog_8_method_7_25 rfl rfl (by decide) rfl (fun c24 => ?_) (fun c24 => ?_)
  · refine X.iconst (q := 33) (0 : Int32) own_d_prog_8_method_7_32 (by decide) rfl ?_
    refine X.retN (t := .boolean) (z' := (0 : Int32)) own_d_prog_8_method_7_33 rfl (by simp) (by decide) (by decide) (by decide) ?_
    exact ⟨rfl, rfl⟩
  · omega
theorem own_d_prog_8_method_1_0 : decode prog_8_method_1_code 0 = .ok (.aload_n 0, 1) := by decide +kernel
theorem own_d_prog_8_method_1_1 : decode prog_8_method_1_code 1 = .ok (.invokespecial 1, 3) := by decide +kernel
theorem own_d_prog_8_method_1_4 : decode prog_8_method_1_code 4 = .ok (.aload_n 0, 1) := by decide +kernel
theorem own_d_prog_8_method_1_5 : decode prog_8_method_1_code 5 = .ok (.iload_n 2, 1) := by decide +kernel
theorem own_d_prog_8_method_1_6 : decode prog_8_method_1_code 6 = .ok (.bipush 64, 2) := by decide +kernel
theorem own_d_prog_8_method_1_22 : decode prog_8_method_1_code 22 = .ok (.iload_n 1, 1) := by decide +kernel
theorem own_d_prog_8_method_1_23 : decode prog_8_method_1_code 23 = .ok (.lshl, 1) := by decide +kernel
theorem own_d_prog_8_method_1_24 : decode prog_8_method_1_code 24 = .ok (.putfield 11, 3) := by decide +kernel
theorem own_d_prog_8_method_1_27 : decode prog_8_method_1_code 27 = .ok (.lconst 0, 1) := by decide +kernel
theorem own_d_prog_8_method_1_28 : decode prog_8_method_1_code 28 = .ok (.lstore 4, 2) := by decide +kernel
theorem own_d_prog_8_method_1_30 : decode prog_8_method_1_code 30 = .ok (.lconst 0, 1) := by decide +kernel
theorem own_d_prog_8_method_1_31 : decode prog_8_method_1_code 31 = .ok (.lstore 6, 2) := by decide +kernel
theorem own_d_prog_8_method_1_33 : decode prog_8_method_1_code 33 = .ok (.aload_n 3, 1) := by decide +kernel
theorem own_d_prog_8_method_1_34 : decode prog_8_method_1_code 34 = .ok (.astore 8, 2) := by decide +kernel
theorem own_d_prog_8_method_1_36 : decode prog_8_method_1_code 36 = .ok (.aload 8, 2) := by decide +kernel
theorem own_d_prog_8_method_1_38 : decode prog_8_method_1_code 38 = .ok (.arraylength, 1) := by decide +kernel
theorem own_d_prog_8_method_1_39 : decode prog_8_method_1_code 39 = .ok (.istore 9, 2) := by decide +kernel
theorem own_d_prog_8_method_1_41 : decode prog_8_method_1_code 41 = .ok (.iconst 0, 1) := by decide +kernel
theorem own_d_prog_8_method_1_42 : decode prog_8_method_1_code 42 = .ok (.istore 10, 2) := by decide +kernel
theorem own_d_prog_8_method_1_44 : decode prog_8_method_1_code 44 = .ok (.iload 10, 2) := by decide +kernel
theorem own_d_prog_8_method_1_46 : decode prog_8_method_1_code 46 = .ok (.iload 9, 2) := by decide +kernel
theorem own_d_prog_8_method_1_48 : decode prog_8_method_1_code 48 = .ok (.if_icmp .ge 33, 3) := by decide +kernel
theorem own_d_prog_8_method_1_81 : decode prog_8_method_1_code 81 = .ok (.aload_n 0, 1) := by decide +kernel
theorem own_d_prog_8_method_1_82 : decode prog_8_method_1_code 82 = .ok (.lload 4, 2) := by decide +kernel
theorem own_d_prog_8_method_1_84 : decode prog_8_method_1_code 84 = .ok (.putfield 21, 3) := by decide +kernel
theorem own_d_prog_8_method_1_87 : decode prog_8_method_1_code 87 = .ok (.aload_n 0, 1) := by decide +kernel
theorem own_d_prog_8_method_1_88 : decode prog_8_method_1_code 88 = .ok (.lload 6, 2) := by decide +kernel
theorem own_d_prog_8_method_1_90 : decode prog_8_method_1_code 90 = .ok (.lload 4, 2) := by decide +kernel
theorem own_d_prog_8_method_1_92 : decode prog_8_method_1_code 92 = .ok (.ldc2_w 9, 3) := by decide +kernel
theorem own_d_prog_8_method_1_95 : decode prog_8_method_1_code 95 = .ok (.lxor, 1) := by decide +kernel
theorem own_d_prog_8_method_1_96 : decode prog_8_method_1_code 96 = .ok (.land, 1) := by decide +kernel
theorem own_d_prog_8_method_1_97 : decode prog_8_method_1_code 97 = .ok (.putfield 24, 3) := by decide +kernel
theorem own_d_prog_8_method_1_100 : decode prog_8_method_1_code 100 = .ok (.aload_n 0, 1) := by decide +kernel
theorem own_d_prog_8_method_1_101 : decode prog_8_method_1_code 101 = .ok (.iload_n 2, 1) := by decide +kernel
theorem own_d_prog_8_method_1_102 : decode prog_8_method_1_code 102 = .ok (.bipush 16, 2) := by decide +kernel
theorem own_d_prog_8_method_1_104 : decode prog_8_method_1_code 104 = .ok (.invokestatic 27, 3) := by decide +kernel
theorem own_d_prog_8_method_1_107 : decode prog_8_method_1_code 107 = .ok (.putfield 33, 3) := by decide +kernel
theorem own_d_prog_8_method_1_110 : decode prog_8_method_1_code 110 = .ok (.aload_n 0, 1) := by decide +kernel
theorem own_d_prog_8_method_1_111 : decode prog_8_method_1_code 111 = .ok (.iload_n 1, 1) := by decide +kernel
theorem own_d_prog_8_method_1_112 : decode prog_8_method_1_code 112 = .ok (.iload_n 2, 1) := by decide +kernel
theorem own_d_prog_8_method_1_113 : decode prog_8_method_1_code 113 = .ok (.iadd, 1) := by decide +kernel
theorem own_d_prog_8_method_1_114 : decode prog_8_method_1_code 114 = .ok (.aload_n 0, 1) := by decide +kernel
theorem own_d_prog_8_method_1_115 : decode prog_8_method_1_code 115 = .ok (.getfield 33, 3) := by decide +kernel
theorem own_d_prog_8_method_1_118 : decode prog_8_method_1_code 118 = .ok (.isub, 1) := by decide +kernel
theorem own_d_prog_8_method_1_119 : decode prog_8_method_1_code 119 = .ok (.putfield 37, 3) := by decide +kernel
theorem own_d_prog_8_method_1_122 : decode prog_8_method_1_code 122 = .ok (.aload_n 0, 1) := by decide +kernel
theorem own_d_prog_8_method_1_123 : decode prog_8_method_1_code 123 = .ok (.iconst 1, 1) := by decide +kernel
theorem own_d_prog_8_method_1_124 : decode prog_8_method_1_code 124 = .ok (.aload_n 0, 1) := by decide +kernel
theorem own_d_prog_8_method_1_125 : decode prog_8_method_1_code 125 = .ok (.getfield 33, 3) := by decide +kernel
theorem own_d_prog_8_method_1_128 : decode prog_8_method_1_code 128 = .ok (.ishl, 1) := by decide +kernel
theorem own_d_prog_8_method_1_129 : decode prog_8_method_1_code 129 = .ok (.iconst 1, 1) := by decide +kernel
theorem own_d_prog_8_method_1_130 : decode prog_8_method_1_code 130 = .ok (.isub, 1) := by decide +kernel
theorem own_d_prog_8_method_1_131 : decode prog_8_method_1_code 131 = .ok (.putfield 40, 3) := by decide +kernel
theorem own_d_prog_8_method_1_134 : decode prog_8_method_1_code 134 = .ok (.aload_n 0, 1) := by decide +kernel
theorem own_d_prog_8_method_1_135 : decode prog_8_method_1_code 135 = .ok (.aload_n 0, 1) := by decide +kernel
theorem own_d_prog_8_method_1_136 : decode prog_8_method_1_code 136 = .ok (.getfield 40, 3) := by decide +kernel
theorem own_d_prog_8_method_1_139 : decode prog_8_method_1_code 139 = .ok (.i2l, 1) := by decide +kernel
theorem own_d_prog_8_method_1_140 : decode prog_8_method_1_code 140 = .ok (.aload_n 0, 1) := by decide +kernel
theorem own_d_prog_8_method_1_141 : decode prog_8_method_1_code 141 = .ok (.getfield 37, 3) := by decide +kernel
theorem own_d_prog_8_method_1_144 : decode prog_8_method_1_code 144 = .ok (.lshl, 1) := by decide +kernel
theorem own_d_prog_8_method_1_145 : decode prog_8_method_1_code 145 = .ok (.putfield 43, 3) := by decide +kernel
theorem own_d_prog_8_method_1_148 : decode prog_8_method_1_code 148 = .ok (.aload_n 0, 1) := by decide +kernel
theorem own_d_prog_8_method_1_149 : decode prog_8_method_1_code 149 = .ok (.iconst 1, 1) := by decide +kernel
theorem own_d_prog_8_method_1_150 : decode prog_8_method_1_code 150 = .ok (.aload_n 0, 1) := by decide +kernel
theorem own_d_prog_8_method_1_151 : decode prog_8_method_1_code 151 = .ok (.getfield 33, 3) := by decide +kernel
theorem own_d_prog_8_method_1_154 : decode prog_8_method_1_code 154 = .ok (.ishl, 1) := by decide +kernel
theorem own_d_prog_8_method_1_155 : decode prog_8_method_1_code 155 = .ok (.anewarray 46, 3) := by decide +kernel
theorem own_d_prog_8_method_1_158 : decode prog_8_method_1_code 158 = .ok (.putfield 48, 3) := by decide +kernel
theorem own_d_prog_8_method_1_161 : decode prog_8_method_1_code 161 = .ok (.return_, 1) := by decide +kernel
theorem own_d_prog_8_method_1_8 : decode prog_8_method_1_code 8 = .ok (.if_icmp .ne 9, 3) := by decide +kernel
theorem own_d_prog_8_method_1_17 : decode prog_8_method_1_code 17 = .ok (.lconst 1, 1) := by decide +kernel
theorem own_d_prog_8_method_1_18 : decode prog_8_method_1_code 18 = .ok (.iload_n 2, 1) := by decide +kernel
theorem own_d_prog_8_method_1_19 : decode prog_8_method_1_code 19 = .ok (.lshl, 1) := by decide +kernel
theorem own_d_prog_8_method_1_20 : decode prog_8_method_1_code 20 = .ok (.lconst 1, 1) := by decide +kernel
theorem own_d_prog_8_method_1_21 : decode prog_8_method_1_code 21 = .ok (.lsub, 1) := by decide +kernel
theorem own_d_prog_8_method_1_11 : decode prog_8_method_1_code 11 = .ok (.ldc2_w 9, 3) := by decide +kernel
theorem own_d_prog_8_method_1_14 : decode prog_8_method_1_code 14 = .ok (.goto 8, 3) := by decide +kernel
def own_rm_own_ctor : Room := ({ frames := 1, cells := 1, slots := 65536, locals := 14 } : Room)
set_option maxRecDepth 65536 in
set_option maxHeartbeats 40000000 in
theorem own_ctor (l : Launch) (Z : State) (a0 : Array Value) (hw : ∀ d ∈ tables_1, d.before a0 Z = true) (h : Heap) (n0 : Nat) (t g : Addr) (s w kb ks lm : Int32) (km bm : Int64) (k : Nat) (hkb : (w.toInt ≤ 16 ∧ kb.toInt = w.toInt) ∨ (16 < w.toInt ∧ kb.toInt = 16)) (hk : kb.toInt = (k : Int)) (hk1 : 1 ≤ k) (hk2 : k ≤ 16) (hks : ks = (s + w) - kb) (hlm : lm = (1 : Int32) <<< (kb &&& 31) - 1) (hkm : km = lm.toInt64 <<< (ks.toInt64 &&& 63)) (hbm : bm = own_b0 w <<< (s.toInt64 &&& 63))  (hn0 : n0 ≤ h.size) (B : Exa Z h t "com/example/vireo/vireo/index/BlockTable") (FblockMask : Fld Z h t "com/example/vireo/vireo/index/BlockTable" "blockMask" "J" (.long (0 : Int64))) (FearlierTops : Fld Z h t "com/example/vireo/vireo/index/BlockTable" "earlierTops" "J" (.long (0 : Int64))) (FearlierRests : Fld Z h t "com/example/vireo/vireo/index/BlockTable" "earlierRests" "J" (.long (0 : Int64))) (FkeyBits : Fld Z h t "com/example/vireo/vireo/index/BlockTable" "keyBits" "I" (.int (0 : Int32))) (FkeyShift : Fld Z h t "com/example/vireo/vireo/index/BlockTable" "keyShift" "I" (.int (0 : Int32))) (FlowMask : Fld Z h t "com/example/vireo/vireo/index/BlockTable" "lowMask" "I" (.int (0 : Int32))) (FkeyMask : Fld Z h t "com/example/vireo/vireo/index/BlockTable" "keyMask" "J" (.long (0 : Int64))) (Fbuckets : Fld Z h t "com/example/vireo/vireo/index/BlockTable" "buckets" "[Lcom/example/vireo/vireo/index/BlockTable$Bucket;" .null) (Ag : OwA Z h g .long []) (get : n0 ≤ t) (netg : t ≠ g) :
    OwM l Z (⟨"com/example/vireo/vireo/index/BlockTable", "<init>", "(II[J)V"⟩ : MethodName) prog_8_method_1_code 13 none own_rm_own_ctor 1 65536 [] #[(.ref t), (.int s), (.int w), (.ref g)] h n0 (fun r h' => r = none ∧ ∃ u, Keep h h' [t] ∧ h.size ≤ u ∧ Fld Z h' t "com/example/vireo/vireo/index/BlockTable" "blockMask" "J" (.long bm) ∧ Fld Z h' t "com/example/vireo/vireo/index/BlockTable" "earlierTops" "J" (.long (0 : Int64)) ∧ Fld Z h' t "com/example/vireo/vireo/index/BlockTable" "earlierRests" "J" (.long (0 : Int64)) ∧ Fld Z h' t "com/example/vireo/vireo/index/BlockTable" "keyBits" "I" (.int kb) ∧ Fld Z h' t "com/example/vireo/vireo/index/BlockTable" "keyShift" "I" (.int ks) ∧ Fld Z h' t "com/example/vireo/vireo/index/BlockTable" "lowMask" "I" (.int lm) ∧ Fld Z h' t "com/example/vireo/vireo/index/BlockTable" "keyMask" "J" (.long km) ∧ Fld Z h' t "com/example/vireo/vireo/index/BlockTable" "buckets" "[Lcom/example/vireo/vireo/index/BlockTable$Bucket;" (.ref u) ∧ OwA Z h' u (.object "com/example/vireo/vireo/index/BlockTable$Bucket") (List.replicate (2 ^ k) .null) ∧ OwV Z h' u "com/example/vireo/vireo/index/BlockTable$Bucket") := by
  refine OwM.of (Ls := #[.val (.ref t), .val (.int s), .val (.int w), .val (.ref g), .unset, .unset, .unset, .unset, .unset, .unset, .unset, .unset, .unset]) (by decide +kernel) (fun m => by first | (simp [entryFrame, mkF, argsToLocals, Value.category]; done) | rfl) ?_
  intro _ _ _ _ _ _ _ X
  have K0 : Keep h h [t] := Keep.refl _ _
  have e0 : (0 : Int32).toInt = 0 := rfl
  have e16 : (16 : Int32).toInt = 16 := rfl
  have e64 : (64 : Int32).toInt = 64 := rfl
  refine X.aloadN (q := 1) own_d_prog_8_method_1_0 rfl rfl rfl ?_
  refine X.initO (q := 4) (W := 0) (hw _ (List.mem_of_getElem? (i := 10) rfl)) (hw _ (List.mem_of_getElem? (i := 11) rfl)) (hw _ (List.mem_of_getElem? (i := 12) rfl)) own_d_prog_8_method_1_1 rfl (by decide) (Nat.le_of_eq rfl) (by decide) rfl ?_
  refine X.aloadN (q := 5) own_d_prog_8_method_1_4 rfl rfl rfl ?_
  refine X.iloadN (q := 6) own_d_prog_8_method_1_5 rfl rfl ?_
  refine X.bipush (q := 8) (64 : Int32) own_d_prog_8_method_1_6 (by decide) rfl ?_
  have J22 :  X.G h 0 0 22 #[.val (.ref t), .val (.int s), .val (.int w), .val (.ref g), .unset, .unset, .unset, .unset, .unset, .unset, .unset, .unset, .unset] [(.long (own_b0 w)), (.ref t)] := by
    refine X.iloadN (q := 23) own_d_prog_8_method_1_22 rfl rfl ?_
    refine X.lshl (q := 24) own_d_prog_8_method_1_23 rfl ?_
    refine X.foldJ (v := bm) (hbm.symm) ?_
    refine X.putF (q := 27) (host := "") (Or.inl (hw _ (List.mem_of_getElem? (i := 13) rfl))) Via.refl FblockMask B (Or.inr ⟨(hw _ (List.mem_of_getElem? (i := 14) rfl)), rfl, rfl⟩) (hw _ (List.mem_of_getElem? (i := 4) rfl)) (ty := .long) (by decide) rfl rfl get own_d_prog_8_method_1_24 rfl (fun h1 Wh1 => ?_)
    have B'h1 : Exa Z h1 t "com/example/vireo/vireo/index/BlockTable" := Exa.wr Wh1 B
    have FblockMask'h1 : Fld Z h1 t "com/example/vireo/vireo/index/BlockTable" "blockMask" "J" (.long bm) := Fld.same Wh1 FblockMask
    have FearlierTops'h1 : Fld Z h1 t "com/example/vireo/vireo/index/BlockTable" "earlierTops" "J" (.long (0 : Int64)) := Fld.other Wh1 FearlierTops (Or.inr (slot_ne (Or.inr (hw _ (List.mem_of_getElem? (i := 16) rfl))) (Or.inr (hw _ (List.mem_of_getElem? (i := 14) rfl))) (by decide) (ht := (by decide : _ = some .long)) (ht' := (by decide : _ = some .long))))
    have FearlierRests'h1 : Fld Z h1 t "com/example/vireo/vireo/index/BlockTable" "earlierRests" "J" (.long (0 : Int64)) := Fld.other Wh1 FearlierRests (Or.inr (slot_ne (Or.inr (hw _ (List.mem_of_getElem? (i := 19) rfl))) (Or.inr (hw _ (List.mem_of_getElem? (i := 14) rfl))) (by decide) (ht := (by decide : _ = some .long)) (ht' := (by decide : _ = some .long))))
    have FkeyBits'h1 : Fld Z h1 t "com/example/vireo/vireo/index/BlockTable" "keyBits" "I" (.int (0 : Int32)) := Fld.other Wh1 FkeyBits (Or.inr (slot_ne (Or.inr (hw _ (List.mem_of_getElem? (i := 25) rfl))) (Or.inr (hw _ (List.mem_of_getElem? (i := 14) rfl))) (by decide) (ht := (by decide : _ = some .int)) (ht' := (by decide : _ = some .long))))
    have FkeyShift'h1 : Fld Z h1 t "com/example/vireo/vireo/index/BlockTable" "keyShift" "I" (.int (0 : Int32)) := Fld.other Wh1 FkeyShift (Or.inr (slot_ne (Or.inr (hw _ (List.mem_of_getElem? (i := 27) rfl))) (Or.inr (hw _ (List.mem_of_getElem? (i := 14) rfl))) (by decide) (ht := (by decide : _ = some .int)) (ht' := (by decide : _ = some .long))))
    have FlowMask'h1 : Fld Z h1 t "com/example/vireo/vireo/index/BlockTable" "lowMask" "I" (.int (0 : Int32)) := Fld.other Wh1 FlowMask (Or.inr (slot_ne (Or.inr (hw _ (List.mem_of_getElem? (i := 29) rfl))) (Or.inr (hw _ (List.mem_of_getElem? (i := 14) rfl))) (by decide) (ht := (by decide : _ = some .int)) (ht' := (by decide : _ = some .long))))
    have FkeyMask'h1 : Fld Z h1 t "com/example/vireo/vireo/index/BlockTable" "keyMask" "J" (.long (0 : Int64)) := Fld.other Wh1 FkeyMask (Or.inr (slot_ne (Or.inr (hw _ (List.mem_of_getElem? (i := 31) rfl))) (Or.inr (hw _ (List.mem_of_getElem? (i := 14) rfl))) (by decide) (ht := (by decide : _ = some .long)) (ht' := (by decide : _ = some .long))))
    have Fbuckets'h1 : Fld Z h1 t "com/example/vireo/vireo/index/BlockTable" "buckets" "[Lcom/example/vireo/vireo/index/BlockTable$Bucket;" .null := Fld.other Wh1 Fbuckets (Or.inr (slot_ne (Or.inr (hw _ (List.mem_of_getElem? (i := 35) rfl))) (Or.inr (hw _ (List.mem_of_getElem? (i := 14) rfl))) (by decide) (ht := (by decide : _ = some (.array (.object "com/example/vireo/vireo/index/BlockTable$Bucket")))) (ht' := (by decide : _ = some .long))))
    have Ag'h1 : OwA Z h1 g .long [] := OwA.other Ag Wh1 (Ne.symm netg)
    have hsh1 : n0 ≤ h1.size := by rw [Wr.size Wh1]; exact hn0
    have Kh1 : Keep h h1 [t] := Keep.wr K0 Wh1 (Or.inl (List.mem_of_getElem? (i := 0) rfl))
    refine X.lconst (q := 28) (0 : Int64) own_d_prog_8_method_1_27 (by decide) rfl ?_
    refine X.lstore (q := 30) (Ls' := #[.val (.ref t), .val (.int s), .val (.int w), .val (.ref g), .val (.long (0 : Int64)), .second, .unset, .unset, .unset, .unset, .unset, .unset, .unset]) own_d_prog_8_method_1_28 rfl rfl ?_
    refine X.lconst (q := 31) (0 : Int64) own_d_prog_8_method_1_30 (by decide) rfl ?_
    refine X.lstore (q := 33) (Ls' := #[.val (.ref t), .val (.int s), .val (.int w), .val (.ref g), .val (.long (0 : Int64)), .second, .val (.long (0 : Int64)), .second, .unset, .unset, .unset, .unset, .unset]) own_d_prog_8_method_1_31 rfl rfl ?_
    refine X.aloadN (q := 34) own_d_prog_8_method_1_33 rfl rfl rfl ?_
    refine X.astore (q := 36) (Ls' := #[.val (.ref t), .val (.int s), .val (.int w), .val (.ref g), .val (.long (0 : Int64)), .second, .val (.long (0 : Int64)), .second, .val (.ref g), .unset, .unset, .unset, .unset]) own_d_prog_8_method_1_34 rfl rfl rfl ?_
    refine X.aload (q := 38) own_d_prog_8_method_1_36 rfl rfl rfl ?_
    refine X.alen (q := 39) (z := (0 : Int32)) Ag'h1 rfl own_d_prog_8_method_1_38 rfl ?_
    refine X.istore (q := 41) (Ls' := #[.val (.ref t), .val (.int s), .val (.int w), .val (.ref g), .val (.long (0 : Int64)), .second, .val (.long (0 : Int64)), .second, .val (.ref g), .val (.int (0 : Int32)), .unset, .unset, .unset]) own_d_prog_8_method_1_39 rfl rfl ?_
    refine X.iconst (q := 42) (0 : Int32) own_d_prog_8_method_1_41 (by decide) rfl ?_
    refine X.istore (q := 44) (Ls' := #[.val (.ref t), .val (.int s), .val (.int w), .val (.ref g), .val (.long (0 : Int64)), .second, .val (.long (0 : Int64)), .second, .val (.ref g), .val (.int (0 : Int32)), .val (.int (0 : Int32)), .unset, .unset]) own_d_prog_8_method_1_42 rfl rfl ?_
    refine X.iload (q := 46) own_d_prog_8_method_1_44 rfl rfl ?_
    refine X.iload (q := 48) own_d_prog_8_method_1_46 rfl rfl ?_
    refine X.icmp_ge (a := 0) (b := 0) (q' := 81) (q := 51) own_d_prog_8_method_1_48 rfl rfl (by decide) rfl (fun c48 => ?_) (fun c48 => ?_)
    · refine X.aloadN (q := 82) own_d_prog_8_method_1_81 rfl rfl rfl ?_
      refine X.lload (q := 84) own_d_prog_8_method_1_82 rfl rfl ?_
      refine X.putF (q := 87) (host := "") (Or.inl (hw _ (List.mem_of_getElem? (i := 15) rfl))) Via.refl FearlierTops'h1 B'h1 (Or.inr ⟨(hw _ (List.mem_of_getElem? (i := 16) rfl)), rfl, rfl⟩) (hw _ (List.mem_of_getElem? (i := 4) rfl)) (ty := .long) (by decide) rfl rfl get own_d_prog_8_method_1_84 rfl (fun h2 Wh2 => ?_)
      have B'h2 : Exa Z h2 t "com/example/vireo/vireo/index/BlockTable" := Exa.wr Wh2 B'h1
      have FblockMask'h2 : Fld Z h2 t "com/example/vireo/vireo/index/BlockTable" "blockMask" "J" (.long bm) := Fld.other Wh2 FblockMask'h1 (Or.inr (slot_ne (Or.inr (hw _ (List.mem_of_getElem? (i := 14) rfl))) (Or.inr (hw _ (List.mem_of_getElem? (i := 16) rfl))) (by decide) (ht := (by decide : _ = some .long)) (ht' := (by decide : _ = some .long))))
      have FearlierTops'h2 : Fld Z h2 t "com/example/vireo/vireo/index/BlockTable" "earlierTops" "J" (.long (0 : Int64)) := Fld.same Wh2 FearlierTops'h1
      have FearlierRests'h2 : Fld Z h2 t "com/example/vireo/vireo/index/BlockTable" "earlierRests" "J" (.long (0 : Int64)) := Fld.other Wh2 FearlierRests'h1 (Or.inr (slot_ne (Or.inr (hw _ (List.mem_of_getElem? (i := 19) rfl))) (Or.inr (hw _ (List.mem_of_getElem? (i := 16) rfl))) (by decide) (ht := (by decide : _ = some .long)) (ht' := (by decide : _ = some .long))))
      have FkeyBits'h2 : Fld Z h2 t "com/example/vireo/vireo/index/BlockTable" "keyBits" "I" (.int (0 : Int32)) := Fld.other Wh2 FkeyBits'h1 (Or.inr (slot_ne (Or.inr (hw _ (List.mem_of_getElem? (i := 25) rfl))) (Or.inr (hw _ (List.mem_of_getElem? (i := 16) rfl))) (by decide) (ht := (by decide : _ = some .int)) (ht' := (by decide : _ = some .long))))
      have FkeyShift'h2 : Fld Z h2 t "com/example/vireo/vireo/index/BlockTable" "keyShift" "I" (.int (0 : Int32)) := Fld.other Wh2 FkeyShift'h1 (Or.inr (slot_ne (Or.inr (hw _ (List.mem_of_getElem? (i := 27) rfl))) (Or.inr (hw _ (List.mem_of_getElem? (i := 16) rfl))) (by decide) (ht := (by decide : _ = some .int)) (ht' := (by decide : _ = some .long))))
      have FlowMask'h2 : Fld Z h2 t "com/example/vireo/vireo/index/BlockTable" "lowMask" "I" (.int (0 : Int32)) := Fld.other Wh2 FlowMask'h1 (Or.inr (slot_ne (Or.inr (hw _ (List.mem_of_getElem? (i := 29) rfl))) (Or.inr (hw _ (List.mem_of_getElem? (i := 16) rfl))) (by decide) (ht := (by decide : _ = some .int)) (ht' := (by decide : _ = some .long))))
      have FkeyMask'h2 : Fld Z h2 t "com/example/vireo/vireo/index/BlockTable" "keyMask" "J" (.long (0 : Int64)) := Fld.other Wh2 FkeyMask'h1 (Or.inr (slot_ne (Or.inr (hw _ (List.mem_of_getElem? (i := 31) rfl))) (Or.inr (hw _ (List.mem_of_getElem? (i := 16) rfl))) (by decide) (ht := (by decide : _ = some .long)) (ht' := (by decide : _ = some .long))))
      have Fbuckets'h2 : Fld Z h2 t "com/example/vireo/vireo/index/BlockTable" "buckets" "[Lcom/example/vireo/vireo/index/BlockTable$Bucket;" .null := Fld.other Wh2 Fbuckets'h1 (Or.inr (slot_ne (Or.inr (hw _ (List.mem_of_getElem? (i := 35) rfl))) (Or.inr (hw _ (List.mem_of_getElem? (i := 16) rfl))) (by decide) (ht := (by decide : _ = some (.array (.object "com/example/vireo/vireo/index/BlockTable$Bucket")))) (ht' := (by decide : _ = some .long))))
      have Ag'h2 : OwA Z h2 g .long [] := OwA.other Ag'h1 Wh2 (Ne.symm netg)
      have hsh2 : n0 ≤ h2.size := by rw [Wr.size Wh2]; exact hsh1
      have Kh2 : Keep h h2 [t] := Keep.wr Kh1 Wh2 (Or.inl (List.mem_of_getElem? (i := 0) rfl))
      refine X.aloadN (q := 88) own_d_prog_8_method_1_87 rfl rfl rfl ?_
      refine X.lload (q := 90) own_d_prog_8_method_1_88 rfl rfl ?_
      refine X.lload (q := 92) own_d_prog_8_method_1_90 rfl rfl ?_
      refine X.ldc2_w (q := 95) (v := (-1 : Int64)) (hw _ (List.mem_of_getElem? (i := 17) rfl)) own_d_prog_8_method_1_92 rfl ?_
      refine X.lxor (q := 96) own_d_prog_8_method_1_95 rfl ?_
      refine X.foldJ (v := (-1 : Int64)) (by decide) ?_
      refine X.land (q := 97) own_d_prog_8_method_1_96 rfl ?_
      refine X.foldJ (v := (0 : Int64)) (by decide) ?_
      refine X.putF (q := 100) (host := "") (Or.inl (hw _ (List.mem_of_getElem? (i := 18) rfl))) Via.refl FearlierRests'h2 B'h2 (Or.inr ⟨(hw _ (List.mem_of_getElem? (i := 19) rfl)), rfl, rfl⟩) (hw _ (List.mem_of_getElem? (i := 4) rfl)) (ty := .long) (by decide) rfl rfl get own_d_prog_8_method_1_97 rfl (fun h3 Wh3 => ?_)
      have B'h3 : Exa Z h3 t "com/example/vireo/vireo/index/BlockTable" := Exa.wr Wh3 B'h2
      have FblockMask'h3 : Fld Z h3 t "com/example/vireo/vireo/index/BlockTable" "blockMask" "J" (.long bm) := Fld.other Wh3 FblockMask'h2 (Or.inr (slot_ne (Or.inr (hw _ (List.mem_of_getElem? (i := 14) rfl))) (Or.inr (hw _ (List.mem_of_getElem? (i := 19) rfl))) (by decide) (ht := (by decide : _ = some .long)) (ht' := (by decide : _ = some .long))))
      have FearlierTops'h3 : Fld Z h3 t "com/example/vireo/vireo/index/BlockTable" "earlierTops" "J" (.long (0 : Int64)) := Fld.other Wh3 FearlierTops'h2 (Or.inr (slot_ne (Or.inr (hw _ (List.mem_of_getElem? (i := 16) rfl))) (Or.inr (hw _ (List.mem_of_getElem? (i := 19) rfl))) (by decide) (ht := (by decide : _ = some .long)) (ht' := (by decide : _ = some .long))))
      have FearlierRests'h3 : Fld Z h3 t "com/example/vireo/vireo/index/BlockTable" "earlierRests" "J" (.long (0 : Int64)) := Fld.same Wh3 FearlierRests'h2
      have FkeyBits'h3 : Fld Z h3 t "com/example/vireo/vireo/index/BlockTable" "keyBits" "I" (.int (0 : Int32)) := Fld.other Wh3 FkeyBits'h2 (Or.inr (slot_ne (Or.inr (hw _ (List.mem_of_getElem? (i := 25) rfl))) (Or.inr (hw _ (List.mem_of_getElem? (i := 19) rfl))) (by decide) (ht := (by decide : _ = some .int)) (ht' := (by decide : _ = some .long))))
      have FkeyShift'h3 : Fld Z h3 t "com/example/vireo/vireo/index/BlockTable" "keyShift" "I" (.int (0 : Int32)) := Fld.other Wh3 FkeyShift'h2 (Or.inr (slot_ne (Or.inr (hw _ (List.mem_of_getElem? (i := 27) rfl))) (Or.inr (hw _ (List.mem_of_getElem? (i := 19) rfl))) (by decide) (ht := (by decide : _ = some .int)) (ht' := (by decide : _ = some .long))))
      have FlowMask'h3 : Fld Z h3 t "com/example/vireo/vireo/index/BlockTable" "lowMask" "I" (.int (0 : Int32)) := Fld.other Wh3 FlowMask'h2 (Or.inr (slot_ne (Or.inr (hw _ (List.mem_of_getElem? (i := 29) rfl))) (Or.inr (hw _ (List.mem_of_getElem? (i := 19) rfl))) (by decide) (ht := (by decide : _ = some .int)) (ht' := (by decide : _ = some .long))))
      have FkeyMask'h3 : Fld Z h3 t "com/example/vireo/vireo/index/BlockTable" "keyMask" "J" (.long (0 : Int64)) := Fld.other Wh3 FkeyMask'h2 (Or.inr (slot_ne (Or.inr (hw _ (List.mem_of_getElem? (i := 31) rfl))) (Or.inr (hw _ (List.mem_of_getElem? (i := 19) rfl))) (by decide) (ht := (by decide : _ = some .long)) (ht' := (by decide : _ = some .long))))
      have Fbuckets'h3 : Fld Z h3 t "com/example/vireo/vireo/index/BlockTable" "buckets" "[Lcom/example/vireo/vireo/index/BlockTable$Bucket;" .null := Fld.other Wh3 Fbuckets'h2 (Or.inr (slot_ne (Or.inr (hw _ (List.mem_of_getElem? (i := 35) rfl))) (Or.inr (hw _ (List.mem_of_getElem? (i := 19) rfl))) (by decide) (ht := (by decide : _ = some (.array (.object "com/example/vireo/vireo/index/BlockTable$Bucket")))) (ht' := (by decide : _ = some .long))))
      have Ag'h3 : OwA Z h3 g .long [] := OwA.other Ag'h2 Wh3 (Ne.symm netg)
      have hsh3 : n0 ≤ h3.size := by rw [Wr.size Wh3]; exact hsh2
      have Kh3 : Keep h h3 [t] := Keep.wr Kh2 Wh3 (Or.inl (List.mem_of_getElem? (i := 0) rfl))
      refine X.aloadN (q := 101) own_d_prog_8_method_1_100 rfl rfl rfl ?_
      refine X.iloadN (q := 102) own_d_prog_8_method_1_101 rfl rfl ?_
      refine X.bipush (q := 104) (16 : Int32) own_d_prog_8_method_1_102 (by decide) rfl ?_
      refine X.callS (own_min l Z a0 hw h3 n0 w 16) (hw _ (List.mem_of_getElem? (i := 20) rfl)) (hw _ (List.mem_of_getElem? (i := 21) rfl)) (hw _ (List.mem_of_getElem? (i := 22) rfl)) (hw _ (List.mem_of_getElem? (i := 23) rfl)) (by decide) own_pd0 (argsL := [(.int w), (.int (16 : Int32))]) (rest := [(.ref t)]) rfl rfl rfl (W := 1) (Nat.le_of_eq rfl) rfl (by decide) (by decide) (k' := 0) (n' := 0) rfl rfl (by decide) (by decide) own_d_prog_8_method_1_104 (q := 107) rfl ?_
      rintro _ _ ⟨z, rfl, hz, rfl⟩
      show X.G h3 0 0 107 #[.val (.ref t), .val (.int s), .val (.int w), .val (.ref g), .val (.long (0 : Int64)), .second, .val (.long (0 : Int64)), .second, .val (.ref g), .val (.int (0 : Int32)), .val (.int (0 : Int32)), .unset, .unset] [(.int z), (.ref t)]
      refine X.foldI (v := kb) (Int32.toInt_inj.mp (by omega)) ?_
      refine X.putF (q := 110) (host := "") (Or.inl (hw _ (List.mem_of_getElem? (i := 24) rfl))) Via.refl FkeyBits'h3 B'h3 (Or.inr ⟨(hw _ (List.mem_of_getElem? (i := 25) rfl)), rfl, rfl⟩) (hw _ (List.mem_of_getElem? (i := 4) rfl)) (ty := .int) (by decide) rfl rfl get own_d_prog_8_method_1_107 rfl (fun h4 Wh4 => ?_)
      have B'h4 : Exa Z h4 t "com/example/vireo/vireo/index/BlockTable" := Exa.wr Wh4 B'h3
      have FblockMask'h4 : Fld Z h4 t "com/example/vireo/vireo/index/BlockTable" "blockMask" "J" (.long bm) := Fld.other Wh4 FblockMask'h3 (Or.inr (slot_ne (Or.inr (hw _ (List.mem_of_getElem? (i := 14) rfl))) (Or.inr (hw _ (List.mem_of_getElem? (i := 25) rfl))) (by decide) (ht := (by decide : _ = some .long)) (ht' := (by decide : _ = some .int))))
      have FearlierTops'h4 : Fld Z h4 t "com/example/vireo/vireo/index/BlockTable" "earlierTops" "J" (.long (0 : Int64)) := Fld.other Wh4 FearlierTops'h3 (Or.inr (slot_ne (Or.inr (hw _ (List.mem_of_getElem? (i := 16) rfl))) (Or.inr (hw _ (List.mem_of_getElem? (i := 25) rfl))) (by decide) (ht := (by decide : _ = some .long)) (ht' := (by decide : _ = some .int))))
      have FearlierRests'h4 : Fld Z h4 t "com/example/vireo/vireo/index/BlockTable" "earlierRests" "J" (.long (0 : Int64)) := Fld.other Wh4 FearlierRests'h3 (Or.inr (slot_ne (Or.inr (hw _ (List.mem_of_getElem? (i := 19) rfl))) (Or.inr (hw _ (List.mem_of_getElem? (i := 25) rfl))) (by decide) (ht := (by decide : _ = some .long)) (ht' := (by decide : _ = some .int))))
      have FkeyBits'h4 : Fld Z h4 t "com/example/vireo/vireo/index/BlockTable" "keyBits" "I" (.int kb) := Fld.same Wh4 FkeyBits'h3
      have FkeyShift'h4 : Fld Z h4 t "com/example/vireo/vireo/index/BlockTable" "keyShift" "I" (.int (0 : Int32)) := Fld.other Wh4 FkeyShift'h3 (Or.inr (slot_ne (Or.inr (hw _ (List.mem_of_getElem? (i := 27) rfl))) (Or.inr (hw _ (List.mem_of_getElem? (i := 25) rfl))) (by decide) (ht := (by decide : _ = some .int)) (ht' := (by decide : _ = some .int))))
      have FlowMask'h4 : Fld Z h4 t "com/example/vireo/vireo/index/BlockTable" "lowMask" "I" (.int (0 : Int32)) := Fld.other Wh4 FlowMask'h3 (Or.inr (slot_ne (Or.inr (hw _ (List.mem_of_getElem? (i := 29) rfl))) (Or.inr (hw _ (List.mem_of_getElem? (i := 25) rfl))) (by decide) (ht := (by decide : _ = some .int)) (ht' := (by decide : _ = some .int))))
      have FkeyMask'h4 : Fld Z h4 t "com/example/vireo/vireo/index/BlockTable" "keyMask" "J" (.long (0 : Int64)) := Fld.other Wh4 FkeyMask'h3 (Or.inr (slot_ne (Or.inr (hw _ (List.mem_of_getElem? (i := 31) rfl))) (Or.inr (hw _ (List.mem_of_getElem? (i := 25) rfl))) (by decide) (ht := (by decide : _ = some .long)) (ht' := (by decide : _ = some .int))))
      have Fbuckets'h4 : Fld Z h4 t "com/example/vireo/vireo/index/BlockTable" "buckets" "[Lcom/example/vireo/vireo/index/BlockTable$Bucket;" .null := Fld.other Wh4 Fbuckets'h3 (Or.inr (slot_ne (Or.inr (hw _ (List.mem_of_getElem? (i := 35) rfl))) (Or.inr (hw _ (List.mem_of_getElem? (i := 25) rfl))) (by decide) (ht := (by decide : _ = some (.array (.object "com/example/vireo/vireo/index/BlockTable$Bucket")))) (ht' := (by decide : _ = some .int))))
      have Ag'h4 : OwA Z h4 g .long [] := OwA.other Ag'h3 Wh4 (Ne.symm netg)
      have hsh4 : n0 ≤ h4.size := by rw [Wr.size Wh4]; exact hsh3
      have Kh4 : Keep h h4 [t] := Keep.wr Kh3 Wh4 (Or.inl (List.mem_of_getElem? (i := 0) rfl))
      refine X.aloadN (q := 111) own_d_prog_8_method_1_110 rfl rfl rfl ?_
      refine X.iloadN (q := 112) own_d_prog_8_method_1_111 rfl rfl ?_
      refine X.iloadN (q := 113) own_d_prog_8_method_1_112 rfl rfl ?_
      refine X.iadd (q := 114) own_d_prog_8_method_1_113 rfl ?_
      refine X.aloadN (q := 115) own_d_prog_8_method_1_114 rfl rfl rfl ?_
      refine X.getF (q := 118) (host := "") (Or.inl (hw _ (List.mem_of_getElem? (i := 24) rfl))) Via.refl FkeyBits'h4 own_d_prog_8_method_1_115 rfl ?_
      refine X.isub (q := 119) own_d_prog_8_method_1_118 rfl ?_
      refine X.foldI (v := ks) (hks.symm) ?_
      refine X.putF (q := 122) (host := "") (Or.inl (hw _ (List.mem_of_getElem? (i := 26) rfl))) Via.refl FkeyShift'h4 B'h4 (Or.inr ⟨(hw _ (List.mem_of_getElem? (i := 27) rfl)), rfl, rfl⟩) (hw _ (List.mem_of_getElem? (i := 4) rfl)) (ty := .int) (by decide) rfl rfl get own_d_prog_8_method_1_119 rfl (fun h5 Wh5 => ?_)
      have B'h5 : Exa Z h5 t "com/example/vireo/vireo/index/BlockTable" := Exa.wr Wh5 B'h4
      have FblockMask'h5 : Fld Z h5 t "com/example/vireo/vireo/index/BlockTable" "blockMask" "J" (.long bm) := Fld.other Wh5 FblockMask'h4 (Or.inr (slot_ne (Or.inr (hw _ (List.mem_of_getElem? (i := 14) rfl))) (Or.inr (hw _ (List.mem_of_getElem? (i := 27) rfl))) (by decide) (ht := (by decide : _ = some .long)) (ht' := (by decide : _ = some .int))))
      have FearlierTops'h5 : Fld Z h5 t "com/example/vireo/vireo/index/BlockTable" "earlierTops" "J" (.long (0 : Int64)) := Fld.other Wh5 FearlierTops'h4 (Or.inr (slot_ne (Or.inr (hw _ (List.mem_of_getElem? (i := 16) rfl))) (Or.inr (hw _ (List.mem_of_getElem? (i := 27) rfl))) (by decide) (ht := (by decide : _ = some .long)) (ht' := (by decide : _ = some .int))))
      have FearlierRests'h5 : Fld Z h5 t "com/example/vireo/vireo/index/BlockTable" "earlierRests" "J" (.long (0 : Int64)) := Fld.other Wh5 FearlierRests'h4 (Or.inr (slot_ne (Or.inr (hw _ (List.mem_of_getElem? (i := 19) rfl))) (Or.inr (hw _ (List.mem_of_getElem? (i := 27) rfl))) (by decide) (ht := (by decide : _ = some .long)) (ht' := (by decide : _ = some .int))))
      have FkeyBits'h5 : Fld Z h5 t "com/example/vireo/vireo/index/BlockTable" "keyBits" "I" (.int kb) := Fld.other Wh5 FkeyBits'h4 (Or.inr (slot_ne (Or.inr (hw _ (List.mem_of_getElem? (i := 25) rfl))) (Or.inr (hw _ (List.mem_of_getElem? (i := 27) rfl))) (by decide) (ht := (by decide : _ = some .int)) (ht' := (by decide : _ = some .int))))
      have FkeyShift'h5 : Fld Z h5 t "com/example/vireo/vireo/index/BlockTable" "keyShift" "I" (.int ks) := Fld.same Wh5 FkeyShift'h4
      have FlowMask'h5 : Fld Z h5 t "com/example/vireo/vireo/index/BlockTable" "lowMask" "I" (.int (0 : Int32)) := Fld.other Wh5 FlowMask'h4 (Or.inr (slot_ne (Or.inr (hw _ (List.mem_of_getElem? (i := 29) rfl))) (Or.inr (hw _ (List.mem_of_getElem? (i := 27) rfl))) (by decide) (ht := (by decide : _ = some .int)) (ht' := (by decide : _ = some .int))))
      have FkeyMask'h5 : Fld Z h5 t "com/example/vireo/vireo/index/BlockTable" "keyMask" "J" (.long (0 : Int64)) := Fld.other Wh5 FkeyMask'h4 (Or.inr (slot_ne (Or.inr (hw _ (List.mem_of_getElem? (i := 31) rfl))) (Or.inr (hw _ (List.mem_of_getElem? (i := 27) rfl))) (by decide) (ht := (by decide : _ = some .long)) (ht' := (by decide : _ = some .int))))
      have Fbuckets'h5 : Fld Z h5 t "com/example/vireo/vireo/index/BlockTable" "buckets" "[Lcom/example/vireo/vireo/index/BlockTable$Bucket;" .null := Fld.other Wh5 Fbuckets'h4 (Or.inr (slot_ne (Or.inr (hw _ (List.mem_of_getElem? (i := 35) rfl))) (Or.inr (hw _ (List.mem_of_getElem? (i := 27) rfl))) (by decide) (ht := (by decide : _ = some (.array (.object "com/example/vireo/vireo/index/BlockTable$Bucket")))) (ht' := (by decide : _ = some .int))))
      have Ag'h5 : OwA Z h5 g .long [] := OwA.other Ag'h4 Wh5 (Ne.symm netg)
      have hsh5 : n0 ≤ h5.size := by rw [Wr.size Wh5]; exact hsh4
      have Kh5 : Keep h h5 [t] := Keep.wr Kh4 Wh5 (Or.inl (List.mem_of_getElem? (i := 0) rfl))
      refine X.aloadN (q := 123) own_d_prog_8_method_1_122 rfl rfl rfl ?_
      refine X.iconst (q := 124) (1 : Int32) own_d_prog_8_method_1_123 (by decide) rfl ?_
      refine X.aloadN (q := 125) own_d_prog_8_method_1_124 rfl rfl rfl ?_
      refine X.getF (q := 128) (host := "") (Or.inl (hw _ (List.mem_of_getElem? (i := 24) rfl))) Via.refl FkeyBits'h5 own_d_prog_8_method_1_125 rfl ?_
      refine X.ishl (q := 129) own_d_prog_8_method_1_128 rfl ?_
      refine X.iconst (q := 130) (1 : Int32) own_d_prog_8_method_1_129 (by decide) rfl ?_
      refine X.isub (q := 131) own_d_prog_8_method_1_130 rfl ?_
      refine X.foldI (v := lm) (hlm.symm) ?_
      refine X.putF (q := 134) (host := "") (Or.inl (hw _ (List.mem_of_getElem? (i := 28) rfl))) Via.refl FlowMask'h5 B'h5 (Or.inr ⟨(hw _ (List.mem_of_getElem? (i := 29) rfl)), rfl, rfl⟩) (hw _ (List.mem_of_getElem? (i := 4) rfl)) (ty := .int) (by decide) rfl rfl get own_d_prog_8_method_1_131 rfl (fun h6 Wh6 => ?_)
      have B'h6 : Exa Z h6 t "com/example/vireo/vireo/index/BlockTable" := Exa.wr Wh6 B'h5
      have FblockMask'h6 : Fld Z h6 t "com/example/vireo/vireo/index/BlockTable" "blockMask" "J" (.long bm) := Fld.other Wh6 FblockMask'h5 (Or.inr (slot_ne (Or.inr (hw _ (List.mem_of_getElem? (i := 14) rfl))) (Or.inr (hw _ (List.mem_of_getElem? (i := 29) rfl))) (by decide) (ht := (by decide : _ = some .long)) (ht' := (by decide : _ = some .int))))
      have FearlierTops'h6 : Fld Z h6 t "com/example/vireo/vireo/index/BlockTable" "earlierTops" "J" (.long (0 : Int64)) := Fld.other Wh6 FearlierTops'h5 (Or.inr (slot_ne (Or.inr (hw _ (List.mem_of_getElem? (i := 16) rfl))) (Or.inr (hw _ (List.mem_of_getElem? (i := 29) rfl))) (by decide) (ht := (by decide : _ = some .long)) (ht' := (by decide : _ = some .int))))
      have FearlierRests'h6 : Fld Z h6 t "com/example/vireo/vireo/index/BlockTable" "earlierRests" "J" (.long (0 : Int64)) := Fld.other Wh6 FearlierRests'h5 (Or.inr (slot_ne (Or.inr (hw _ (List.mem_of_getElem? (i := 19) rfl))) (Or.inr (hw _ (List.mem_of_getElem? (i := 29) rfl))) (by decide) (ht := (by decide : _ = some .long)) (ht' := (by decide : _ = some .int))))
      have FkeyBits'h6 : Fld Z h6 t "com/example/vireo/vireo/index/BlockTable" "keyBits" "I" (.int kb) := Fld.other Wh6 FkeyBits'h5 (Or.inr (slot_ne (Or.inr (hw _ (List.mem_of_getElem? (i := 25) rfl))) (Or.inr (hw _ (List.mem_of_getElem? (i := 29) rfl))) (by decide) (ht := (by decide : _ = some .int)) (ht' := (by decide : _ = some .int))))
      have FkeyShift'h6 : Fld Z h6 t "com/example/vireo/vireo/index/BlockTable" "keyShift" "I" (.int ks) := Fld.other Wh6 FkeyShift'h5 (Or.inr (slot_ne (Or.inr (hw _ (List.mem_of_getElem? (i := 27) rfl))) (Or.inr (hw _ (List.mem_of_getElem? (i := 29) rfl))) (by decide) (ht := (by decide : _ = some .int)) (ht' := (by decide : _ = some .int))))
      have FlowMask'h6 : Fld Z h6 t "com/example/vireo/vireo/index/BlockTable" "lowMask" "I" (.int lm) := Fld.same Wh6 FlowMask'h5
      have FkeyMask'h6 : Fld Z h6 t "com/example/vireo/vireo/index/BlockTable" "keyMask" "J" (.long (0 : Int64)) := Fld.other Wh6 FkeyMask'h5 (Or.inr (slot_ne (Or.inr (hw _ (List.mem_of_getElem? (i := 31) rfl))) (Or.inr (hw _ (List.mem_of_getElem? (i := 29) rfl))) (by decide) (ht := (by decide : _ = some .long)) (ht' := (by decide : _ = some .int))))
      have Fbuckets'h6 : Fld Z h6 t "com/example/vireo/vireo/index/BlockTable" "buckets" "[Lcom/example/vireo/vireo/index/BlockTable$Bucket;" .null := Fld.other Wh6 Fbuckets'h5 (Or.inr (slot_ne (Or.inr (hw _ (List.mem_of_getElem? (i := 35) rfl))) (Or.inr (hw _ (List.mem_of_getElem? (i := 29) rfl))) (by decide) (ht := (by decide : _ = some (.array (.object "com/example/vireo/vireo/index/BlockTable$Bucket")))) (ht' := (by decide : _ = some .int))))
      have Ag'h6 : OwA Z h6 g .long [] := OwA.other Ag'h5 Wh6 (Ne.symm netg)
      have hsh6 : n0 ≤ h6.size := by rw [Wr.size Wh6]; exact hsh5
      have Kh6 : Keep h h6 [t] := Keep.wr Kh5 Wh6 (Or.inl (List.mem_of_getElem? (i := 0) rfl))
      refine X.aloadN (q := 135) own_d_prog_8_method_1_134 rfl rfl rfl ?_
      refine X.aloadN (q := 136) own_d_prog_8_method_1_135 rfl rfl rfl ?_
      refine X.getF (q := 139) (host := "") (Or.inl (hw _ (List.mem_of_getElem? (i := 28) rfl))) Via.refl FlowMask'h6 own_d_prog_8_method_1_136 rfl ?_
      refine X.i2l (q := 140) own_d_prog_8_method_1_139 rfl ?_
      refine X.aloadN (q := 141) own_d_prog_8_method_1_140 rfl rfl rfl ?_
      refine X.getF (q := 144) (host := "") (Or.inl (hw _ (List.mem_of_getElem? (i := 26) rfl))) Via.refl FkeyShift'h6 own_d_prog_8_method_1_141 rfl ?_
      refine X.lshl (q := 145) own_d_prog_8_method_1_144 rfl ?_
      refine X.foldJ (v := km) (hkm.symm) ?_
      refine X.putF (q := 148) (host := "") (Or.inl (hw _ (List.mem_of_getElem? (i := 30) rfl))) Via.refl FkeyMask'h6 B'h6 (Or.inr ⟨(hw _ (List.mem_of_getElem? (i := 31) rfl)), rfl, rfl⟩) (hw _ (List.mem_of_getElem? (i := 4) rfl)) (ty := .long) (by decide) rfl rfl get own_d_prog_8_method_1_145 rfl (fun h7 Wh7 => ?_)
      have B'h7 : Exa Z h7 t "com/example/vireo/vireo/index/BlockTable" := Exa.wr Wh7 B'h6
      have FblockMask'h7 : Fld Z h7 t "com/example/vireo/vireo/index/BlockTable" "blockMask" "J" (.long bm) := Fld.other Wh7 FblockMask'h6 (Or.inr (slot_ne (Or.inr (hw _ (List.mem_of_getElem? (i := 14) rfl))) (Or.inr (hw _ (List.mem_of_getElem? (i := 31) rfl))) (by decide) (ht := (by decide : _ = some .long)) (ht' := (by decide : _ = some .long))))
      have FearlierTops'h7 : Fld Z h7 t "com/example/vireo/vireo/index/BlockTable" "earlierTops" "J" (.long (0 : Int64)) := Fld.other Wh7 FearlierTops'h6 (Or.inr (slot_ne (Or.inr (hw _ (List.mem_of_getElem? (i := 16) rfl))) (Or.inr (hw _ (List.mem_of_getElem? (i := 31) rfl))) (by decide) (ht := (by decide : _ = some .long)) (ht' := (by decide : _ = some .long))))
      have FearlierRests'h7 : Fld Z h7 t "com/example/vireo/vireo/index/BlockTable" "earlierRests" "J" (.long (0 : Int64)) := Fld.other Wh7 FearlierRests'h6 (Or.inr (slot_ne (Or.inr (hw _ (List.mem_of_getElem? (i := 19) rfl))) (Or.inr (hw _ (List.mem_of_getElem? (i := 31) rfl))) (by decide) (ht := (by decide : _ = some .long)) (ht' := (by decide : _ = some .long))))
      have FkeyBits'h7 : Fld Z h7 t "com/example/vireo/vireo/index/BlockTable" "keyBits" "I" (.int kb) := Fld.other Wh7 FkeyBits'h6 (Or.inr (slot_ne (Or.inr (hw _ (List.mem_of_getElem? (i := 25) rfl))) (Or.inr (hw _ (List.mem_of_getElem? (i := 31) rfl))) (by decide) (ht := (by decide : _ = some .int)) (ht' := (by decide : _ = some .long))))
      have FkeyShift'h7 : Fld Z h7 t "com/example/vireo/vireo/index/BlockTable" "keyShift" "I" (.int ks) := Fld.other Wh7 FkeyShift'h6 (Or.inr (slot_ne (Or.inr (hw _ (List.mem_of_getElem? (i := 27) rfl))) (Or.inr (hw _ (List.mem_of_getElem? (i := 31) rfl))) (by decide) (ht := (by decide : _ = some .int)) (ht' := (by decide : _ = some .long))))
      have FlowMask'h7 : Fld Z h7 t "com/example/vireo/vireo/index/BlockTable" "lowMask" "I" (.int lm) := Fld.other Wh7 FlowMask'h6 (Or.inr (slot_ne (Or.inr (hw _ (List.mem_of_getElem? (i := 29) rfl))) (Or.inr (hw _ (List.mem_of_getElem? (i := 31) rfl))) (by decide) (ht := (by decide : _ = some .int)) (ht' := (by decide : _ = some .long))))
      have FkeyMask'h7 : Fld Z h7 t "com/example/vireo/vireo/index/BlockTable" "keyMask" "J" (.long km) := Fld.same Wh7 FkeyMask'h6
      have Fbuckets'h7 : Fld Z h7 t "com/example/vireo/vireo/index/BlockTable" "buckets" "[Lcom/example/vireo/vireo/index/BlockTable$Bucket;" .null := Fld.other Wh7 Fbuckets'h6 (Or.inr (slot_ne (Or.inr (hw _ (List.mem_of_getElem? (i := 35) rfl))) (Or.inr (hw _ (List.mem_of_getElem? (i := 31) rfl))) (by decide) (ht := (by decide : _ = some (.array (.object "com/example/vireo/vireo/index/BlockTable$Bucket")))) (ht' := (by decide : _ = some .long))))
      have Ag'h7 : OwA Z h7 g .long [] := OwA.other Ag'h6 Wh7 (Ne.symm netg)
      have hsh7 : n0 ≤ h7.size := by rw [Wr.size Wh7]; exact hsh6
      have Kh7 : Keep h h7 [t] := Keep.wr Kh6 Wh7 (Or.inl (List.mem_of_getElem? (i := 0) rfl))
      refine X.aloadN (q := 149) own_d_prog_8_method_1_148 rfl rfl rfl ?_
      refine X.iconst (q := 150) (1 : Int32) own_d_prog_8_method_1_149 (by decide) rfl ?_
      refine X.aloadN (q := 151) own_d_prog_8_method_1_150 rfl rfl rfl ?_
      refine X.getF (q := 154) (host := "") (Or.inl (hw _ (List.mem_of_getElem? (i := 24) rfl))) Via.refl FkeyBits'h7 own_d_prog_8_method_1_151 rfl ?_
      refine X.ishl (q := 155) own_d_prog_8_method_1_154 rfl ?_
      refine X.newR (q := 158) (N := (2 ^ k)) (cap := 65536) (k' := 1) (n' := 65536) (hw _ (List.mem_of_getElem? (i := 32) rfl)) (hw _ (List.mem_of_getElem? (i := 33) rfl)) own_d_prog_8_method_1_155 (own_pow1 hk hk2) (Nat.le_trans (Nat.pow_le_pow_right (by decide) hk2) (by decide)) (by decide) rfl rfl (by decide) (by decide) rfl (fun h8 a9 ga9 Eh8 Aa9 Va9 => ?_)
      have lt_a9 : t < a9 := by have := B'h7.lt; rw [← ga9] at this; exact this
      have lg_a9 : g < a9 := by have := Ag'h7.lt; rw [← ga9] at this; exact this
      have B'h8 : Exa Z h8 t "com/example/vireo/vireo/index/BlockTable" := Exa.ext Eh8 B'h7
      have FblockMask'h8 : Fld Z h8 t "com/example/vireo/vireo/index/BlockTable" "blockMask" "J" (.long bm) := Fld.ext Eh8 FblockMask'h7
      have FearlierTops'h8 : Fld Z h8 t "com/example/vireo/vireo/index/BlockTable" "earlierTops" "J" (.long (0 : Int64)) := Fld.ext Eh8 FearlierTops'h7
      have FearlierRests'h8 : Fld Z h8 t "com/example/vireo/vireo/index/BlockTable" "earlierRests" "J" (.long (0 : Int64)) := Fld.ext Eh8 FearlierRests'h7
      have FkeyBits'h8 : Fld Z h8 t "com/example/vireo/vireo/index/BlockTable" "keyBits" "I" (.int kb) := Fld.ext Eh8 FkeyBits'h7
      have FkeyShift'h8 : Fld Z h8 t "com/example/vireo/vireo/index/BlockTable" "keyShift" "I" (.int ks) := Fld.ext Eh8 FkeyShift'h7
      have FlowMask'h8 : Fld Z h8 t "com/example/vireo/vireo/index/BlockTable" "lowMask" "I" (.int lm) := Fld.ext Eh8 FlowMask'h7
      have FkeyMask'h8 : Fld Z h8 t "com/example/vireo/vireo/index/BlockTable" "keyMask" "J" (.long km) := Fld.ext Eh8 FkeyMask'h7
      have Fbuckets'h8 : Fld Z h8 t "com/example/vireo/vireo/index/BlockTable" "buckets" "[Lcom/example/vireo/vireo/index/BlockTable$Bucket;" .null := Fld.ext Eh8 Fbuckets'h7
      have Ag'h8 : OwA Z h8 g .long [] := OwA.ext (E := Eh8) Ag'h7
      have gea9 : n0 ≤ a9 := by rw [ga9]; exact hsh7
      have hsh8 : n0 ≤ h8.size := Nat.le_trans hsh7 Eh8.1
      have fra9 : h.size ≤ a9 := by rw [ga9]; exact Kh7.1
      have Kh8 : Keep h h8 [t] := Keep.ext Kh7 Eh8
      refine X.putF (q := 161) (host := "") (Or.inl (hw _ (List.mem_of_getElem? (i := 34) rfl))) Via.refl Fbuckets'h8 B'h8 (Or.inr ⟨(hw _ (List.mem_of_getElem? (i := 35) rfl)), rfl, rfl⟩) (hw _ (List.mem_of_getElem? (i := 4) rfl)) (ty := (.array (.object "com/example/vireo/vireo/index/BlockTable$Bucket"))) (by decide) rfl rfl get own_d_prog_8_method_1_158 rfl (fun h10 Wh10 => ?_)
      have B'h10 : Exa Z h10 t "com/example/vireo/vireo/index/BlockTable" := Exa.wr Wh10 B'h8
      have FblockMask'h10 : Fld Z h10 t "com/example/vireo/vireo/index/BlockTable" "blockMask" "J" (.long bm) := Fld.other Wh10 FblockMask'h8 (Or.inr (slot_ne (Or.inr (hw _ (List.mem_of_getElem? (i := 14) rfl))) (Or.inr (hw _ (List.mem_of_getElem? (i := 35) rfl))) (by decide) (ht := (by decide : _ = some .long)) (ht' := (by decide : _ = some (.array (.object "com/example/vireo/vireo/index/BlockTable$Bucket"))))))
      have FearlierTops'h10 : Fld Z h10 t "com/example/vireo/vireo/index/BlockTable" "earlierTops" "J" (.long (0 : Int64)) := Fld.other Wh10 FearlierTops'h8 (Or.inr (slot_ne (Or.inr (hw _ (List.mem_of_getElem? (i := 16) rfl))) (Or.inr (hw _ (List.mem_of_getElem? (i := 35) rfl))) (by decide) (ht := (by decide : _ = some .long)) (ht' := (by decide : _ = some (.array (.object "com/example/vireo/vireo/index/BlockTable$Bucket"))))))
      have FearlierRests'h10 : Fld Z h10 t "com/example/vireo/vireo/index/BlockTable" "earlierRests" "J" (.long (0 : Int64)) := Fld.other Wh10 FearlierRests'h8 (Or.inr (slot_ne (Or.inr (hw _ (List.mem_of_getElem? (i := 19) rfl))) (Or.inr (hw _ (List.mem_of_getElem? (i := 35) rfl))) (by decide) (ht := (by decide : _ = some .long)) (ht' := (by decide : _ = some (.array (.object "com/example/vireo/vireo/index/BlockTable$Bucket"))))))
      have FkeyBits'h10 : Fld Z h10 t "com/example/vireo/vireo/index/BlockTable" "keyBits" "I" (.int kb) := Fld.other Wh10 FkeyBits'h8 (Or.inr (slot_ne (Or.inr (hw _ (List.mem_of_getElem? (i := 25) rfl))) (Or.inr (hw _ (List.mem_of_getElem? (i := 35) rfl))) (by decide) (ht := (by decide : _ = some .int)) (ht' := (by decide : _ = some (.array (.object "com/example/vireo/vireo/index/BlockTable$Bucket"))))))
      have FkeyShift'h10 : Fld Z h10 t "com/example/vireo/vireo/index/BlockTable" "keyShift" "I" (.int ks) := Fld.other Wh10 FkeyShift'h8 (Or.inr (slot_ne (Or.inr (hw _ (List.mem_of_getElem? (i := 27) rfl))) (Or.inr (hw _ (List.mem_of_getElem? (i := 35) rfl))) (by decide) (ht := (by decide : _ = some .int)) (ht' := (by decide : _ = some (.array (.object "com/example/vireo/vireo/index/BlockTable$Bucket"))))))
      have FlowMask'h10 : Fld Z h10 t "com/example/vireo/vireo/index/BlockTable" "lowMask" "I" (.int lm) := Fld.other Wh10 FlowMask'h8 (Or.inr (slot_ne (Or.inr (hw _ (List.mem_of_getElem? (i := 29) rfl))) (Or.inr (hw _ (List.mem_of_getElem? (i := 35) rfl))) (by decide) (ht := (by decide : _ = some .int)) (ht' := (by decide : _ = some (.array (.object "com/example/vireo/vireo/index/BlockTable$Bucket"))))))
      have FkeyMask'h10 : Fld Z h10 t "com/example/vireo/vireo/index/BlockTable" "keyMask" "J" (.long km) := Fld.other Wh10 FkeyMask'h8 (Or.inr (slot_ne (Or.inr (hw _ (List.mem_of_getElem? (i := 31) rfl))) (Or.inr (hw _ (List.mem_of_getElem? (i := 35) rfl))) (by decide) (ht := (by decide : _ = some .long)) (ht' := (by decide : _ = some (.array (.object "com/example/vireo/vireo/index/BlockTable$Bucket"))))))
      have Fbuckets'h10 : Fld Z h10 t "com/example/vireo/vireo/index/BlockTable" "buckets" "[Lcom/example/vireo/vireo/index/BlockTable$Bucket;" (.ref a9) := Fld.same Wh10 Fbuckets'h8
      have Ag'h10 : OwA Z h10 g .long [] := OwA.other Ag'h8 Wh10 (Ne.symm netg)
      have Aa9'h10 : OwA Z h10 a9 (.object "com/example/vireo/vireo/index/BlockTable$Bucket") (List.replicate (2 ^ k) .null) := OwA.other Aa9 Wh10 (Nat.ne_of_gt lt_a9)
      have Va9'h10 : OwV Z h10 a9 "com/example/vireo/vireo/index/BlockTable$Bucket" := OwV.wr Va9 Wh10
      have hsh10 : n0 ≤ h10.size := by rw [Wr.size Wh10]; exact hsh8
      have Kh10 : Keep h h10 [t] := Keep.wr Kh8 Wh10 (Or.inl (List.mem_of_getElem? (i := 0) rfl))
      refine X.retV own_d_prog_8_method_1_161 rfl (by decide) (by decide) ?_
      exact ⟨rfl, a9, Kh10, fra9, FblockMask'h10, FearlierTops'h10, FearlierRests'h10, FkeyBits'h10, FkeyShift'h10, FlowMask'h10, FkeyMask'h10, Fbuckets'h10, Aa9'h10, Va9'h10⟩
    · omega
  refine X.icmp_ne (b := 64) (q' := 17) (q := 11) own_d_prog_8_method_1_8 rfl rfl (by decide) rfl (fun c8 => ?_) (fun c8 => ?_)
  · refine X.lconst (q := 18) (1 : Int64) own_d_prog_8_method_1_17 (by decide) rfl ?_
    refine X.iloadN (q := 19) own_d_prog_8_method_1_18 rfl rfl ?_
    refine X.lshl (q := 20) own_d_prog_8_method_1_19 rfl ?_
    refine X.lconst (q := 21) (1 : Int64) own_d_prog_8_method_1_20 (by decide) rfl ?_
    refine X.lsub (q := 22) own_d_prog_8_method_1_21 rfl ?_
    refine X.foldJ (v := (own_b0 w)) (by unfold own_b0; first | rw [if_pos c8] | rw [if_neg c8]) ?_
    exact J22
  · refine X.ldc2_w (q := 14) (v := (-1 : Int64)) (hw _ (List.mem_of_getElem? (i := 17) rfl)) own_d_prog_8_method_1_11 rfl ?_
    refine X.goto (q' := 22) own_d_prog_8_method_1_14 (by decide) ?_
    refine X.foldJ (v := (own_b0 w)) (by unfold own_b0; first | rw [if_pos c8] | rw [if_neg c8]) ?_
    exact J22
theorem own_d_prog_9_method_1_0 : decode prog_9_method_1_code 0 = .ok (.aload_n 0, 1) := by decide +kernel
theorem own_d_prog_9_method_1_1 : decode prog_9_method_1_code 1 = .ok (.invokespecial 3, 3) := by decide +kernel
theorem own_d_prog_9_method_1_4 : decode prog_9_method_1_code 4 = .ok (.aload_n 0, 1) := by decide +kernel
theorem own_d_prog_9_method_1_5 : decode prog_9_method_1_code 5 = .ok (.iconst 4, 1) := by decide +kernel
theorem own_d_prog_9_method_1_6 : decode prog_9_method_1_code 6 = .ok (.newarray .long, 2) := by decide +kernel
theorem own_d_prog_9_method_1_8 : decode prog_9_method_1_code 8 = .ok (.putfield 9, 3) := by decide +kernel
theorem own_d_prog_9_method_1_11 : decode prog_9_method_1_code 11 = .ok (.aload_n 0, 1) := by decide +kernel
theorem own_d_prog_9_method_1_12 : decode prog_9_method_1_code 12 = .ok (.iconst 1, 1) := by decide +kernel
theorem own_d_prog_9_method_1_13 : decode prog_9_method_1_code 13 = .ok (.newarray .long, 2) := by decide +kernel
theorem own_d_prog_9_method_1_15 : decode prog_9_method_1_code 15 = .ok (.putfield 15, 3) := by decide +kernel
theorem own_d_prog_9_method_1_18 : decode prog_9_method_1_code 18 = .ok (.return_, 1) := by decide +kernel
def own_rm_own_binit : Room := ({ frames := 1, cells := 2, slots := 5, locals := 12 } : Room)
set_option maxRecDepth 65536 in
set_option maxHeartbeats 40000000 in
theorem own_binit (l : Launch) (Z : State) (a0 : Array Value) (hw : ∀ d ∈ tables_1, d.before a0 Z = true) (h : Heap) (n0 : Nat) (c : Addr)  (hn0 : n0 ≤ h.size) (B : Exa Z h c "com/example/vireo/vireo/index/BlockTable$Bucket") (Fe : Fld Z h c "com/example/vireo/vireo/index/BlockTable$Bucket" "entries" "[J" .null) (Fh : Fld Z h c "com/example/vireo/vireo/index/BlockTable$Bucket" "highs" "[J" .null) (Fs : Fld Z h c "com/example/vireo/vireo/index/BlockTable$Bucket" "size" "I" (.int (0 : Int32))) (gec : n0 ≤ c) :
    OwM l Z (⟨"com/example/vireo/vireo/index/BlockTable$Bucket", "<init>", "()V"⟩ : MethodName) prog_9_method_1_code 1 none own_rm_own_binit 2 5 [] #[(.ref c)] h n0 (fun r h' => r = none ∧ ∃ e b, Keep h h' [c] ∧ (h.size ≤ e ∧ h.size ≤ b ∧ e < b) ∧ Fld Z h' c "com/example/vireo/vireo/index/BlockTable$Bucket" "entries" "[J" (.ref e) ∧ Fld Z h' c "com/example/vireo/vireo/index/BlockTable$Bucket" "highs" "[J" (.ref b) ∧ Fld Z h' c "com/example/vireo/vireo/index/BlockTable$Bucket" "size" "I" (.int (0 : Int32)) ∧ OwA Z h' e .long [(.long (0 : Int64)), (.long (0 : Int64)), (.long (0 : Int64)), (.long (0 : Int64))] ∧ OwA Z h' b .long (own_H 1 (fun _ => 0))) := by
  refine OwM.of (Ls := #[.val (.ref c)]) (by decide +kernel) (fun m => by first | (simp [entryFrame, mkF, argsToLocals, Value.category]; done) | rfl) ?_
  intro _ _ _ _ _ _ _ X
  have K0 : Keep h h [c] := Keep.refl _ _
  refine X.aloadN (q := 1) own_d_prog_9_method_1_0 rfl rfl rfl ?_
  refine X.initO (q := 4) (W := 0) (hw _ (List.mem_of_getElem? (i := 50) rfl)) (hw _ (List.mem_of_getElem? (i := 11) rfl)) (hw _ (List.mem_of_getElem? (i := 12) rfl)) own_d_prog_9_method_1_1 rfl (by decide) (Nat.le_of_eq rfl) (by decide) rfl ?_
  refine X.aloadN (q := 5) own_d_prog_9_method_1_4 rfl rfl rfl ?_
  refine X.iconst (q := 6) (4 : Int32) own_d_prog_9_method_1_5 (by decide) rfl ?_
  refine X.newP (q := 8) (ty := .long) (N := 4) (cap := 4) (k' := 1) (n' := 4) (hw _ (List.mem_of_getElem? (i := 6) rfl)) own_d_prog_9_method_1_6 rfl rfl (Nat.le_refl _) (by decide) rfl rfl (by decide) (by decide) rfl (fun h1 a2 ga2 Eh1 Aa2 => ?_)
  have lc_a2 : c < a2 := by have := B.lt; rw [← ga2] at this; exact this
  have B'h1 : Exa Z h1 c "com/example/vireo/vireo/index/BlockTable$Bucket" := Exa.ext Eh1 B
  have Fe'h1 : Fld Z h1 c "com/example/vireo/vireo/index/BlockTable$Bucket" "entries" "[J" .null := Fld.ext Eh1 Fe
  have Fh'h1 : Fld Z h1 c "com/example/vireo/vireo/index/BlockTable$Bucket" "highs" "[J" .null := Fld.ext Eh1 Fh
  have Fs'h1 : Fld Z h1 c "com/example/vireo/vireo/index/BlockTable$Bucket" "size" "I" (.int (0 : Int32)) := Fld.ext Eh1 Fs
  have gea2 : n0 ≤ a2 := by rw [ga2]; exact hn0
  have hsh1 : n0 ≤ h1.size := Nat.le_trans hn0 Eh1.1
  have fra2 : h.size ≤ a2 := by rw [ga2]; exact K0.1
  have Kh1 : Keep h h1 [c] := Keep.ext K0 Eh1
  have Aa2 : OwA Z h1 a2 .long [(.long (0 : Int64)), (.long (0 : Int64)), (.long (0 : Int64)), (.long (0 : Int64))] := Aa2
  refine X.putF (q := 11) (host := "") (Or.inl (hw _ (List.mem_of_getElem? (i := 51) rfl))) Via.refl Fe'h1 B'h1 (Or.inl (hw _ (List.mem_of_getElem? (i := 52) rfl))) (hw _ (List.mem_of_getElem? (i := 45) rfl)) (ty := (.array .long)) (by decide) rfl rfl gec own_d_prog_9_method_1_8 rfl (fun h3 Wh3 => ?_)
  have B'h3 : Exa Z h3 c "com/example/vireo/vireo/index/BlockTable$Bucket" := Exa.wr Wh3 B'h1
  have Fe'h3 : Fld Z h3 c "com/example/vireo/vireo/index/BlockTable$Bucket" "entries" "[J" (.ref a2) := Fld.same Wh3 Fe'h1
  have Fh'h3 : Fld Z h3 c "com/example/vireo/vireo/index/BlockTable$Bucket" "highs" "[J" .null := Fld.other Wh3 Fh'h1 (Or.inr (slot_ne (Or.inl (hw _ (List.mem_of_getElem? (i := 54) rfl))) (Or.inl (hw _ (List.mem_of_getElem? (i := 52) rfl))) (by decide) (ht := (by decide : _ = some (.array .long))) (ht' := (by decide : _ = some (.array .long)))))
  have Fs'h3 : Fld Z h3 c "com/example/vireo/vireo/index/BlockTable$Bucket" "size" "I" (.int (0 : Int32)) := Fld.other Wh3 Fs'h1 (Or.inr (slot_ne (Or.inl (hw _ (List.mem_of_getElem? (i := 62) rfl))) (Or.inl (hw _ (List.mem_of_getElem? (i := 52) rfl))) (by decide) (ht := (by decide : _ = some .int)) (ht' := (by decide : _ = some (.array .long)))))
  have Aa2'h3 : OwA Z h3 a2 .long [(.long (0 : Int64)), (.long (0 : Int64)), (.long (0 : Int64)), (.long (0 : Int64))] := OwA.other Aa2 Wh3 (Nat.ne_of_gt lc_a2)
  have hsh3 : n0 ≤ h3.size := by rw [Wr.size Wh3]; exact hsh1
  have Kh3 : Keep h h3 [c] := Keep.wr Kh1 Wh3 (Or.inl (List.mem_of_getElem? (i := 0) rfl))
  refine X.aloadN (q := 12) own_d_prog_9_method_1_11 rfl rfl rfl ?_
  refine X.iconst (q := 13) (1 : Int32) own_d_prog_9_method_1_12 (by decide) rfl ?_
  refine X.newP (q := 15) (ty := .long) (N := 1) (cap := 1) (k' := 2) (n' := 5) (hw _ (List.mem_of_getElem? (i := 6) rfl)) own_d_prog_9_method_1_13 rfl rfl (Nat.le_refl _) (by decide) rfl rfl (by decide) (by decide) rfl (fun h4 a5 ga5 Eh4 Aa5 => ?_)
  have lc_a5 : c < a5 := by have := B'h3.lt; rw [← ga5] at this; exact this
  have la2_a5 : a2 < a5 := by have := Aa2'h3.lt; rw [← ga5] at this; exact this
  have B'h4 : Exa Z h4 c "com/example/vireo/vireo/index/BlockTable$Bucket" := Exa.ext Eh4 B'h3
  have Fe'h4 : Fld Z h4 c "com/example/vireo/vireo/index/BlockTable$Bucket" "entries" "[J" (.ref a2) := Fld.ext Eh4 Fe'h3
  have Fh'h4 : Fld Z h4 c "com/example/vireo/vireo/index/BlockTable$Bucket" "highs" "[J" .null := Fld.ext Eh4 Fh'h3
  have Fs'h4 : Fld Z h4 c "com/example/vireo/vireo/index/BlockTable$Bucket" "size" "I" (.int (0 : Int32)) := Fld.ext Eh4 Fs'h3
  have Aa2'h4 : OwA Z h4 a2 .long [(.long (0 : Int64)), (.long (0 : Int64)), (.long (0 : Int64)), (.long (0 : Int64))] := OwA.ext (E := Eh4) Aa2'h3
  have gea5 : n0 ≤ a5 := by rw [ga5]; exact hsh3
  have hsh4 : n0 ≤ h4.size := Nat.le_trans hsh3 Eh4.1
  have fra5 : h.size ≤ a5 := by rw [ga5]; exact Kh3.1
  have Kh4 : Keep h h4 [c] := Keep.ext Kh3 Eh4
  have Aa5 : OwA Z h4 a5 .long [(.long (0 : Int64))] := Aa5
  refine X.putF (q := 18) (host := "") (Or.inl (hw _ (List.mem_of_getElem? (i := 53) rfl))) Via.refl Fh'h4 B'h4 (Or.inl (hw _ (List.mem_of_getElem? (i := 54) rfl))) (hw _ (List.mem_of_getElem? (i := 45) rfl)) (ty := (.array .long)) (by decide) rfl rfl gec own_d_prog_9_method_1_15 rfl (fun h6 Wh6 => ?_)
  have B'h6 : Exa Z h6 c "com/example/vireo/vireo/index/BlockTable$Bucket" := Exa.wr Wh6 B'h4
  have Fe'h6 : Fld Z h6 c "com/example/vireo/vireo/index/BlockTable$Bucket" "entries" "[J" (.ref a2) := Fld.other Wh6 Fe'h4 (Or.inr (slot_ne (Or.inl (hw _ (List.mem_of_getElem? (i := 52) rfl))) (Or.inl (hw _ (List.mem_of_getElem? (i := 54) rfl))) (by decide) (ht := (by decide : _ = some (.array .long))) (ht' := (by decide : _ = some (.array .long)))))
  have Fh'h6 : Fld Z h6 c "com/example/vireo/vireo/index/BlockTable$Bucket" "highs" "[J" (.ref a5) := Fld.same Wh6 Fh'h4
  have Fs'h6 : Fld Z h6 c "com/example/vireo/vireo/index/BlockTable$Bucket" "size" "I" (.int (0 : Int32)) := Fld.other Wh6 Fs'h4 (Or.inr (slot_ne (Or.inl (hw _ (List.mem_of_getElem? (i := 62) rfl))) (Or.inl (hw _ (List.mem_of_getElem? (i := 54) rfl))) (by decide) (ht := (by decide : _ = some .int)) (ht' := (by decide : _ = some (.array .long)))))
  have Aa2'h6 : OwA Z h6 a2 .long [(.long (0 : Int64)), (.long (0 : Int64)), (.long (0 : Int64)), (.long (0 : Int64))] := OwA.other Aa2'h4 Wh6 (Nat.ne_of_gt lc_a2)
  have Aa5'h6 : OwA Z h6 a5 .long [(.long (0 : Int64))] := OwA.other Aa5 Wh6 (Nat.ne_of_gt lc_a5)
  have hsh6 : n0 ≤ h6.size := by rw [Wr.size Wh6]; exact hsh4
  have Kh6 : Keep h h6 [c] := Keep.wr Kh4 Wh6 (Or.inl (List.mem_of_getElem? (i := 0) rfl))
  refine X.retV own_d_prog_9_method_1_18 rfl (by decide) (by decide) ?_
  exact ⟨rfl, a2, a5, Kh6, ⟨fra2, fra5, la2_a5⟩, Fe'h6, Fh'h6, Fs'h6, Aa2'h6, Aa5'h6⟩
theorem own_d_jdk_65_method_124_0 : decode jdk_65_method_124_code 0 = .ok (.iload_n 1, 1) := by decide +kernel
theorem own_d_jdk_65_method_124_1 : decode jdk_65_method_124_code 1 = .ok (.aload_n 0, 1) := by decide +kernel
theorem own_d_jdk_65_method_124_2 : decode jdk_65_method_124_code 2 = .ok (.arraylength, 1) := by decide +kernel
theorem own_d_jdk_65_method_124_3 : decode jdk_65_method_124_code 3 = .ok (.if_icmp .ne 11, 3) := by decide +kernel
theorem own_d_jdk_65_method_124_14 : decode jdk_65_method_124_code 14 = .ok (.iload_n 1, 1) := by decide +kernel
theorem own_d_jdk_65_method_124_15 : decode jdk_65_method_124_code 15 = .ok (.newarray .long, 2) := by decide +kernel
theorem own_d_jdk_65_method_124_17 : decode jdk_65_method_124_code 17 = .ok (.astore_n 2, 1) := by decide +kernel
theorem own_d_jdk_65_method_124_18 : decode jdk_65_method_124_code 18 = .ok (.aload_n 0, 1) := by decide +kernel
theorem own_d_jdk_65_method_124_19 : decode jdk_65_method_124_code 19 = .ok (.iconst 0, 1) := by decide +kernel
theorem own_d_jdk_65_method_124_20 : decode jdk_65_method_124_code 20 = .ok (.aload_n 2, 1) := by decide +kernel
theorem own_d_jdk_65_method_124_21 : decode jdk_65_method_124_code 21 = .ok (.iconst 0, 1) := by decide +kernel
theorem own_d_jdk_65_method_124_22 : decode jdk_65_method_124_code 22 = .ok (.aload_n 0, 1) := by decide +kernel
theorem own_d_jdk_65_method_124_23 : decode jdk_65_method_124_code 23 = .ok (.arraylength, 1) := by decide +kernel
theorem own_d_jdk_65_method_124_24 : decode jdk_65_method_124_code 24 = .ok (.iload_n 1, 1) := by decide +kernel
theorem own_d_jdk_65_method_124_25 : decode jdk_65_method_124_code 25 = .ok (.invokestatic 304, 3) := by decide +kernel
theorem own_d_jdk_65_method_124_28 : decode jdk_65_method_124_code 28 = .ok (.invokestatic 150, 3) := by decide +kernel
theorem own_d_jdk_65_method_124_31 : decode jdk_65_method_124_code 31 = .ok (.aload_n 2, 1) := by decide +kernel
theorem own_d_jdk_65_method_124_32 : decode jdk_65_method_124_code 32 = .ok (.areturn, 1) := by decide +kernel
def own_rm_own_cpy32768 : Room := ({ frames := 1, cells := 1, slots := 32768, locals := 40 } : Room)
set_option maxRecDepth 65536 in
set_option maxHeartbeats 40000000 in
theorem own_cpy32768 (l : Launch) (Z : State) (a0 : Array Value) (hw : ∀ d ∈ tables_1, d.before a0 Z = true) (h : Heap) (n0 : Nat) (b : Addr) (L N : Nat) (f : Nat → Int64) (n Li : Int32) (hLi : Li.toInt = (L : Int)) (hn : n.toInt = (N : Int)) (hLN : L < N) (hcap : N ≤ 32768) (hf : ∀ j, L ≤ j → f j = 0)  (hn0 : n0 ≤ h.size) (A1 : OwA Z h b .long (own_H L f)) :
    OwM l Z (⟨"java/util/Arrays", "copyOf", "([JI)[J"⟩ : MethodName) jdk_65_method_124_code 3 (some (.array .long)) own_rm_own_cpy32768 1 32768 [] #[(.ref b), (.int n)] h n0 (fun r h' => ∃ b', r = some (.ref b') ∧ Keep h h' [] ∧ h.size ≤ b' ∧ OwA Z h' b' .long (own_H N f)) := by
  refine OwM.of (Ls := #[.val (.ref b), .val (.int n), .unset]) (by decide +kernel) (fun m => by first | (simp [entryFrame, mkF, argsToLocals, Value.category]; done) | rfl) ?_
  intro _ _ _ _ _ _ _ X
  have K0 : Keep h h [] := Keep.refl _ _
  refine X.iloadN (q := 1) own_d_jdk_65_method_124_0 rfl rfl ?_
  refine X.aloadN (q := 2) own_d_jdk_65_method_124_1 rfl rfl rfl ?_
  refine X.alen (q := 3) (z := Li) A1 (by rw [own_Hlen]; exact hLi) own_d_jdk_65_method_124_2 rfl ?_
  refine X.icmp_ne (q' := 14) (q := 6) own_d_jdk_65_method_124_3 rfl rfl (by decide) rfl (fun c3 => ?_) (fun c3 => ?_)
  · refine X.iloadN (q := 15) own_d_jdk_65_method_124_14 rfl rfl ?_
    refine X.newP (q := 17) (ty := .long) (N := N) (cap := 32768) (k' := 1) (n' := 32768) (hw _ (List.mem_of_getElem? (i := 6) rfl)) own_d_jdk_65_method_124_15 rfl hn hcap (by decide) rfl rfl (by decide) (by decide) rfl (fun h1 a2 ga2 Eh1 Aa2 => ?_)
    have lb_a2 : b < a2 := by have := A1.lt; rw [← ga2] at this; exact this
    have A1'h1 : OwA Z h1 b .long (own_H L f) := OwA.ext (E := Eh1) A1
    have gea2 : n0 ≤ a2 := by rw [ga2]; exact hn0
    have hsh1 : n0 ≤ h1.size := Nat.le_trans hn0 Eh1.1
    have fra2 : h.size ≤ a2 := by rw [ga2]; exact K0.1
    have Kh1 : Keep h h1 [] := Keep.ext K0 Eh1
    refine X.astoreN (q := 18) (Ls' := #[.val (.ref b), .val (.int n), .val (.ref a2)]) own_d_jdk_65_method_124_17 rfl rfl rfl ?_
    refine X.aloadN (q := 19) own_d_jdk_65_method_124_18 rfl rfl rfl ?_
    refine X.iconst (q := 20) (0 : Int32) own_d_jdk_65_method_124_19 (by decide) rfl ?_
    refine X.aloadN (q := 21) own_d_jdk_65_method_124_20 rfl rfl rfl ?_
    refine X.iconst (q := 22) (0 : Int32) own_d_jdk_65_method_124_21 (by decide) rfl ?_
    refine X.aloadN (q := 23) own_d_jdk_65_method_124_22 rfl rfl rfl ?_
    refine X.alen (q := 24) (z := Li) A1'h1 (by rw [own_Hlen]; exact hLi) own_d_jdk_65_method_124_23 rfl ?_
    refine X.iloadN (q := 25) own_d_jdk_65_method_124_24 rfl rfl ?_
    refine X.callS (own_min l Z a0 hw h1 n0 Li n) (hw _ (List.mem_of_getElem? (i := 148) rfl)) (hw _ (List.mem_of_getElem? (i := 21) rfl)) (hw _ (List.mem_of_getElem? (i := 22) rfl)) (hw _ (List.mem_of_getElem? (i := 23) rfl)) (by decide) own_pd0 (argsL := [(.int Li), (.int n)]) (rest := [(.int (0 : Int32)), (.ref a2), (.int (0 : Int32)), (.ref b)]) rfl rfl rfl (W := 4) (Nat.le_of_eq rfl) rfl (by decide) (by decide) (k' := 1) (n' := 32768) rfl rfl (by decide) (by decide) own_d_jdk_65_method_124_25 (q := 28) rfl ?_
    rintro _ _ ⟨z, rfl, hz, rfl⟩
    show X.G h1 1 32768 28 #[.val (.ref b), .val (.int n), .val (.ref a2)] [(.int z), (.int (0 : Int32)), (.ref a2), (.int (0 : Int32)), (.ref b)]
    refine X.arraycopy (q := 31) (W := 0) (N := L) (hw _ (List.mem_of_getElem? (i := 149) rfl)) (hw _ (List.mem_of_getElem? (i := 152) rfl)) (hw _ (List.mem_of_getElem? (i := 150) rfl)) (hw _ (List.mem_of_getElem? (i := 151) rfl)) A1'h1 Aa2 (own_Hfit L f) (own_Rfit N) (by omega) (by rw [own_Hlen]; omega) (by rw [List.length_replicate]; omega) gea2 own_d_jdk_65_method_124_28 rfl (by decide) (Nat.le_of_eq rfl) (by decide +kernel) rfl (fun h3 Kh3c Gh3 => ?_)
    have A1'h3 : OwA Z h3 b .long (own_H L f) := OwA.keep A1'h1 Kh3c (ninS (Nat.ne_of_lt lb_a2) nin0)
    have hsh3 : n0 ≤ h3.size := Nat.le_trans hsh1 Kh3c.1
    have Kh3 : Keep h h3 [] := Keep.trans Kh1 Kh3c (allS (Or.inr fra2) all0)
    have g_ : OwA Z h3 a2 .long ((own_H L f).take L ++ (List.replicate N (Value.long 0)).drop L) := Gh3
    have GGh3 : OwA Z h3 a2 .long (own_H N f) := by rw [own_Hcpy (N := N) f (by omega) hf] at g_; exact g_
    show X.G h3 1 32768 31 #[.val (.ref b), .val (.int n), .val (.ref a2)] []
    refine X.aloadN (q := 32) own_d_jdk_65_method_124_31 rfl rfl rfl ?_
    refine X.retA (t := (.array .long)) own_d_jdk_65_method_124_32 rfl rfl rfl rfl (by decide) (by decide) ?_
    exact ⟨_, rfl, Kh3, fra2, GGh3⟩
  · omega
theorem own_d_prog_9_method_2_0 : decode prog_9_method_2_code 0 = .ok (.aload_n 0, 1) := by decide +kernel
theorem own_d_prog_9_method_2_1 : decode prog_9_method_2_code 1 = .ok (.getfield 18, 3) := by decide +kernel
theorem own_d_prog_9_method_2_4 : decode prog_9_method_2_code 4 = .ok (.aload_n 0, 1) := by decide +kernel
theorem own_d_prog_9_method_2_5 : decode prog_9_method_2_code 5 = .ok (.getfield 9, 3) := by decide +kernel
theorem own_d_prog_9_method_2_8 : decode prog_9_method_2_code 8 = .ok (.arraylength, 1) := by decide +kernel
theorem own_d_prog_9_method_2_9 : decode prog_9_method_2_code 9 = .ok (.if_icmp .ne 21, 3) := by decide +kernel
theorem own_d_prog_9_method_2_30 : decode prog_9_method_2_code 30 = .ok (.iload_n 1, 1) := by decide +kernel
theorem own_d_prog_9_method_2_31 : decode prog_9_method_2_code 31 = .ok (.aload_n 0, 1) := by decide +kernel
theorem own_d_prog_9_method_2_32 : decode prog_9_method_2_code 32 = .ok (.getfield 18, 3) := by decide +kernel
theorem own_d_prog_9_method_2_35 : decode prog_9_method_2_code 35 = .ok (.iadd, 1) := by decide +kernel
theorem own_d_prog_9_method_2_36 : decode prog_9_method_2_code 36 = .ok (.bipush 64, 2) := by decide +kernel
theorem own_d_prog_9_method_2_38 : decode prog_9_method_2_code 38 = .ok (.idiv, 1) := by decide +kernel
theorem own_d_prog_9_method_2_39 : decode prog_9_method_2_code 39 = .ok (.istore_n 2, 1) := by decide +kernel
theorem own_d_prog_9_method_2_40 : decode prog_9_method_2_code 40 = .ok (.iload_n 2, 1) := by decide +kernel
theorem own_d_prog_9_method_2_41 : decode prog_9_method_2_code 41 = .ok (.aload_n 0, 1) := by decide +kernel
theorem own_d_prog_9_method_2_42 : decode prog_9_method_2_code 42 = .ok (.getfield 15, 3) := by decide +kernel
theorem own_d_prog_9_method_2_45 : decode prog_9_method_2_code 45 = .ok (.arraylength, 1) := by decide +kernel
theorem own_d_prog_9_method_2_46 : decode prog_9_method_2_code 46 = .ok (.if_icmp .lt 28, 3) := by decide +kernel
theorem own_d_prog_9_method_2_74 : decode prog_9_method_2_code 74 = .ok (.return_, 1) := by decide +kernel
theorem own_d_prog_9_method_2_49 : decode prog_9_method_2_code 49 = .ok (.aload_n 0, 1) := by decide +kernel
theorem own_d_prog_9_method_2_50 : decode prog_9_method_2_code 50 = .ok (.aload_n 0, 1) := by decide +kernel
theorem own_d_prog_9_method_2_51 : decode prog_9_method_2_code 51 = .ok (.getfield 15, 3) := by decide +kernel
theorem own_d_prog_9_method_2_54 : decode prog_9_method_2_code 54 = .ok (.iload_n 2, 1) := by decide +kernel
theorem own_d_prog_9_method_2_55 : decode prog_9_method_2_code 55 = .ok (.iconst 1, 1) := by decide +kernel
theorem own_d_prog_9_method_2_56 : decode prog_9_method_2_code 56 = .ok (.iadd, 1) := by decide +kernel
theorem own_d_prog_9_method_2_57 : decode prog_9_method_2_code 57 = .ok (.aload_n 0, 1) := by decide +kernel
theorem own_d_prog_9_method_2_58 : decode prog_9_method_2_code 58 = .ok (.getfield 15, 3) := by decide +kernel
theorem own_d_prog_9_method_2_61 : decode prog_9_method_2_code 61 = .ok (.arraylength, 1) := by decide +kernel
theorem own_d_prog_9_method_2_62 : decode prog_9_method_2_code 62 = .ok (.invokestatic 22, 3) := by decide +kernel
theorem own_d_prog_9_method_2_65 : decode prog_9_method_2_code 65 = .ok (.invokestatic 34, 3) := by decide +kernel
theorem own_d_prog_9_method_2_68 : decode prog_9_method_2_code 68 = .ok (.invokestatic 26, 3) := by decide +kernel
theorem own_pd3 : parseMethodDescriptor "([JI)[J" = some ⟨[(.array .long), .int], some (.array .long)⟩ := by decide +kernel
theorem own_d_prog_9_method_2_71 : decode prog_9_method_2_code 71 = .ok (.putfield 15, 3) := by decide +kernel
def own_rm_own_bres32768 : Room := ({ frames := 2, cells := 1, slots := 32768, locals := 56 } : Room)
set_option maxRecDepth 65536 in
set_option maxHeartbeats 40000000 in
theorem own_bres32768 (l : Launch) (Z : State) (a0 : Array Value) (hw : ∀ d ∈ tables_1, d.before a0 Z = true) (h : Heap) (n0 : Nat) (c e b : Addr) (hi sz Li : Int32) (H L : Nat) (f : Nat → Int64) (es : List Value) (hH : hi.toInt + sz.toInt = (H : Int)) (hsz : 0 ≤ sz.toInt ∧ sz.toInt < 4) (hhi : 0 ≤ hi.toInt) (hHb : H < 8388608) (hes : es.length = 4) (hLi : Li.toInt = (L : Int)) (hcap : H / 64 + 1 ≤ 32768 ∧ L + L / 8 + 4 ≤ 32768) (hf : ∀ j, L ≤ j → f j = 0)  (hn0 : n0 ≤ h.size) (B : Exa Z h c "com/example/vireo/vireo/index/BlockTable$Bucket") (Fe : Fld Z h c "com/example/vireo/vireo/index/BlockTable$Bucket" "entries" "[J" (.ref e)) (Fh : Fld Z h c "com/example/vireo/vireo/index/BlockTable$Bucket" "highs" "[J" (.ref b)) (Fs : Fld Z h c "com/example/vireo/vireo/index/BlockTable$Bucket" "size" "I" (.int sz)) (Ae : OwA Z h e .long es) (Ab : OwA Z h b .long (own_H L f)) (gec : n0 ≤ c) (nece : c ≠ e) (necb : c ≠ b) :
    OwM l Z (⟨"com/example/vireo/vireo/index/BlockTable$Bucket", "reserve", "(I)V"⟩ : MethodName) prog_9_method_2_code 3 none own_rm_own_bres32768 1 32768 [] #[(.ref c), (.int hi)] h n0 (fun r h' => r = none ∧ ∃ b' L', Keep h h' [c] ∧ (b' = b ∨ h.size ≤ b') ∧ (H / 64 < L' ∧ L ≤ L' ∧ L' ≤ 32768) ∧ Fld Z h' c "com/example/vireo/vireo/index/BlockTable$Bucket" "entries" "[J" (.ref e) ∧ Fld Z h' c "com/example/vireo/vireo/index/BlockTable$Bucket" "highs" "[J" (.ref b') ∧ Fld Z h' c "com/example/vireo/vireo/index/BlockTable$Bucket" "size" "I" (.int sz) ∧ OwA Z h' b' .long (own_H L' f)) := by
  refine OwM.of (Ls := #[.val (.ref c), .val (.int hi), .unset]) (by decide +kernel) (fun m => by first | (simp [entryFrame, mkF, argsToLocals, Value.category]; done) | rfl) ?_
  intro _ _ _ _ _ _ _ X
  have K0 : Keep h h [c] := Keep.refl _ _
  have e1 : (1 : Int32).toInt = 1 := rfl
  have e4 : (4 : Int32).toInt = 4 := rfl
  have e64 : (64 : Int32).toInt = 64 := rfl
  refine X.aloadN (q := 1) own_d_prog_9_method_2_0 rfl rfl rfl ?_
  refine X.getF (q := 4) (host := "") (Or.inl (hw _ (List.mem_of_getElem? (i := 61) rfl))) Via.refl Fs own_d_prog_9_method_2_1 rfl ?_
  refine X.aloadN (q := 5) own_d_prog_9_method_2_4 rfl rfl rfl ?_
  refine X.getF (q := 8) (host := "") (Or.inl (hw _ (List.mem_of_getElem? (i := 51) rfl))) Via.refl Fe own_d_prog_9_method_2_5 rfl ?_
  refine X.alen (q := 9) (z := (4 : Int32)) Ae (by rw [hes]; rfl) own_d_prog_9_method_2_8 rfl ?_
  refine X.icmp_ne (b := 4) (q' := 30) (q := 12) own_d_prog_9_method_2_9 rfl rfl (by decide) rfl (fun c9 => ?_) (fun c9 => ?_)
  · refine X.iloadN (q := 31) own_d_prog_9_method_2_30 rfl rfl ?_
    refine X.aloadN (q := 32) own_d_prog_9_method_2_31 rfl rfl rfl ?_
    refine X.getF (q := 35) (host := "") (Or.inl (hw _ (List.mem_of_getElem? (i := 61) rfl))) Via.refl Fs own_d_prog_9_method_2_32 rfl ?_
    refine X.iadd (q := 36) own_d_prog_9_method_2_35 rfl ?_
    refine X.nmI (fun sm hsm => ?_)
    have hsm_ : sm.toInt = (H : Int) := by rw [hsm, own_add rfl (by omega) (by omega)]; exact hH
    refine X.bipush (q := 38) (64 : Int32) own_d_prog_9_method_2_36 (by decide) rfl ?_
    refine X.idiv (q := 39) own_d_prog_9_method_2_38 (by decide) rfl ?_
    refine X.nmI (fun ix hix => ?_)
    have hix_ : ix.toInt = ((H / 64 : Nat) : Int) := by rw [hix]; exact own_d64 hsm_
    refine X.istoreN (q := 40) (Ls' := #[.val (.ref c), .val (.int hi), .val (.int ix)]) own_d_prog_9_method_2_39 rfl rfl ?_
    refine X.iloadN (q := 41) own_d_prog_9_method_2_40 rfl rfl ?_
    refine X.aloadN (q := 42) own_d_prog_9_method_2_41 rfl rfl rfl ?_
    refine X.getF (q := 45) (host := "") (Or.inl (hw _ (List.mem_of_getElem? (i := 53) rfl))) Via.refl Fh own_d_prog_9_method_2_42 rfl ?_
    refine X.alen (q := 46) (z := Li) Ab (by rw [own_Hlen]; exact hLi) own_d_prog_9_method_2_45 rfl ?_
    refine X.icmp_lt (q' := 74) (q := 49) own_d_prog_9_method_2_46 rfl rfl (by decide) rfl (fun c46 => ?_) (fun c46 => ?_)
    · refine X.retV own_d_prog_9_method_2_74 rfl (by decide) (by decide) ?_
      exact ⟨rfl, b, L, K0, Or.inl rfl, ⟨by omega, Nat.le_refl _, by omega⟩, Fe, Fh, Fs, Ab⟩
    · refine X.aloadN (q := 50) own_d_prog_9_method_2_49 rfl rfl rfl ?_
      refine X.aloadN (q := 51) own_d_prog_9_method_2_50 rfl rfl rfl ?_
      refine X.getF (q := 54) (host := "") (Or.inl (hw _ (List.mem_of_getElem? (i := 53) rfl))) Via.refl Fh own_d_prog_9_method_2_51 rfl ?_
      refine X.iloadN (q := 55) own_d_prog_9_method_2_54 rfl rfl ?_
      refine X.iconst (q := 56) (1 : Int32) own_d_prog_9_method_2_55 (by decide) rfl ?_
      refine X.iadd (q := 57) own_d_prog_9_method_2_56 rfl ?_
      refine X.nmI (fun i1 hi1 => ?_)
      have hi1_ : i1.toInt = ix.toInt + 1 := by rw [hi1, own_add (b := 1) rfl (by omega) (by omega)]
      refine X.aloadN (q := 58) own_d_prog_9_method_2_57 rfl rfl rfl ?_
      refine X.getF (q := 61) (host := "") (Or.inl (hw _ (List.mem_of_getElem? (i := 53) rfl))) Via.refl Fh own_d_prog_9_method_2_58 rfl ?_
      refine X.alen (q := 62) (z := Li) Ab (by rw [own_Hlen]; exact hLi) own_d_prog_9_method_2_61 rfl ?_
      refine X.callSN (own_grown l Z a0 hw h n0 Li (by omega)) (hw _ (List.mem_of_getElem? (i := 137) rfl)) (hw _ (List.mem_of_getElem? (i := 138) rfl)) (hw _ (List.mem_of_getElem? (i := 5) rfl)) (hw _ (List.mem_of_getElem? (i := 139) rfl)) (by decide) own_pd1 (argsL := [(.int Li)]) (rest := [(.int i1), (.ref b), (.ref c)]) rfl rfl rfl (W := 3) (Nat.le_of_eq rfl) rfl (by decide) (by decide) (k' := 0) (n' := 0) rfl rfl (by decide) (by decide) own_d_prog_9_method_2_62 (q := 65) rfl ?_
      rintro _ _ ⟨gz, rfl, hgz, rfl⟩
      show X.G h 0 0 65 #[.val (.ref c), .val (.int hi), .val (.int ix)] [(.int gz), (.int i1), (.ref b), (.ref c)]
      refine X.callS (own_max l Z a0 hw h n0 i1 gz) (hw _ (List.mem_of_getElem? (i := 143) rfl)) (hw _ (List.mem_of_getElem? (i := 141) rfl)) (hw _ (List.mem_of_getElem? (i := 22) rfl)) (hw _ (List.mem_of_getElem? (i := 142) rfl)) (by decide) own_pd0 (argsL := [(.int i1), (.int gz)]) (rest := [(.ref b), (.ref c)]) rfl rfl rfl (W := 2) (Nat.le_of_eq rfl) rfl (by decide) (by decide) (k' := 0) (n' := 0) rfl rfl (by decide) (by decide) own_d_prog_9_method_2_65 (q := 68) rfl ?_
      rintro _ _ ⟨mz, rfl, hmz, rfl⟩
      show X.G h 0 0 68 #[.val (.ref c), .val (.int hi), .val (.int ix)] [(.int mz), (.ref b), (.ref c)]
      refine X.callS (own_cpy32768 l Z a0 hw h n0 b L mz.toInt.toNat f mz Li hLi (by omega) (by omega) (by omega) hf hn0 Ab) (hw _ (List.mem_of_getElem? (i := 144) rfl)) (hw _ (List.mem_of_getElem? (i := 145) rfl)) (hw _ (List.mem_of_getElem? (i := 146) rfl)) (hw _ (List.mem_of_getElem? (i := 147) rfl)) (by decide) own_pd3 (argsL := [(.ref b), (.int mz)]) (rest := [(.ref c)]) rfl rfl rfl (W := 1) (Nat.le_of_eq rfl) rfl (by decide) (by decide) (k' := 1) (n' := 32768) rfl rfl (by decide) (by decide) own_d_prog_9_method_2_68 (q := 71) rfl ?_
      rintro _ h1 ⟨b2, rfl, Kh1c, frb2, Gb2⟩
      have B'h1 : Exa Z h1 c "com/example/vireo/vireo/index/BlockTable$Bucket" := Exa.keep B Kh1c
      have Fe'h1 : Fld Z h1 c "com/example/vireo/vireo/index/BlockTable$Bucket" "entries" "[J" (.ref e) := Fld.keep Fe Kh1c nin0
      have Fh'h1 : Fld Z h1 c "com/example/vireo/vireo/index/BlockTable$Bucket" "highs" "[J" (.ref b) := Fld.keep Fh Kh1c nin0
      have Fs'h1 : Fld Z h1 c "com/example/vireo/vireo/index/BlockTable$Bucket" "size" "I" (.int sz) := Fld.keep Fs Kh1c nin0
      have Ae'h1 : OwA Z h1 e .long es := OwA.keep Ae Kh1c nin0
      have Ab'h1 : OwA Z h1 b .long (own_H L f) := OwA.keep Ab Kh1c nin0
      have hsh1 : n0 ≤ h1.size := Nat.le_trans hn0 Kh1c.1
      have Kh1 : Keep h h1 [c] := Keep.trans K0 Kh1c all0
      show X.G h1 1 32768 71 #[.val (.ref c), .val (.int hi), .val (.int ix)] [(.ref b2), (.ref c)]
      have lc_b2 : c < b2 := Nat.lt_of_lt_of_le B.lt frb2
      have le_b2 : e < b2 := Nat.lt_of_lt_of_le Ae.lt frb2
      have lb_b2 : b < b2 := Nat.lt_of_lt_of_le Ab.lt frb2
      have geb2 : n0 ≤ b2 := Nat.le_trans hn0 frb2
      have fr0b2 : h.size ≤ b2 := Nat.le_trans K0.1 frb2
      refine X.putF (q := 74) (host := "") (Or.inl (hw _ (List.mem_of_getElem? (i := 53) rfl))) Via.refl Fh'h1 B'h1 (Or.inl (hw _ (List.mem_of_getElem? (i := 54) rfl))) (hw _ (List.mem_of_getElem? (i := 45) rfl)) (ty := (.array .long)) (by decide) rfl rfl gec own_d_prog_9_method_2_71 rfl (fun h2 Wh2 => ?_)
      have B'h2 : Exa Z h2 c "com/example/vireo/vireo/index/BlockTable$Bucket" := Exa.wr Wh2 B'h1
      have Fe'h2 : Fld Z h2 c "com/example/vireo/vireo/index/BlockTable$Bucket" "entries" "[J" (.ref e) := Fld.other Wh2 Fe'h1 (Or.inr (slot_ne (Or.inl (hw _ (List.mem_of_getElem? (i := 52) rfl))) (Or.inl (hw _ (List.mem_of_getElem? (i := 54) rfl))) (by decide) (ht := (by decide : _ = some (.array .long))) (ht' := (by decide : _ = some (.array .long)))))
      have Fh'h2 : Fld Z h2 c "com/example/vireo/vireo/index/BlockTable$Bucket" "highs" "[J" (.ref b2) := Fld.same Wh2 Fh'h1
      have Fs'h2 : Fld Z h2 c "com/example/vireo/vireo/index/BlockTable$Bucket" "size" "I" (.int sz) := Fld.other Wh2 Fs'h1 (Or.inr (slot_ne (Or.inl (hw _ (List.mem_of_getElem? (i := 62) rfl))) (Or.inl (hw _ (List.mem_of_getElem? (i := 54) rfl))) (by decide) (ht := (by decide : _ = some .int)) (ht' := (by decide : _ = some (.array .long)))))
      have Ae'h2 : OwA Z h2 e .long es := OwA.other Ae'h1 Wh2 (Ne.symm nece)
      have Ab'h2 : OwA Z h2 b .long (own_H L f) := OwA.other Ab'h1 Wh2 (Ne.symm necb)
      have Gb2'h2 : OwA Z h2 b2 .long (own_H mz.toInt.toNat f) := OwA.other Gb2 Wh2 (Nat.ne_of_gt lc_b2)
      have hsh2 : n0 ≤ h2.size := by rw [Wr.size Wh2]; exact hsh1
      have Kh2 : Keep h h2 [c] := Keep.wr Kh1 Wh2 (Or.inl (List.mem_of_getElem? (i := 0) rfl))
      refine X.retV own_d_prog_9_method_2_74 rfl (by decide) (by decide) ?_
      exact ⟨rfl, b2, mz.toInt.toNat, Kh2, Or.inr frb2, ⟨by omega, by omega, by omega⟩, Fe'h2, Fh'h2, Fs'h2, Gb2'h2⟩
  · omega
def own_rm_own_cpy65537 : Room := ({ frames := 1, cells := 1, slots := 65537, locals := 40 } : Room)
set_option maxRecDepth 65536 in
set_option maxHeartbeats 40000000 in
theorem own_cpy65537 (l : Launch) (Z : State) (a0 : Array Value) (hw : ∀ d ∈ tables_1, d.before a0 Z = true) (h : Heap) (n0 : Nat) (b : Addr) (L N : Nat) (f : Nat → Int64) (n Li : Int32) (hLi : Li.toInt = (L : Int)) (hn : n.toInt = (N : Int)) (hLN : L < N) (hcap : N ≤ 65537) (hf : ∀ j, L ≤ j → f j = 0)  (hn0 : n0 ≤ h.size) (A1 : OwA Z h b .long (own_H L f)) :
    OwM l Z (⟨"java/util/Arrays", "copyOf", "([JI)[J"⟩ : MethodName) jdk_65_method_124_code 3 (some (.array .long)) own_rm_own_cpy65537 1 65537 [] #[(.ref b), (.int n)] h n0 (fun r h' => ∃ b', r = some (.ref b') ∧ Keep h h' [] ∧ h.size ≤ b' ∧ OwA Z h' b' .long (own_H N f)) := by
  refine OwM.of (Ls := #[.val (.ref b), .val (.int n), .unset]) (by decide +kernel) (fun m => by first | (simp [entryFrame, mkF, argsToLocals, Value.category]; done) | rfl) ?_
  intro _ _ _ _ _ _ _ X
  have K0 : Keep h h [] := Keep.refl _ _
  refine X.iloadN (q := 1) own_d_jdk_65_method_124_0 rfl rfl ?_
  refine X.aloadN (q := 2) own_d_jdk_65_method_124_1 rfl rfl rfl ?_
  refine X.alen (q := 3) (z := Li) A1 (by rw [own_Hlen]; exact hLi) own_d_jdk_65_method_124_2 rfl ?_
  refine X.icmp_ne (q' := 14) (q := 6) own_d_jdk_65_method_124_3 rfl rfl (by decide) rfl (fun c3 => ?_) (fun c3 => ?_)
  · refine X.iloadN (q := 15) own_d_jdk_65_method_124_14 rfl rfl ?_
    refine X.newP (q := 17) (ty := .long) (N := N) (cap := 65537) (k' := 1) (n' := 65537) (hw _ (List.mem_of_getElem? (i := 6) rfl)) own_d_jdk_65_method_124_15 rfl hn hcap (by decide) rfl rfl (by decide) (by decide) rfl (fun h1 a2 ga2 Eh1 Aa2 => ?_)
    have lb_a2 : b < a2 := by have := A1.lt; rw [← ga2] at this; exact this
    have A1'h1 : OwA Z h1 b .long (own_H L f) := OwA.ext (E := Eh1) A1
    have gea2 : n0 ≤ a2 := by rw [ga2]; exact hn0
    have hsh1 : n0 ≤ h1.size := Nat.le_trans hn0 Eh1.1
    have fra2 : h.size ≤ a2 := by rw [ga2]; exact K0.1
    have Kh1 : Keep h h1 [] := Keep.ext K0 Eh1
    refine X.astoreN (q := 18) (Ls' := #[.val (.ref b), .val (.int n), .val (.ref a2)]) own_d_jdk_65_method_124_17 rfl rfl rfl ?_
    refine X.aloadN (q := 19) own_d_jdk_65_method_124_18 rfl rfl rfl ?_
    refine X.iconst (q := 20) (0 : Int32) own_d_jdk_65_method_124_19 (by decide) rfl ?_
    refine X.aloadN (q := 21) own_d_jdk_65_method_124_20 rfl rfl rfl ?_
    refine X.iconst (q := 22) (0 : Int32) own_d_jdk_65_method_124_21 (by decide) rfl ?_
    refine X.aloadN (q := 23) own_d_jdk_65_method_124_22 rfl rfl rfl ?_
    refine X.alen (q := 24) (z := Li) A1'h1 (by rw [own_Hlen]; exact hLi) own_d_jdk_65_method_124_23 rfl ?_
    refine X.iloadN (q := 25) own_d_jdk_65_method_124_24 rfl rfl ?_
    refine X.callS (own_min l Z a0 hw h1 n0 Li n) (hw _ (List.mem_of_getElem? (i := 148) rfl)) (hw _ (List.mem_of_getElem? (i := 21) rfl)) (hw _ (List.mem_of_getElem? (i := 22) rfl)) (hw _ (List.mem_of_getElem? (i := 23) rfl)) (by decide) own_pd0 (argsL := [(.int Li), (.int n)]) (rest := [(.int (0 : Int32)), (.ref a2), (.int (0 : Int32)), (.ref b)]) rfl rfl rfl (W := 4) (Nat.le_of_eq rfl) rfl (by decide) (by decide) (k' := 1) (n' := 65537) rfl rfl (by decide) (by decide) own_d_jdk_65_method_124_25 (q := 28) rfl ?_
    rintro _ _ ⟨z, rfl, hz, rfl⟩
    show X.G h1 1 65537 28 #[.val (.ref b), .val (.int n), .val (.ref a2)] [(.int z), (.int (0 : Int32)), (.ref a2), (.int (0 : Int32)), (.ref b)]
    refine X.arraycopy (q := 31) (W := 0) (N := L) (hw _ (List.mem_of_getElem? (i := 149) rfl)) (hw _ (List.mem_of_getElem? (i := 152) rfl)) (hw _ (List.mem_of_getElem? (i := 150) rfl)) (hw _ (List.mem_of_getElem? (i := 151) rfl)) A1'h1 Aa2 (own_Hfit L f) (own_Rfit N) (by omega) (by rw [own_Hlen]; omega) (by rw [List.length_replicate]; omega) gea2 own_d_jdk_65_method_124_28 rfl (by decide) (Nat.le_of_eq rfl) (by decide +kernel) rfl (fun h3 Kh3c Gh3 => ?_)
    have A1'h3 : OwA Z h3 b .long (own_H L f) := OwA.keep A1'h1 Kh3c (ninS (Nat.ne_of_lt lb_a2) nin0)
    have hsh3 : n0 ≤ h3.size := Nat.le_trans hsh1 Kh3c.1
    have Kh3 : Keep h h3 [] := Keep.trans Kh1 Kh3c (allS (Or.inr fra2) all0)
    have g_ : OwA Z h3 a2 .long ((own_H L f).take L ++ (List.replicate N (Value.long 0)).drop L) := Gh3
    have GGh3 : OwA Z h3 a2 .long (own_H N f) := by rw [own_Hcpy (N := N) f (by omega) hf] at g_; exact g_
    show X.G h3 1 65537 31 #[.val (.ref b), .val (.int n), .val (.ref a2)] []
    refine X.aloadN (q := 32) own_d_jdk_65_method_124_31 rfl rfl rfl ?_
    refine X.retA (t := (.array .long)) own_d_jdk_65_method_124_32 rfl rfl rfl rfl (by decide) (by decide) ?_
    exact ⟨_, rfl, Kh3, fra2, GGh3⟩
  · omega
def own_rm_own_bres65537 : Room := ({ frames := 2, cells := 1, slots := 65537, locals := 56 } : Room)
set_option maxRecDepth 65536 in
set_option maxHeartbeats 40000000 in
theorem own_bres65537 (l : Launch) (Z : State) (a0 : Array Value) (hw : ∀ d ∈ tables_1, d.before a0 Z = true) (h : Heap) (n0 : Nat) (c e b : Addr) (hi sz Li : Int32) (H L : Nat) (f : Nat → Int64) (es : List Value) (hH : hi.toInt + sz.toInt = (H : Int)) (hsz : 0 ≤ sz.toInt ∧ sz.toInt < 4) (hhi : 0 ≤ hi.toInt) (hHb : H < 8388608) (hes : es.length = 4) (hLi : Li.toInt = (L : Int)) (hcap : H / 64 + 1 ≤ 65537 ∧ L + L / 8 + 4 ≤ 65537) (hf : ∀ j, L ≤ j → f j = 0)  (hn0 : n0 ≤ h.size) (B : Exa Z h c "com/example/vireo/vireo/index/BlockTable$Bucket") (Fe : Fld Z h c "com/example/vireo/vireo/index/BlockTable$Bucket" "entries" "[J" (.ref e)) (Fh : Fld Z h c "com/example/vireo/vireo/index/BlockTable$Bucket" "highs" "[J" (.ref b)) (Fs : Fld Z h c "com/example/vireo/vireo/index/BlockTable$Bucket" "size" "I" (.int sz)) (Ae : OwA Z h e .long es) (Ab : OwA Z h b .long (own_H L f)) (gec : n0 ≤ c) (nece : c ≠ e) (necb : c ≠ b) :
    OwM l Z (⟨"com/example/vireo/vireo/index/BlockTable$Bucket", "reserve", "(I)V"⟩ : MethodName) prog_9_method_2_code 3 none own_rm_own_bres65537 1 65537 [] #[(.ref c), (.int hi)] h n0 (fun r h' => r = none ∧ ∃ b' L', Keep h h' [c] ∧ (b' = b ∨ h.size ≤ b') ∧ (H / 64 < L' ∧ L ≤ L' ∧ L' ≤ 65537) ∧ Fld Z h' c "com/example/vireo/vireo/index/BlockTable$Bucket" "entries" "[J" (.ref e) ∧ Fld Z h' c "com/example/vireo/vireo/index/BlockTable$Bucket" "highs" "[J" (.ref b') ∧ Fld Z h' c "com/example/vireo/vireo/index/BlockTable$Bucket" "size" "I" (.int sz) ∧ OwA Z h' b' .long (own_H L' f)) := by
  refine OwM.of (Ls := #[.val (.ref c), .val (.int hi), .unset]) (by decide +kernel) (fun m => by first | (simp [entryFrame, mkF, argsToLocals, Value.category]; done) | rfl) ?_
  intro _ _ _ _ _ _ _ X
  have K0 : Keep h h [c] := Keep.refl _ _
  have e1 : (1 : Int32).toInt = 1 := rfl
  have e4 : (4 : Int32).toInt = 4 := rfl
  have e64 : (64 : Int32).toInt = 64 := rfl
  refine X.aloadN (q := 1) own_d_prog_9_method_2_0 rfl rfl rfl ?_
  refine X.getF (q := 4) (host := "") (Or.inl (hw _ (List.mem_of_getElem? (i := 61) rfl))) Via.refl Fs own_d_prog_9_method_2_1 rfl ?_
  refine X.aloadN (q := 5) own_d_prog_9_method_2_4 rfl rfl rfl ?_
  refine X.getF (q := 8) (host := "") (Or.inl (hw _ (List.mem_of_getElem? (i := 51) rfl))) Via.refl Fe own_d_prog_9_method_2_5 rfl ?_
  refine X.alen (q := 9) (z := (4 : Int32)) Ae (by rw [hes]; rfl) own_d_prog_9_method_2_8 rfl ?_
  refine X.icmp_ne (b := 4) (q' := 30) (q := 12) own_d_prog_9_method_2_9 rfl rfl (by decide) rfl (fun c9 => ?_) (fun c9 => ?_)
  · refine X.iloadN (q := 31) own_d_prog_9_method_2_30 rfl rfl ?_
    refine X.aloadN (q := 32) own_d_prog_9_method_2_31 rfl rfl rfl ?_
    refine X.getF (q := 35) (host := "") (Or.inl (hw _ (List.mem_of_getElem? (i := 61) rfl))) Via.refl Fs own_d_prog_9_method_2_32 rfl ?_
    refine X.iadd (q := 36) own_d_prog_9_method_2_35 rfl ?_
    refine X.nmI (fun sm hsm => ?_)
    have hsm_ : sm.toInt = (H : Int) := by rw [hsm, own_add rfl (by omega) (by omega)]; exact hH
    refine X.bipush (q := 38) (64 : Int32) own_d_prog_9_method_2_36 (by decide) rfl ?_
    refine X.idiv (q := 39) own_d_prog_9_method_2_38 (by decide) rfl ?_
    refine X.nmI (fun ix hix => ?_)
    have hix_ : ix.toInt = ((H / 64 : Nat) : Int) := by rw [hix]; exact own_d64 hsm_
    refine X.istoreN (q := 40) (Ls' := #[.val (.ref c), .val (.int hi), .val (.int ix)]) own_d_prog_9_method_2_39 rfl rfl ?_
    refine X.iloadN (q := 41) own_d_prog_9_method_2_40 rfl rfl ?_
    refine X.aloadN (q := 42) own_d_prog_9_method_2_41 rfl rfl rfl ?_
    refine X.getF (q := 45) (host := "") (Or.inl (hw _ (List.mem_of_getElem? (i := 53) rfl))) Via.refl Fh own_d_prog_9_method_2_42 rfl ?_
    refine X.alen (q := 46) (z := Li) Ab (by rw [own_Hlen]; exact hLi) own_d_prog_9_method_2_45 rfl ?_
    refine X.icmp_lt (q' := 74) (q := 49) own_d_prog_9_method_2_46 rfl rfl (by decide) rfl (fun c46 => ?_) (fun c46 => ?_)
    · refine X.retV own_d_prog_9_method_2_74 rfl (by decide) (by decide) ?_
      exact ⟨rfl, b, L, K0, Or.inl rfl, ⟨by omega, Nat.le_refl _, by omega⟩, Fe, Fh, Fs, Ab⟩
    · refine X.aloadN (q := 50) own_d_prog_9_method_2_49 rfl rfl rfl ?_
      refine X.aloadN (q := 51) own_d_prog_9_method_2_50 rfl rfl rfl ?_
      refine X.getF (q := 54) (host := "") (Or.inl (hw _ (List.mem_of_getElem? (i := 53) rfl))) Via.refl Fh own_d_prog_9_method_2_51 rfl ?_
      refine X.iloadN (q := 55) own_d_prog_9_method_2_54 rfl rfl ?_
      refine X.iconst (q := 56) (1 : Int32) own_d_prog_9_method_2_55 (by decide) rfl ?_
      refine X.iadd (q := 57) own_d_prog_9_method_2_56 rfl ?_
      refine X.nmI (fun i1 hi1 => ?_)
      have hi1_ : i1.toInt = ix.toInt + 1 := by rw [hi1, own_add (b := 1) rfl (by omega) (by omega)]
      refine X.aloadN (q := 58) own_d_prog_9_method_2_57 rfl rfl rfl ?_
      refine X.getF (q := 61) (host := "") (Or.inl (hw _ (List.mem_of_getElem? (i := 53) rfl))) Via.refl Fh own_d_prog_9_method_2_58 rfl ?_
      refine X.alen (q := 62) (z := Li) Ab (by rw [own_Hlen]; exact hLi) own_d_prog_9_method_2_61 rfl ?_
      refine X.callSN (own_grown l Z a0 hw h n0 Li (by omega)) (hw _ (List.mem_of_getElem? (i := 137) rfl)) (hw _ (List.mem_of_getElem? (i := 138) rfl)) (hw _ (List.mem_of_getElem? (i := 5) rfl)) (hw _ (List.mem_of_getElem? (i := 139) rfl)) (by decide) own_pd1 (argsL := [(.int Li)]) (rest := [(.int i1), (.ref b), (.ref c)]) rfl rfl rfl (W := 3) (Nat.le_of_eq rfl) rfl (by decide) (by decide) (k' := 0) (n' := 0) rfl rfl (by decide) (by decide) own_d_prog_9_method_2_62 (q := 65) rfl ?_
      rintro _ _ ⟨gz, rfl, hgz, rfl⟩
      show X.G h 0 0 65 #[.val (.ref c), .val (.int hi), .val (.int ix)] [(.int gz), (.int i1), (.ref b), (.ref c)]
      refine X.callS (own_max l Z a0 hw h n0 i1 gz) (hw _ (List.mem_of_getElem? (i := 143) rfl)) (hw _ (List.mem_of_getElem? (i := 141) rfl)) (hw _ (List.mem_of_getElem? (i := 22) rfl)) (hw _ (List.mem_of_getElem? (i := 142) rfl)) (by decide) own_pd0 (argsL := [(.int i1), (.int gz)]) (rest := [(.ref b), (.ref c)]) rfl rfl rfl (W := 2) (Nat.le_of_eq rfl) rfl (by decide) (by decide) (k' := 0) (n' := 0) rfl rfl (by decide) (by decide) own_d_prog_9_method_2_65 (q := 68) rfl ?_
      rintro _ _ ⟨mz, rfl, hmz, rfl⟩
      show X.G h 0 0 68 #[.val (.ref c), .val (.int hi), .val (.int ix)] [(.int mz), (.ref b), (.ref c)]
      refine X.callS (own_cpy65537 l Z a0 hw h n0 b L mz.toInt.toNat f mz Li hLi (by omega) (by omega) (by omega) hf hn0 Ab) (hw _ (List.mem_of_getElem? (i := 144) rfl)) (hw _ (List.mem_of_getElem? (i := 145) rfl)) (hw _ (List.mem_of_getElem? (i := 146) rfl)) (hw _ (List.mem_of_getElem? (i := 147) rfl)) (by decide) own_pd3 (argsL := [(.ref b), (.int mz)]) (rest := [(.ref c)]) rfl rfl rfl (W := 1) (Nat.le_of_eq rfl) rfl (by decide) (by decide) (k' := 1) (n' := 65537) rfl rfl (by decide) (by decide) own_d_prog_9_method_2_68 (q := 71) rfl ?_
      rintro _ h1 ⟨b2, rfl, Kh1c, frb2, Gb2⟩
      have B'h1 : Exa Z h1 c "com/example/vireo/vireo/index/BlockTable$Bucket" := Exa.keep B Kh1c
      have Fe'h1 : Fld Z h1 c "com/example/vireo/vireo/index/BlockTable$Bucket" "entries" "[J" (.ref e) := Fld.keep Fe Kh1c nin0
      have Fh'h1 : Fld Z h1 c "com/example/vireo/vireo/index/BlockTable$Bucket" "highs" "[J" (.ref b) := Fld.keep Fh Kh1c nin0
      have Fs'h1 : Fld Z h1 c "com/example/vireo/vireo/index/BlockTable$Bucket" "size" "I" (.int sz) := Fld.keep Fs Kh1c nin0
      have Ae'h1 : OwA Z h1 e .long es := OwA.keep Ae Kh1c nin0
      have Ab'h1 : OwA Z h1 b .long (own_H L f) := OwA.keep Ab Kh1c nin0
      have hsh1 : n0 ≤ h1.size := Nat.le_trans hn0 Kh1c.1
      have Kh1 : Keep h h1 [c] := Keep.trans K0 Kh1c all0
      show X.G h1 1 65537 71 #[.val (.ref c), .val (.int hi), .val (.int ix)] [(.ref b2), (.ref c)]
      have lc_b2 : c < b2 := Nat.lt_of_lt_of_le B.lt frb2
      have le_b2 : e < b2 := Nat.lt_of_lt_of_le Ae.lt frb2
      have lb_b2 : b < b2 := Nat.lt_of_lt_of_le Ab.lt frb2
      have geb2 : n0 ≤ b2 := Nat.le_trans hn0 frb2
      have fr0b2 : h.size ≤ b2 := Nat.le_trans K0.1 frb2
      refine X.putF (q := 74) (host := "") (Or.inl (hw _ (List.mem_of_getElem? (i := 53) rfl))) Via.refl Fh'h1 B'h1 (Or.inl (hw _ (List.mem_of_getElem? (i := 54) rfl))) (hw _ (List.mem_of_getElem? (i := 45) rfl)) (ty := (.array .long)) (by decide) rfl rfl gec own_d_prog_9_method_2_71 rfl (fun h2 Wh2 => ?_)
      have B'h2 : Exa Z h2 c "com/example/vireo/vireo/index/BlockTable$Bucket" := Exa.wr Wh2 B'h1
      have Fe'h2 : Fld Z h2 c "com/example/vireo/vireo/index/BlockTable$Bucket" "entries" "[J" (.ref e) := Fld.other Wh2 Fe'h1 (Or.inr (slot_ne (Or.inl (hw _ (List.mem_of_getElem? (i := 52) rfl))) (Or.inl (hw _ (List.mem_of_getElem? (i := 54) rfl))) (by decide) (ht := (by decide : _ = some (.array .long))) (ht' := (by decide : _ = some (.array .long)))))
      have Fh'h2 : Fld Z h2 c "com/example/vireo/vireo/index/BlockTable$Bucket" "highs" "[J" (.ref b2) := Fld.same Wh2 Fh'h1
      have Fs'h2 : Fld Z h2 c "com/example/vireo/vireo/index/BlockTable$Bucket" "size" "I" (.int sz) := Fld.other Wh2 Fs'h1 (Or.inr (slot_ne (Or.inl (hw _ (List.mem_of_getElem? (i := 62) rfl))) (Or.inl (hw _ (List.mem_of_getElem? (i := 54) rfl))) (by decide) (ht := (by decide : _ = some .int)) (ht' := (by decide : _ = some (.array .long)))))
      have Ae'h2 : OwA Z h2 e .long es := OwA.other Ae'h1 Wh2 (Ne.symm nece)
      have Ab'h2 : OwA Z h2 b .long (own_H L f) := OwA.other Ab'h1 Wh2 (Ne.symm necb)
      have Gb2'h2 : OwA Z h2 b2 .long (own_H mz.toInt.toNat f) := OwA.other Gb2 Wh2 (Nat.ne_of_gt lc_b2)
      have hsh2 : n0 ≤ h2.size := by rw [Wr.size Wh2]; exact hsh1
      have Kh2 : Keep h h2 [c] := Keep.wr Kh1 Wh2 (Or.inl (List.mem_of_getElem? (i := 0) rfl))
      refine X.retV own_d_prog_9_method_2_74 rfl (by decide) (by decide) ?_
      exact ⟨rfl, b2, mz.toInt.toNat, Kh2, Or.inr frb2, ⟨by omega, by omega, by omega⟩, Fe'h2, Fh'h2, Fs'h2, Gb2'h2⟩
  · omega
theorem own_d_prog_9_method_3_0 : decode prog_9_method_3_code 0 = .ok (.iload_n 3, 1) := by decide +kernel
theorem own_d_prog_9_method_3_1 : decode prog_9_method_3_code 1 = .ok (.aload_n 0, 1) := by decide +kernel
theorem own_d_prog_9_method_3_2 : decode prog_9_method_3_code 2 = .ok (.getfield 18, 3) := by decide +kernel
theorem own_d_prog_9_method_3_5 : decode prog_9_method_3_code 5 = .ok (.iadd, 1) := by decide +kernel
theorem own_d_prog_9_method_3_6 : decode prog_9_method_3_code 6 = .ok (.istore 4, 2) := by decide +kernel
theorem own_d_prog_9_method_3_8 : decode prog_9_method_3_code 8 = .ok (.aload_n 0, 1) := by decide +kernel
theorem own_d_prog_9_method_3_9 : decode prog_9_method_3_code 9 = .ok (.getfield 9, 3) := by decide +kernel
theorem own_d_prog_9_method_3_12 : decode prog_9_method_3_code 12 = .ok (.aload_n 0, 1) := by decide +kernel
theorem own_d_prog_9_method_3_13 : decode prog_9_method_3_code 13 = .ok (.getfield 18, 3) := by decide +kernel
theorem own_d_prog_9_method_3_16 : decode prog_9_method_3_code 16 = .ok (.lload_n 1, 1) := by decide +kernel
theorem own_d_prog_9_method_3_17 : decode prog_9_method_3_code 17 = .ok (.lastore, 1) := by decide +kernel
theorem own_d_prog_9_method_3_18 : decode prog_9_method_3_code 18 = .ok (.aload_n 0, 1) := by decide +kernel
theorem own_d_prog_9_method_3_19 : decode prog_9_method_3_code 19 = .ok (.getfield 15, 3) := by decide +kernel
theorem own_d_prog_9_method_3_22 : decode prog_9_method_3_code 22 = .ok (.iload 4, 2) := by decide +kernel
theorem own_d_prog_9_method_3_24 : decode prog_9_method_3_code 24 = .ok (.bipush 64, 2) := by decide +kernel
theorem own_d_prog_9_method_3_26 : decode prog_9_method_3_code 26 = .ok (.idiv, 1) := by decide +kernel
theorem own_d_prog_9_method_3_27 : decode prog_9_method_3_code 27 = .ok (.dup2, 1) := by decide +kernel
theorem own_d_prog_9_method_3_28 : decode prog_9_method_3_code 28 = .ok (.laload, 1) := by decide +kernel
theorem own_d_prog_9_method_3_29 : decode prog_9_method_3_code 29 = .ok (.lconst 1, 1) := by decide +kernel
theorem own_d_prog_9_method_3_30 : decode prog_9_method_3_code 30 = .ok (.iload 4, 2) := by decide +kernel
theorem own_d_prog_9_method_3_32 : decode prog_9_method_3_code 32 = .ok (.lshl, 1) := by decide +kernel
theorem own_d_prog_9_method_3_33 : decode prog_9_method_3_code 33 = .ok (.lor, 1) := by decide +kernel
theorem own_d_prog_9_method_3_34 : decode prog_9_method_3_code 34 = .ok (.lastore, 1) := by decide +kernel
theorem own_d_prog_9_method_3_35 : decode prog_9_method_3_code 35 = .ok (.aload_n 0, 1) := by decide +kernel
theorem own_d_prog_9_method_3_36 : decode prog_9_method_3_code 36 = .ok (.dup, 1) := by decide +kernel
theorem own_d_prog_9_method_3_37 : decode prog_9_method_3_code 37 = .ok (.getfield 18, 3) := by decide +kernel
theorem own_d_prog_9_method_3_40 : decode prog_9_method_3_code 40 = .ok (.iconst 1, 1) := by decide +kernel
theorem own_d_prog_9_method_3_41 : decode prog_9_method_3_code 41 = .ok (.iadd, 1) := by decide +kernel
theorem own_d_prog_9_method_3_42 : decode prog_9_method_3_code 42 = .ok (.putfield 18, 3) := by decide +kernel
theorem own_d_prog_9_method_3_45 : decode prog_9_method_3_code 45 = .ok (.return_, 1) := by decide +kernel
def own_rm_own_badd : Room := ({ frames := 0, cells := 0, slots := 0, locals := 0 } : Room)
set_option maxRecDepth 65536 in
set_option maxHeartbeats 40000000 in
theorem own_badd (l : Launch) (Z : State) (a0 : Array Value) (hw : ∀ d ∈ tables_1, d.before a0 Z = true) (h : Heap) (n0 : Nat) (c e b : Addr) (x : Int64) (hi sz : Int32) (H L sn : Nat) (f : Nat → Int64) (es : List Value) (hH : hi.toInt + sz.toInt = (H : Int)) (hhi : 0 ≤ hi.toInt) (hsz : sz.toInt = (sn : Int)) (hHb : H < 8388608) (hes : es.length = 4) (hsn : sn < 4) (hL : H / 64 < L)  (hn0 : n0 ≤ h.size) (B : Exa Z h c "com/example/vireo/vireo/index/BlockTable$Bucket") (Fe : Fld Z h c "com/example/vireo/vireo/index/BlockTable$Bucket" "entries" "[J" (.ref e)) (Fh : Fld Z h c "com/example/vireo/vireo/index/BlockTable$Bucket" "highs" "[J" (.ref b)) (Fs : Fld Z h c "com/example/vireo/vireo/index/BlockTable$Bucket" "size" "I" (.int sz)) (Ae : OwA Z h e .long es) (Ab : OwA Z h b .long (own_H L f)) (gec : n0 ≤ c) (gee : n0 ≤ e) (geb : n0 ≤ b) (nece : c ≠ e) (necb : c ≠ b) (neeb : e ≠ b) :
    OwM l Z (⟨"com/example/vireo/vireo/index/BlockTable$Bucket", "add", "(JI)V"⟩ : MethodName) prog_9_method_3_code 5 none own_rm_own_badd 0 0 [] #[(.ref c), (.long x), (.int hi)] h n0 (fun r h' => r = none ∧ Keep h h' [c, e, b] ∧ Fld Z h' c "com/example/vireo/vireo/index/BlockTable$Bucket" "entries" "[J" (.ref e) ∧ Fld Z h' c "com/example/vireo/vireo/index/BlockTable$Bucket" "highs" "[J" (.ref b) ∧ Fld Z h' c "com/example/vireo/vireo/index/BlockTable$Bucket" "size" "I" (.int (sz + (1 : Int32))) ∧ OwA Z h' e .long (es.set sn (.long x)) ∧ OwA Z h' b .long (own_H L (own_up f H))) := by
  refine OwM.of (Ls := #[.val (.ref c), .val (.long x), .second, .val (.int hi), .unset]) (by decide +kernel) (fun m => by first | (simp [entryFrame, mkF, argsToLocals, Value.category]; done) | rfl) ?_
  intro _ _ _ _ _ _ _ X
  have K0 : Keep h h [c, e, b] := Keep.refl _ _
  refine X.iloadN (q := 1) own_d_prog_9_method_3_0 rfl rfl ?_
  refine X.aloadN (q := 2) own_d_prog_9_method_3_1 rfl rfl rfl ?_
  refine X.getF (q := 5) (host := "") (Or.inl (hw _ (List.mem_of_getElem? (i := 61) rfl))) Via.refl Fs own_d_prog_9_method_3_2 rfl ?_
  refine X.iadd (q := 6) own_d_prog_9_method_3_5 rfl ?_
  refine X.nmI (fun hh hhh => ?_)
  have hhh_ : hh.toInt = (H : Int) := by rw [hhh, own_add rfl (by omega) (by omega)]; exact hH
  refine X.istore (q := 8) (Ls' := #[.val (.ref c), .val (.long x), .second, .val (.int hi), .val (.int hh)]) own_d_prog_9_method_3_6 rfl rfl ?_
  refine X.aloadN (q := 9) own_d_prog_9_method_3_8 rfl rfl rfl ?_
  refine X.getF (q := 12) (host := "") (Or.inl (hw _ (List.mem_of_getElem? (i := 51) rfl))) Via.refl Fe own_d_prog_9_method_3_9 rfl ?_
  refine X.aloadN (q := 13) own_d_prog_9_method_3_12 rfl rfl rfl ?_
  refine X.getF (q := 16) (host := "") (Or.inl (hw _ (List.mem_of_getElem? (i := 61) rfl))) Via.refl Fs own_d_prog_9_method_3_13 rfl ?_
  refine X.lloadN (q := 17) own_d_prog_9_method_3_16 rfl rfl ?_
  refine X.lastore (q := 18) (j := sn) Ae hsz (by rw [hes]; exact hsn) gee own_d_prog_9_method_3_17 rfl (fun h1 Wh1 Ah1 => ?_)
  have B'h1 : Exa Z h1 c "com/example/vireo/vireo/index/BlockTable$Bucket" := Exa.wr Wh1 B
  have Fe'h1 : Fld Z h1 c "com/example/vireo/vireo/index/BlockTable$Bucket" "entries" "[J" (.ref e) := Fld.other Wh1 Fe (Or.inl nece)
  have Fh'h1 : Fld Z h1 c "com/example/vireo/vireo/index/BlockTable$Bucket" "highs" "[J" (.ref b) := Fld.other Wh1 Fh (Or.inl nece)
  have Fs'h1 : Fld Z h1 c "com/example/vireo/vireo/index/BlockTable$Bucket" "size" "I" (.int sz) := Fld.other Wh1 Fs (Or.inl nece)
  have Ab'h1 : OwA Z h1 b .long (own_H L f) := OwA.other Ab Wh1 (Ne.symm neeb)
  have hsh1 : n0 ≤ h1.size := by rw [Wr.size Wh1]; exact hn0
  have Kh1 : Keep h h1 [c, e, b] := Keep.wr K0 Wh1 (Or.inl (List.mem_of_getElem? (i := 1) rfl))
  have Ah1_ : OwA Z h1 e .long (es.set sn (.long x)) := Ah1
  refine X.aloadN (q := 19) own_d_prog_9_method_3_18 rfl rfl rfl ?_
  refine X.getF (q := 22) (host := "") (Or.inl (hw _ (List.mem_of_getElem? (i := 53) rfl))) Via.refl Fh'h1 own_d_prog_9_method_3_19 rfl ?_
  refine X.iload (q := 24) own_d_prog_9_method_3_22 rfl rfl ?_
  refine X.bipush (q := 26) (64 : Int32) own_d_prog_9_method_3_24 (by decide) rfl ?_
  refine X.idiv (q := 27) own_d_prog_9_method_3_26 (by decide) rfl ?_
  refine X.nmI (fun ix hix => ?_)
  have hix_ : ix.toInt = ((H / 64 : Nat) : Int) := by rw [hix]; exact own_d64 hhh_
  refine X.dup2 (q := 28) own_d_prog_9_method_3_27 rfl rfl rfl ?_
  refine X.laload (q := 29) (j := (H / 64)) (v := (.long (f (H / 64)))) Ab'h1 hix_ (own_Hat f hL) own_d_prog_9_method_3_28 rfl ?_
  refine X.lconst (q := 30) (1 : Int64) own_d_prog_9_method_3_29 (by decide) rfl ?_
  refine X.iload (q := 32) own_d_prog_9_method_3_30 rfl rfl ?_
  refine X.lshl (q := 33) own_d_prog_9_method_3_32 rfl ?_
  refine X.foldJ (v := (own_bit H)) (own_bitE hhh_) ?_
  refine X.lor (q := 34) own_d_prog_9_method_3_33 rfl ?_
  refine X.lastore (q := 35) (j := (H / 64)) Ab'h1 hix_ (by rw [own_Hlen]; exact hL) geb own_d_prog_9_method_3_34 rfl (fun h2 Wh2 Ah2 => ?_)
  have B'h2 : Exa Z h2 c "com/example/vireo/vireo/index/BlockTable$Bucket" := Exa.wr Wh2 B'h1
  have Fe'h2 : Fld Z h2 c "com/example/vireo/vireo/index/BlockTable$Bucket" "entries" "[J" (.ref e) := Fld.other Wh2 Fe'h1 (Or.inl necb)
  have Fh'h2 : Fld Z h2 c "com/example/vireo/vireo/index/BlockTable$Bucket" "highs" "[J" (.ref b) := Fld.other Wh2 Fh'h1 (Or.inl necb)
  have Fs'h2 : Fld Z h2 c "com/example/vireo/vireo/index/BlockTable$Bucket" "size" "I" (.int sz) := Fld.other Wh2 Fs'h1 (Or.inl necb)
  have Ah1_'h2 : OwA Z h2 e .long (es.set sn (.long x)) := OwA.other Ah1_ Wh2 neeb
  have hsh2 : n0 ≤ h2.size := by rw [Wr.size Wh2]; exact hsh1
  have Kh2 : Keep h h2 [c, e, b] := Keep.wr Kh1 Wh2 (Or.inl (List.mem_of_getElem? (i := 2) rfl))
  have Ah2_ : OwA Z h2 b .long (own_H L (own_up f H)) := (by rw [← own_Hup]; exact Ah2)
  refine X.aloadN (q := 36) own_d_prog_9_method_3_35 rfl rfl rfl ?_
  refine X.dup (q := 37) own_d_prog_9_method_3_36 rfl rfl ?_
  refine X.getF (q := 40) (host := "") (Or.inl (hw _ (List.mem_of_getElem? (i := 61) rfl))) Via.refl Fs'h2 own_d_prog_9_method_3_37 rfl ?_
  refine X.iconst (q := 41) (1 : Int32) own_d_prog_9_method_3_40 (by decide) rfl ?_
  refine X.iadd (q := 42) own_d_prog_9_method_3_41 rfl ?_
  refine X.putF (q := 45) (host := "") (Or.inl (hw _ (List.mem_of_getElem? (i := 61) rfl))) Via.refl Fs'h2 B'h2 (Or.inl (hw _ (List.mem_of_getElem? (i := 62) rfl))) (hw _ (List.mem_of_getElem? (i := 45) rfl)) (ty := .int) (by decide) rfl rfl gec own_d_prog_9_method_3_42 rfl (fun h3 Wh3 => ?_)
  have B'h3 : Exa Z h3 c "com/example/vireo/vireo/index/BlockTable$Bucket" := Exa.wr Wh3 B'h2
  have Fe'h3 : Fld Z h3 c "com/example/vireo/vireo/index/BlockTable$Bucket" "entries" "[J" (.ref e) := Fld.other Wh3 Fe'h2 (Or.inr (slot_ne (Or.inl (hw _ (List.mem_of_getElem? (i := 52) rfl))) (Or.inl (hw _ (List.mem_of_getElem? (i := 62) rfl))) (by decide) (ht := (by decide : _ = some (.array .long))) (ht' := (by decide : _ = some .int))))
  have Fh'h3 : Fld Z h3 c "com/example/vireo/vireo/index/BlockTable$Bucket" "highs" "[J" (.ref b) := Fld.other Wh3 Fh'h2 (Or.inr (slot_ne (Or.inl (hw _ (List.mem_of_getElem? (i := 54) rfl))) (Or.inl (hw _ (List.mem_of_getElem? (i := 62) rfl))) (by decide) (ht := (by decide : _ = some (.array .long))) (ht' := (by decide : _ = some .int))))
  have Fs'h3 : Fld Z h3 c "com/example/vireo/vireo/index/BlockTable$Bucket" "size" "I" (.int (sz + (1 : Int32))) := Fld.same Wh3 Fs'h2
  have Ah1_'h3 : OwA Z h3 e .long (es.set sn (.long x)) := OwA.other Ah1_'h2 Wh3 (Ne.symm nece)
  have Ah2_'h3 : OwA Z h3 b .long (own_H L (own_up f H)) := OwA.other Ah2_ Wh3 (Ne.symm necb)
  have hsh3 : n0 ≤ h3.size := by rw [Wr.size Wh3]; exact hsh2
  have Kh3 : Keep h h3 [c, e, b] := Keep.wr Kh2 Wh3 (Or.inl (List.mem_of_getElem? (i := 0) rfl))
  refine X.retV own_d_prog_9_method_3_45 rfl (by decide) (by decide) ?_
  exact ⟨rfl, Kh3, Fe'h3, Fh'h3, Fs'h3, Ah1_'h3, Ah2_'h3⟩
theorem own_d_prog_8_method_3_0 : decode prog_8_method_3_code 0 = .ok (.aload_n 0, 1) := by decide +kernel
theorem own_d_prog_8_method_3_1 : decode prog_8_method_3_code 1 = .ok (.lload_n 1, 1) := by decide +kernel
theorem own_d_prog_8_method_3_2 : decode prog_8_method_3_code 2 = .ok (.invokevirtual 52, 3) := by decide +kernel
theorem own_d_prog_8_method_3_5 : decode prog_8_method_3_code 5 = .ok (.istore 4, 2) := by decide +kernel
theorem own_d_prog_8_method_3_7 : decode prog_8_method_3_code 7 = .ok (.aload_n 0, 1) := by decide +kernel
theorem own_d_prog_8_method_3_8 : decode prog_8_method_3_code 8 = .ok (.getfield 48, 3) := by decide +kernel
theorem own_d_prog_8_method_3_11 : decode prog_8_method_3_code 11 = .ok (.iload 4, 2) := by decide +kernel
theorem own_d_prog_8_method_3_13 : decode prog_8_method_3_code 13 = .ok (.aaload, 1) := by decide +kernel
theorem own_d_prog_8_method_3_14 : decode prog_8_method_3_code 14 = .ok (.ifnonnull 17, 3) := by decide +kernel
theorem own_d_prog_8_method_3_17 : decode prog_8_method_3_code 17 = .ok (.aload_n 0, 1) := by decide +kernel
theorem own_d_prog_8_method_3_18 : decode prog_8_method_3_code 18 = .ok (.getfield 48, 3) := by decide +kernel
theorem own_d_prog_8_method_3_21 : decode prog_8_method_3_code 21 = .ok (.iload 4, 2) := by decide +kernel
theorem own_d_prog_8_method_3_23 : decode prog_8_method_3_code 23 = .ok (.new 46, 3) := by decide +kernel
theorem own_d_prog_8_method_3_26 : decode prog_8_method_3_code 26 = .ok (.dup, 1) := by decide +kernel
theorem own_d_prog_8_method_3_27 : decode prog_8_method_3_code 27 = .ok (.invokespecial 56, 3) := by decide +kernel
theorem own_pd4 : parseMethodDescriptor "()V" = some ⟨[], none⟩ := by decide +kernel
theorem own_d_prog_8_method_3_30 : decode prog_8_method_3_code 30 = .ok (.aastore, 1) := by decide +kernel
theorem own_d_prog_8_method_3_31 : decode prog_8_method_3_code 31 = .ok (.aload_n 0, 1) := by decide +kernel
theorem own_d_prog_8_method_3_32 : decode prog_8_method_3_code 32 = .ok (.getfield 48, 3) := by decide +kernel
theorem own_d_prog_8_method_3_35 : decode prog_8_method_3_code 35 = .ok (.iload 4, 2) := by decide +kernel
theorem own_d_prog_8_method_3_37 : decode prog_8_method_3_code 37 = .ok (.aaload, 1) := by decide +kernel
theorem own_d_prog_8_method_3_38 : decode prog_8_method_3_code 38 = .ok (.iload_n 3, 1) := by decide +kernel
theorem own_d_prog_8_method_3_39 : decode prog_8_method_3_code 39 = .ok (.aload_n 0, 1) := by decide +kernel
theorem own_d_prog_8_method_3_40 : decode prog_8_method_3_code 40 = .ok (.getfield 33, 3) := by decide +kernel
theorem own_d_prog_8_method_3_43 : decode prog_8_method_3_code 43 = .ok (.iushr, 1) := by decide +kernel
theorem own_d_prog_8_method_3_44 : decode prog_8_method_3_code 44 = .ok (.invokevirtual 57, 3) := by decide +kernel
theorem own_pd5 : parseMethodDescriptor "(I)V" = some ⟨[.int], none⟩ := by decide +kernel
theorem own_d_prog_8_method_3_47 : decode prog_8_method_3_code 47 = .ok (.return_, 1) := by decide +kernel
def own_rm_own_tr1 : Room := ({ frames := 3, cells := 4, slots := 32776, locals := 70 } : Room)
set_option maxRecDepth 65536 in
set_option maxHeartbeats 40000000 in
theorem own_tr1 (l : Launch) (Z : State) (a0 : Array Value) (hw : ∀ d ∈ tables_1, d.before a0 Z = true) (h : Heap) (n0 : Nat) (t u : Addr) (f : Int64) (p kb ks lm : Int32) (j N q : Nat) (hq : (XT.ushr p kb).toInt = (q : Int)) (hqb : q < 2097152) (hj : ((XT.ushrL f ks).toInt32 &&& lm).toInt = (j : Int)) (hjN : j < N)  (hn0 : n0 ≤ h.size) (B : Exa Z h t "com/example/vireo/vireo/index/BlockTable") (FkeyBits : Fld Z h t "com/example/vireo/vireo/index/BlockTable" "keyBits" "I" (.int kb)) (FkeyShift : Fld Z h t "com/example/vireo/vireo/index/BlockTable" "keyShift" "I" (.int ks)) (FlowMask : Fld Z h t "com/example/vireo/vireo/index/BlockTable" "lowMask" "I" (.int lm)) (Fbuckets : Fld Z h t "com/example/vireo/vireo/index/BlockTable" "buckets" "[Lcom/example/vireo/vireo/index/BlockTable$Bucket;" (.ref u)) (Au : OwA Z h u (.object "com/example/vireo/vireo/index/BlockTable$Bucket") (List.replicate N .null)) (Vu : OwV Z h u "com/example/vireo/vireo/index/BlockTable$Bucket") (geu : n0 ≤ u) (netu : t ≠ u) :
    OwM l Z (⟨"com/example/vireo/vireo/index/BlockTable", "reserve", "(JI)V"⟩ : MethodName) prog_8_method_3_code 5 none own_rm_own_tr1 4 32776 [] #[(.ref t), (.long f), (.int p)] h n0 (fun r h' => r = none ∧ ∃ c e b L, Keep h h' [u] ∧ (h.size ≤ c ∧ h.size ≤ e ∧ h.size ≤ b ∧ c ≠ e ∧ c ≠ b ∧ e ≠ b) ∧ (q / 64 < L ∧ L ≤ 32768) ∧ Exa Z h' c "com/example/vireo/vireo/index/BlockTable$Bucket" ∧ Fld Z h' c "com/example/vireo/vireo/index/BlockTable$Bucket" "entries" "[J" (.ref e) ∧ Fld Z h' c "com/example/vireo/vireo/index/BlockTable$Bucket" "highs" "[J" (.ref b) ∧ Fld Z h' c "com/example/vireo/vireo/index/BlockTable$Bucket" "size" "I" (.int (0 : Int32)) ∧ OwA Z h' u (.object "com/example/vireo/vireo/index/BlockTable$Bucket") ((List.replicate N .null).set j (.ref c)) ∧ OwA Z h' e .long [(.long (0 : Int64)), (.long (0 : Int64)), (.long (0 : Int64)), (.long (0 : Int64))] ∧ OwA Z h' b .long (own_H L (fun _ => 0))) := by
  refine OwM.of (Ls := #[.val (.ref t), .val (.long f), .second, .val (.int p), .unset]) (by decide +kernel) (fun m => by first | (simp [entryFrame, mkF, argsToLocals, Value.category]; done) | rfl) ?_
  intro _ _ _ _ _ _ _ X
  have K0 : Keep h h [u] := Keep.refl _ _
  have e0 : (0 : Int32).toInt = 0 := rfl
  have e1 : (1 : Int32).toInt = 1 := rfl
  refine X.aloadN (q := 1) own_d_prog_8_method_3_0 rfl rfl rfl ?_
  refine X.lloadN (q := 2) own_d_prog_8_method_3_1 rfl rfl ?_
  refine X.private (a := t) (own_keyc l Z a0 hw h n0 t f ks lm hn0 FkeyShift FlowMask) (hw _ (List.mem_of_getElem? (i := 41) rfl)) (hw _ (List.mem_of_getElem? (i := 42) rfl)) (hw _ (List.mem_of_getElem? (i := 43) rfl)) (hw _ (List.mem_of_getElem? (i := 4) rfl)) (hw _ (List.mem_of_getElem? (i := 5) rfl)) (hw _ (List.mem_of_getElem? (i := 44) rfl)) (by decide) B own_pd2 (argsL := [(.long f)]) (rest := []) rfl rfl rfl (W := 0) (Nat.le_of_eq rfl) rfl (by decide) (by decide) (k' := 0) (n' := 0) rfl rfl (by decide) (by decide) own_d_prog_8_method_3_2 (q := 5) rfl ?_
  rintro _ _ ⟨rfl, rfl⟩
  show X.G h 0 0 5 #[.val (.ref t), .val (.long f), .second, .val (.int p), .unset] [(.int ((XT.ushrL f ks).toInt32 &&& lm))]
  refine X.istore (q := 7) (Ls' := #[.val (.ref t), .val (.long f), .second, .val (.int p), .val (.int ((XT.ushrL f ks).toInt32 &&& lm))]) own_d_prog_8_method_3_5 rfl rfl ?_
  refine X.aloadN (q := 8) own_d_prog_8_method_3_7 rfl rfl rfl ?_
  refine X.getF (q := 11) (host := "") (Or.inl (hw _ (List.mem_of_getElem? (i := 34) rfl))) Via.refl Fbuckets own_d_prog_8_method_3_8 rfl ?_
  refine X.iload (q := 13) own_d_prog_8_method_3_11 rfl rfl ?_
  refine X.aaload (q := 14) (j := j) (v := .null) Au rfl hj (by rw [List.getElem?_replicate, if_pos hjN]) own_d_prog_8_method_3_13 rfl ?_
  refine X.ifnonnullF (q := 17) own_d_prog_8_method_3_14 rfl ?_
  refine X.aloadN (q := 18) own_d_prog_8_method_3_17 rfl rfl rfl ?_
  refine X.getF (q := 21) (host := "") (Or.inl (hw _ (List.mem_of_getElem? (i := 34) rfl))) Via.refl Fbuckets own_d_prog_8_method_3_18 rfl ?_
  refine X.iload (q := 23) own_d_prog_8_method_3_21 rfl rfl ?_
  refine X.newO (q := 26) (k' := 1) (n' := 3) (hw _ (List.mem_of_getElem? (i := 32) rfl)) (hw _ (List.mem_of_getElem? (i := 45) rfl)) (hw _ (List.mem_of_getElem? (i := 46) rfl)) own_d_prog_8_method_3_23 rfl rfl (by decide) (by decide) rfl (fun h1 a2 ga2 Eh1 Ba2 Da2 => ?_)
  have lt_a2 : t < a2 := by have := B.lt; rw [← ga2] at this; exact this
  have lu_a2 : u < a2 := by have := Au.lt; rw [← ga2] at this; exact this
  have B'h1 : Exa Z h1 t "com/example/vireo/vireo/index/BlockTable" := Exa.ext Eh1 B
  have FkeyBits'h1 : Fld Z h1 t "com/example/vireo/vireo/index/BlockTable" "keyBits" "I" (.int kb) := Fld.ext Eh1 FkeyBits
  have FkeyShift'h1 : Fld Z h1 t "com/example/vireo/vireo/index/BlockTable" "keyShift" "I" (.int ks) := Fld.ext Eh1 FkeyShift
  have FlowMask'h1 : Fld Z h1 t "com/example/vireo/vireo/index/BlockTable" "lowMask" "I" (.int lm) := Fld.ext Eh1 FlowMask
  have Fbuckets'h1 : Fld Z h1 t "com/example/vireo/vireo/index/BlockTable" "buckets" "[Lcom/example/vireo/vireo/index/BlockTable$Bucket;" (.ref u) := Fld.ext Eh1 Fbuckets
  have Au'h1 : OwA Z h1 u (.object "com/example/vireo/vireo/index/BlockTable$Bucket") (List.replicate N .null) := OwA.ext (E := Eh1) Au
  have Vu'h1 : OwV Z h1 u "com/example/vireo/vireo/index/BlockTable$Bucket" := OwV.ext (E := Eh1) Vu
  have gea2 : n0 ≤ a2 := by rw [ga2]; exact hn0
  have hsh1 : n0 ≤ h1.size := Nat.le_trans hn0 Eh1.1
  have fra2 : h.size ≤ a2 := by rw [ga2]; exact K0.1
  have Kh1 : Keep h h1 [u] := Keep.ext K0 Eh1
  have Fa2_entries : Fld Z h1 a2 "com/example/vireo/vireo/index/BlockTable$Bucket" "entries" "[J" .null := Da2 (Or.inl (hw _ (List.mem_of_getElem? (i := 52) rfl))) (ty := (.array .long)) (by decide)
  have Fa2_highs : Fld Z h1 a2 "com/example/vireo/vireo/index/BlockTable$Bucket" "highs" "[J" .null := Da2 (Or.inl (hw _ (List.mem_of_getElem? (i := 54) rfl))) (ty := (.array .long)) (by decide)
  have Fa2_size : Fld Z h1 a2 "com/example/vireo/vireo/index/BlockTable$Bucket" "size" "I" (.int (0 : Int32)) := Da2 (Or.inl (hw _ (List.mem_of_getElem? (i := 62) rfl))) (ty := .int) (by decide)
  refine X.dup (q := 27) own_d_prog_8_method_3_26 rfl rfl ?_
  refine X.specialR (a := a2) (own_binit l Z a0 hw h1 n0 a2 hsh1 Ba2 Fa2_entries Fa2_highs Fa2_size gea2) rfl (hw _ (List.mem_of_getElem? (i := 47) rfl)) (hw _ (List.mem_of_getElem? (i := 48) rfl)) (hw _ (List.mem_of_getElem? (i := 46) rfl)) (hw _ (List.mem_of_getElem? (i := 49) rfl)) (by decide) own_pd4 (argsL := []) (rest := [(.ref a2), (.int ((XT.ushrL f ks).toInt32 &&& lm)), (.ref u)]) rfl rfl rfl (W := 3) (Nat.le_of_eq rfl) rfl (by decide) (by decide) (k' := 3) (n' := 8) rfl rfl (by decide) (by decide) own_d_prog_8_method_3_27 (q := 30) rfl ?_
  rintro _ h3 ⟨rfl, e, b, Kh3c, ⟨fre, frb, leb⟩, Ge, Gh, Gs, GAe, GAb⟩
  have B'h3 : Exa Z h3 t "com/example/vireo/vireo/index/BlockTable" := Exa.keep B'h1 Kh3c
  have FkeyBits'h3 : Fld Z h3 t "com/example/vireo/vireo/index/BlockTable" "keyBits" "I" (.int kb) := Fld.keep FkeyBits'h1 Kh3c (ninS (Nat.ne_of_lt lt_a2) nin0)
  have FkeyShift'h3 : Fld Z h3 t "com/example/vireo/vireo/index/BlockTable" "keyShift" "I" (.int ks) := Fld.keep FkeyShift'h1 Kh3c (ninS (Nat.ne_of_lt lt_a2) nin0)
  have FlowMask'h3 : Fld Z h3 t "com/example/vireo/vireo/index/BlockTable" "lowMask" "I" (.int lm) := Fld.keep FlowMask'h1 Kh3c (ninS (Nat.ne_of_lt lt_a2) nin0)
  have Fbuckets'h3 : Fld Z h3 t "com/example/vireo/vireo/index/BlockTable" "buckets" "[Lcom/example/vireo/vireo/index/BlockTable$Bucket;" (.ref u) := Fld.keep Fbuckets'h1 Kh3c (ninS (Nat.ne_of_lt lt_a2) nin0)
  have Au'h3 : OwA Z h3 u (.object "com/example/vireo/vireo/index/BlockTable$Bucket") (List.replicate N .null) := OwA.keep Au'h1 Kh3c (ninS (Nat.ne_of_lt lu_a2) nin0)
  have Vu'h3 : OwV Z h3 u "com/example/vireo/vireo/index/BlockTable$Bucket" := OwV.keep Vu'h1 Kh3c
  have Ba2'h3 : Exa Z h3 a2 "com/example/vireo/vireo/index/BlockTable$Bucket" := Exa.keep Ba2 Kh3c
  have hsh3 : n0 ≤ h3.size := Nat.le_trans hsh1 Kh3c.1
  have Kh3 : Keep h h3 [u] := Keep.trans Kh1 Kh3c (allS (Or.inr fra2) all0)
  show X.G h3 3 8 30 #[.val (.ref t), .val (.long f), .second, .val (.int p), .val (.int ((XT.ushrL f ks).toInt32 &&& lm))] [(.ref a2), (.int ((XT.ushrL f ks).toInt32 &&& lm)), (.ref u)]
  have lt_e : t < e := Nat.lt_of_lt_of_le B'h1.lt fre
  have lu_e : u < e := Nat.lt_of_lt_of_le Au'h1.lt fre
  have la2_e : a2 < e := Nat.lt_of_lt_of_le Ba2.lt fre
  have gee : n0 ≤ e := Nat.le_trans hsh1 fre
  have fr0e : h.size ≤ e := Nat.le_trans Kh1.1 fre
  have lt_b : t < b := Nat.lt_of_lt_of_le B'h1.lt frb
  have lu_b : u < b := Nat.lt_of_lt_of_le Au'h1.lt frb
  have la2_b : a2 < b := Nat.lt_of_lt_of_le Ba2.lt frb
  have geb : n0 ≤ b := Nat.le_trans hsh1 frb
  have fr0b : h.size ≤ b := Nat.le_trans Kh1.1 frb
  refine X.aastore (q := 31) (j := j) Au'h3 Vu'h3 rfl Ba2'h3 (hw _ (List.mem_of_getElem? (i := 55) rfl)) hj (by rw [List.length_replicate]; exact hjN) geu own_d_prog_8_method_3_30 rfl (fun h4 Wh4 Ah4 => ?_)
  have B'h4 : Exa Z h4 t "com/example/vireo/vireo/index/BlockTable" := Exa.wr Wh4 B'h3
  have FkeyBits'h4 : Fld Z h4 t "com/example/vireo/vireo/index/BlockTable" "keyBits" "I" (.int kb) := Fld.other Wh4 FkeyBits'h3 (Or.inl netu)
  have FkeyShift'h4 : Fld Z h4 t "com/example/vireo/vireo/index/BlockTable" "keyShift" "I" (.int ks) := Fld.other Wh4 FkeyShift'h3 (Or.inl netu)
  have FlowMask'h4 : Fld Z h4 t "com/example/vireo/vireo/index/BlockTable" "lowMask" "I" (.int lm) := Fld.other Wh4 FlowMask'h3 (Or.inl netu)
  have Fbuckets'h4 : Fld Z h4 t "com/example/vireo/vireo/index/BlockTable" "buckets" "[Lcom/example/vireo/vireo/index/BlockTable$Bucket;" (.ref u) := Fld.other Wh4 Fbuckets'h3 (Or.inl netu)
  have Vu'h4 : OwV Z h4 u "com/example/vireo/vireo/index/BlockTable$Bucket" := OwV.wr Vu'h3 Wh4
  have Ba2'h4 : Exa Z h4 a2 "com/example/vireo/vireo/index/BlockTable$Bucket" := Exa.wr Wh4 Ba2'h3
  have Ge'h4 : Fld Z h4 a2 "com/example/vireo/vireo/index/BlockTable$Bucket" "entries" "[J" (.ref e) := Fld.other Wh4 Ge (Or.inl (Nat.ne_of_gt lu_a2))
  have Gh'h4 : Fld Z h4 a2 "com/example/vireo/vireo/index/BlockTable$Bucket" "highs" "[J" (.ref b) := Fld.other Wh4 Gh (Or.inl (Nat.ne_of_gt lu_a2))
  have Gs'h4 : Fld Z h4 a2 "com/example/vireo/vireo/index/BlockTable$Bucket" "size" "I" (.int (0 : Int32)) := Fld.other Wh4 Gs (Or.inl (Nat.ne_of_gt lu_a2))
  have GAe'h4 : OwA Z h4 e .long [(.long (0 : Int64)), (.long (0 : Int64)), (.long (0 : Int64)), (.long (0 : Int64))] := OwA.other GAe Wh4 (Nat.ne_of_gt lu_e)
  have GAb'h4 : OwA Z h4 b .long (own_H 1 (fun _ => 0)) := OwA.other GAb Wh4 (Nat.ne_of_gt lu_b)
  have hsh4 : n0 ≤ h4.size := by rw [Wr.size Wh4]; exact hsh3
  have Kh4 : Keep h h4 [u] := Keep.wr Kh3 Wh4 (Or.inl (List.mem_of_getElem? (i := 0) rfl))
  have Ah4_ : OwA Z h4 u (.object "com/example/vireo/vireo/index/BlockTable$Bucket") ((List.replicate N .null).set j (.ref a2)) := Ah4
  refine X.aloadN (q := 32) own_d_prog_8_method_3_31 rfl rfl rfl ?_
  refine X.getF (q := 35) (host := "") (Or.inl (hw _ (List.mem_of_getElem? (i := 34) rfl))) Via.refl Fbuckets'h4 own_d_prog_8_method_3_32 rfl ?_
  refine X.iload (q := 37) own_d_prog_8_method_3_35 rfl rfl ?_
  refine X.aaload (q := 38) (j := j) (v := (.ref a2)) Ah4_ rfl hj (List.getElem?_set_self (by rw [List.length_replicate]; exact hjN)) own_d_prog_8_method_3_37 rfl ?_
  refine X.iloadN (q := 39) own_d_prog_8_method_3_38 rfl rfl ?_
  refine X.aloadN (q := 40) own_d_prog_8_method_3_39 rfl rfl rfl ?_
  refine X.getF (q := 43) (host := "") (Or.inl (hw _ (List.mem_of_getElem? (i := 24) rfl))) Via.refl FkeyBits'h4 own_d_prog_8_method_3_40 rfl ?_
  refine X.iushr (q := 44) own_d_prog_8_method_3_43 rfl ?_
  refine X.nmI (fun hi hhi => ?_)
  rw [← hhi] at hq
  clear hhi
  refine X.virtual (a := a2) (own_bres32768 l Z a0 hw h4 n0 a2 e b hi 0 1 q 1 (fun _ => 0) _ (by omega) (by omega) (by omega) (by omega) rfl rfl (by omega) (fun _ _ => rfl) hsh4 Ba2'h4 Ge'h4 Gh'h4 Gs'h4 GAe'h4 GAb'h4 gea2 (Nat.ne_of_lt la2_e) (Nat.ne_of_lt la2_b)) (hw _ (List.mem_of_getElem? (i := 56) rfl)) (hw _ (List.mem_of_getElem? (i := 57) rfl)) (hw _ (List.mem_of_getElem? (i := 59) rfl)) (hw _ (List.mem_of_getElem? (i := 58) rfl)) (hw _ (List.mem_of_getElem? (i := 46) rfl)) (hw _ (List.mem_of_getElem? (i := 60) rfl)) (by decide) Ba2'h4 own_pd5 (argsL := [(.int hi)]) (rest := []) rfl rfl rfl (W := 0) (Nat.le_of_eq rfl) rfl (by decide) (by decide) (k' := 4) (n' := 32776) rfl rfl (by decide) (by decide) own_d_prog_8_method_3_44 (q := 47) rfl ?_
  rintro _ h5 ⟨rfl, b2, L2, Kh5c, hb2, ⟨hL2a, hL2b, hL2c⟩, He, Hh, Hs, HAb⟩
  have B'h5 : Exa Z h5 t "com/example/vireo/vireo/index/BlockTable" := Exa.keep B'h4 Kh5c
  have FkeyBits'h5 : Fld Z h5 t "com/example/vireo/vireo/index/BlockTable" "keyBits" "I" (.int kb) := Fld.keep FkeyBits'h4 Kh5c (ninS (Nat.ne_of_lt lt_a2) nin0)
  have FkeyShift'h5 : Fld Z h5 t "com/example/vireo/vireo/index/BlockTable" "keyShift" "I" (.int ks) := Fld.keep FkeyShift'h4 Kh5c (ninS (Nat.ne_of_lt lt_a2) nin0)
  have FlowMask'h5 : Fld Z h5 t "com/example/vireo/vireo/index/BlockTable" "lowMask" "I" (.int lm) := Fld.keep FlowMask'h4 Kh5c (ninS (Nat.ne_of_lt lt_a2) nin0)
  have Fbuckets'h5 : Fld Z h5 t "com/example/vireo/vireo/index/BlockTable" "buckets" "[Lcom/example/vireo/vireo/index/BlockTable$Bucket;" (.ref u) := Fld.keep Fbuckets'h4 Kh5c (ninS (Nat.ne_of_lt lt_a2) nin0)
  have Ah4_'h5 : OwA Z h5 u (.object "com/example/vireo/vireo/index/BlockTable$Bucket") ((List.replicate N .null).set j (.ref a2)) := OwA.keep Ah4_ Kh5c (ninS (Nat.ne_of_lt lu_a2) nin0)
  have Vu'h5 : OwV Z h5 u "com/example/vireo/vireo/index/BlockTable$Bucket" := OwV.keep Vu'h4 Kh5c
  have Ba2'h5 : Exa Z h5 a2 "com/example/vireo/vireo/index/BlockTable$Bucket" := Exa.keep Ba2'h4 Kh5c
  have GAe'h5 : OwA Z h5 e .long [(.long (0 : Int64)), (.long (0 : Int64)), (.long (0 : Int64)), (.long (0 : Int64))] := OwA.keep GAe'h4 Kh5c (ninS (Nat.ne_of_gt la2_e) nin0)
  have GAb'h5 : OwA Z h5 b .long (own_H 1 (fun _ => 0)) := OwA.keep GAb'h4 Kh5c (ninS (Nat.ne_of_gt la2_b) nin0)
  have hsh5 : n0 ≤ h5.size := Nat.le_trans hsh4 Kh5c.1
  have Kh5 : Keep h h5 [u] := Keep.trans Kh4 Kh5c (allS (Or.inr fra2) all0)
  show X.G h5 4 32776 47 #[.val (.ref t), .val (.long f), .second, .val (.int p), .val (.int ((XT.ushrL f ks).toInt32 &&& lm))] []
  have net_b2 : t ≠ b2 := own_neo hb2 (Nat.ne_of_lt lt_b) B'h4.lt
  have neu_b2 : u ≠ b2 := own_neo hb2 (Nat.ne_of_lt lu_b) Ah4_.lt
  have nea2_b2 : a2 ≠ b2 := own_neo hb2 (Nat.ne_of_lt la2_b) Ba2'h4.lt
  have nee_b2 : e ≠ b2 := own_neo hb2 (Nat.ne_of_lt leb) GAe'h4.lt
  have geb2 : n0 ≤ b2 := own_geo hb2 geb hsh4
  have fr0b2 : h.size ≤ b2 := own_geo hb2 fr0b Kh4.1
  refine X.retV own_d_prog_8_method_3_47 rfl (by decide) (by decide) ?_
  exact ⟨rfl, a2, e, b2, L2, Kh5, ⟨fra2, fr0e, fr0b2, (Nat.ne_of_lt la2_e), nea2_b2, nee_b2⟩, ⟨hL2a, hL2c⟩, Ba2'h5, He, Hh, Hs, Ah4_'h5, GAe'h5, HAb⟩
def own_rm_own_tr2 : Room := ({ frames := 3, cells := 1, slots := 65537, locals := 70 } : Room)
set_option maxRecDepth 65536 in
set_option maxHeartbeats 40000000 in
theorem own_tr2 (l : Launch) (Z : State) (a0 : Array Value) (hw : ∀ d ∈ tables_1, d.before a0 Z = true) (h : Heap) (n0 : Nat) (t u c e b : Addr) (f : Int64) (p kb ks lm : Int32) (j q L : Nat) (F : Nat → Int64) (us es : List Value) (hq : (XT.ushr p kb).toInt = (q : Int)) (hqb : q < 4194304) (hj : ((XT.ushrL f ks).toInt32 &&& lm).toInt = (j : Int)) (hus : us[j]? = some (.ref c)) (hes : es.length = 4) (hL : L ≤ 32768) (hF : ∀ j, L ≤ j → F j = 0)  (hn0 : n0 ≤ h.size) (B : Exa Z h t "com/example/vireo/vireo/index/BlockTable") (FkeyBits : Fld Z h t "com/example/vireo/vireo/index/BlockTable" "keyBits" "I" (.int kb)) (FkeyShift : Fld Z h t "com/example/vireo/vireo/index/BlockTable" "keyShift" "I" (.int ks)) (FlowMask : Fld Z h t "com/example/vireo/vireo/index/BlockTable" "lowMask" "I" (.int lm)) (Fbuckets : Fld Z h t "com/example/vireo/vireo/index/BlockTable" "buckets" "[Lcom/example/vireo/vireo/index/BlockTable$Bucket;" (.ref u)) (Au : OwA Z h u (.object "com/example/vireo/vireo/index/BlockTable$Bucket") us) (Bc : Exa Z h c "com/example/vireo/vireo/index/BlockTable$Bucket") (Fbe : Fld Z h c "com/example/vireo/vireo/index/BlockTable$Bucket" "entries" "[J" (.ref e)) (Fbh : Fld Z h c "com/example/vireo/vireo/index/BlockTable$Bucket" "highs" "[J" (.ref b)) (Fbs : Fld Z h c "com/example/vireo/vireo/index/BlockTable$Bucket" "size" "I" (.int (1 : Int32))) (Ae : OwA Z h e .long es) (Ab : OwA Z h b .long (own_H L F)) (gec : n0 ≤ c) (netc : t ≠ c) (neuc : u ≠ c) (neec : e ≠ c) (nebc : b ≠ c) (netb : t ≠ b) (neub : u ≠ b) (neeb : e ≠ b) :
    OwM l Z (⟨"com/example/vireo/vireo/index/BlockTable", "reserve", "(JI)V"⟩ : MethodName) prog_8_method_3_code 5 none own_rm_own_tr2 1 65537 [] #[(.ref t), (.long f), (.int p)] h n0 (fun r h' => r = none ∧ ∃ b' L', Keep h h' [c] ∧ (b' = b ∨ h.size ≤ b') ∧ ((q + 1) / 64 < L' ∧ L ≤ L') ∧ Fld Z h' c "com/example/vireo/vireo/index/BlockTable$Bucket" "entries" "[J" (.ref e) ∧ Fld Z h' c "com/example/vireo/vireo/index/BlockTable$Bucket" "highs" "[J" (.ref b') ∧ Fld Z h' c "com/example/vireo/vireo/index/BlockTable$Bucket" "size" "I" (.int (1 : Int32)) ∧ OwA Z h' b' .long (own_H L' F)) := by
  refine OwM.of (Ls := #[.val (.ref t), .val (.long f), .second, .val (.int p), .unset]) (by decide +kernel) (fun m => by first | (simp [entryFrame, mkF, argsToLocals, Value.category]; done) | rfl) ?_
  intro _ _ _ _ _ _ _ X
  have K0 : Keep h h [c] := Keep.refl _ _
  have e0 : (0 : Int32).toInt = 0 := rfl
  have e1 : (1 : Int32).toInt = 1 := rfl
  refine X.aloadN (q := 1) own_d_prog_8_method_3_0 rfl rfl rfl ?_
  refine X.lloadN (q := 2) own_d_prog_8_method_3_1 rfl rfl ?_
  refine X.private (a := t) (own_keyc l Z a0 hw h n0 t f ks lm hn0 FkeyShift FlowMask) (hw _ (List.mem_of_getElem? (i := 41) rfl)) (hw _ (List.mem_of_getElem? (i := 42) rfl)) (hw _ (List.mem_of_getElem? (i := 43) rfl)) (hw _ (List.mem_of_getElem? (i := 4) rfl)) (hw _ (List.mem_of_getElem? (i := 5) rfl)) (hw _ (List.mem_of_getElem? (i := 44) rfl)) (by decide) B own_pd2 (argsL := [(.long f)]) (rest := []) rfl rfl rfl (W := 0) (Nat.le_of_eq rfl) rfl (by decide) (by decide) (k' := 0) (n' := 0) rfl rfl (by decide) (by decide) own_d_prog_8_method_3_2 (q := 5) rfl ?_
  rintro _ _ ⟨rfl, rfl⟩
  show X.G h 0 0 5 #[.val (.ref t), .val (.long f), .second, .val (.int p), .unset] [(.int ((XT.ushrL f ks).toInt32 &&& lm))]
  refine X.istore (q := 7) (Ls' := #[.val (.ref t), .val (.long f), .second, .val (.int p), .val (.int ((XT.ushrL f ks).toInt32 &&& lm))]) own_d_prog_8_method_3_5 rfl rfl ?_
  refine X.aloadN (q := 8) own_d_prog_8_method_3_7 rfl rfl rfl ?_
  refine X.getF (q := 11) (host := "") (Or.inl (hw _ (List.mem_of_getElem? (i := 34) rfl))) Via.refl Fbuckets own_d_prog_8_method_3_8 rfl ?_
  refine X.iload (q := 13) own_d_prog_8_method_3_11 rfl rfl ?_
  refine X.aaload (q := 14) (j := j) (v := (.ref c)) Au rfl hj hus own_d_prog_8_method_3_13 rfl ?_
  refine X.ifnonnullT (q' := 31) own_d_prog_8_method_3_14 (by decide) ?_
  refine X.aloadN (q := 32) own_d_prog_8_method_3_31 rfl rfl rfl ?_
  refine X.getF (q := 35) (host := "") (Or.inl (hw _ (List.mem_of_getElem? (i := 34) rfl))) Via.refl Fbuckets own_d_prog_8_method_3_32 rfl ?_
  refine X.iload (q := 37) own_d_prog_8_method_3_35 rfl rfl ?_
  refine X.aaload (q := 38) (j := j) (v := (.ref c)) Au rfl hj hus own_d_prog_8_method_3_37 rfl ?_
  refine X.iloadN (q := 39) own_d_prog_8_method_3_38 rfl rfl ?_
  refine X.aloadN (q := 40) own_d_prog_8_method_3_39 rfl rfl rfl ?_
  refine X.getF (q := 43) (host := "") (Or.inl (hw _ (List.mem_of_getElem? (i := 24) rfl))) Via.refl FkeyBits own_d_prog_8_method_3_40 rfl ?_
  refine X.iushr (q := 44) own_d_prog_8_method_3_43 rfl ?_
  refine X.nmI (fun hi hhi => ?_)
  rw [← hhi] at hq
  clear hhi
  refine X.virtual (a := c) (own_bres65537 l Z a0 hw h n0 c e b hi 1 (Int32.ofNat L) (q + 1) L F _ (by omega) (by omega) (by omega) (by omega) hes (Int32.toInt_ofNat_of_lt (by omega)) (by omega) hF hn0 Bc Fbe Fbh Fbs Ae Ab gec (Ne.symm neec) (Ne.symm nebc)) (hw _ (List.mem_of_getElem? (i := 56) rfl)) (hw _ (List.mem_of_getElem? (i := 57) rfl)) (hw _ (List.mem_of_getElem? (i := 59) rfl)) (hw _ (List.mem_of_getElem? (i := 58) rfl)) (hw _ (List.mem_of_getElem? (i := 46) rfl)) (hw _ (List.mem_of_getElem? (i := 60) rfl)) (by decide) Bc own_pd5 (argsL := [(.int hi)]) (rest := []) rfl rfl rfl (W := 0) (Nat.le_of_eq rfl) rfl (by decide) (by decide) (k' := 1) (n' := 65537) rfl rfl (by decide) (by decide) own_d_prog_8_method_3_44 (q := 47) rfl ?_
  rintro _ h1 ⟨rfl, b2, L2, Kh1c, hb2, ⟨hL2a, hL2b, hL2c⟩, He, Hh, Hs, HAb⟩
  have B'h1 : Exa Z h1 t "com/example/vireo/vireo/index/BlockTable" := Exa.keep B Kh1c
  have FkeyBits'h1 : Fld Z h1 t "com/example/vireo/vireo/index/BlockTable" "keyBits" "I" (.int kb) := Fld.keep FkeyBits Kh1c (ninS netc nin0)
  have FkeyShift'h1 : Fld Z h1 t "com/example/vireo/vireo/index/BlockTable" "keyShift" "I" (.int ks) := Fld.keep FkeyShift Kh1c (ninS netc nin0)
  have FlowMask'h1 : Fld Z h1 t "com/example/vireo/vireo/index/BlockTable" "lowMask" "I" (.int lm) := Fld.keep FlowMask Kh1c (ninS netc nin0)
  have Fbuckets'h1 : Fld Z h1 t "com/example/vireo/vireo/index/BlockTable" "buckets" "[Lcom/example/vireo/vireo/index/BlockTable$Bucket;" (.ref u) := Fld.keep Fbuckets Kh1c (ninS netc nin0)
  have Au'h1 : OwA Z h1 u (.object "com/example/vireo/vireo/index/BlockTable$Bucket") us := OwA.keep Au Kh1c (ninS neuc nin0)
  have Bc'h1 : Exa Z h1 c "com/example/vireo/vireo/index/BlockTable$Bucket" := Exa.keep Bc Kh1c
  have Ae'h1 : OwA Z h1 e .long es := OwA.keep Ae Kh1c (ninS neec nin0)
  have Ab'h1 : OwA Z h1 b .long (own_H L F) := OwA.keep Ab Kh1c (ninS nebc nin0)
  have hsh1 : n0 ≤ h1.size := Nat.le_trans hn0 Kh1c.1
  have Kh1 : Keep h h1 [c] := Keep.trans K0 Kh1c (allS (Or.inl (List.mem_of_getElem? (i := 0) rfl)) all0)
  show X.G h1 1 65537 47 #[.val (.ref t), .val (.long f), .second, .val (.int p), .val (.int ((XT.ushrL f ks).toInt32 &&& lm))] []
  have net_b2 : t ≠ b2 := own_neo hb2 netb B.lt
  have neu_b2 : u ≠ b2 := own_neo hb2 neub Au.lt
  have nec_b2 : c ≠ b2 := own_neo hb2 (Ne.symm nebc) Bc.lt
  have nee_b2 : e ≠ b2 := own_neo hb2 neeb Ae.lt
  refine X.retV own_d_prog_8_method_3_47 rfl (by decide) (by decide) ?_
  exact ⟨rfl, b2, L2, Kh1, hb2, ⟨hL2a, hL2b⟩, He, Hh, Hs, HAb⟩
theorem own_d_prog_8_method_4_0 : decode prog_8_method_4_code 0 = .ok (.lload_n 1, 1) := by decide +kernel
theorem own_d_prog_8_method_4_1 : decode prog_8_method_4_code 1 = .ok (.aload_n 0, 1) := by decide +kernel
theorem own_d_prog_8_method_4_2 : decode prog_8_method_4_code 2 = .ok (.getfield 43, 3) := by decide +kernel
theorem own_d_prog_8_method_4_5 : decode prog_8_method_4_code 5 = .ok (.ldc2_w 9, 3) := by decide +kernel
theorem own_d_prog_8_method_4_8 : decode prog_8_method_4_code 8 = .ok (.lxor, 1) := by decide +kernel
theorem own_d_prog_8_method_4_9 : decode prog_8_method_4_code 9 = .ok (.land, 1) := by decide +kernel
theorem own_d_prog_8_method_4_10 : decode prog_8_method_4_code 10 = .ok (.iload_n 3, 1) := by decide +kernel
theorem own_d_prog_8_method_4_11 : decode prog_8_method_4_code 11 = .ok (.aload_n 0, 1) := by decide +kernel
theorem own_d_prog_8_method_4_12 : decode prog_8_method_4_code 12 = .ok (.getfield 40, 3) := by decide +kernel
theorem own_d_prog_8_method_4_15 : decode prog_8_method_4_code 15 = .ok (.iand, 1) := by decide +kernel
theorem own_d_prog_8_method_4_16 : decode prog_8_method_4_code 16 = .ok (.i2l, 1) := by decide +kernel
theorem own_d_prog_8_method_4_17 : decode prog_8_method_4_code 17 = .ok (.aload_n 0, 1) := by decide +kernel
theorem own_d_prog_8_method_4_18 : decode prog_8_method_4_code 18 = .ok (.getfield 37, 3) := by decide +kernel
theorem own_d_prog_8_method_4_21 : decode prog_8_method_4_code 21 = .ok (.lshl, 1) := by decide +kernel
theorem own_d_prog_8_method_4_22 : decode prog_8_method_4_code 22 = .ok (.lor, 1) := by decide +kernel
theorem own_d_prog_8_method_4_23 : decode prog_8_method_4_code 23 = .ok (.lstore 4, 2) := by decide +kernel
theorem own_d_prog_8_method_4_25 : decode prog_8_method_4_code 25 = .ok (.aload_n 0, 1) := by decide +kernel
theorem own_d_prog_8_method_4_26 : decode prog_8_method_4_code 26 = .ok (.getfield 48, 3) := by decide +kernel
theorem own_d_prog_8_method_4_29 : decode prog_8_method_4_code 29 = .ok (.aload_n 0, 1) := by decide +kernel
theorem own_d_prog_8_method_4_30 : decode prog_8_method_4_code 30 = .ok (.lload_n 1, 1) := by decide +kernel
theorem own_d_prog_8_method_4_31 : decode prog_8_method_4_code 31 = .ok (.invokevirtual 52, 3) := by decide +kernel
theorem own_d_prog_8_method_4_34 : decode prog_8_method_4_code 34 = .ok (.aaload, 1) := by decide +kernel
theorem own_d_prog_8_method_4_35 : decode prog_8_method_4_code 35 = .ok (.lload 4, 2) := by decide +kernel
theorem own_d_prog_8_method_4_37 : decode prog_8_method_4_code 37 = .ok (.iload_n 3, 1) := by decide +kernel
theorem own_d_prog_8_method_4_38 : decode prog_8_method_4_code 38 = .ok (.aload_n 0, 1) := by decide +kernel
theorem own_d_prog_8_method_4_39 : decode prog_8_method_4_code 39 = .ok (.getfield 33, 3) := by decide +kernel
theorem own_d_prog_8_method_4_42 : decode prog_8_method_4_code 42 = .ok (.iushr, 1) := by decide +kernel
theorem own_d_prog_8_method_4_43 : decode prog_8_method_4_code 43 = .ok (.invokevirtual 61, 3) := by decide +kernel
theorem own_pd6 : parseMethodDescriptor "(JI)V" = some ⟨[.long, .int], none⟩ := by decide +kernel
theorem own_d_prog_8_method_4_46 : decode prog_8_method_4_code 46 = .ok (.return_, 1) := by decide +kernel
def own_rm_own_put : Room := ({ frames := 1, cells := 0, slots := 0, locals := 20 } : Room)
set_option maxRecDepth 65536 in
set_option maxHeartbeats 40000000 in
theorem own_put (l : Launch) (Z : State) (a0 : Array Value) (hw : ∀ d ∈ tables_1, d.before a0 Z = true) (h : Heap) (n0 : Nat) (t u c e b : Addr) (f km x : Int64) (p kb ks lm sz : Int32) (j q H L sn : Nat) (F : Nat → Int64) (us es : List Value) (hx : x = ((f &&& (km ^^^ (-1 : Int64))) ||| ((p &&& lm).toInt64 <<< (ks.toInt64 &&& 63)))) (hq : (XT.ushr p kb).toInt = (q : Int)) (hH : q + sn = H) (hsz : sz.toInt = (sn : Int)) (hHb : H < 8388608) (hsn : sn < 4) (hL : H / 64 < L) (hj : ((XT.ushrL f ks).toInt32 &&& lm).toInt = (j : Int)) (hus : us[j]? = some (.ref c)) (hes : es.length = 4)  (hn0 : n0 ≤ h.size) (B : Exa Z h t "com/example/vireo/vireo/index/BlockTable") (FkeyBits : Fld Z h t "com/example/vireo/vireo/index/BlockTable" "keyBits" "I" (.int kb)) (FkeyShift : Fld Z h t "com/example/vireo/vireo/index/BlockTable" "keyShift" "I" (.int ks)) (FlowMask : Fld Z h t "com/example/vireo/vireo/index/BlockTable" "lowMask" "I" (.int lm)) (FkeyMask : Fld Z h t "com/example/vireo/vireo/index/BlockTable" "keyMask" "J" (.long km)) (Fbuckets : Fld Z h t "com/example/vireo/vireo/index/BlockTable" "buckets" "[Lcom/example/vireo/vireo/index/BlockTable$Bucket;" (.ref u)) (Au : OwA Z h u (.object "com/example/vireo/vireo/index/BlockTable$Bucket") us) (Bc : Exa Z h c "com/example/vireo/vireo/index/BlockTable$Bucket") (Fbe : Fld Z h c "com/example/vireo/vireo/index/BlockTable$Bucket" "entries" "[J" (.ref e)) (Fbh : Fld Z h c "com/example/vireo/vireo/index/BlockTable$Bucket" "highs" "[J" (.ref b)) (Fbs : Fld Z h c "com/example/vireo/vireo/index/BlockTable$Bucket" "size" "I" (.int sz)) (Ae : OwA Z h e .long es) (Ab : OwA Z h b .long (own_H L F)) (gec : n0 ≤ c) (gee : n0 ≤ e) (geb : n0 ≤ b) (netc : t ≠ c) (nete : t ≠ e) (netb : t ≠ b) (neuc : u ≠ c) (neue : u ≠ e) (neub : u ≠ b) (nece : c ≠ e) (necb : c ≠ b) (neeb : e ≠ b) :
    OwM l Z (⟨"com/example/vireo/vireo/index/BlockTable", "put", "(JI)V"⟩ : MethodName) prog_8_method_4_code 6 none own_rm_own_put 0 0 [] #[(.ref t), (.long f), (.int p)] h n0 (fun r h' => r = none ∧ Keep h h' [c, e, b] ∧ Fld Z h' c "com/example/vireo/vireo/index/BlockTable$Bucket" "entries" "[J" (.ref e) ∧ Fld Z h' c "com/example/vireo/vireo/index/BlockTable$Bucket" "highs" "[J" (.ref b) ∧ Fld Z h' c "com/example/vireo/vireo/index/BlockTable$Bucket" "size" "I" (.int (sz + (1 : Int32))) ∧ OwA Z h' e .long (es.set sn (.long x)) ∧ OwA Z h' b .long (own_H L (own_up F H))) := by
  refine OwM.of (Ls := #[.val (.ref t), .val (.long f), .second, .val (.int p), .unset, .unset]) (by decide +kernel) (fun m => by first | (simp [entryFrame, mkF, argsToLocals, Value.category]; done) | rfl) ?_
  intro _ _ _ _ _ _ _ X
  have K0 : Keep h h [c, e, b] := Keep.refl _ _
  have e0 : (0 : Int32).toInt = 0 := rfl
  have e1 : (1 : Int32).toInt = 1 := rfl
  refine X.lloadN (q := 1) own_d_prog_8_method_4_0 rfl rfl ?_
  refine X.aloadN (q := 2) own_d_prog_8_method_4_1 rfl rfl rfl ?_
  refine X.getF (q := 5) (host := "") (Or.inl (hw _ (List.mem_of_getElem? (i := 30) rfl))) Via.refl FkeyMask own_d_prog_8_method_4_2 rfl ?_
  refine X.ldc2_w (q := 8) (v := (-1 : Int64)) (hw _ (List.mem_of_getElem? (i := 17) rfl)) own_d_prog_8_method_4_5 rfl ?_
  refine X.lxor (q := 9) own_d_prog_8_method_4_8 rfl ?_
  refine X.land (q := 10) own_d_prog_8_method_4_9 rfl ?_
  refine X.iloadN (q := 11) own_d_prog_8_method_4_10 rfl rfl ?_
  refine X.aloadN (q := 12) own_d_prog_8_method_4_11 rfl rfl rfl ?_
  refine X.getF (q := 15) (host := "") (Or.inl (hw _ (List.mem_of_getElem? (i := 28) rfl))) Via.refl FlowMask own_d_prog_8_method_4_12 rfl ?_
  refine X.iand (q := 16) own_d_prog_8_method_4_15 rfl ?_
  refine X.i2l (q := 17) own_d_prog_8_method_4_16 rfl ?_
  refine X.aloadN (q := 18) own_d_prog_8_method_4_17 rfl rfl rfl ?_
  refine X.getF (q := 21) (host := "") (Or.inl (hw _ (List.mem_of_getElem? (i := 26) rfl))) Via.refl FkeyShift own_d_prog_8_method_4_18 rfl ?_
  refine X.lshl (q := 22) own_d_prog_8_method_4_21 rfl ?_
  refine X.lor (q := 23) own_d_prog_8_method_4_22 rfl ?_
  refine X.foldJ (v := x) (hx.symm) ?_
  refine X.lstore (q := 25) (Ls' := #[.val (.ref t), .val (.long f), .second, .val (.int p), .val (.long x), .second]) own_d_prog_8_method_4_23 rfl rfl ?_
  refine X.aloadN (q := 26) own_d_prog_8_method_4_25 rfl rfl rfl ?_
  refine X.getF (q := 29) (host := "") (Or.inl (hw _ (List.mem_of_getElem? (i := 34) rfl))) Via.refl Fbuckets own_d_prog_8_method_4_26 rfl ?_
  refine X.aloadN (q := 30) own_d_prog_8_method_4_29 rfl rfl rfl ?_
  refine X.lloadN (q := 31) own_d_prog_8_method_4_30 rfl rfl ?_
  refine X.private (a := t) (own_keyc l Z a0 hw h n0 t f ks lm hn0 FkeyShift FlowMask) (hw _ (List.mem_of_getElem? (i := 41) rfl)) (hw _ (List.mem_of_getElem? (i := 42) rfl)) (hw _ (List.mem_of_getElem? (i := 43) rfl)) (hw _ (List.mem_of_getElem? (i := 4) rfl)) (hw _ (List.mem_of_getElem? (i := 5) rfl)) (hw _ (List.mem_of_getElem? (i := 44) rfl)) (by decide) B own_pd2 (argsL := [(.long f)]) (rest := [(.ref u)]) rfl rfl rfl (W := 1) (Nat.le_of_eq rfl) rfl (by decide) (by decide) (k' := 0) (n' := 0) rfl rfl (by decide) (by decide) own_d_prog_8_method_4_31 (q := 34) rfl ?_
  rintro _ _ ⟨rfl, rfl⟩
  show X.G h 0 0 34 #[.val (.ref t), .val (.long f), .second, .val (.int p), .val (.long x), .second] [(.int ((XT.ushrL f ks).toInt32 &&& lm)), (.ref u)]
  refine X.aaload (q := 35) (j := j) (v := (.ref c)) Au rfl hj hus own_d_prog_8_method_4_34 rfl ?_
  refine X.lload (q := 37) own_d_prog_8_method_4_35 rfl rfl ?_
  refine X.iloadN (q := 38) own_d_prog_8_method_4_37 rfl rfl ?_
  refine X.aloadN (q := 39) own_d_prog_8_method_4_38 rfl rfl rfl ?_
  refine X.getF (q := 42) (host := "") (Or.inl (hw _ (List.mem_of_getElem? (i := 24) rfl))) Via.refl FkeyBits own_d_prog_8_method_4_39 rfl ?_
  refine X.iushr (q := 43) own_d_prog_8_method_4_42 rfl ?_
  refine X.nmI (fun hi hhi => ?_)
  rw [← hhi] at hq
  clear hhi
  refine X.virtual (a := c) (own_badd l Z a0 hw h n0 c e b x hi sz H L sn F es (by omega) (by omega) hsz hHb hes hsn hL hn0 Bc Fbe Fbh Fbs Ae Ab gec gee geb nece necb neeb) (hw _ (List.mem_of_getElem? (i := 68) rfl)) (hw _ (List.mem_of_getElem? (i := 69) rfl)) (hw _ (List.mem_of_getElem? (i := 71) rfl)) (hw _ (List.mem_of_getElem? (i := 70) rfl)) (hw _ (List.mem_of_getElem? (i := 46) rfl)) (hw _ (List.mem_of_getElem? (i := 72) rfl)) (by decide) Bc own_pd6 (argsL := [(.long x), (.int hi)]) (rest := []) rfl rfl rfl (W := 0) (Nat.le_of_eq rfl) rfl (by decide) (by decide) (k' := 0) (n' := 0) rfl rfl (by decide) (by decide) own_d_prog_8_method_4_43 (q := 46) rfl ?_
  rintro _ h1 ⟨rfl, Kh1c, He, Hh, Hs, HAe, HAb⟩
  have B'h1 : Exa Z h1 t "com/example/vireo/vireo/index/BlockTable" := Exa.keep B Kh1c
  have FkeyBits'h1 : Fld Z h1 t "com/example/vireo/vireo/index/BlockTable" "keyBits" "I" (.int kb) := Fld.keep FkeyBits Kh1c (ninS netc (ninS nete (ninS netb nin0)))
  have FkeyShift'h1 : Fld Z h1 t "com/example/vireo/vireo/index/BlockTable" "keyShift" "I" (.int ks) := Fld.keep FkeyShift Kh1c (ninS netc (ninS nete (ninS netb nin0)))
  have FlowMask'h1 : Fld Z h1 t "com/example/vireo/vireo/index/BlockTable" "lowMask" "I" (.int lm) := Fld.keep FlowMask Kh1c (ninS netc (ninS nete (ninS netb nin0)))
  have FkeyMask'h1 : Fld Z h1 t "com/example/vireo/vireo/index/BlockTable" "keyMask" "J" (.long km) := Fld.keep FkeyMask Kh1c (ninS netc (ninS nete (ninS netb nin0)))
  have Fbuckets'h1 : Fld Z h1 t "com/example/vireo/vireo/index/BlockTable" "buckets" "[Lcom/example/vireo/vireo/index/BlockTable$Bucket;" (.ref u) := Fld.keep Fbuckets Kh1c (ninS netc (ninS nete (ninS netb nin0)))
  have Au'h1 : OwA Z h1 u (.object "com/example/vireo/vireo/index/BlockTable$Bucket") us := OwA.keep Au Kh1c (ninS neuc (ninS neue (ninS neub nin0)))
  have Bc'h1 : Exa Z h1 c "com/example/vireo/vireo/index/BlockTable$Bucket" := Exa.keep Bc Kh1c
  have hsh1 : n0 ≤ h1.size := Nat.le_trans hn0 Kh1c.1
  have Kh1 : Keep h h1 [c, e, b] := Keep.trans K0 Kh1c (allS (Or.inl (List.mem_of_getElem? (i := 0) rfl)) (allS (Or.inl (List.mem_of_getElem? (i := 1) rfl)) (allS (Or.inl (List.mem_of_getElem? (i := 2) rfl)) all0)))
  show X.G h1 0 0 46 #[.val (.ref t), .val (.long f), .second, .val (.int p), .val (.long x), .second] []
  refine X.retV own_d_prog_8_method_4_46 rfl (by decide) (by decide) ?_
  exact ⟨rfl, Kh1, He, Hh, Hs, HAe, HAb⟩
theorem own_d_prog_10_method_1_0 : decode prog_10_method_1_code 0 = .ok (.aload_n 0, 1) := by decide +kernel
theorem own_d_prog_10_method_1_1 : decode prog_10_method_1_code 1 = .ok (.invokespecial 3, 3) := by decide +kernel
theorem own_d_prog_10_method_1_4 : decode prog_10_method_1_code 4 = .ok (.aload_n 0, 1) := by decide +kernel
theorem own_d_prog_10_method_1_5 : decode prog_10_method_1_code 5 = .ok (.iconst 4, 1) := by decide +kernel
theorem own_d_prog_10_method_1_6 : decode prog_10_method_1_code 6 = .ok (.newarray .int, 2) := by decide +kernel
theorem own_d_prog_10_method_1_8 : decode prog_10_method_1_code 8 = .ok (.putfield 9, 3) := by decide +kernel
theorem own_d_prog_10_method_1_11 : decode prog_10_method_1_code 11 = .ok (.aload_n 0, 1) := by decide +kernel
theorem own_d_prog_10_method_1_12 : decode prog_10_method_1_code 12 = .ok (.iconst 4, 1) := by decide +kernel
theorem own_d_prog_10_method_1_13 : decode prog_10_method_1_code 13 = .ok (.newarray .long, 2) := by decide +kernel
theorem own_d_prog_10_method_1_15 : decode prog_10_method_1_code 15 = .ok (.putfield 15, 3) := by decide +kernel
theorem own_d_prog_10_method_1_18 : decode prog_10_method_1_code 18 = .ok (.return_, 1) := by decide +kernel
def own_rm_own_hinit : Room := ({ frames := 1, cells := 2, slots := 8, locals := 12 } : Room)
set_option maxRecDepth 65536 in
set_option maxHeartbeats 40000000 in
theorem own_hinit (l : Launch) (Z : State) (a0 : Array Value) (hw : ∀ d ∈ tables_1, d.before a0 Z = true) (h : Heap) (n0 : Nat) (g : Addr)  (hn0 : n0 ≤ h.size) (B : Exa Z h g "com/example/vireo/vireo/index/BlockTable$Hits") (Fp : Fld Z h g "com/example/vireo/vireo/index/BlockTable$Hits" "positions" "[I" .null) (Ff : Fld Z h g "com/example/vireo/vireo/index/BlockTable$Hits" "fingerprints" "[J" .null) (Fc : Fld Z h g "com/example/vireo/vireo/index/BlockTable$Hits" "count" "I" (.int (0 : Int32))) (geg : n0 ≤ g) :
    OwM l Z (⟨"com/example/vireo/vireo/index/BlockTable$Hits", "<init>", "()V"⟩ : MethodName) prog_10_method_1_code 1 none own_rm_own_hinit 2 8 [] #[(.ref g)] h n0 (fun r h' => r = none ∧ ∃ p f, Keep h h' [g] ∧ (h.size ≤ p ∧ h.size ≤ f ∧ p < f) ∧ Fld Z h' g "com/example/vireo/vireo/index/BlockTable$Hits" "positions" "[I" (.ref p) ∧ Fld Z h' g "com/example/vireo/vireo/index/BlockTable$Hits" "fingerprints" "[J" (.ref f) ∧ Fld Z h' g "com/example/vireo/vireo/index/BlockTable$Hits" "count" "I" (.int (0 : Int32)) ∧ OwA Z h' p .int [(.int (0 : Int32)), (.int (0 : Int32)), (.int (0 : Int32)), (.int (0 : Int32))] ∧ OwA Z h' f .long [(.long (0 : Int64)), (.long (0 : Int64)), (.long (0 : Int64)), (.long (0 : Int64))]) := by
  refine OwM.of (Ls := #[.val (.ref g)]) (by decide +kernel) (fun m => by first | (simp [entryFrame, mkF, argsToLocals, Value.category]; done) | rfl) ?_
  intro _ _ _ _ _ _ _ X
  have K0 : Keep h h [g] := Keep.refl _ _
  refine X.aloadN (q := 1) own_d_prog_10_method_1_0 rfl rfl rfl ?_
  refine X.initO (q := 4) (W := 0) (hw _ (List.mem_of_getElem? (i := 79) rfl)) (hw _ (List.mem_of_getElem? (i := 11) rfl)) (hw _ (List.mem_of_getElem? (i := 12) rfl)) own_d_prog_10_method_1_1 rfl (by decide) (Nat.le_of_eq rfl) (by decide) rfl ?_
  refine X.aloadN (q := 5) own_d_prog_10_method_1_4 rfl rfl rfl ?_
  refine X.iconst (q := 6) (4 : Int32) own_d_prog_10_method_1_5 (by decide) rfl ?_
  refine X.newP (q := 8) (ty := .int) (N := 4) (cap := 4) (k' := 1) (n' := 4) (hw _ (List.mem_of_getElem? (i := 80) rfl)) own_d_prog_10_method_1_6 rfl rfl (Nat.le_refl _) (by decide) rfl rfl (by decide) (by decide) rfl (fun h1 a2 ga2 Eh1 Aa2 => ?_)
  have lg_a2 : g < a2 := by have := B.lt; rw [← ga2] at this; exact this
  have B'h1 : Exa Z h1 g "com/example/vireo/vireo/index/BlockTable$Hits" := Exa.ext Eh1 B
  have Fp'h1 : Fld Z h1 g "com/example/vireo/vireo/index/BlockTable$Hits" "positions" "[I" .null := Fld.ext Eh1 Fp
  have Ff'h1 : Fld Z h1 g "com/example/vireo/vireo/index/BlockTable$Hits" "fingerprints" "[J" .null := Fld.ext Eh1 Ff
  have Fc'h1 : Fld Z h1 g "com/example/vireo/vireo/index/BlockTable$Hits" "count" "I" (.int (0 : Int32)) := Fld.ext Eh1 Fc
  have gea2 : n0 ≤ a2 := by rw [ga2]; exact hn0
  have hsh1 : n0 ≤ h1.size := Nat.le_trans hn0 Eh1.1
  have fra2 : h.size ≤ a2 := by rw [ga2]; exact K0.1
  have Kh1 : Keep h h1 [g] := Keep.ext K0 Eh1
  have Aa2 : OwA Z h1 a2 .int [(.int (0 : Int32)), (.int (0 : Int32)), (.int (0 : Int32)), (.int (0 : Int32))] := Aa2
  refine X.putF (q := 11) (host := "") (Or.inl (hw _ (List.mem_of_getElem? (i := 81) rfl))) Via.refl Fp'h1 B'h1 (Or.inl (hw _ (List.mem_of_getElem? (i := 82) rfl))) (hw _ (List.mem_of_getElem? (i := 74) rfl)) (ty := (.array .int)) (by decide) rfl rfl geg own_d_prog_10_method_1_8 rfl (fun h3 Wh3 => ?_)
  have B'h3 : Exa Z h3 g "com/example/vireo/vireo/index/BlockTable$Hits" := Exa.wr Wh3 B'h1
  have Fp'h3 : Fld Z h3 g "com/example/vireo/vireo/index/BlockTable$Hits" "positions" "[I" (.ref a2) := Fld.same Wh3 Fp'h1
  have Ff'h3 : Fld Z h3 g "com/example/vireo/vireo/index/BlockTable$Hits" "fingerprints" "[J" .null := Fld.other Wh3 Ff'h1 (Or.inr (slot_ne (Or.inl (hw _ (List.mem_of_getElem? (i := 84) rfl))) (Or.inl (hw _ (List.mem_of_getElem? (i := 82) rfl))) (by decide) (ht := (by decide : _ = some (.array .long))) (ht' := (by decide : _ = some (.array .int)))))
  have Fc'h3 : Fld Z h3 g "com/example/vireo/vireo/index/BlockTable$Hits" "count" "I" (.int (0 : Int32)) := Fld.other Wh3 Fc'h1 (Or.inr (slot_ne (Or.inl (hw _ (List.mem_of_getElem? (i := 121) rfl))) (Or.inl (hw _ (List.mem_of_getElem? (i := 82) rfl))) (by decide) (ht := (by decide : _ = some .int)) (ht' := (by decide : _ = some (.array .int)))))
  have Aa2'h3 : OwA Z h3 a2 .int [(.int (0 : Int32)), (.int (0 : Int32)), (.int (0 : Int32)), (.int (0 : Int32))] := OwA.other Aa2 Wh3 (Nat.ne_of_gt lg_a2)
  have hsh3 : n0 ≤ h3.size := by rw [Wr.size Wh3]; exact hsh1
  have Kh3 : Keep h h3 [g] := Keep.wr Kh1 Wh3 (Or.inl (List.mem_of_getElem? (i := 0) rfl))
  refine X.aloadN (q := 12) own_d_prog_10_method_1_11 rfl rfl rfl ?_
  refine X.iconst (q := 13) (4 : Int32) own_d_prog_10_method_1_12 (by decide) rfl ?_
  refine X.newP (q := 15) (ty := .long) (N := 4) (cap := 4) (k' := 2) (n' := 8) (hw _ (List.mem_of_getElem? (i := 6) rfl)) own_d_prog_10_method_1_13 rfl rfl (Nat.le_refl _) (by decide) rfl rfl (by decide) (by decide) rfl (fun h4 a5 ga5 Eh4 Aa5 => ?_)
  have lg_a5 : g < a5 := by have := B'h3.lt; rw [← ga5] at this; exact this
  have la2_a5 : a2 < a5 := by have := Aa2'h3.lt; rw [← ga5] at this; exact this
  have B'h4 : Exa Z h4 g "com/example/vireo/vireo/index/BlockTable$Hits" := Exa.ext Eh4 B'h3
  have Fp'h4 : Fld Z h4 g "com/example/vireo/vireo/index/BlockTable$Hits" "positions" "[I" (.ref a2) := Fld.ext Eh4 Fp'h3
  have Ff'h4 : Fld Z h4 g "com/example/vireo/vireo/index/BlockTable$Hits" "fingerprints" "[J" .null := Fld.ext Eh4 Ff'h3
  have Fc'h4 : Fld Z h4 g "com/example/vireo/vireo/index/BlockTable$Hits" "count" "I" (.int (0 : Int32)) := Fld.ext Eh4 Fc'h3
  have Aa2'h4 : OwA Z h4 a2 .int [(.int (0 : Int32)), (.int (0 : Int32)), (.int (0 : Int32)), (.int (0 : Int32))] := OwA.ext (E := Eh4) Aa2'h3
  have gea5 : n0 ≤ a5 := by rw [ga5]; exact hsh3
  have hsh4 : n0 ≤ h4.size := Nat.le_trans hsh3 Eh4.1
  have fra5 : h.size ≤ a5 := by rw [ga5]; exact Kh3.1
  have Kh4 : Keep h h4 [g] := Keep.ext Kh3 Eh4
  have Aa5 : OwA Z h4 a5 .long [(.long (0 : Int64)), (.long (0 : Int64)), (.long (0 : Int64)), (.long (0 : Int64))] := Aa5
  refine X.putF (q := 18) (host := "") (Or.inl (hw _ (List.mem_of_getElem? (i := 83) rfl))) Via.refl Ff'h4 B'h4 (Or.inl (hw _ (List.mem_of_getElem? (i := 84) rfl))) (hw _ (List.mem_of_getElem? (i := 74) rfl)) (ty := (.array .long)) (by decide) rfl rfl geg own_d_prog_10_method_1_15 rfl (fun h6 Wh6 => ?_)
  have B'h6 : Exa Z h6 g "com/example/vireo/vireo/index/BlockTable$Hits" := Exa.wr Wh6 B'h4
  have Fp'h6 : Fld Z h6 g "com/example/vireo/vireo/index/BlockTable$Hits" "positions" "[I" (.ref a2) := Fld.other Wh6 Fp'h4 (Or.inr (slot_ne (Or.inl (hw _ (List.mem_of_getElem? (i := 82) rfl))) (Or.inl (hw _ (List.mem_of_getElem? (i := 84) rfl))) (by decide) (ht := (by decide : _ = some (.array .int))) (ht' := (by decide : _ = some (.array .long)))))
  have Ff'h6 : Fld Z h6 g "com/example/vireo/vireo/index/BlockTable$Hits" "fingerprints" "[J" (.ref a5) := Fld.same Wh6 Ff'h4
  have Fc'h6 : Fld Z h6 g "com/example/vireo/vireo/index/BlockTable$Hits" "count" "I" (.int (0 : Int32)) := Fld.other Wh6 Fc'h4 (Or.inr (slot_ne (Or.inl (hw _ (List.mem_of_getElem? (i := 121) rfl))) (Or.inl (hw _ (List.mem_of_getElem? (i := 84) rfl))) (by decide) (ht := (by decide : _ = some .int)) (ht' := (by decide : _ = some (.array .long)))))
  have Aa2'h6 : OwA Z h6 a2 .int [(.int (0 : Int32)), (.int (0 : Int32)), (.int (0 : Int32)), (.int (0 : Int32))] := OwA.other Aa2'h4 Wh6 (Nat.ne_of_gt lg_a2)
  have Aa5'h6 : OwA Z h6 a5 .long [(.long (0 : Int64)), (.long (0 : Int64)), (.long (0 : Int64)), (.long (0 : Int64))] := OwA.other Aa5 Wh6 (Nat.ne_of_gt lg_a5)
  have hsh6 : n0 ≤ h6.size := by rw [Wr.size Wh6]; exact hsh4
  have Kh6 : Keep h h6 [g] := Keep.wr Kh4 Wh6 (Or.inl (List.mem_of_getElem? (i := 0) rfl))
  refine X.retV own_d_prog_10_method_1_18 rfl (by decide) (by decide) ?_
  exact ⟨rfl, a2, a5, Kh6, ⟨fra2, fra5, la2_a5⟩, Fp'h6, Ff'h6, Fc'h6, Aa2'h6, Aa5'h6⟩
theorem own_d_prog_10_method_2_0 : decode prog_10_method_2_code 0 = .ok (.aload_n 0, 1) := by decide +kernel
theorem own_d_prog_10_method_2_1 : decode prog_10_method_2_code 1 = .ok (.getfield 19, 3) := by decide +kernel
theorem own_d_prog_10_method_2_4 : decode prog_10_method_2_code 4 = .ok (.aload_n 0, 1) := by decide +kernel
theorem own_d_prog_10_method_2_5 : decode prog_10_method_2_code 5 = .ok (.getfield 9, 3) := by decide +kernel
theorem own_d_prog_10_method_2_8 : decode prog_10_method_2_code 8 = .ok (.arraylength, 1) := by decide +kernel
theorem own_d_prog_10_method_2_9 : decode prog_10_method_2_code 9 = .ok (.if_icmp .ne 37, 3) := by decide +kernel
theorem own_d_prog_10_method_2_46 : decode prog_10_method_2_code 46 = .ok (.aload_n 0, 1) := by decide +kernel
theorem own_d_prog_10_method_2_47 : decode prog_10_method_2_code 47 = .ok (.getfield 9, 3) := by decide +kernel
theorem own_d_prog_10_method_2_50 : decode prog_10_method_2_code 50 = .ok (.aload_n 0, 1) := by decide +kernel
theorem own_d_prog_10_method_2_51 : decode prog_10_method_2_code 51 = .ok (.getfield 19, 3) := by decide +kernel
theorem own_d_prog_10_method_2_54 : decode prog_10_method_2_code 54 = .ok (.iload_n 1, 1) := by decide +kernel
theorem own_d_prog_10_method_2_55 : decode prog_10_method_2_code 55 = .ok (.iastore, 1) := by decide +kernel
theorem own_d_prog_10_method_2_56 : decode prog_10_method_2_code 56 = .ok (.aload_n 0, 1) := by decide +kernel
theorem own_d_prog_10_method_2_57 : decode prog_10_method_2_code 57 = .ok (.getfield 15, 3) := by decide +kernel
theorem own_d_prog_10_method_2_60 : decode prog_10_method_2_code 60 = .ok (.aload_n 0, 1) := by decide +kernel
theorem own_d_prog_10_method_2_61 : decode prog_10_method_2_code 61 = .ok (.getfield 19, 3) := by decide +kernel
theorem own_d_prog_10_method_2_64 : decode prog_10_method_2_code 64 = .ok (.lload_n 2, 1) := by decide +kernel
theorem own_d_prog_10_method_2_65 : decode prog_10_method_2_code 65 = .ok (.lastore, 1) := by decide +kernel
theorem own_d_prog_10_method_2_66 : decode prog_10_method_2_code 66 = .ok (.aload_n 0, 1) := by decide +kernel
theorem own_d_prog_10_method_2_67 : decode prog_10_method_2_code 67 = .ok (.dup, 1) := by decide +kernel
theorem own_d_prog_10_method_2_68 : decode prog_10_method_2_code 68 = .ok (.getfield 19, 3) := by decide +kernel
theorem own_d_prog_10_method_2_71 : decode prog_10_method_2_code 71 = .ok (.iconst 1, 1) := by decide +kernel
theorem own_d_prog_10_method_2_72 : decode prog_10_method_2_code 72 = .ok (.iadd, 1) := by decide +kernel
theorem own_d_prog_10_method_2_73 : decode prog_10_method_2_code 73 = .ok (.putfield 19, 3) := by decide +kernel
theorem own_d_prog_10_method_2_76 : decode prog_10_method_2_code 76 = .ok (.return_, 1) := by decide +kernel
def own_rm_own_hadd : Room := ({ frames := 0, cells := 0, slots := 0, locals := 0 } : Room)
set_option maxRecDepth 65536 in
set_option maxHeartbeats 40000000 in
theorem own_hadd (l : Launch) (Z : State) (a0 : Array Value) (hw : ∀ d ∈ tables_1, d.before a0 Z = true) (h : Heap) (n0 : Nat) (g pp ff : Addr) (x : Int32) (y : Int64) (cn : Int32) (j : Nat) (ps fs : List Value) (hj : cn.toInt = (j : Int)) (hj4 : j < 4) (hps : ps.length = 4) (hfs : fs.length = 4)  (hn0 : n0 ≤ h.size) (B : Exa Z h g "com/example/vireo/vireo/index/BlockTable$Hits") (Fp : Fld Z h g "com/example/vireo/vireo/index/BlockTable$Hits" "positions" "[I" (.ref pp)) (Ff : Fld Z h g "com/example/vireo/vireo/index/BlockTable$Hits" "fingerprints" "[J" (.ref ff)) (Fc : Fld Z h g "com/example/vireo/vireo/index/BlockTable$Hits" "count" "I" (.int cn)) (Ap : OwA Z h pp .int ps) (Af : OwA Z h ff .long fs) (geg : n0 ≤ g) (gepp : n0 ≤ pp) (geff : n0 ≤ ff) (negpp : g ≠ pp) (negff : g ≠ ff) (neppff : pp ≠ ff) :
    OwM l Z (⟨"com/example/vireo/vireo/index/BlockTable$Hits", "add", "(IJ)V"⟩ : MethodName) prog_10_method_2_code 4 none own_rm_own_hadd 0 0 [] #[(.ref g), (.int x), (.long y)] h n0 (fun r h' => r = none ∧ Keep h h' [g, pp, ff] ∧ Fld Z h' g "com/example/vireo/vireo/index/BlockTable$Hits" "positions" "[I" (.ref pp) ∧ Fld Z h' g "com/example/vireo/vireo/index/BlockTable$Hits" "fingerprints" "[J" (.ref ff) ∧ Fld Z h' g "com/example/vireo/vireo/index/BlockTable$Hits" "count" "I" (.int (cn + (1 : Int32))) ∧ OwA Z h' pp .int (ps.set j (.int x)) ∧ OwA Z h' ff .long (fs.set j (.long y))) := by
  refine OwM.of (Ls := #[.val (.ref g), .val (.int x), .val (.long y), .second]) (by decide +kernel) (fun m => by first | (simp [entryFrame, mkF, argsToLocals, Value.category]; done) | rfl) ?_
  intro _ _ _ _ _ _ _ X
  have K0 : Keep h h [g, pp, ff] := Keep.refl _ _
  have e4 : (4 : Int32).toInt = 4 := rfl
  refine X.aloadN (q := 1) own_d_prog_10_method_2_0 rfl rfl rfl ?_
  refine X.getF (q := 4) (host := "") (Or.inl (hw _ (List.mem_of_getElem? (i := 120) rfl))) Via.refl Fc own_d_prog_10_method_2_1 rfl ?_
  refine X.aloadN (q := 5) own_d_prog_10_method_2_4 rfl rfl rfl ?_
  refine X.getF (q := 8) (host := "") (Or.inl (hw _ (List.mem_of_getElem? (i := 81) rfl))) Via.refl Fp own_d_prog_10_method_2_5 rfl ?_
  refine X.alen (q := 9) (z := (4 : Int32)) Ap (by rw [hps]; rfl) own_d_prog_10_method_2_8 rfl ?_
  refine X.icmp_ne (b := 4) (q' := 46) (q := 12) own_d_prog_10_method_2_9 rfl rfl (by decide) rfl (fun c9 => ?_) (fun c9 => ?_)
  · refine X.aloadN (q := 47) own_d_prog_10_method_2_46 rfl rfl rfl ?_
    refine X.getF (q := 50) (host := "") (Or.inl (hw _ (List.mem_of_getElem? (i := 81) rfl))) Via.refl Fp own_d_prog_10_method_2_47 rfl ?_
    refine X.aloadN (q := 51) own_d_prog_10_method_2_50 rfl rfl rfl ?_
    refine X.getF (q := 54) (host := "") (Or.inl (hw _ (List.mem_of_getElem? (i := 120) rfl))) Via.refl Fc own_d_prog_10_method_2_51 rfl ?_
    refine X.iloadN (q := 55) own_d_prog_10_method_2_54 rfl rfl ?_
    refine X.iastore (q := 56) (j := j) Ap hj (by rw [hps]; exact hj4) gepp own_d_prog_10_method_2_55 rfl (fun h1 Wh1 Ah1 => ?_)
    have B'h1 : Exa Z h1 g "com/example/vireo/vireo/index/BlockTable$Hits" := Exa.wr Wh1 B
    have Fp'h1 : Fld Z h1 g "com/example/vireo/vireo/index/BlockTable$Hits" "positions" "[I" (.ref pp) := Fld.other Wh1 Fp (Or.inl negpp)
    have Ff'h1 : Fld Z h1 g "com/example/vireo/vireo/index/BlockTable$Hits" "fingerprints" "[J" (.ref ff) := Fld.other Wh1 Ff (Or.inl negpp)
    have Fc'h1 : Fld Z h1 g "com/example/vireo/vireo/index/BlockTable$Hits" "count" "I" (.int cn) := Fld.other Wh1 Fc (Or.inl negpp)
    have Af'h1 : OwA Z h1 ff .long fs := OwA.other Af Wh1 (Ne.symm neppff)
    have hsh1 : n0 ≤ h1.size := by rw [Wr.size Wh1]; exact hn0
    have Kh1 : Keep h h1 [g, pp, ff] := Keep.wr K0 Wh1 (Or.inl (List.mem_of_getElem? (i := 1) rfl))
    have Ah1_ : OwA Z h1 pp .int (ps.set j (.int x)) := Ah1
    refine X.aloadN (q := 57) own_d_prog_10_method_2_56 rfl rfl rfl ?_
    refine X.getF (q := 60) (host := "") (Or.inl (hw _ (List.mem_of_getElem? (i := 83) rfl))) Via.refl Ff'h1 own_d_prog_10_method_2_57 rfl ?_
    refine X.aloadN (q := 61) own_d_prog_10_method_2_60 rfl rfl rfl ?_
    refine X.getF (q := 64) (host := "") (Or.inl (hw _ (List.mem_of_getElem? (i := 120) rfl))) Via.refl Fc'h1 own_d_prog_10_method_2_61 rfl ?_
    refine X.lloadN (q := 65) own_d_prog_10_method_2_64 rfl rfl ?_
    refine X.lastore (q := 66) (j := j) Af'h1 hj (by rw [hfs]; exact hj4) geff own_d_prog_10_method_2_65 rfl (fun h2 Wh2 Ah2 => ?_)
    have B'h2 : Exa Z h2 g "com/example/vireo/vireo/index/BlockTable$Hits" := Exa.wr Wh2 B'h1
    have Fp'h2 : Fld Z h2 g "com/example/vireo/vireo/index/BlockTable$Hits" "positions" "[I" (.ref pp) := Fld.other Wh2 Fp'h1 (Or.inl negff)
    have Ff'h2 : Fld Z h2 g "com/example/vireo/vireo/index/BlockTable$Hits" "fingerprints" "[J" (.ref ff) := Fld.other Wh2 Ff'h1 (Or.inl negff)
    have Fc'h2 : Fld Z h2 g "com/example/vireo/vireo/index/BlockTable$Hits" "count" "I" (.int cn) := Fld.other Wh2 Fc'h1 (Or.inl negff)
    have Ah1_'h2 : OwA Z h2 pp .int (ps.set j (.int x)) := OwA.other Ah1_ Wh2 neppff
    have hsh2 : n0 ≤ h2.size := by rw [Wr.size Wh2]; exact hsh1
    have Kh2 : Keep h h2 [g, pp, ff] := Keep.wr Kh1 Wh2 (Or.inl (List.mem_of_getElem? (i := 2) rfl))
    have Ah2_ : OwA Z h2 ff .long (fs.set j (.long y)) := Ah2
    refine X.aloadN (q := 67) own_d_prog_10_method_2_66 rfl rfl rfl ?_
    refine X.dup (q := 68) own_d_prog_10_method_2_67 rfl rfl ?_
    refine X.getF (q := 71) (host := "") (Or.inl (hw _ (List.mem_of_getElem? (i := 120) rfl))) Via.refl Fc'h2 own_d_prog_10_method_2_68 rfl ?_
    refine X.iconst (q := 72) (1 : Int32) own_d_prog_10_method_2_71 (by decide) rfl ?_
    refine X.iadd (q := 73) own_d_prog_10_method_2_72 rfl ?_
    refine X.putF (q := 76) (host := "") (Or.inl (hw _ (List.mem_of_getElem? (i := 120) rfl))) Via.refl Fc'h2 B'h2 (Or.inl (hw _ (List.mem_of_getElem? (i := 121) rfl))) (hw _ (List.mem_of_getElem? (i := 74) rfl)) (ty := .int) (by decide) rfl rfl geg own_d_prog_10_method_2_73 rfl (fun h3 Wh3 => ?_)
    have B'h3 : Exa Z h3 g "com/example/vireo/vireo/index/BlockTable$Hits" := Exa.wr Wh3 B'h2
    have Fp'h3 : Fld Z h3 g "com/example/vireo/vireo/index/BlockTable$Hits" "positions" "[I" (.ref pp) := Fld.other Wh3 Fp'h2 (Or.inr (slot_ne (Or.inl (hw _ (List.mem_of_getElem? (i := 82) rfl))) (Or.inl (hw _ (List.mem_of_getElem? (i := 121) rfl))) (by decide) (ht := (by decide : _ = some (.array .int))) (ht' := (by decide : _ = some .int))))
    have Ff'h3 : Fld Z h3 g "com/example/vireo/vireo/index/BlockTable$Hits" "fingerprints" "[J" (.ref ff) := Fld.other Wh3 Ff'h2 (Or.inr (slot_ne (Or.inl (hw _ (List.mem_of_getElem? (i := 84) rfl))) (Or.inl (hw _ (List.mem_of_getElem? (i := 121) rfl))) (by decide) (ht := (by decide : _ = some (.array .long))) (ht' := (by decide : _ = some .int))))
    have Fc'h3 : Fld Z h3 g "com/example/vireo/vireo/index/BlockTable$Hits" "count" "I" (.int (cn + (1 : Int32))) := Fld.same Wh3 Fc'h2
    have Ah1_'h3 : OwA Z h3 pp .int (ps.set j (.int x)) := OwA.other Ah1_'h2 Wh3 (Ne.symm negpp)
    have Ah2_'h3 : OwA Z h3 ff .long (fs.set j (.long y)) := OwA.other Ah2_ Wh3 (Ne.symm negff)
    have hsh3 : n0 ≤ h3.size := by rw [Wr.size Wh3]; exact hsh2
    have Kh3 : Keep h h3 [g, pp, ff] := Keep.wr Kh2 Wh3 (Or.inl (List.mem_of_getElem? (i := 0) rfl))
    refine X.retV own_d_prog_10_method_2_76 rfl (by decide) (by decide) ?_
    exact ⟨rfl, Kh3, Fp'h3, Ff'h3, Fc'h3, Ah1_'h3, Ah2_'h3⟩
  · omega
theorem own_d_prog_10_method_3_0 : decode prog_10_method_3_code 0 = .ok (.aload_n 0, 1) := by decide +kernel
theorem own_d_prog_10_method_3_1 : decode prog_10_method_3_code 1 = .ok (.getfield 19, 3) := by decide +kernel
theorem own_d_prog_10_method_3_4 : decode prog_10_method_3_code 4 = .ok (.ireturn, 1) := by decide +kernel
def own_rm_own_hcount : Room := ({ frames := 0, cells := 0, slots := 0, locals := 0 } : Room)
set_option maxRecDepth 65536 in
set_option maxHeartbeats 40000000 in
theorem own_hcount (l : Launch) (Z : State) (a0 : Array Value) (hw : ∀ d ∈ tables_1, d.before a0 Z = true) (h : Heap) (n0 : Nat) (g : Addr) (n : Int32)  (hn0 : n0 ≤ h.size) (F : Fld Z h g "com/example/vireo/vireo/index/BlockTable$Hits" "count" "I" (.int n)) :
    OwM l Z (⟨"com/example/vireo/vireo/index/BlockTable$Hits", "count", "()I"⟩ : MethodName) prog_10_method_3_code 1 (some .int) own_rm_own_hcount 0 0 [] #[(.ref g)] h n0 (fun r h' => r = some (.int n) ∧ h = h') := by
  refine OwM.of (Ls := #[.val (.ref g)]) (by decide +kernel) (fun m => by first | (simp [entryFrame, mkF, argsToLocals, Value.category]; done) | rfl) ?_
  intro _ _ _ _ _ _ _ X
  refine X.aloadN (q := 1) own_d_prog_10_method_3_0 rfl rfl rfl ?_
  refine X.getF (q := 4) (host := "") (Or.inl (hw _ (List.mem_of_getElem? (i := 120) rfl))) Via.refl F own_d_prog_10_method_3_1 rfl ?_
  refine X.retI own_d_prog_10_method_3_4 rfl (by decide) (by decide) ?_
  exact ⟨rfl, rfl⟩
theorem own_d_prog_10_method_4_0 : decode prog_10_method_4_code 0 = .ok (.aload_n 0, 1) := by decide +kernel
theorem own_d_prog_10_method_4_1 : decode prog_10_method_4_code 1 = .ok (.getfield 9, 3) := by decide +kernel
theorem own_d_prog_10_method_4_4 : decode prog_10_method_4_code 4 = .ok (.iload_n 1, 1) := by decide +kernel
theorem own_d_prog_10_method_4_5 : decode prog_10_method_4_code 5 = .ok (.iaload, 1) := by decide +kernel
theorem own_d_prog_10_method_4_6 : decode prog_10_method_4_code 6 = .ok (.ireturn, 1) := by decide +kernel
def own_rm_own_hpos : Room := ({ frames := 0, cells := 0, slots := 0, locals := 0 } : Room)
set_option maxRecDepth 65536 in
set_option maxHeartbeats 40000000 in
theorem own_hpos (l : Launch) (Z : State) (a0 : Array Value) (hw : ∀ d ∈ tables_1, d.before a0 Z = true) (h : Heap) (n0 : Nat) (g pp : Addr) (i v : Int32) (j : Nat) (vs : List Value) (hj : i.toInt = (j : Int)) (hv : vs[j]? = some (.int v))  (hn0 : n0 ≤ h.size) (F : Fld Z h g "com/example/vireo/vireo/index/BlockTable$Hits" "positions" "[I" (.ref pp)) (A1 : OwA Z h pp .int vs) :
    OwM l Z (⟨"com/example/vireo/vireo/index/BlockTable$Hits", "position", "(I)I"⟩ : MethodName) prog_10_method_4_code 2 (some .int) own_rm_own_hpos 0 0 [] #[(.ref g), (.int i)] h n0 (fun r h' => r = some (.int v) ∧ h = h') := by
  refine OwM.of (Ls := #[.val (.ref g), .val (.int i)]) (by decide +kernel) (fun m => by first | (simp [entryFrame, mkF, argsToLocals, Value.category]; done) | rfl) ?_
  intro _ _ _ _ _ _ _ X
  refine X.aloadN (q := 1) own_d_prog_10_method_4_0 rfl rfl rfl ?_
  refine X.getF (q := 4) (host := "") (Or.inl (hw _ (List.mem_of_getElem? (i := 81) rfl))) Via.refl F own_d_prog_10_method_4_1 rfl ?_
  refine X.iloadN (q := 5) own_d_prog_10_method_4_4 rfl rfl ?_
  refine X.iaload (q := 6) (j := j) (v := (.int v)) A1 hj hv own_d_prog_10_method_4_5 rfl ?_
  refine X.retI own_d_prog_10_method_4_6 rfl (by decide) (by decide) ?_
  exact ⟨rfl, rfl⟩
theorem own_d_prog_10_method_5_0 : decode prog_10_method_5_code 0 = .ok (.aload_n 0, 1) := by decide +kernel
theorem own_d_prog_10_method_5_1 : decode prog_10_method_5_code 1 = .ok (.getfield 15, 3) := by decide +kernel
theorem own_d_prog_10_method_5_4 : decode prog_10_method_5_code 4 = .ok (.iload_n 1, 1) := by decide +kernel
theorem own_d_prog_10_method_5_5 : decode prog_10_method_5_code 5 = .ok (.laload, 1) := by decide +kernel
theorem own_d_prog_10_method_5_6 : decode prog_10_method_5_code 6 = .ok (.lreturn, 1) := by decide +kernel
def own_rm_own_hfin : Room := ({ frames := 0, cells := 0, slots := 0, locals := 0 } : Room)
set_option maxRecDepth 65536 in
set_option maxHeartbeats 40000000 in
theorem own_hfin (l : Launch) (Z : State) (a0 : Array Value) (hw : ∀ d ∈ tables_1, d.before a0 Z = true) (h : Heap) (n0 : Nat) (g ff : Addr) (i : Int32) (v : Int64) (j : Nat) (vs : List Value) (hj : i.toInt = (j : Int)) (hv : vs[j]? = some (.long v))  (hn0 : n0 ≤ h.size) (F : Fld Z h g "com/example/vireo/vireo/index/BlockTable$Hits" "fingerprints" "[J" (.ref ff)) (A1 : OwA Z h ff .long vs) :
    OwM l Z (⟨"com/example/vireo/vireo/index/BlockTable$Hits", "fingerprint", "(I)J"⟩ : MethodName) prog_10_method_5_code 2 (some .long) own_rm_own_hfin 0 0 [] #[(.ref g), (.int i)] h n0 (fun r h' => r = some (.long v) ∧ h = h') := by
  refine OwM.of (Ls := #[.val (.ref g), .val (.int i)]) (by decide +kernel) (fun m => by first | (simp [entryFrame, mkF, argsToLocals, Value.category]; done) | rfl) ?_
  intro _ _ _ _ _ _ _ X
  refine X.aloadN (q := 1) own_d_prog_10_method_5_0 rfl rfl rfl ?_
  refine X.getF (q := 4) (host := "") (Or.inl (hw _ (List.mem_of_getElem? (i := 83) rfl))) Via.refl F own_d_prog_10_method_5_1 rfl ?_
  refine X.iloadN (q := 5) own_d_prog_10_method_5_4 rfl rfl ?_
  refine X.laload (q := 6) (j := j) (v := (.long v)) A1 hj hv own_d_prog_10_method_5_5 rfl ?_
  refine X.retJ own_d_prog_10_method_5_6 rfl (by decide) (by decide) ?_
  exact ⟨rfl, rfl⟩
theorem own_d_prog_8_method_5_0 : decode prog_8_method_5_code 0 = .ok (.aload_n 0, 1) := by decide +kernel
theorem own_d_prog_8_method_5_1 : decode prog_8_method_5_code 1 = .ok (.getfield 48, 3) := by decide +kernel
theorem own_d_prog_8_method_5_4 : decode prog_8_method_5_code 4 = .ok (.aload_n 0, 1) := by decide +kernel
theorem own_d_prog_8_method_5_5 : decode prog_8_method_5_code 5 = .ok (.lload_n 1, 1) := by decide +kernel
theorem own_d_prog_8_method_5_6 : decode prog_8_method_5_code 6 = .ok (.invokevirtual 52, 3) := by decide +kernel
theorem own_d_prog_8_method_5_9 : decode prog_8_method_5_code 9 = .ok (.aaload, 1) := by decide +kernel
theorem own_d_prog_8_method_5_10 : decode prog_8_method_5_code 10 = .ok (.astore 5, 2) := by decide +kernel
theorem own_d_prog_8_method_5_12 : decode prog_8_method_5_code 12 = .ok (.aload 5, 2) := by decide +kernel
theorem own_d_prog_8_method_5_14 : decode prog_8_method_5_code 14 = .ok (.ifnonnull 5, 3) := by decide +kernel
theorem own_d_prog_8_method_5_19 : decode prog_8_method_5_code 19 = .ok (.aload 5, 2) := by decide +kernel
theorem own_d_prog_8_method_5_21 : decode prog_8_method_5_code 21 = .ok (.getfield 65, 3) := by decide +kernel
theorem own_d_prog_8_method_5_24 : decode prog_8_method_5_code 24 = .ok (.astore 6, 2) := by decide +kernel
theorem own_d_prog_8_method_5_26 : decode prog_8_method_5_code 26 = .ok (.aload 5, 2) := by decide +kernel
theorem own_d_prog_8_method_5_28 : decode prog_8_method_5_code 28 = .ok (.getfield 69, 3) := by decide +kernel
theorem own_d_prog_8_method_5_31 : decode prog_8_method_5_code 31 = .ok (.astore 7, 2) := by decide +kernel
theorem own_d_prog_8_method_5_33 : decode prog_8_method_5_code 33 = .ok (.iconst 0, 1) := by decide +kernel
theorem own_d_prog_8_method_5_34 : decode prog_8_method_5_code 34 = .ok (.istore 8, 2) := by decide +kernel
theorem own_d_prog_8_method_5_36 : decode prog_8_method_5_code 36 = .ok (.iconst 0, 1) := by decide +kernel
theorem own_d_prog_8_method_5_37 : decode prog_8_method_5_code 37 = .ok (.istore 9, 2) := by decide +kernel
theorem own_d_prog_8_method_5_39 : decode prog_8_method_5_code 39 = .ok (.iconst 0, 1) := by decide +kernel
theorem own_d_prog_8_method_5_40 : decode prog_8_method_5_code 40 = .ok (.istore 10, 2) := by decide +kernel
theorem own_d_prog_8_method_5_42 : decode prog_8_method_5_code 42 = .ok (.iconst 0, 1) := by decide +kernel
theorem own_d_prog_8_method_5_43 : decode prog_8_method_5_code 43 = .ok (.istore 11, 2) := by decide +kernel
theorem own_d_prog_8_method_5_45 : decode prog_8_method_5_code 45 = .ok (.iload 11, 2) := by decide +kernel
theorem own_d_prog_8_method_5_47 : decode prog_8_method_5_code 47 = .ok (.aload 5, 2) := by decide +kernel
theorem own_d_prog_8_method_5_49 : decode prog_8_method_5_code 49 = .ok (.getfield 72, 3) := by decide +kernel
theorem own_d_prog_8_method_5_52 : decode prog_8_method_5_code 52 = .ok (.if_icmp .ge 176, 3) := by decide +kernel
theorem own_d_prog_8_method_5_55 : decode prog_8_method_5_code 55 = .ok (.aload 6, 2) := by decide +kernel
theorem own_d_prog_8_method_5_57 : decode prog_8_method_5_code 57 = .ok (.iload 11, 2) := by decide +kernel
theorem own_d_prog_8_method_5_59 : decode prog_8_method_5_code 59 = .ok (.laload, 1) := by decide +kernel
theorem own_d_prog_8_method_5_60 : decode prog_8_method_5_code 60 = .ok (.lload_n 1, 1) := by decide +kernel
theorem own_d_prog_8_method_5_61 : decode prog_8_method_5_code 61 = .ok (.lxor, 1) := by decide +kernel
theorem own_d_prog_8_method_5_62 : decode prog_8_method_5_code 62 = .ok (.aload_n 0, 1) := by decide +kernel
theorem own_d_prog_8_method_5_63 : decode prog_8_method_5_code 63 = .ok (.getfield 43, 3) := by decide +kernel
theorem own_d_prog_8_method_5_66 : decode prog_8_method_5_code 66 = .ok (.ldc2_w 9, 3) := by decide +kernel
theorem own_d_prog_8_method_5_69 : decode prog_8_method_5_code 69 = .ok (.lxor, 1) := by decide +kernel
theorem own_d_prog_8_method_5_70 : decode prog_8_method_5_code 70 = .ok (.land, 1) := by decide +kernel
theorem own_d_prog_8_method_5_71 : decode prog_8_method_5_code 71 = .ok (.lstore 12, 2) := by decide +kernel
theorem own_d_prog_8_method_5_73 : decode prog_8_method_5_code 73 = .ok (.lload 12, 2) := by decide +kernel
theorem own_d_prog_8_method_5_75 : decode prog_8_method_5_code 75 = .ok (.aload_n 0, 1) := by decide +kernel
theorem own_d_prog_8_method_5_76 : decode prog_8_method_5_code 76 = .ok (.getfield 11, 3) := by decide +kernel
theorem own_d_prog_8_method_5_79 : decode prog_8_method_5_code 79 = .ok (.land, 1) := by decide +kernel
theorem own_d_prog_8_method_5_80 : decode prog_8_method_5_code 80 = .ok (.lconst 0, 1) := by decide +kernel
theorem own_d_prog_8_method_5_81 : decode prog_8_method_5_code 81 = .ok (.lcmp, 1) := by decide +kernel
theorem own_d_prog_8_method_5_82 : decode prog_8_method_5_code 82 = .ok (.ifCond .ne 140, 3) := by decide +kernel
theorem own_d_prog_8_method_5_85 : decode prog_8_method_5_code 85 = .ok (.aload_n 0, 1) := by decide +kernel
theorem own_d_prog_8_method_5_86 : decode prog_8_method_5_code 86 = .ok (.lload 12, 2) := by decide +kernel
theorem own_d_prog_8_method_5_88 : decode prog_8_method_5_code 88 = .ok (.invokevirtual 75, 3) := by decide +kernel
theorem own_pd7 : parseMethodDescriptor "(J)Z" = some ⟨[.long], some .boolean⟩ := by decide +kernel
theorem own_d_prog_8_method_5_91 : decode prog_8_method_5_code 91 = .ok (.ifCond .eq 6, 3) := by decide +kernel
theorem own_d_prog_8_method_5_97 : decode prog_8_method_5_code 97 = .ok (.iinc 8 1, 3) := by decide +kernel
theorem own_d_prog_8_method_5_100 : decode prog_8_method_5_code 100 = .ok (.lload 12, 2) := by decide +kernel
theorem own_d_prog_8_method_5_102 : decode prog_8_method_5_code 102 = .ok (.invokestatic 79, 3) := by decide +kernel
theorem own_d_prog_8_method_5_105 : decode prog_8_method_5_code 105 = .ok (.iload_n 3, 1) := by decide +kernel
theorem own_d_prog_8_method_5_106 : decode prog_8_method_5_code 106 = .ok (.if_icmp .gt 116, 3) := by decide +kernel
theorem own_d_prog_8_method_5_109 : decode prog_8_method_5_code 109 = .ok (.iload 10, 2) := by decide +kernel
theorem own_d_prog_8_method_5_111 : decode prog_8_method_5_code 111 = .ok (.aload 7, 2) := by decide +kernel
theorem own_d_prog_8_method_5_113 : decode prog_8_method_5_code 113 = .ok (.iload 9, 2) := by decide +kernel
theorem own_d_prog_8_method_5_115 : decode prog_8_method_5_code 115 = .ok (.laload, 1) := by decide +kernel
theorem own_d_prog_8_method_5_116 : decode prog_8_method_5_code 116 = .ok (.invokestatic 79, 3) := by decide +kernel
theorem own_d_prog_8_method_5_119 : decode prog_8_method_5_code 119 = .ok (.iadd, 1) := by decide +kernel
theorem own_d_prog_8_method_5_120 : decode prog_8_method_5_code 120 = .ok (.iload 11, 2) := by decide +kernel
theorem own_d_prog_8_method_5_122 : decode prog_8_method_5_code 122 = .ok (.if_icmp .gt 22, 3) := by decide +kernel
theorem own_d_prog_8_method_5_144 : decode prog_8_method_5_code 144 = .ok (.iload 9, 2) := by decide +kernel
theorem own_d_prog_8_method_5_146 : decode prog_8_method_5_code 146 = .ok (.bipush 64, 2) := by decide +kernel
theorem own_d_prog_8_method_5_148 : decode prog_8_method_5_code 148 = .ok (.imul, 1) := by decide +kernel
theorem own_d_prog_8_method_5_149 : decode prog_8_method_5_code 149 = .ok (.aload 7, 2) := by decide +kernel
theorem own_d_prog_8_method_5_151 : decode prog_8_method_5_code 151 = .ok (.iload 9, 2) := by decide +kernel
theorem own_d_prog_8_method_5_153 : decode prog_8_method_5_code 153 = .ok (.laload, 1) := by decide +kernel
theorem own_d_prog_8_method_5_154 : decode prog_8_method_5_code 154 = .ok (.iload 11, 2) := by decide +kernel
theorem own_d_prog_8_method_5_156 : decode prog_8_method_5_code 156 = .ok (.iload 10, 2) := by decide +kernel
theorem own_d_prog_8_method_5_158 : decode prog_8_method_5_code 158 = .ok (.isub, 1) := by decide +kernel
theorem own_d_prog_8_method_5_159 : decode prog_8_method_5_code 159 = .ok (.invokestatic 82, 3) := by decide +kernel
theorem own_pd8 : parseMethodDescriptor "(JI)I" = some ⟨[.long, .int], some .int⟩ := by decide +kernel
theorem own_d_prog_8_method_5_162 : decode prog_8_method_5_code 162 = .ok (.iadd, 1) := by decide +kernel
theorem own_d_prog_8_method_5_163 : decode prog_8_method_5_code 163 = .ok (.iload 11, 2) := by decide +kernel
theorem own_d_prog_8_method_5_165 : decode prog_8_method_5_code 165 = .ok (.isub, 1) := by decide +kernel
theorem own_d_prog_8_method_5_166 : decode prog_8_method_5_code 166 = .ok (.istore 14, 2) := by decide +kernel
theorem own_d_prog_8_method_5_168 : decode prog_8_method_5_code 168 = .ok (.iload 14, 2) := by decide +kernel
theorem own_d_prog_8_method_5_170 : decode prog_8_method_5_code 170 = .ok (.aload_n 0, 1) := by decide +kernel
theorem own_d_prog_8_method_5_171 : decode prog_8_method_5_code 171 = .ok (.getfield 33, 3) := by decide +kernel
theorem own_d_prog_8_method_5_174 : decode prog_8_method_5_code 174 = .ok (.ishl, 1) := by decide +kernel
theorem own_d_prog_8_method_5_175 : decode prog_8_method_5_code 175 = .ok (.aload 6, 2) := by decide +kernel
theorem own_d_prog_8_method_5_177 : decode prog_8_method_5_code 177 = .ok (.iload 11, 2) := by decide +kernel
theorem own_d_prog_8_method_5_179 : decode prog_8_method_5_code 179 = .ok (.laload, 1) := by decide +kernel
theorem own_d_prog_8_method_5_180 : decode prog_8_method_5_code 180 = .ok (.aload_n 0, 1) := by decide +kernel
theorem own_d_prog_8_method_5_181 : decode prog_8_method_5_code 181 = .ok (.getfield 37, 3) := by decide +kernel
theorem own_d_prog_8_method_5_184 : decode prog_8_method_5_code 184 = .ok (.lushr, 1) := by decide +kernel
theorem own_d_prog_8_method_5_185 : decode prog_8_method_5_code 185 = .ok (.l2i, 1) := by decide +kernel
theorem own_d_prog_8_method_5_186 : decode prog_8_method_5_code 186 = .ok (.aload_n 0, 1) := by decide +kernel
theorem own_d_prog_8_method_5_187 : decode prog_8_method_5_code 187 = .ok (.getfield 40, 3) := by decide +kernel
theorem own_d_prog_8_method_5_190 : decode prog_8_method_5_code 190 = .ok (.iand, 1) := by decide +kernel
theorem own_d_prog_8_method_5_191 : decode prog_8_method_5_code 191 = .ok (.ior, 1) := by decide +kernel
theorem own_d_prog_8_method_5_192 : decode prog_8_method_5_code 192 = .ok (.istore 15, 2) := by decide +kernel
theorem own_d_prog_8_method_5_194 : decode prog_8_method_5_code 194 = .ok (.aload 4, 2) := by decide +kernel
theorem own_d_prog_8_method_5_196 : decode prog_8_method_5_code 196 = .ok (.iload 15, 2) := by decide +kernel
theorem own_d_prog_8_method_5_198 : decode prog_8_method_5_code 198 = .ok (.aload 6, 2) := by decide +kernel
theorem own_d_prog_8_method_5_200 : decode prog_8_method_5_code 200 = .ok (.iload 11, 2) := by decide +kernel
theorem own_d_prog_8_method_5_202 : decode prog_8_method_5_code 202 = .ok (.laload, 1) := by decide +kernel
theorem own_d_prog_8_method_5_203 : decode prog_8_method_5_code 203 = .ok (.aload_n 0, 1) := by decide +kernel
theorem own_d_prog_8_method_5_204 : decode prog_8_method_5_code 204 = .ok (.getfield 43, 3) := by decide +kernel
theorem own_d_prog_8_method_5_207 : decode prog_8_method_5_code 207 = .ok (.ldc2_w 9, 3) := by decide +kernel
theorem own_d_prog_8_method_5_210 : decode prog_8_method_5_code 210 = .ok (.lxor, 1) := by decide +kernel
theorem own_d_prog_8_method_5_211 : decode prog_8_method_5_code 211 = .ok (.land, 1) := by decide +kernel
theorem own_d_prog_8_method_5_212 : decode prog_8_method_5_code 212 = .ok (.lload_n 1, 1) := by decide +kernel
theorem own_d_prog_8_method_5_213 : decode prog_8_method_5_code 213 = .ok (.aload_n 0, 1) := by decide +kernel
theorem own_d_prog_8_method_5_214 : decode prog_8_method_5_code 214 = .ok (.getfield 43, 3) := by decide +kernel
theorem own_d_prog_8_method_5_217 : decode prog_8_method_5_code 217 = .ok (.land, 1) := by decide +kernel
theorem own_d_prog_8_method_5_218 : decode prog_8_method_5_code 218 = .ok (.lor, 1) := by decide +kernel
theorem own_d_prog_8_method_5_219 : decode prog_8_method_5_code 219 = .ok (.invokevirtual 86, 3) := by decide +kernel
theorem own_pd9 : parseMethodDescriptor "(IJ)V" = some ⟨[.int, .long], none⟩ := by decide +kernel
theorem own_d_prog_8_method_5_222 : decode prog_8_method_5_code 222 = .ok (.iinc 11 1, 3) := by decide +kernel
theorem own_d_prog_8_method_5_225 : decode prog_8_method_5_code 225 = .ok (.goto (-180), 3) := by decide +kernel
theorem own_d_prog_8_method_5_228 : decode prog_8_method_5_code 228 = .ok (.iload 8, 2) := by decide +kernel
theorem own_d_prog_8_method_5_230 : decode prog_8_method_5_code 230 = .ok (.ireturn, 1) := by decide +kernel
theorem own_d_prog_8_method_5_125 : decode prog_8_method_5_code 125 = .ok (.iload 10, 2) := by decide +kernel
theorem own_d_prog_8_method_5_127 : decode prog_8_method_5_code 127 = .ok (.aload 7, 2) := by decide +kernel
theorem own_d_prog_8_method_5_129 : decode prog_8_method_5_code 129 = .ok (.iload 9, 2) := by decide +kernel
theorem own_d_prog_8_method_5_131 : decode prog_8_method_5_code 131 = .ok (.laload, 1) := by decide +kernel
theorem own_d_prog_8_method_5_132 : decode prog_8_method_5_code 132 = .ok (.invokestatic 79, 3) := by decide +kernel
theorem own_d_prog_8_method_5_135 : decode prog_8_method_5_code 135 = .ok (.iadd, 1) := by decide +kernel
theorem own_d_prog_8_method_5_136 : decode prog_8_method_5_code 136 = .ok (.istore 10, 2) := by decide +kernel
theorem own_d_prog_8_method_5_138 : decode prog_8_method_5_code 138 = .ok (.iinc 9 1, 3) := by decide +kernel
theorem own_d_prog_8_method_5_141 : decode prog_8_method_5_code 141 = .ok (.goto (-32), 3) := by decide +kernel
def own_rm_own_find : Room := ({ frames := 3, cells := 0, slots := 0, locals := 50 } : Room)
set_option maxRecDepth 65536 in
set_option maxHeartbeats 40000000 in
theorem own_find (l : Launch) (Z : State) (a0 : Array Value) (hw : ∀ d ∈ tables_1, d.before a0 Z = true) (h : Heap) (n0 : Nat) (t u c e b g pp ff : Addr) (f km bm E0 E1 fq : Int64) (kb ks lm p1 p2 : Int32) (j L H1 H2 : Nat) (F : Nat → Int64) (us : List Value) (hj : ((XT.ushrL f ks).toInt32 &&& lm).toInt = (j : Int)) (hus : us[j]? = some (.ref c)) (hFx : own_fx F H1 H2) (hH : H1 < H2) (hHb : H2 < 8388608) (hL : H2 / 64 < L) (hx0 : ((E0 ^^^ f) &&& (km ^^^ (-1 : Int64))) &&& bm = 0) (hx1 : ((E1 ^^^ f) &&& (km ^^^ (-1 : Int64))) &&& bm = 0) (hp0 : ∀ x : Int32, x.toInt = (H1 : Int) → (x <<< (kb &&& 31)) ||| ((XT.ushrL E0 ks).toInt32 &&& lm) = p1) (hp1 : ∀ x : Int32, x.toInt = (H2 : Int) - 1 → (x <<< (kb &&& 31)) ||| ((XT.ushrL E1 ks).toInt32 &&& lm) = p2) (hf0 : (E0 &&& (km ^^^ (-1 : Int64))) ||| (f &&& km) = f) (hf1 : (E1 &&& (km ^^^ (-1 : Int64))) ||| (f &&& km) = fq)  (hn0 : n0 ≤ h.size) (B : Exa Z h t "com/example/vireo/vireo/index/BlockTable") (FblockMask : Fld Z h t "com/example/vireo/vireo/index/BlockTable" "blockMask" "J" (.long bm)) (FearlierTops : Fld Z h t "com/example/vireo/vireo/index/BlockTable" "earlierTops" "J" (.long (0 : Int64))) (FearlierRests : Fld Z h t "com/example/vireo/vireo/index/BlockTable" "earlierRests" "J" (.long (0 : Int64))) (FkeyBits : Fld Z h t "com/example/vireo/vireo/index/BlockTable" "keyBits" "I" (.int kb)) (FkeyShift : Fld Z h t "com/example/vireo/vireo/index/BlockTable" "keyShift" "I" (.int ks)) (FlowMask : Fld Z h t "com/example/vireo/vireo/index/BlockTable" "lowMask" "I" (.int lm)) (FkeyMask : Fld Z h t "com/example/vireo/vireo/index/BlockTable" "keyMask" "J" (.long km)) (Fbuckets : Fld Z h t "com/example/vireo/vireo/index/BlockTable" "buckets" "[Lcom/example/vireo/vireo/index/BlockTable$Bucket;" (.ref u)) (Au : OwA Z h u (.object "com/example/vireo/vireo/index/BlockTable$Bucket") us) (Bc : Exa Z h c "com/example/vireo/vireo/index/BlockTable$Bucket") (Fbe : Fld Z h c "com/example/vireo/vireo/index/BlockTable$Bucket" "entries" "[J" (.ref e)) (Fbh : Fld Z h c "com/example/vireo/vireo/index/BlockTable$Bucket" "highs" "[J" (.ref b)) (Fbs : Fld Z h c "com/example/vireo/vireo/index/BlockTable$Bucket" "size" "I" (.int (2 : Int32))) (Ae : OwA Z h e .long [(.long E0), (.long E1), (.long (0 : Int64)), (.long (0 : Int64))]) (Ab : OwA Z h b .long (own_H L F)) (Bg : Exa Z h g "com/example/vireo/vireo/index/BlockTable$Hits") (Fgp : Fld Z h g "com/example/vireo/vireo/index/BlockTable$Hits" "positions" "[I" (.ref pp)) (Fgf : Fld Z h g "com/example/vireo/vireo/index/BlockTable$Hits" "fingerprints" "[J" (.ref ff)) (Fgc : Fld Z h g "com/example/vireo/vireo/index/BlockTable$Hits" "count" "I" (.int (0 : Int32))) (Ap : OwA Z h pp .int [(.int (0 : Int32)), (.int (0 : Int32)), (.int (0 : Int32)), (.int (0 : Int32))]) (Af : OwA Z h ff .long [(.long (0 : Int64)), (.long (0 : Int64)), (.long (0 : Int64)), (.long (0 : Int64))]) (geg : n0 ≤ g) (gepp : n0 ≤ pp) (geff : n0 ≤ ff) (netg : t ≠ g) (netpp : t ≠ pp) (netff : t ≠ ff) (neug : u ≠ g) (neupp : u ≠ pp) (neuff : u ≠ ff) (necg : c ≠ g) (necpp : c ≠ pp) (necff : c ≠ ff) (neeg : e ≠ g) (neepp : e ≠ pp) (neeff : e ≠ ff) (nebg : b ≠ g) (nebpp : b ≠ pp) (nebff : b ≠ ff) (negpp : g ≠ pp) (negff : g ≠ ff) (neppff : pp ≠ ff) :
    OwM l Z (⟨"com/example/vireo/vireo/index/BlockTable", "find", "(JILcom/example/vireo/vireo/index/BlockTable$Hits;)I"⟩ : MethodName) prog_8_method_5_code 16 (some .int) own_rm_own_find 0 0 [] #[(.ref t), (.long f), (.int (64 : Int32)), (.ref g)] h n0 (fun r h' => r = some (.int 2) ∧ Keep h h' [g, pp, ff] ∧ Fld Z h' g "com/example/vireo/vireo/index/BlockTable$Hits" "positions" "[I" (.ref pp) ∧ Fld Z h' g "com/example/vireo/vireo/index/BlockTable$Hits" "fingerprints" "[J" (.ref ff) ∧ Fld Z h' g "com/example/vireo/vireo/index/BlockTable$Hits" "count" "I" (.int (2 : Int32)) ∧ OwA Z h' pp .int [(.int p1), (.int p2), (.int (0 : Int32)), (.int (0 : Int32))] ∧ OwA Z h' ff .long [(.long f), (.long fq), (.long (0 : Int64)), (.long (0 : Int64))]) := by
  refine OwM.of (Ls := #[.val (.ref t), .val (.long f), .second, .val (.int (64 : Int32)), .val (.ref g), .unset, .unset, .unset, .unset, .unset, .unset, .unset, .unset, .unset, .unset, .unset]) (by decide +kernel) (fun m => by first | (simp [entryFrame, mkF, argsToLocals, Value.category]; done) | rfl) ?_
  intro _ _ _ _ _ _ _ X
  have K0 : Keep h h [g, pp, ff] := Keep.refl _ _
  have e0 : (0 : Int32).toInt = 0 := rfl
  have e1 : (1 : Int32).toInt = 1 := rfl
  have e2 : (2 : Int32).toInt = 2 := rfl
  have e64 : (64 : Int32).toInt = 64 := rfl
  refine X.aloadN (q := 1) own_d_prog_8_method_5_0 rfl rfl rfl ?_
  refine X.getF (q := 4) (host := "") (Or.inl (hw _ (List.mem_of_getElem? (i := 34) rfl))) Via.refl Fbuckets own_d_prog_8_method_5_1 rfl ?_
  refine X.aloadN (q := 5) own_d_prog_8_method_5_4 rfl rfl rfl ?_
  refine X.lloadN (q := 6) own_d_prog_8_method_5_5 rfl rfl ?_
  refine X.private (a := t) (own_keyc l Z a0 hw h n0 t f ks lm hn0 FkeyShift FlowMask) (hw _ (List.mem_of_getElem? (i := 41) rfl)) (hw _ (List.mem_of_getElem? (i := 42) rfl)) (hw _ (List.mem_of_getElem? (i := 43) rfl)) (hw _ (List.mem_of_getElem? (i := 4) rfl)) (hw _ (List.mem_of_getElem? (i := 5) rfl)) (hw _ (List.mem_of_getElem? (i := 44) rfl)) (by decide) B own_pd2 (argsL := [(.long f)]) (rest := [(.ref u)]) rfl rfl rfl (W := 1) (Nat.le_of_eq rfl) rfl (by decide) (by decide) (k' := 0) (n' := 0) rfl rfl (by decide) (by decide) own_d_prog_8_method_5_6 (q := 9) rfl ?_
  rintro _ _ ⟨rfl, rfl⟩
  show X.G h 0 0 9 #[.val (.ref t), .val (.long f), .second, .val (.int (64 : Int32)), .val (.ref g), .unset, .unset, .unset, .unset, .unset, .unset, .unset, .unset, .unset, .unset, .unset] [(.int ((XT.ushrL f ks).toInt32 &&& lm)), (.ref u)]
  refine X.aaload (q := 10) (j := j) (v := (.ref c)) Au rfl hj hus own_d_prog_8_method_5_9 rfl ?_
  refine X.astore (q := 12) (Ls' := #[.val (.ref t), .val (.long f), .second, .val (.int (64 : Int32)), .val (.ref g), .val (.ref c), .unset, .unset, .unset, .unset, .unset, .unset, .unset, .unset, .unset, .unset]) own_d_prog_8_method_5_10 rfl rfl rfl ?_
  refine X.aload (q := 14) own_d_prog_8_method_5_12 rfl rfl rfl ?_
  refine X.ifnonnullT (q' := 19) own_d_prog_8_method_5_14 (by decide) ?_
  refine X.aload (q := 21) own_d_prog_8_method_5_19 rfl rfl rfl ?_
  refine X.getR (q := 24) (hw _ (List.mem_of_getElem? (i := 90) rfl)) Fbe own_d_prog_8_method_5_21 rfl ?_
  refine X.astore (q := 26) (Ls' := #[.val (.ref t), .val (.long f), .second, .val (.int (64 : Int32)), .val (.ref g), .val (.ref c), .val (.ref e), .unset, .unset, .unset, .unset, .unset, .unset, .unset, .unset, .unset]) own_d_prog_8_method_5_24 rfl rfl rfl ?_
  refine X.aload (q := 28) own_d_prog_8_method_5_26 rfl rfl rfl ?_
  refine X.getR (q := 31) (hw _ (List.mem_of_getElem? (i := 91) rfl)) Fbh own_d_prog_8_method_5_28 rfl ?_
  refine X.astore (q := 33) (Ls' := #[.val (.ref t), .val (.long f), .second, .val (.int (64 : Int32)), .val (.ref g), .val (.ref c), .val (.ref e), .val (.ref b), .unset, .unset, .unset, .unset, .unset, .unset, .unset, .unset]) own_d_prog_8_method_5_31 rfl rfl rfl ?_
  refine X.iconst (q := 34) (0 : Int32) own_d_prog_8_method_5_33 (by decide) rfl ?_
  refine X.istore (q := 36) (Ls' := #[.val (.ref t), .val (.long f), .second, .val (.int (64 : Int32)), .val (.ref g), .val (.ref c), .val (.ref e), .val (.ref b), .val (.int (0 : Int32)), .unset, .unset, .unset, .unset, .unset, .unset, .unset]) own_d_prog_8_method_5_34 rfl rfl ?_
  refine X.iconst (q := 37) (0 : Int32) own_d_prog_8_method_5_36 (by decide) rfl ?_
  refine X.istore (q := 39) (Ls' := #[.val (.ref t), .val (.long f), .second, .val (.int (64 : Int32)), .val (.ref g), .val (.ref c), .val (.ref e), .val (.ref b), .val (.int (0 : Int32)), .val (.int (0 : Int32)), .unset, .unset, .unset, .unset, .unset, .unset]) own_d_prog_8_method_5_37 rfl rfl ?_
  refine X.iconst (q := 40) (0 : Int32) own_d_prog_8_method_5_39 (by decide) rfl ?_
  refine X.istore (q := 42) (Ls' := #[.val (.ref t), .val (.long f), .second, .val (.int (64 : Int32)), .val (.ref g), .val (.ref c), .val (.ref e), .val (.ref b), .val (.int (0 : Int32)), .val (.int (0 : Int32)), .val (.int (0 : Int32)), .unset, .unset, .unset, .unset, .unset]) own_d_prog_8_method_5_40 rfl rfl ?_
  refine X.iconst (q := 43) (0 : Int32) own_d_prog_8_method_5_42 (by decide) rfl ?_
  refine X.istore (q := 45) (Ls' := #[.val (.ref t), .val (.long f), .second, .val (.int (64 : Int32)), .val (.ref g), .val (.ref c), .val (.ref e), .val (.ref b), .val (.int (0 : Int32)), .val (.int (0 : Int32)), .val (.int (0 : Int32)), .val (.int (0 : Int32)), .unset, .unset, .unset, .unset]) own_d_prog_8_method_5_43 rfl rfl ?_
  refine X.iload (q := 47) own_d_prog_8_method_5_45 rfl rfl ?_
  refine X.aload (q := 49) own_d_prog_8_method_5_47 rfl rfl rfl ?_
  refine X.getR (q := 52) (hw _ (List.mem_of_getElem? (i := 92) rfl)) Fbs own_d_prog_8_method_5_49 rfl ?_
  refine X.icmp_ge (a := 0) (b := 2) (q' := 228) (q := 55) own_d_prog_8_method_5_52 rfl rfl (by decide) rfl (fun c52 => ?_) (fun c52 => ?_)
  · omega
  · refine X.aload (q := 57) own_d_prog_8_method_5_55 rfl rfl rfl ?_
    refine X.iload (q := 59) own_d_prog_8_method_5_57 rfl rfl ?_
    refine X.laload (q := 60) (j := 0) (v := (.long E0)) Ae rfl rfl own_d_prog_8_method_5_59 rfl ?_
    refine X.lloadN (q := 61) own_d_prog_8_method_5_60 rfl rfl ?_
    refine X.lxor (q := 62) own_d_prog_8_method_5_61 rfl ?_
    refine X.aloadN (q := 63) own_d_prog_8_method_5_62 rfl rfl rfl ?_
    refine X.getF (q := 66) (host := "") (Or.inl (hw _ (List.mem_of_getElem? (i := 30) rfl))) Via.refl FkeyMask own_d_prog_8_method_5_63 rfl ?_
    refine X.ldc2_w (q := 69) (v := (-1 : Int64)) (hw _ (List.mem_of_getElem? (i := 17) rfl)) own_d_prog_8_method_5_66 rfl ?_
    refine X.lxor (q := 70) own_d_prog_8_method_5_69 rfl ?_
    refine X.land (q := 71) own_d_prog_8_method_5_70 rfl ?_
    refine X.lstore (q := 73) (Ls' := #[.val (.ref t), .val (.long f), .second, .val (.int (64 : Int32)), .val (.ref g), .val (.ref c), .val (.ref e), .val (.ref b), .val (.int (0 : Int32)), .val (.int (0 : Int32)), .val (.int (0 : Int32)), .val (.int (0 : Int32)), .val (.long ((E0 ^^^ f) &&& (km ^^^ (-1 : Int64)))), .second, .unset, .unset]) own_d_prog_8_method_5_71 rfl rfl ?_
    refine X.lload (q := 75) own_d_prog_8_method_5_73 rfl rfl ?_
    refine X.aloadN (q := 76) own_d_prog_8_method_5_75 rfl rfl rfl ?_
    refine X.getF (q := 79) (host := "") (Or.inl (hw _ (List.mem_of_getElem? (i := 13) rfl))) Via.refl FblockMask own_d_prog_8_method_5_76 rfl ?_
    refine X.land (q := 80) own_d_prog_8_method_5_79 rfl ?_
    refine X.foldJ (v := (0 : Int64)) (hx0) ?_
    refine X.lconst (q := 81) (0 : Int64) own_d_prog_8_method_5_80 (by decide) rfl ?_
    refine X.lcmp_ne (a := 0) (b := 0) (q1 := 82) (q' := 222) (q := 85) own_d_prog_8_method_5_81 rfl own_d_prog_8_method_5_82 rfl rfl (by decide) rfl (fun c81 => ?_) (fun c81 => ?_)
    · omega
    · refine X.aloadN (q := 86) own_d_prog_8_method_5_85 rfl rfl rfl ?_
      refine X.lload (q := 88) own_d_prog_8_method_5_86 rfl rfl ?_
      refine X.private (a := t) (own_ae l Z a0 hw h n0 t ((E0 ^^^ f) &&& (km ^^^ (-1 : Int64))) hn0 FearlierTops FearlierRests) (hw _ (List.mem_of_getElem? (i := 93) rfl)) (hw _ (List.mem_of_getElem? (i := 94) rfl)) (hw _ (List.mem_of_getElem? (i := 95) rfl)) (hw _ (List.mem_of_getElem? (i := 4) rfl)) (hw _ (List.mem_of_getElem? (i := 5) rfl)) (hw _ (List.mem_of_getElem? (i := 96) rfl)) (by decide) B own_pd7 (argsL := [(.long ((E0 ^^^ f) &&& (km ^^^ (-1 : Int64))))]) (rest := []) rfl rfl rfl (W := 0) (Nat.le_of_eq rfl) rfl (by decide) (by decide) (k' := 0) (n' := 0) rfl rfl (by decide) (by decide) own_d_prog_8_method_5_88 (q := 91) rfl ?_
      rintro _ _ ⟨rfl, rfl⟩
      show X.G h 0 0 91 #[.val (.ref t), .val (.long f), .second, .val (.int (64 : Int32)), .val (.ref g), .val (.ref c), .val (.ref e), .val (.ref b), .val (.int (0 : Int32)), .val (.int (0 : Int32)), .val (.int (0 : Int32)), .val (.int (0 : Int32)), .val (.long ((E0 ^^^ f) &&& (km ^^^ (-1 : Int64)))), .second, .unset, .unset] [(.int (0 : Int32))]
      refine X.if_eq (a := 0) (q' := 97) (q := 94) own_d_prog_8_method_5_91 rfl (by decide) rfl (fun c91 => ?_) (fun c91 => ?_)
      · refine X.iinc (q := 100) (Ls' := #[.val (.ref t), .val (.long f), .second, .val (.int (64 : Int32)), .val (.ref g), .val (.ref c), .val (.ref e), .val (.ref b), .val (.int (1 : Int32)), .val (.int (0 : Int32)), .val (.int (0 : Int32)), .val (.int (0 : Int32)), .val (.long ((E0 ^^^ f) &&& (km ^^^ (-1 : Int64)))), .second, .unset, .unset]) (1 : Int32) own_d_prog_8_method_5_97 (by decide) rfl rfl rfl ?_
        refine X.lload (q := 102) own_d_prog_8_method_5_100 rfl rfl ?_
        refine X.callS (own_bitc l Z a0 hw h n0 ((E0 ^^^ f) &&& (km ^^^ (-1 : Int64)))) (hw _ (List.mem_of_getElem? (i := 97) rfl)) (hw _ (List.mem_of_getElem? (i := 98) rfl)) (hw _ (List.mem_of_getElem? (i := 99) rfl)) (hw _ (List.mem_of_getElem? (i := 100) rfl)) (by decide) own_pd2 (argsL := [(.long ((E0 ^^^ f) &&& (km ^^^ (-1 : Int64))))]) (rest := []) rfl rfl rfl (W := 0) (Nat.le_of_eq rfl) rfl (by decide) (by decide) (k' := 0) (n' := 0) rfl rfl (by decide) (by decide) own_d_prog_8_method_5_102 (q := 105) rfl ?_
        rintro _ _ ⟨y0, rfl, hy0, rfl⟩
        show X.G h 0 0 105 #[.val (.ref t), .val (.long f), .second, .val (.int (64 : Int32)), .val (.ref g), .val (.ref c), .val (.ref e), .val (.ref b), .val (.int (1 : Int32)), .val (.int (0 : Int32)), .val (.int (0 : Int32)), .val (.int (0 : Int32)), .val (.long ((E0 ^^^ f) &&& (km ^^^ (-1 : Int64)))), .second, .unset, .unset] [(.int y0)]
        refine X.iloadN (q := 106) own_d_prog_8_method_5_105 rfl rfl ?_
        refine X.icmp_gt (b := 64) (q' := 222) (q := 109) own_d_prog_8_method_5_106 rfl rfl (by decide) rfl (fun c106 => ?_) (fun c106 => ?_)
        · omega
        · have L109 : ∀ (N_ : Nat) (W0 : Nat) (wv0 : Int32) (cnt0 : Int32), (wv0.toInt = (W0 : Int)) → (W0 ≤ H1 / 64 ∧ cnt0.toInt = 0) → (H1 / 64 + 1 - W0 = N_) → X.G h 0 0 109 #[.val (.ref t), .val (.long f), .second, .val (.int (64 : Int32)), .val (.ref g), .val (.ref c), .val (.ref e), .val (.ref b), .val (.int (1 : Int32)), .val (.int wv0), .val (.int cnt0), .val (.int (0 : Int32)), .val (.long ((E0 ^^^ f) &&& (km ^^^ (-1 : Int64)))), .second, .unset, .unset] [] := by
            intro N_
            induction N_ using Nat.strongRecOn with
            | ind N_ ih =>
              intro W0 wv0 cnt0 hwv0 hinv0 hN_
              refine X.iload (q := 111) own_d_prog_8_method_5_109 rfl rfl ?_
              have fv0 := own_fxv hFx W0 (by omega)
              refine X.aload (q := 113) own_d_prog_8_method_5_111 rfl rfl rfl ?_
              refine X.iload (q := 115) own_d_prog_8_method_5_113 rfl rfl ?_
              refine X.laload (q := 116) (j := W0) (v := (.long (F W0))) Ab hwv0 (own_Hat F (by omega)) own_d_prog_8_method_5_115 rfl ?_
              refine X.callS (own_bitc l Z a0 hw h n0 (F W0)) (hw _ (List.mem_of_getElem? (i := 97) rfl)) (hw _ (List.mem_of_getElem? (i := 98) rfl)) (hw _ (List.mem_of_getElem? (i := 99) rfl)) (hw _ (List.mem_of_getElem? (i := 100) rfl)) (by decide) own_pd2 (argsL := [(.long (F W0))]) (rest := [(.int cnt0)]) rfl rfl rfl (W := 1) (Nat.le_of_eq rfl) rfl (by decide) (by decide) (k' := 0) (n' := 0) rfl rfl (by decide) (by decide) own_d_prog_8_method_5_116 (q := 119) rfl ?_
              rintro _ _ ⟨za0, rfl, hza0, rfl⟩
              show X.G h 0 0 119 #[.val (.ref t), .val (.long f), .second, .val (.int (64 : Int32)), .val (.ref g), .val (.ref c), .val (.ref e), .val (.ref b), .val (.int (1 : Int32)), .val (.int wv0), .val (.int cnt0), .val (.int (0 : Int32)), .val (.long ((E0 ^^^ f) &&& (km ^^^ (-1 : Int64)))), .second, .unset, .unset] [(.int za0), (.int cnt0)]
              refine X.iadd (q := 120) own_d_prog_8_method_5_119 rfl ?_
              refine X.nmI (fun sm0 hsm0 => ?_)
              have hsm0_ : sm0.toInt = cnt0.toInt + za0.toInt := by rw [hsm0, own_add rfl (by omega) (by omega)]
              refine X.iload (q := 122) own_d_prog_8_method_5_120 rfl rfl ?_
              refine X.icmp_gt (b := 0) (q' := 144) (q := 125) own_d_prog_8_method_5_122 rfl rfl (by decide) rfl (fun c122 => ?_) (fun c122 => ?_)
              · refine X.iload (q := 146) own_d_prog_8_method_5_144 rfl rfl ?_
                refine X.bipush (q := 148) (64 : Int32) own_d_prog_8_method_5_146 (by decide) rfl ?_
                refine X.imul (q := 149) own_d_prog_8_method_5_148 rfl ?_
                refine X.nmI (fun mm0 hmm0 => ?_)
                have hmm0_ : mm0.toInt = (W0 : Int) * 64 := by rw [hmm0, Jvm.Kit.i32_mul (by rw [e64, hwv0]; omega) (by rw [e64, hwv0]; omega), e64, hwv0]
                refine X.aload (q := 151) own_d_prog_8_method_5_149 rfl rfl rfl ?_
                refine X.iload (q := 153) own_d_prog_8_method_5_151 rfl rfl ?_
                refine X.laload (q := 154) (j := W0) (v := (.long (F W0))) Ab hwv0 (own_Hat F (by omega)) own_d_prog_8_method_5_153 rfl ?_
                refine X.iload (q := 156) own_d_prog_8_method_5_154 rfl rfl ?_
                refine X.iload (q := 158) own_d_prog_8_method_5_156 rfl rfl ?_
                refine X.isub (q := 159) own_d_prog_8_method_5_158 rfl ?_
                refine X.nmI (fun nn0 hnn0 => ?_)
                have hnn0_ : nn0.toInt = 0 - cnt0.toInt := by rw [hnn0, own_sub rfl (by omega) (by omega)]; rfl
                obtain ⟨R0, hR0, hR0v⟩ := own_fxr0 (W := W0) (nn := nn0) hFx (by omega) (by omega)
                refine X.callS (own_nth l Z a0 hw h n0 (F W0) nn0 R0 hR0) (hw _ (List.mem_of_getElem? (i := 104) rfl)) (hw _ (List.mem_of_getElem? (i := 105) rfl)) (hw _ (List.mem_of_getElem? (i := 5) rfl)) (hw _ (List.mem_of_getElem? (i := 106) rfl)) (by decide) own_pd8 (argsL := [(.long (F W0)), (.int nn0)]) (rest := [(.int mm0)]) rfl rfl rfl (W := 1) (Nat.le_of_eq rfl) rfl (by decide) (by decide) (k' := 0) (n' := 0) rfl rfl (by decide) (by decide) own_d_prog_8_method_5_159 (q := 162) rfl ?_
                rintro _ _ ⟨rfl, rfl⟩
                show X.G h 0 0 162 #[.val (.ref t), .val (.long f), .second, .val (.int (64 : Int32)), .val (.ref g), .val (.ref c), .val (.ref e), .val (.ref b), .val (.int (1 : Int32)), .val (.int wv0), .val (.int cnt0), .val (.int (0 : Int32)), .val (.long ((E0 ^^^ f) &&& (km ^^^ (-1 : Int64)))), .second, .unset, .unset] [(.int R0), (.int mm0)]
                refine X.iadd (q := 163) own_d_prog_8_method_5_162 rfl ?_
                refine X.nmI (fun qq0 hqq0 => ?_)
                have hqq0_ : qq0.toInt = mm0.toInt + R0.toInt := by rw [hqq0, own_add rfl (by omega) (by omega)]
                refine X.iload (q := 165) own_d_prog_8_method_5_163 rfl rfl ?_
                refine X.isub (q := 166) own_d_prog_8_method_5_165 rfl ?_
                refine X.nmI (fun ps0 hps0 => ?_)
                have hps0_ : ps0.toInt = qq0.toInt - 0 := by rw [hps0, own_sub (b := 0) rfl (by omega) (by omega)]
                refine X.istore (q := 168) (Ls' := #[.val (.ref t), .val (.long f), .second, .val (.int (64 : Int32)), .val (.ref g), .val (.ref c), .val (.ref e), .val (.ref b), .val (.int (1 : Int32)), .val (.int wv0), .val (.int cnt0), .val (.int (0 : Int32)), .val (.long ((E0 ^^^ f) &&& (km ^^^ (-1 : Int64)))), .second, .val (.int ps0), .unset]) own_d_prog_8_method_5_166 rfl rfl ?_
                refine X.iload (q := 170) own_d_prog_8_method_5_168 rfl rfl ?_
                refine X.aloadN (q := 171) own_d_prog_8_method_5_170 rfl rfl rfl ?_
                refine X.getF (q := 174) (host := "") (Or.inl (hw _ (List.mem_of_getElem? (i := 24) rfl))) Via.refl FkeyBits own_d_prog_8_method_5_171 rfl ?_
                refine X.ishl (q := 175) own_d_prog_8_method_5_174 rfl ?_
                refine X.aload (q := 177) own_d_prog_8_method_5_175 rfl rfl rfl ?_
                refine X.iload (q := 179) own_d_prog_8_method_5_177 rfl rfl ?_
                refine X.laload (q := 180) (j := 0) (v := (.long E0)) Ae rfl rfl own_d_prog_8_method_5_179 rfl ?_
                refine X.aloadN (q := 181) own_d_prog_8_method_5_180 rfl rfl rfl ?_
                refine X.getF (q := 184) (host := "") (Or.inl (hw _ (List.mem_of_getElem? (i := 26) rfl))) Via.refl FkeyShift own_d_prog_8_method_5_181 rfl ?_
                refine X.lushr (q := 185) own_d_prog_8_method_5_184 rfl ?_
                refine X.l2i (q := 186) own_d_prog_8_method_5_185 rfl ?_
                refine X.aloadN (q := 187) own_d_prog_8_method_5_186 rfl rfl rfl ?_
                refine X.getF (q := 190) (host := "") (Or.inl (hw _ (List.mem_of_getElem? (i := 28) rfl))) Via.refl FlowMask own_d_prog_8_method_5_187 rfl ?_
                refine X.iand (q := 191) own_d_prog_8_method_5_190 rfl ?_
                refine X.ior (q := 192) own_d_prog_8_method_5_191 rfl ?_
                refine X.foldI (v := p1) (hp0 ps0 (by omega)) ?_
                refine X.istore (q := 194) (Ls' := #[.val (.ref t), .val (.long f), .second, .val (.int (64 : Int32)), .val (.ref g), .val (.ref c), .val (.ref e), .val (.ref b), .val (.int (1 : Int32)), .val (.int wv0), .val (.int cnt0), .val (.int (0 : Int32)), .val (.long ((E0 ^^^ f) &&& (km ^^^ (-1 : Int64)))), .second, .val (.int ps0), .val (.int p1)]) own_d_prog_8_method_5_192 rfl rfl ?_
                refine X.aload (q := 196) own_d_prog_8_method_5_194 rfl rfl rfl ?_
                refine X.iload (q := 198) own_d_prog_8_method_5_196 rfl rfl ?_
                refine X.aload (q := 200) own_d_prog_8_method_5_198 rfl rfl rfl ?_
                refine X.iload (q := 202) own_d_prog_8_method_5_200 rfl rfl ?_
                refine X.laload (q := 203) (j := 0) (v := (.long E0)) Ae rfl rfl own_d_prog_8_method_5_202 rfl ?_
                refine X.aloadN (q := 204) own_d_prog_8_method_5_203 rfl rfl rfl ?_
                refine X.getF (q := 207) (host := "") (Or.inl (hw _ (List.mem_of_getElem? (i := 30) rfl))) Via.refl FkeyMask own_d_prog_8_method_5_204 rfl ?_
                refine X.ldc2_w (q := 210) (v := (-1 : Int64)) (hw _ (List.mem_of_getElem? (i := 17) rfl)) own_d_prog_8_method_5_207 rfl ?_
                refine X.lxor (q := 211) own_d_prog_8_method_5_210 rfl ?_
                refine X.land (q := 212) own_d_prog_8_method_5_211 rfl ?_
                refine X.lloadN (q := 213) own_d_prog_8_method_5_212 rfl rfl ?_
                refine X.aloadN (q := 214) own_d_prog_8_method_5_213 rfl rfl rfl ?_
                refine X.getF (q := 217) (host := "") (Or.inl (hw _ (List.mem_of_getElem? (i := 30) rfl))) Via.refl FkeyMask own_d_prog_8_method_5_214 rfl ?_
                refine X.land (q := 218) own_d_prog_8_method_5_217 rfl ?_
                refine X.lor (q := 219) own_d_prog_8_method_5_218 rfl ?_
                refine X.foldJ (v := f) (hf0) ?_
                refine X.virtual (a := g) (own_hadd l Z a0 hw h n0 g pp ff p1 f (0 : Int32) 0 _ _ rfl (by decide) rfl rfl hn0 Bg Fgp Fgf Fgc Ap Af geg gepp geff negpp negff neppff) (hw _ (List.mem_of_getElem? (i := 115) rfl)) (hw _ (List.mem_of_getElem? (i := 116) rfl)) (hw _ (List.mem_of_getElem? (i := 118) rfl)) (hw _ (List.mem_of_getElem? (i := 117) rfl)) (hw _ (List.mem_of_getElem? (i := 75) rfl)) (hw _ (List.mem_of_getElem? (i := 119) rfl)) (by decide) Bg own_pd9 (argsL := [(.int p1), (.long f)]) (rest := []) rfl rfl rfl (W := 0) (Nat.le_of_eq rfl) rfl (by decide) (by decide) (k' := 0) (n' := 0) rfl rfl (by decide) (by decide) own_d_prog_8_method_5_219 (q := 222) rfl ?_
                rintro _ h1 ⟨rfl, Kh1c, Q0p, Q0f, Q0c, Q0A, Q0B⟩
                have B'h1 : Exa Z h1 t "com/example/vireo/vireo/index/BlockTable" := Exa.keep B Kh1c
                have FblockMask'h1 : Fld Z h1 t "com/example/vireo/vireo/index/BlockTable" "blockMask" "J" (.long bm) := Fld.keep FblockMask Kh1c (ninS netg (ninS netpp (ninS netff nin0)))
                have FearlierTops'h1 : Fld Z h1 t "com/example/vireo/vireo/index/BlockTable" "earlierTops" "J" (.long (0 : Int64)) := Fld.keep FearlierTops Kh1c (ninS netg (ninS netpp (ninS netff nin0)))
                have FearlierRests'h1 : Fld Z h1 t "com/example/vireo/vireo/index/BlockTable" "earlierRests" "J" (.long (0 : Int64)) := Fld.keep FearlierRests Kh1c (ninS netg (ninS netpp (ninS netff nin0)))
                have FkeyBits'h1 : Fld Z h1 t "com/example/vireo/vireo/index/BlockTable" "keyBits" "I" (.int kb) := Fld.keep FkeyBits Kh1c (ninS netg (ninS netpp (ninS netff nin0)))
                have FkeyShift'h1 : Fld Z h1 t "com/example/vireo/vireo/index/BlockTable" "keyShift" "I" (.int ks) := Fld.keep FkeyShift Kh1c (ninS netg (ninS netpp (ninS netff nin0)))
                have FlowMask'h1 : Fld Z h1 t "com/example/vireo/vireo/index/BlockTable" "lowMask" "I" (.int lm) := Fld.keep FlowMask Kh1c (ninS netg (ninS netpp (ninS netff nin0)))
                have FkeyMask'h1 : Fld Z h1 t "com/example/vireo/vireo/index/BlockTable" "keyMask" "J" (.long km) := Fld.keep FkeyMask Kh1c (ninS netg (ninS netpp (ninS netff nin0)))
                have Fbuckets'h1 : Fld Z h1 t "com/example/vireo/vireo/index/BlockTable" "buckets" "[Lcom/example/vireo/vireo/index/BlockTable$Bucket;" (.ref u) := Fld.keep Fbuckets Kh1c (ninS netg (ninS netpp (ninS netff nin0)))
                have Au'h1 : OwA Z h1 u (.object "com/example/vireo/vireo/index/BlockTable$Bucket") us := OwA.keep Au Kh1c (ninS neug (ninS neupp (ninS neuff nin0)))
                have Bc'h1 : Exa Z h1 c "com/example/vireo/vireo/index/BlockTable$Bucket" := Exa.keep Bc Kh1c
                have Fbe'h1 : Fld Z h1 c "com/example/vireo/vireo/index/BlockTable$Bucket" "entries" "[J" (.ref e) := Fld.keep Fbe Kh1c (ninS necg (ninS necpp (ninS necff nin0)))
                have Fbh'h1 : Fld Z h1 c "com/example/vireo/vireo/index/BlockTable$Bucket" "highs" "[J" (.ref b) := Fld.keep Fbh Kh1c (ninS necg (ninS necpp (ninS necff nin0)))
                have Fbs'h1 : Fld Z h1 c "com/example/vireo/vireo/index/BlockTable$Bucket" "size" "I" (.int (2 : Int32)) := Fld.keep Fbs Kh1c (ninS necg (ninS necpp (ninS necff nin0)))
                have Ae'h1 : OwA Z h1 e .long [(.long E0), (.long E1), (.long (0 : Int64)), (.long (0 : Int64))] := OwA.keep Ae Kh1c (ninS neeg (ninS neepp (ninS neeff nin0)))
                have Ab'h1 : OwA Z h1 b .long (own_H L F) := OwA.keep Ab Kh1c (ninS nebg (ninS nebpp (ninS nebff nin0)))
                have Bg'h1 : Exa Z h1 g "com/example/vireo/vireo/index/BlockTable$Hits" := Exa.keep Bg Kh1c
                have hsh1 : n0 ≤ h1.size := Nat.le_trans hn0 Kh1c.1
                have Kh1 : Keep h h1 [g, pp, ff] := Keep.trans K0 Kh1c (allS (Or.inl (List.mem_of_getElem? (i := 0) rfl)) (allS (Or.inl (List.mem_of_getElem? (i := 1) rfl)) (allS (Or.inl (List.mem_of_getElem? (i := 2) rfl)) all0)))
                show X.G h1 0 0 222 #[.val (.ref t), .val (.long f), .second, .val (.int (64 : Int32)), .val (.ref g), .val (.ref c), .val (.ref e), .val (.ref b), .val (.int (1 : Int32)), .val (.int wv0), .val (.int cnt0), .val (.int (0 : Int32)), .val (.long ((E0 ^^^ f) &&& (km ^^^ (-1 : Int64)))), .second, .val (.int ps0), .val (.int p1)] []
                have Q0c : Fld Z h1 g "com/example/vireo/vireo/index/BlockTable$Hits" "count" "I" (.int (1 : Int32)) := Q0c
                have Q0A : OwA Z h1 pp .int [(.int p1), (.int (0 : Int32)), (.int (0 : Int32)), (.int (0 : Int32))] := Q0A
                have Q0B : OwA Z h1 ff .long [(.long f), (.long (0 : Int64)), (.long (0 : Int64)), (.long (0 : Int64))] := Q0B
                refine X.iinc (q := 225) (Ls' := #[.val (.ref t), .val (.long f), .second, .val (.int (64 : Int32)), .val (.ref g), .val (.ref c), .val (.ref e), .val (.ref b), .val (.int (1 : Int32)), .val (.int wv0), .val (.int cnt0), .val (.int (1 : Int32)), .val (.long ((E0 ^^^ f) &&& (km ^^^ (-1 : Int64)))), .second, .val (.int ps0), .val (.int p1)]) (1 : Int32) own_d_prog_8_method_5_222 (by decide) rfl rfl rfl ?_
                refine X.goto (q' := 45) own_d_prog_8_method_5_225 (by decide) ?_
                refine X.iload (q := 47) own_d_prog_8_method_5_45 rfl rfl ?_
                refine X.aload (q := 49) own_d_prog_8_method_5_47 rfl rfl rfl ?_
                refine X.getR (q := 52) (hw _ (List.mem_of_getElem? (i := 92) rfl)) Fbs'h1 own_d_prog_8_method_5_49 rfl ?_
                refine X.icmp_ge (a := 1) (b := 2) (q' := 228) (q := 55) own_d_prog_8_method_5_52 rfl rfl (by decide) rfl (fun c52 => ?_) (fun c52 => ?_)
                · omega
                · refine X.aload (q := 57) own_d_prog_8_method_5_55 rfl rfl rfl ?_
                  refine X.iload (q := 59) own_d_prog_8_method_5_57 rfl rfl ?_
                  refine X.laload (q := 60) (j := 1) (v := (.long E1)) Ae'h1 rfl rfl own_d_prog_8_method_5_59 rfl ?_
                  refine X.lloadN (q := 61) own_d_prog_8_method_5_60 rfl rfl ?_
                  refine X.lxor (q := 62) own_d_prog_8_method_5_61 rfl ?_
                  refine X.aloadN (q := 63) own_d_prog_8_method_5_62 rfl rfl rfl ?_
                  refine X.getF (q := 66) (host := "") (Or.inl (hw _ (List.mem_of_getElem? (i := 30) rfl))) Via.refl FkeyMask'h1 own_d_prog_8_method_5_63 rfl ?_
                  refine X.ldc2_w (q := 69) (v := (-1 : Int64)) (hw _ (List.mem_of_getElem? (i := 17) rfl)) own_d_prog_8_method_5_66 rfl ?_
                  refine X.lxor (q := 70) own_d_prog_8_method_5_69 rfl ?_
                  refine X.land (q := 71) own_d_prog_8_method_5_70 rfl ?_
                  refine X.lstore (q := 73) (Ls' := #[.val (.ref t), .val (.long f), .second, .val (.int (64 : Int32)), .val (.ref g), .val (.ref c), .val (.ref e), .val (.ref b), .val (.int (1 : Int32)), .val (.int wv0), .val (.int cnt0), .val (.int (1 : Int32)), .val (.long ((E1 ^^^ f) &&& (km ^^^ (-1 : Int64)))), .second, .val (.int ps0), .val (.int p1)]) own_d_prog_8_method_5_71 rfl rfl ?_
                  refine X.lload (q := 75) own_d_prog_8_method_5_73 rfl rfl ?_
                  refine X.aloadN (q := 76) own_d_prog_8_method_5_75 rfl rfl rfl ?_
                  refine X.getF (q := 79) (host := "") (Or.inl (hw _ (List.mem_of_getElem? (i := 13) rfl))) Via.refl FblockMask'h1 own_d_prog_8_method_5_76 rfl ?_
                  refine X.land (q := 80) own_d_prog_8_method_5_79 rfl ?_
                  refine X.foldJ (v := (0 : Int64)) (hx1) ?_
                  refine X.lconst (q := 81) (0 : Int64) own_d_prog_8_method_5_80 (by decide) rfl ?_
                  refine X.lcmp_ne (a := 0) (b := 0) (q1 := 82) (q' := 222) (q := 85) own_d_prog_8_method_5_81 rfl own_d_prog_8_method_5_82 rfl rfl (by decide) rfl (fun c81 => ?_) (fun c81 => ?_)
                  · omega
                  · refine X.aloadN (q := 86) own_d_prog_8_method_5_85 rfl rfl rfl ?_
                    refine X.lload (q := 88) own_d_prog_8_method_5_86 rfl rfl ?_
                    refine X.private (a := t) (own_ae l Z a0 hw h1 n0 t ((E1 ^^^ f) &&& (km ^^^ (-1 : Int64))) hsh1 FearlierTops'h1 FearlierRests'h1) (hw _ (List.mem_of_getElem? (i := 93) rfl)) (hw _ (List.mem_of_getElem? (i := 94) rfl)) (hw _ (List.mem_of_getElem? (i := 95) rfl)) (hw _ (List.mem_of_getElem? (i := 4) rfl)) (hw _ (List.mem_of_getElem? (i := 5) rfl)) (hw _ (List.mem_of_getElem? (i := 96) rfl)) (by decide) B'h1 own_pd7 (argsL := [(.long ((E1 ^^^ f) &&& (km ^^^ (-1 : Int64))))]) (rest := []) rfl rfl rfl (W := 0) (Nat.le_of_eq rfl) rfl (by decide) (by decide) (k' := 0) (n' := 0) rfl rfl (by decide) (by decide) own_d_prog_8_method_5_88 (q := 91) rfl ?_
                    rintro _ _ ⟨rfl, rfl⟩
                    show X.G h1 0 0 91 #[.val (.ref t), .val (.long f), .second, .val (.int (64 : Int32)), .val (.ref g), .val (.ref c), .val (.ref e), .val (.ref b), .val (.int (1 : Int32)), .val (.int wv0), .val (.int cnt0), .val (.int (1 : Int32)), .val (.long ((E1 ^^^ f) &&& (km ^^^ (-1 : Int64)))), .second, .val (.int ps0), .val (.int p1)] [(.int (0 : Int32))]
                    refine X.if_eq (a := 0) (q' := 97) (q := 94) own_d_prog_8_method_5_91 rfl (by decide) rfl (fun c91 => ?_) (fun c91 => ?_)
                    · refine X.iinc (q := 100) (Ls' := #[.val (.ref t), .val (.long f), .second, .val (.int (64 : Int32)), .val (.ref g), .val (.ref c), .val (.ref e), .val (.ref b), .val (.int (2 : Int32)), .val (.int wv0), .val (.int cnt0), .val (.int (1 : Int32)), .val (.long ((E1 ^^^ f) &&& (km ^^^ (-1 : Int64)))), .second, .val (.int ps0), .val (.int p1)]) (1 : Int32) own_d_prog_8_method_5_97 (by decide) rfl rfl rfl ?_
                      refine X.lload (q := 102) own_d_prog_8_method_5_100 rfl rfl ?_
                      refine X.callS (own_bitc l Z a0 hw h1 n0 ((E1 ^^^ f) &&& (km ^^^ (-1 : Int64)))) (hw _ (List.mem_of_getElem? (i := 97) rfl)) (hw _ (List.mem_of_getElem? (i := 98) rfl)) (hw _ (List.mem_of_getElem? (i := 99) rfl)) (hw _ (List.mem_of_getElem? (i := 100) rfl)) (by decide) own_pd2 (argsL := [(.long ((E1 ^^^ f) &&& (km ^^^ (-1 : Int64))))]) (rest := []) rfl rfl rfl (W := 0) (Nat.le_of_eq rfl) rfl (by decide) (by decide) (k' := 0) (n' := 0) rfl rfl (by decide) (by decide) own_d_prog_8_method_5_102 (q := 105) rfl ?_
                      rintro _ _ ⟨y1, rfl, hy1, rfl⟩
                      show X.G h1 0 0 105 #[.val (.ref t), .val (.long f), .second, .val (.int (64 : Int32)), .val (.ref g), .val (.ref c), .val (.ref e), .val (.ref b), .val (.int (2 : Int32)), .val (.int wv0), .val (.int cnt0), .val (.int (1 : Int32)), .val (.long ((E1 ^^^ f) &&& (km ^^^ (-1 : Int64)))), .second, .val (.int ps0), .val (.int p1)] [(.int y1)]
                      refine X.iloadN (q := 106) own_d_prog_8_method_5_105 rfl rfl ?_
                      refine X.icmp_gt (b := 64) (q' := 222) (q := 109) own_d_prog_8_method_5_106 rfl rfl (by decide) rfl (fun c106 => ?_) (fun c106 => ?_)
                      · omega
                      · have L109 : ∀ (N_ : Nat) (W1 : Nat) (wv1 : Int32) (cnt1 : Int32), (wv1.toInt = (W1 : Int)) → ((W1 = H1 / 64 ∧ cnt1.toInt = 0) ∨ (H1 / 64 < W1 ∧ W1 ≤ H2 / 64 ∧ cnt1.toInt = 1)) → (H2 / 64 + 1 - W1 = N_) → X.G h1 0 0 109 #[.val (.ref t), .val (.long f), .second, .val (.int (64 : Int32)), .val (.ref g), .val (.ref c), .val (.ref e), .val (.ref b), .val (.int (2 : Int32)), .val (.int wv1), .val (.int cnt1), .val (.int (1 : Int32)), .val (.long ((E1 ^^^ f) &&& (km ^^^ (-1 : Int64)))), .second, .val (.int ps0), .val (.int p1)] [] := by
                          intro N_
                          induction N_ using Nat.strongRecOn with
                          | ind N_ ih =>
                            intro W1 wv1 cnt1 hwv1 hinv1 hN_
                            refine X.iload (q := 111) own_d_prog_8_method_5_109 rfl rfl ?_
                            have fv1 := own_fxv hFx W1 (by omega)
                            refine X.aload (q := 113) own_d_prog_8_method_5_111 rfl rfl rfl ?_
                            refine X.iload (q := 115) own_d_prog_8_method_5_113 rfl rfl ?_
                            refine X.laload (q := 116) (j := W1) (v := (.long (F W1))) Ab'h1 hwv1 (own_Hat F (by omega)) own_d_prog_8_method_5_115 rfl ?_
                            refine X.callS (own_bitc l Z a0 hw h1 n0 (F W1)) (hw _ (List.mem_of_getElem? (i := 97) rfl)) (hw _ (List.mem_of_getElem? (i := 98) rfl)) (hw _ (List.mem_of_getElem? (i := 99) rfl)) (hw _ (List.mem_of_getElem? (i := 100) rfl)) (by decide) own_pd2 (argsL := [(.long (F W1))]) (rest := [(.int cnt1)]) rfl rfl rfl (W := 1) (Nat.le_of_eq rfl) rfl (by decide) (by decide) (k' := 0) (n' := 0) rfl rfl (by decide) (by decide) own_d_prog_8_method_5_116 (q := 119) rfl ?_
                            rintro _ _ ⟨za1, rfl, hza1, rfl⟩
                            show X.G h1 0 0 119 #[.val (.ref t), .val (.long f), .second, .val (.int (64 : Int32)), .val (.ref g), .val (.ref c), .val (.ref e), .val (.ref b), .val (.int (2 : Int32)), .val (.int wv1), .val (.int cnt1), .val (.int (1 : Int32)), .val (.long ((E1 ^^^ f) &&& (km ^^^ (-1 : Int64)))), .second, .val (.int ps0), .val (.int p1)] [(.int za1), (.int cnt1)]
                            refine X.iadd (q := 120) own_d_prog_8_method_5_119 rfl ?_
                            refine X.nmI (fun sm1 hsm1 => ?_)
                            have hsm1_ : sm1.toInt = cnt1.toInt + za1.toInt := by rw [hsm1, own_add rfl (by omega) (by omega)]
                            refine X.iload (q := 122) own_d_prog_8_method_5_120 rfl rfl ?_
                            refine X.icmp_gt (b := 1) (q' := 144) (q := 125) own_d_prog_8_method_5_122 rfl rfl (by decide) rfl (fun c122 => ?_) (fun c122 => ?_)
                            · refine X.iload (q := 146) own_d_prog_8_method_5_144 rfl rfl ?_
                              refine X.bipush (q := 148) (64 : Int32) own_d_prog_8_method_5_146 (by decide) rfl ?_
                              refine X.imul (q := 149) own_d_prog_8_method_5_148 rfl ?_
                              refine X.nmI (fun mm1 hmm1 => ?_)
                              have hmm1_ : mm1.toInt = (W1 : Int) * 64 := by rw [hmm1, Jvm.Kit.i32_mul (by rw [e64, hwv1]; omega) (by rw [e64, hwv1]; omega), e64, hwv1]
                              refine X.aload (q := 151) own_d_prog_8_method_5_149 rfl rfl rfl ?_
                              refine X.iload (q := 153) own_d_prog_8_method_5_151 rfl rfl ?_
                              refine X.laload (q := 154) (j := W1) (v := (.long (F W1))) Ab'h1 hwv1 (own_Hat F (by omega)) own_d_prog_8_method_5_153 rfl ?_
                              refine X.iload (q := 156) own_d_prog_8_method_5_154 rfl rfl ?_
                              refine X.iload (q := 158) own_d_prog_8_method_5_156 rfl rfl ?_
                              refine X.isub (q := 159) own_d_prog_8_method_5_158 rfl ?_
                              refine X.nmI (fun nn1 hnn1 => ?_)
                              have hnn1_ : nn1.toInt = 1 - cnt1.toInt := by rw [hnn1, own_sub rfl (by omega) (by omega)]; rfl
                              obtain ⟨R1, hR1, hR1v⟩ := own_fxr1 (W := W1) (nn := nn1) hFx (by omega)
                              refine X.callS (own_nth l Z a0 hw h1 n0 (F W1) nn1 R1 hR1) (hw _ (List.mem_of_getElem? (i := 104) rfl)) (hw _ (List.mem_of_getElem? (i := 105) rfl)) (hw _ (List.mem_of_getElem? (i := 5) rfl)) (hw _ (List.mem_of_getElem? (i := 106) rfl)) (by decide) own_pd8 (argsL := [(.long (F W1)), (.int nn1)]) (rest := [(.int mm1)]) rfl rfl rfl (W := 1) (Nat.le_of_eq rfl) rfl (by decide) (by decide) (k' := 0) (n' := 0) rfl rfl (by decide) (by decide) own_d_prog_8_method_5_159 (q := 162) rfl ?_
                              rintro _ _ ⟨rfl, rfl⟩
                              show X.G h1 0 0 162 #[.val (.ref t), .val (.long f), .second, .val (.int (64 : Int32)), .val (.ref g), .val (.ref c), .val (.ref e), .val (.ref b), .val (.int (2 : Int32)), .val (.int wv1), .val (.int cnt1), .val (.int (1 : Int32)), .val (.long ((E1 ^^^ f) &&& (km ^^^ (-1 : Int64)))), .second, .val (.int ps0), .val (.int p1)] [(.int R1), (.int mm1)]
                              refine X.iadd (q := 163) own_d_prog_8_method_5_162 rfl ?_
                              refine X.nmI (fun qq1 hqq1 => ?_)
                              have hqq1_ : qq1.toInt = mm1.toInt + R1.toInt := by rw [hqq1, own_add rfl (by omega) (by omega)]
                              refine X.iload (q := 165) own_d_prog_8_method_5_163 rfl rfl ?_
                              refine X.isub (q := 166) own_d_prog_8_method_5_165 rfl ?_
                              refine X.nmI (fun ps1 hps1 => ?_)
                              have hps1_ : ps1.toInt = qq1.toInt - 1 := by rw [hps1, own_sub (b := 1) rfl (by omega) (by omega)]
                              refine X.istore (q := 168) (Ls' := #[.val (.ref t), .val (.long f), .second, .val (.int (64 : Int32)), .val (.ref g), .val (.ref c), .val (.ref e), .val (.ref b), .val (.int (2 : Int32)), .val (.int wv1), .val (.int cnt1), .val (.int (1 : Int32)), .val (.long ((E1 ^^^ f) &&& (km ^^^ (-1 : Int64)))), .second, .val (.int ps1), .val (.int p1)]) own_d_prog_8_method_5_166 rfl rfl ?_
                              refine X.iload (q := 170) own_d_prog_8_method_5_168 rfl rfl ?_
                              refine X.aloadN (q := 171) own_d_prog_8_method_5_170 rfl rfl rfl ?_
                              refine X.getF (q := 174) (host := "") (Or.inl (hw _ (List.mem_of_getElem? (i := 24) rfl))) Via.refl FkeyBits'h1 own_d_prog_8_method_5_171 rfl ?_
                              refine X.ishl (q := 175) own_d_prog_8_method_5_174 rfl ?_
                              refine X.aload (q := 177) own_d_prog_8_method_5_175 rfl rfl rfl ?_
                              refine X.iload (q := 179) own_d_prog_8_method_5_177 rfl rfl ?_
                              refine X.laload (q := 180) (j := 1) (v := (.long E1)) Ae'h1 rfl rfl own_d_prog_8_method_5_179 rfl ?_
                              refine X.aloadN (q := 181) own_d_prog_8_method_5_180 rfl rfl rfl ?_
                              refine X.getF (q := 184) (host := "") (Or.inl (hw _ (List.mem_of_getElem? (i := 26) rfl))) Via.refl FkeyShift'h1 own_d_prog_8_method_5_181 rfl ?_
                              refine X.lushr (q := 185) own_d_prog_8_method_5_184 rfl ?_
                              refine X.l2i (q := 186) own_d_prog_8_method_5_185 rfl ?_
                              refine X.aloadN (q := 187) own_d_prog_8_method_5_186 rfl rfl rfl ?_
                              refine X.getF (q := 190) (host := "") (Or.inl (hw _ (List.mem_of_getElem? (i := 28) rfl))) Via.refl FlowMask'h1 own_d_prog_8_method_5_187 rfl ?_
                              refine X.iand (q := 191) own_d_prog_8_method_5_190 rfl ?_
                              refine X.ior (q := 192) own_d_prog_8_method_5_191 rfl ?_
                              refine X.foldI (v := p2) (hp1 ps1 (by omega)) ?_
                              refine X.istore (q := 194) (Ls' := #[.val (.ref t), .val (.long f), .second, .val (.int (64 : Int32)), .val (.ref g), .val (.ref c), .val (.ref e), .val (.ref b), .val (.int (2 : Int32)), .val (.int wv1), .val (.int cnt1), .val (.int (1 : Int32)), .val (.long ((E1 ^^^ f) &&& (km ^^^ (-1 : Int64)))), .second, .val (.int ps1), .val (.int p2)]) own_d_prog_8_method_5_192 rfl rfl ?_
                              refine X.aload (q := 196) own_d_prog_8_method_5_194 rfl rfl rfl ?_
                              refine X.iload (q := 198) own_d_prog_8_method_5_196 rfl rfl ?_
                              refine X.aload (q := 200) own_d_prog_8_method_5_198 rfl rfl rfl ?_
                              refine X.iload (q := 202) own_d_prog_8_method_5_200 rfl rfl ?_
                              refine X.laload (q := 203) (j := 1) (v := (.long E1)) Ae'h1 rfl rfl own_d_prog_8_method_5_202 rfl ?_
                              refine X.aloadN (q := 204) own_d_prog_8_method_5_203 rfl rfl rfl ?_
                              refine X.getF (q := 207) (host := "") (Or.inl (hw _ (List.mem_of_getElem? (i := 30) rfl))) Via.refl FkeyMask'h1 own_d_prog_8_method_5_204 rfl ?_
                              refine X.ldc2_w (q := 210) (v := (-1 : Int64)) (hw _ (List.mem_of_getElem? (i := 17) rfl)) own_d_prog_8_method_5_207 rfl ?_
                              refine X.lxor (q := 211) own_d_prog_8_method_5_210 rfl ?_
                              refine X.land (q := 212) own_d_prog_8_method_5_211 rfl ?_
                              refine X.lloadN (q := 213) own_d_prog_8_method_5_212 rfl rfl ?_
                              refine X.aloadN (q := 214) own_d_prog_8_method_5_213 rfl rfl rfl ?_
                              refine X.getF (q := 217) (host := "") (Or.inl (hw _ (List.mem_of_getElem? (i := 30) rfl))) Via.refl FkeyMask'h1 own_d_prog_8_method_5_214 rfl ?_
                              refine X.land (q := 218) own_d_prog_8_method_5_217 rfl ?_
                              refine X.lor (q := 219) own_d_prog_8_method_5_218 rfl ?_
                              refine X.foldJ (v := fq) (hf1) ?_
                              refine X.virtual (a := g) (own_hadd l Z a0 hw h1 n0 g pp ff p2 fq (1 : Int32) 1 _ _ rfl (by decide) rfl rfl hsh1 Bg'h1 Q0p Q0f Q0c Q0A Q0B geg gepp geff negpp negff neppff) (hw _ (List.mem_of_getElem? (i := 115) rfl)) (hw _ (List.mem_of_getElem? (i := 116) rfl)) (hw _ (List.mem_of_getElem? (i := 118) rfl)) (hw _ (List.mem_of_getElem? (i := 117) rfl)) (hw _ (List.mem_of_getElem? (i := 75) rfl)) (hw _ (List.mem_of_getElem? (i := 119) rfl)) (by decide) Bg'h1 own_pd9 (argsL := [(.int p2), (.long fq)]) (rest := []) rfl rfl rfl (W := 0) (Nat.le_of_eq rfl) rfl (by decide) (by decide) (k' := 0) (n' := 0) rfl rfl (by decide) (by decide) own_d_prog_8_method_5_219 (q := 222) rfl ?_
                              rintro _ h2 ⟨rfl, Kh2c, Q1p, Q1f, Q1c, Q1A, Q1B⟩
                              have B'h2 : Exa Z h2 t "com/example/vireo/vireo/index/BlockTable" := Exa.keep B'h1 Kh2c
                              have FblockMask'h2 : Fld Z h2 t "com/example/vireo/vireo/index/BlockTable" "blockMask" "J" (.long bm) := Fld.keep FblockMask'h1 Kh2c (ninS netg (ninS netpp (ninS netff nin0)))
                              have FearlierTops'h2 : Fld Z h2 t "com/example/vireo/vireo/index/BlockTable" "earlierTops" "J" (.long (0 : Int64)) := Fld.keep FearlierTops'h1 Kh2c (ninS netg (ninS netpp (ninS netff nin0)))
                              have FearlierRests'h2 : Fld Z h2 t "com/example/vireo/vireo/index/BlockTable" "earlierRests" "J" (.long (0 : Int64)) := Fld.keep FearlierRests'h1 Kh2c (ninS netg (ninS netpp (ninS netff nin0)))
                              have FkeyBits'h2 : Fld Z h2 t "com/example/vireo/vireo/index/BlockTable" "keyBits" "I" (.int kb) := Fld.keep FkeyBits'h1 Kh2c (ninS netg (ninS netpp (ninS netff nin0)))
                              have FkeyShift'h2 : Fld Z h2 t "com/example/vireo/vireo/index/BlockTable" "keyShift" "I" (.int ks) := Fld.keep FkeyShift'h1 Kh2c (ninS netg (ninS netpp (ninS netff nin0)))
                              have FlowMask'h2 : Fld Z h2 t "com/example/vireo/vireo/index/BlockTable" "lowMask" "I" (.int lm) := Fld.keep FlowMask'h1 Kh2c (ninS netg (ninS netpp (ninS netff nin0)))
                              have FkeyMask'h2 : Fld Z h2 t "com/example/vireo/vireo/index/BlockTable" "keyMask" "J" (.long km) := Fld.keep FkeyMask'h1 Kh2c (ninS netg (ninS netpp (ninS netff nin0)))
                              have Fbuckets'h2 : Fld Z h2 t "com/example/vireo/vireo/index/BlockTable" "buckets" "[Lcom/example/vireo/vireo/index/BlockTable$Bucket;" (.ref u) := Fld.keep Fbuckets'h1 Kh2c (ninS netg (ninS netpp (ninS netff nin0)))
                              have Au'h2 : OwA Z h2 u (.object "com/example/vireo/vireo/index/BlockTable$Bucket") us := OwA.keep Au'h1 Kh2c (ninS neug (ninS neupp (ninS neuff nin0)))
                              have Bc'h2 : Exa Z h2 c "com/example/vireo/vireo/index/BlockTable$Bucket" := Exa.keep Bc'h1 Kh2c
                              have Fbe'h2 : Fld Z h2 c "com/example/vireo/vireo/index/BlockTable$Bucket" "entries" "[J" (.ref e) := Fld.keep Fbe'h1 Kh2c (ninS necg (ninS necpp (ninS necff nin0)))
                              have Fbh'h2 : Fld Z h2 c "com/example/vireo/vireo/index/BlockTable$Bucket" "highs" "[J" (.ref b) := Fld.keep Fbh'h1 Kh2c (ninS necg (ninS necpp (ninS necff nin0)))
                              have Fbs'h2 : Fld Z h2 c "com/example/vireo/vireo/index/BlockTable$Bucket" "size" "I" (.int (2 : Int32)) := Fld.keep Fbs'h1 Kh2c (ninS necg (ninS necpp (ninS necff nin0)))
                              have Ae'h2 : OwA Z h2 e .long [(.long E0), (.long E1), (.long (0 : Int64)), (.long (0 : Int64))] := OwA.keep Ae'h1 Kh2c (ninS neeg (ninS neepp (ninS neeff nin0)))
                              have Ab'h2 : OwA Z h2 b .long (own_H L F) := OwA.keep Ab'h1 Kh2c (ninS nebg (ninS nebpp (ninS nebff nin0)))
                              have Bg'h2 : Exa Z h2 g "com/example/vireo/vireo/index/BlockTable$Hits" := Exa.keep Bg'h1 Kh2c
                              have hsh2 : n0 ≤ h2.size := Nat.le_trans hsh1 Kh2c.1
                              have Kh2 : Keep h h2 [g, pp, ff] := Keep.trans Kh1 Kh2c (allS (Or.inl (List.mem_of_getElem? (i := 0) rfl)) (allS (Or.inl (List.mem_of_getElem? (i := 1) rfl)) (allS (Or.inl (List.mem_of_getElem? (i := 2) rfl)) all0)))
                              show X.G h2 0 0 222 #[.val (.ref t), .val (.long f), .second, .val (.int (64 : Int32)), .val (.ref g), .val (.ref c), .val (.ref e), .val (.ref b), .val (.int (2 : Int32)), .val (.int wv1), .val (.int cnt1), .val (.int (1 : Int32)), .val (.long ((E1 ^^^ f) &&& (km ^^^ (-1 : Int64)))), .second, .val (.int ps1), .val (.int p2)] []
                              have Q1c : Fld Z h2 g "com/example/vireo/vireo/index/BlockTable$Hits" "count" "I" (.int (2 : Int32)) := Q1c
                              have Q1A : OwA Z h2 pp .int [(.int p1), (.int p2), (.int (0 : Int32)), (.int (0 : Int32))] := Q1A
                              have Q1B : OwA Z h2 ff .long [(.long f), (.long fq), (.long (0 : Int64)), (.long (0 : Int64))] := Q1B
                              refine X.iinc (q := 225) (Ls' := #[.val (.ref t), .val (.long f), .second, .val (.int (64 : Int32)), .val (.ref g), .val (.ref c), .val (.ref e), .val (.ref b), .val (.int (2 : Int32)), .val (.int wv1), .val (.int cnt1), .val (.int (2 : Int32)), .val (.long ((E1 ^^^ f) &&& (km ^^^ (-1 : Int64)))), .second, .val (.int ps1), .val (.int p2)]) (1 : Int32) own_d_prog_8_method_5_222 (by decide) rfl rfl rfl ?_
                              refine X.goto (q' := 45) own_d_prog_8_method_5_225 (by decide) ?_
                              refine X.iload (q := 47) own_d_prog_8_method_5_45 rfl rfl ?_
                              refine X.aload (q := 49) own_d_prog_8_method_5_47 rfl rfl rfl ?_
                              refine X.getR (q := 52) (hw _ (List.mem_of_getElem? (i := 92) rfl)) Fbs'h2 own_d_prog_8_method_5_49 rfl ?_
                              refine X.icmp_ge (a := 2) (b := 2) (q' := 228) (q := 55) own_d_prog_8_method_5_52 rfl rfl (by decide) rfl (fun c52 => ?_) (fun c52 => ?_)
                              · refine X.iload (q := 230) own_d_prog_8_method_5_228 rfl rfl ?_
                                refine X.retI own_d_prog_8_method_5_230 rfl (by decide) (by decide) ?_
                                exact ⟨rfl, Kh2, Q1p, Q1f, Q1c, Q1A, Q1B⟩
                              · omega
                            · refine X.iload (q := 127) own_d_prog_8_method_5_125 rfl rfl ?_
                              refine X.aload (q := 129) own_d_prog_8_method_5_127 rfl rfl rfl ?_
                              refine X.iload (q := 131) own_d_prog_8_method_5_129 rfl rfl ?_
                              refine X.laload (q := 132) (j := W1) (v := (.long (F W1))) Ab'h1 hwv1 (own_Hat F (by omega)) own_d_prog_8_method_5_131 rfl ?_
                              refine X.callS (own_bitc l Z a0 hw h1 n0 (F W1)) (hw _ (List.mem_of_getElem? (i := 97) rfl)) (hw _ (List.mem_of_getElem? (i := 98) rfl)) (hw _ (List.mem_of_getElem? (i := 99) rfl)) (hw _ (List.mem_of_getElem? (i := 100) rfl)) (by decide) own_pd2 (argsL := [(.long (F W1))]) (rest := [(.int cnt1)]) rfl rfl rfl (W := 1) (Nat.le_of_eq rfl) rfl (by decide) (by decide) (k' := 0) (n' := 0) rfl rfl (by decide) (by decide) own_d_prog_8_method_5_132 (q := 135) rfl ?_
                              rintro _ _ ⟨zb1, rfl, hzb1, rfl⟩
                              show X.G h1 0 0 135 #[.val (.ref t), .val (.long f), .second, .val (.int (64 : Int32)), .val (.ref g), .val (.ref c), .val (.ref e), .val (.ref b), .val (.int (2 : Int32)), .val (.int wv1), .val (.int cnt1), .val (.int (1 : Int32)), .val (.long ((E1 ^^^ f) &&& (km ^^^ (-1 : Int64)))), .second, .val (.int ps0), .val (.int p1)] [(.int zb1), (.int cnt1)]
                              refine X.iadd (q := 136) own_d_prog_8_method_5_135 rfl ?_
                              refine X.nmI (fun cn1 hcn1 => ?_)
                              have hcn1_ : cn1.toInt = cnt1.toInt + zb1.toInt := by rw [hcn1, own_add rfl (by omega) (by omega)]
                              refine X.istore (q := 138) (Ls' := #[.val (.ref t), .val (.long f), .second, .val (.int (64 : Int32)), .val (.ref g), .val (.ref c), .val (.ref e), .val (.ref b), .val (.int (2 : Int32)), .val (.int wv1), .val (.int cn1), .val (.int (1 : Int32)), .val (.long ((E1 ^^^ f) &&& (km ^^^ (-1 : Int64)))), .second, .val (.int ps0), .val (.int p1)]) own_d_prog_8_method_5_136 rfl rfl ?_
                              refine X.iinc (q := 141) (Ls' := #[.val (.ref t), .val (.long f), .second, .val (.int (64 : Int32)), .val (.ref g), .val (.ref c), .val (.ref e), .val (.ref b), .val (.int (2 : Int32)), .val (.int (wv1 + (1 : Int32))), .val (.int cn1), .val (.int (1 : Int32)), .val (.long ((E1 ^^^ f) &&& (km ^^^ (-1 : Int64)))), .second, .val (.int ps0), .val (.int p1)]) (1 : Int32) own_d_prog_8_method_5_138 (by decide) rfl rfl rfl ?_
                              refine X.goto (q' := 109) own_d_prog_8_method_5_141 (by decide) ?_
                              exact ih _ (by omega) (W1 + 1) _ _ (by rw [own_add (b := 1) rfl (by omega) (by omega)]; omega) (by omega) rfl
                        exact L109 _ W0 _ _ (by exact hwv0) (by exact Or.inl ⟨by omega, by omega⟩) rfl
                    · omega
              · refine X.iload (q := 127) own_d_prog_8_method_5_125 rfl rfl ?_
                refine X.aload (q := 129) own_d_prog_8_method_5_127 rfl rfl rfl ?_
                refine X.iload (q := 131) own_d_prog_8_method_5_129 rfl rfl ?_
                refine X.laload (q := 132) (j := W0) (v := (.long (F W0))) Ab hwv0 (own_Hat F (by omega)) own_d_prog_8_method_5_131 rfl ?_
                refine X.callS (own_bitc l Z a0 hw h n0 (F W0)) (hw _ (List.mem_of_getElem? (i := 97) rfl)) (hw _ (List.mem_of_getElem? (i := 98) rfl)) (hw _ (List.mem_of_getElem? (i := 99) rfl)) (hw _ (List.mem_of_getElem? (i := 100) rfl)) (by decide) own_pd2 (argsL := [(.long (F W0))]) (rest := [(.int cnt0)]) rfl rfl rfl (W := 1) (Nat.le_of_eq rfl) rfl (by decide) (by decide) (k' := 0) (n' := 0) rfl rfl (by decide) (by decide) own_d_prog_8_method_5_132 (q := 135) rfl ?_
                rintro _ _ ⟨zb0, rfl, hzb0, rfl⟩
                show X.G h 0 0 135 #[.val (.ref t), .val (.long f), .second, .val (.int (64 : Int32)), .val (.ref g), .val (.ref c), .val (.ref e), .val (.ref b), .val (.int (1 : Int32)), .val (.int wv0), .val (.int cnt0), .val (.int (0 : Int32)), .val (.long ((E0 ^^^ f) &&& (km ^^^ (-1 : Int64)))), .second, .unset, .unset] [(.int zb0), (.int cnt0)]
                refine X.iadd (q := 136) own_d_prog_8_method_5_135 rfl ?_
                refine X.nmI (fun cn0 hcn0 => ?_)
                have hcn0_ : cn0.toInt = cnt0.toInt + zb0.toInt := by rw [hcn0, own_add rfl (by omega) (by omega)]
                refine X.istore (q := 138) (Ls' := #[.val (.ref t), .val (.long f), .second, .val (.int (64 : Int32)), .val (.ref g), .val (.ref c), .val (.ref e), .val (.ref b), .val (.int (1 : Int32)), .val (.int wv0), .val (.int cn0), .val (.int (0 : Int32)), .val (.long ((E0 ^^^ f) &&& (km ^^^ (-1 : Int64)))), .second, .unset, .unset]) own_d_prog_8_method_5_136 rfl rfl ?_
                refine X.iinc (q := 141) (Ls' := #[.val (.ref t), .val (.long f), .second, .val (.int (64 : Int32)), .val (.ref g), .val (.ref c), .val (.ref e), .val (.ref b), .val (.int (1 : Int32)), .val (.int (wv0 + (1 : Int32))), .val (.int cn0), .val (.int (0 : Int32)), .val (.long ((E0 ^^^ f) &&& (km ^^^ (-1 : Int64)))), .second, .unset, .unset]) (1 : Int32) own_d_prog_8_method_5_138 (by decide) rfl rfl rfl ?_
                refine X.goto (q' := 109) own_d_prog_8_method_5_141 (by decide) ?_
                exact ih _ (by omega) (W0 + 1) _ _ (by rw [own_add (b := 1) rfl (by omega) (by omega)]; omega) (by omega) rfl
          exact L109 _ 0 _ _ (by rfl) (by exact ⟨Nat.zero_le _, rfl⟩) rfl
      · omega
theorem own_pd10 : parseMethodDescriptor "(II[J)V" = some ⟨[.int, .int, (.array .long)], none⟩ := by decide +kernel
theorem own_pd11 : parseMethodDescriptor "(JILcom/example/vireo/vireo/index/BlockTable$Hits;)I" = some ⟨[.long, .int, (.object "com/example/vireo/vireo/index/BlockTable$Hits")], some .int⟩ := by decide +kernel
theorem own_pd12 : parseMethodDescriptor "()I" = some ⟨[], some .int⟩ := by decide +kernel
theorem own_pd13 : parseMethodDescriptor "(I)J" = some ⟨[.int], some .long⟩ := by decide +kernel
set_option maxRecDepth 65536 in
set_option maxHeartbeats 40000000 in
theorem own_law (l : Launch) (Z : State) (a0 : Array Value) (hw : ∀ d ∈ tables_1, d.before a0 Z = true) (h : Heap) (n0 : Nat) (hn0 : n0 ≤ h.size) (x0 x1 : Int32) (f1 f2 : Int64) (x4 x5 : Int32)  :
    OwM l Z (⟨"com/example/vireo/vireo/index/BlockTablePutPinLaw", "law", "(IIJJII)Z"⟩ : MethodName) code 19 (some .boolean) room_1 32 170880 tables_1 #[(.int x0), (.int x1), (.long f1), (.long f2), (.int x4), (.int x5)] h n0 (fun r h' => r = some (.int 1)) := by
  refine OwM.of (Ls := #[.val (.int x0), .val (.int x1), .val (.long f1), .second, .val (.long f2), .second, .val (.int x4), .val (.int x5), .unset, .unset, .unset, .unset, .unset, .unset, .unset, .unset, .unset, .unset, .unset]) (by decide +kernel) (fun m => by first | (simp [entryFrame, mkF, argsToLocals, Value.category]; done) | rfl) ?_
  intro _ _ _ _ _ _ _ X
  have e0 : (0 : Int32).toInt = 0 := rfl
  have e1 : (1 : Int32).toInt = 1 := rfl
  have e2 : (2 : Int32).toInt = 2 := rfl
  have e16 : (16 : Int32).toInt = 16 := rfl
  have e63 : (63 : Int32).toInt = 63 := rfl
  have e64 : (64 : Int32).toInt = 64 := rfl
  have e65 : (65 : Int32).toInt = 65 := rfl
  refine X.iloadN (q := 1) at_0 rfl rfl ?_
  refine X.bipush (q := 3) (63 : Int32) at_1 (by decide) rfl ?_
  refine X.iand (q := 4) at_3 rfl ?_
  refine X.nmI (fun wm hwm => ?_)
  have hwm_ : 0 ≤ wm.toInt ∧ wm.toInt ≤ 63 := by rw [hwm, Jvm.Kit.i32_mask (k := 6) _ _ (by decide) (by decide)]; omega
  clear hwm
  refine X.iconst (q := 5) (1 : Int32) at_4 (by decide) rfl ?_
  refine X.iadd (q := 6) at_5 rfl ?_
  refine X.nmI (fun wd hwd => ?_)
  have hwd_ : wd.toInt = wm.toInt + 1 := by rw [hwd, own_add (b := 1) rfl (by omega) (by omega)]
  clear hwd
  refine X.istore (q := 8) (Ls' := #[.val (.int x0), .val (.int x1), .val (.long f1), .second, .val (.long f2), .second, .val (.int x4), .val (.int x5), .val (.int wd), .unset, .unset, .unset, .unset, .unset, .unset, .unset, .unset, .unset, .unset]) at_6 rfl rfl ?_
  refine X.iloadN (q := 9) at_8 rfl rfl ?_
  refine X.ldc (q := 11) (v := (2147483647 : Int32)) (hw _ (List.mem_of_getElem? (i := 0) rfl)) at_9 rfl ?_
  refine X.iand (q := 12) at_11 rfl ?_
  refine X.nmI (fun sm hsm => ?_)
  have hsm_ : 0 ≤ sm.toInt := by rw [hsm, Jvm.Kit.i32_mask (k := 31) _ _ (by decide) (by decide)]; omega
  clear hsm
  refine X.bipush (q := 14) (65 : Int32) at_12 (by decide) rfl ?_
  refine X.iload (q := 16) at_14 rfl rfl ?_
  refine X.isub (q := 17) at_16 rfl ?_
  refine X.nmI (fun dv hdv => ?_)
  have hdv_ : dv.toInt = 65 - wd.toInt := by rw [hdv, own_sub rfl (by omega) (by omega)]; omega
  clear hdv
  refine X.irem (q := 18) at_17 (fun q_ => by rw [q_] at hdv_; omega) rfl ?_
  refine X.nmI (fun sh hsh => ?_)
  have hsh_ : 0 ≤ sh.toInt ∧ sh.toInt ≤ 64 - wd.toInt := by
    have a_ := Int.emod_nonneg sm.toInt (b := dv.toInt) (by omega)
    have b_ := Int.emod_lt_of_pos sm.toInt (b := dv.toInt) (by omega)
    rw [hsh, Jvm.Kit.i32_rem_nonneg hsm_]
    generalize sm.toInt % dv.toInt = y at a_ b_ ⊢
    omega
  clear hsh
  refine X.istore (q := 20) (Ls' := #[.val (.int x0), .val (.int x1), .val (.long f1), .second, .val (.long f2), .second, .val (.int x4), .val (.int x5), .val (.int wd), .val (.int sh), .unset, .unset, .unset, .unset, .unset, .unset, .unset, .unset, .unset]) at_18 rfl rfl ?_
  refine X.iload (q := 22) at_20 rfl rfl ?_
  refine X.bipush (q := 24) (64 : Int32) at_22 (by decide) rfl ?_
  have J42 :  X.G h 0 0 42 #[.val (.int x0), .val (.int x1), .val (.long f1), .second, .val (.long f2), .second, .val (.int x4), .val (.int x5), .val (.int wd), .val (.int sh), .unset, .unset, .unset, .unset, .unset, .unset, .unset, .unset, .unset] [(.long (own_b0 wd <<< (sh.toInt64 &&& 63)))] := by
    refine X.nmJ (fun bm hbm => ?_)
    refine X.lstore (q := 44) (Ls' := #[.val (.int x0), .val (.int x1), .val (.long f1), .second, .val (.long f2), .second, .val (.int x4), .val (.int x5), .val (.int wd), .val (.int sh), .val (.long bm), .second, .unset, .unset, .unset, .unset, .unset, .unset, .unset]) at_42 rfl rfl ?_
    refine X.lload (q := 46) at_44 rfl rfl ?_
    refine X.lload (q := 48) at_46 rfl rfl ?_
    refine X.ldc2_w (q := 51) (v := (-1 : Int64)) (hw _ (List.mem_of_getElem? (i := 1) rfl)) at_48 rfl ?_
    refine X.lxor (q := 52) at_51 rfl ?_
    refine X.land (q := 53) at_52 rfl ?_
    refine X.lloadN (q := 54) at_53 rfl rfl ?_
    refine X.lload (q := 56) at_54 rfl rfl ?_
    refine X.land (q := 57) at_56 rfl ?_
    refine X.lor (q := 58) at_57 rfl ?_
    refine X.nmJ (fun fq hfq => ?_)
    refine X.lstore (q := 60) (Ls' := #[.val (.int x0), .val (.int x1), .val (.long f1), .second, .val (.long f2), .second, .val (.int x4), .val (.int x5), .val (.int wd), .val (.int sh), .val (.long bm), .second, .val (.long fq), .second, .unset, .unset, .unset, .unset, .unset]) at_58 rfl rfl ?_
    refine X.iload (q := 62) at_60 rfl rfl ?_
    refine X.ldc (q := 64) (v := (4194303 : Int32)) (hw _ (List.mem_of_getElem? (i := 2) rfl)) at_62 rfl ?_
    refine X.iand (q := 65) at_64 rfl ?_
    refine X.nmI (fun p1 hp1 => ?_)
    have hp1_ : 0 ≤ p1.toInt ∧ p1.toInt < 4194304 := by rw [hp1, Jvm.Kit.i32_mask (k := 22) _ _ (by decide) (by decide)]; omega
    clear hp1
    refine X.istore (q := 67) (Ls' := #[.val (.int x0), .val (.int x1), .val (.long f1), .second, .val (.long f2), .second, .val (.int x4), .val (.int x5), .val (.int wd), .val (.int sh), .val (.long bm), .second, .val (.long fq), .second, .val (.int p1), .unset, .unset, .unset, .unset]) at_65 rfl rfl ?_
    refine X.iload (q := 69) at_67 rfl rfl ?_
    refine X.iconst (q := 70) (1 : Int32) at_69 (by decide) rfl ?_
    refine X.iadd (q := 71) at_70 rfl ?_
    refine X.nmI (fun pa hpa => ?_)
    have hpa_ : pa.toInt = p1.toInt + 1 := by rw [hpa, own_add (b := 1) rfl (by omega) (by omega)]
    clear hpa
    refine X.iload (q := 73) at_71 rfl rfl ?_
    refine X.ldc (q := 75) (v := (4194303 : Int32)) (hw _ (List.mem_of_getElem? (i := 2) rfl)) at_73 rfl ?_
    refine X.iand (q := 76) at_75 rfl ?_
    refine X.nmI (fun bb hbb => ?_)
    have hbb_ : 0 ≤ bb.toInt ∧ bb.toInt < 4194304 := by rw [hbb, Jvm.Kit.i32_mask (k := 22) _ _ (by decide) (by decide)]; omega
    clear hbb
    refine X.iadd (q := 77) at_76 rfl ?_
    refine X.nmI (fun p2 hp2 => ?_)
    have hp2_ : p2.toInt = pa.toInt + bb.toInt := by rw [hp2, own_add rfl (by omega) (by omega)]
    clear hp2
    refine X.istore (q := 79) (Ls' := #[.val (.int x0), .val (.int x1), .val (.long f1), .second, .val (.long f2), .second, .val (.int x4), .val (.int x5), .val (.int wd), .val (.int sh), .val (.long bm), .second, .val (.long fq), .second, .val (.int p1), .val (.int p2), .unset, .unset, .unset]) at_77 rfl rfl ?_
    obtain ⟨n, hn⟩ : ∃ n : Nat, wd.toInt = (n : Int) := ⟨wd.toInt.toNat, by omega⟩
    obtain ⟨lo, hlo⟩ : ∃ n : Nat, sh.toInt = (n : Int) := ⟨sh.toInt.toNat, by omega⟩
    obtain ⟨P1, hP1⟩ : ∃ n : Nat, p1.toInt = (n : Int) := ⟨p1.toInt.toNat, by omega⟩
    obtain ⟨P2, hP2⟩ : ∃ n : Nat, p2.toInt = (n : Int) := ⟨p2.toInt.toNat, by omega⟩
    obtain ⟨kb, hkb⟩ : ∃ kb : Int32, (wd.toInt ≤ 16 ∧ kb.toInt = wd.toInt) ∨ (16 < wd.toInt ∧ kb.toInt = 16) := by
      by_cases q : wd.toInt ≤ 16
      · exact ⟨wd, Or.inl ⟨q, rfl⟩⟩
      · exact ⟨16, Or.inr ⟨by omega, rfl⟩⟩
    obtain ⟨k, hk⟩ : ∃ n : Nat, kb.toInt = (n : Int) := ⟨kb.toInt.toNat, by omega⟩
    have hk1 : 1 ≤ k := by omega
    have hk2 : k ≤ 16 := by omega
    obtain ⟨ks, hks⟩ : ∃ v : Int32, v = (sh + wd) - kb := ⟨_, rfl⟩
    have hsw_ : (sh + wd).toInt = sh.toInt + wd.toInt := own_add rfl (by omega) (by omega)
    obtain ⟨sx, hsx⟩ : ∃ v : Nat, v = lo + n - k := ⟨_, rfl⟩
    have hks_ : ks.toInt = (sx : Int) := by rw [hks, own_sub rfl (by omega) (by omega)]; omega
    have hx3 : sx + k ≤ 64 := by omega
    obtain ⟨lm, hlm⟩ : ∃ v : Int32, v = (1 : Int32) <<< (kb &&& 31) - 1 := ⟨_, rfl⟩
    obtain ⟨km, hkm⟩ : ∃ v : Int64, v = lm.toInt64 <<< (ks.toInt64 &&& 63) := ⟨_, rfl⟩
    have hbk : own_mk bm lo n := by rw [hbm]; exact own_bm hn hlo (by omega) (by omega)
    have hgq : ∀ i, lo ≤ i → i < lo + n → fq.toBitVec.getLsbD i = f1.toBitVec.getLsbD i := fun i a b => by rw [hfq]; exact own_g2 hbk (by omega) i a b
    have hgs : ∀ i, sx ≤ i → i < sx + k → fq.toBitVec.getLsbD i = f1.toBitVec.getLsbD i := fun i a b => hgq i (by omega) (by omega)
    obtain ⟨j, hj, hjN⟩ := own_keyj hk hk2 hlm (XT.ushrL f1 ks).toInt32
    have hjq : ((XT.ushrL fq ks).toInt32 &&& lm).toInt = (j : Int) := by rw [own_keyeq hk hk2 hks_ hx3 hlm hgs]; exact hj
    obtain ⟨q1, hq1⟩ : ∃ v : Nat, v = P1 / 2 ^ k := ⟨_, rfl⟩
    obtain ⟨q2, hq2⟩ : ∃ v : Nat, v = P2 / 2 ^ k := ⟨_, rfl⟩
    have hq1b : q1 < 2097152 := by rw [hq1]; exact own_half hk1 (by omega)
    have hq2b : q2 < 4194304 := by rw [hq2]; exact own_half hk1 (by omega)
    have hq12 : q1 ≤ q2 := by rw [hq1, hq2]; exact Nat.div_le_div_right (by omega)
    have hu1 : (XT.ushr p1 kb).toInt = (q1 : Int) := by rw [hq1]; exact own_ushr32i hk hk2 hP1
    have hu2 : (XT.ushr p2 kb).toInt = (q2 : Int) := by rw [hq2]; exact own_ushr32i hk hk2 hP2
    obtain ⟨E0, hE0⟩ : ∃ v : Int64, v = ((f1 &&& (km ^^^ (-1 : Int64))) ||| ((p1 &&& lm).toInt64 <<< (ks.toInt64 &&& 63))) := ⟨_, rfl⟩
    obtain ⟨E1, hE1⟩ : ∃ v : Int64, v = ((fq &&& (km ^^^ (-1 : Int64))) ||| ((p2 &&& lm).toInt64 <<< (ks.toInt64 &&& 63))) := ⟨_, rfl⟩
    refine X.newO (q := 82) (k' := 1) (n' := 8) (hw _ (List.mem_of_getElem? (i := 3) rfl)) (hw _ (List.mem_of_getElem? (i := 4) rfl)) (hw _ (List.mem_of_getElem? (i := 5) rfl)) at_79 rfl rfl (by decide) (by decide) rfl (fun h1 a2 ga2 Eh1 Ba2 Da2 => ?_)
    have gea2 : n0 ≤ a2 := by rw [ga2]; exact hn0
    have hsh1 : n0 ≤ h1.size := Nat.le_trans hn0 Eh1.1
    have Fa2_blockMask : Fld Z h1 a2 "com/example/vireo/vireo/index/BlockTable" "blockMask" "J" (.long (0 : Int64)) := Da2 (Or.inr (hw _ (List.mem_of_getElem? (i := 14) rfl))) (ty := .long) (by decide)
    have Fa2_earlierTops : Fld Z h1 a2 "com/example/vireo/vireo/index/BlockTable" "earlierTops" "J" (.long (0 : Int64)) := Da2 (Or.inr (hw _ (List.mem_of_getElem? (i := 16) rfl))) (ty := .long) (by decide)
    have Fa2_earlierRests : Fld Z h1 a2 "com/example/vireo/vireo/index/BlockTable" "earlierRests" "J" (.long (0 : Int64)) := Da2 (Or.inr (hw _ (List.mem_of_getElem? (i := 19) rfl))) (ty := .long) (by decide)
    have Fa2_keyBits : Fld Z h1 a2 "com/example/vireo/vireo/index/BlockTable" "keyBits" "I" (.int (0 : Int32)) := Da2 (Or.inr (hw _ (List.mem_of_getElem? (i := 25) rfl))) (ty := .int) (by decide)
    have Fa2_keyShift : Fld Z h1 a2 "com/example/vireo/vireo/index/BlockTable" "keyShift" "I" (.int (0 : Int32)) := Da2 (Or.inr (hw _ (List.mem_of_getElem? (i := 27) rfl))) (ty := .int) (by decide)
    have Fa2_lowMask : Fld Z h1 a2 "com/example/vireo/vireo/index/BlockTable" "lowMask" "I" (.int (0 : Int32)) := Da2 (Or.inr (hw _ (List.mem_of_getElem? (i := 29) rfl))) (ty := .int) (by decide)
    have Fa2_keyMask : Fld Z h1 a2 "com/example/vireo/vireo/index/BlockTable" "keyMask" "J" (.long (0 : Int64)) := Da2 (Or.inr (hw _ (List.mem_of_getElem? (i := 31) rfl))) (ty := .long) (by decide)
    have Fa2_buckets : Fld Z h1 a2 "com/example/vireo/vireo/index/BlockTable" "buckets" "[Lcom/example/vireo/vireo/index/BlockTable$Bucket;" .null := Da2 (Or.inr (hw _ (List.mem_of_getElem? (i := 35) rfl))) (ty := (.array (.object "com/example/vireo/vireo/index/BlockTable$Bucket"))) (by decide)
    refine X.dup (q := 83) at_82 rfl rfl ?_
    refine X.iload (q := 85) at_83 rfl rfl ?_
    refine X.iload (q := 87) at_85 rfl rfl ?_
    refine X.iconst (q := 88) (0 : Int32) at_87 (by decide) rfl ?_
    refine X.newP (q := 90) (ty := .long) (N := 0) (cap := 0) (k' := 2) (n' := 8) (hw _ (List.mem_of_getElem? (i := 6) rfl)) at_88 rfl rfl (Nat.le_refl _) (by decide) rfl rfl (by decide) (by decide) rfl (fun h3 a4 ga4 Eh3 Aa4 => ?_)
    have la2_a4 : a2 < a4 := by have := Ba2.lt; rw [← ga4] at this; exact this
    have Ba2'h3 : Exa Z h3 a2 "com/example/vireo/vireo/index/BlockTable" := Exa.ext Eh3 Ba2
    have Fa2_blockMask'h3 : Fld Z h3 a2 "com/example/vireo/vireo/index/BlockTable" "blockMask" "J" (.long (0 : Int64)) := Fld.ext Eh3 Fa2_blockMask
    have Fa2_earlierTops'h3 : Fld Z h3 a2 "com/example/vireo/vireo/index/BlockTable" "earlierTops" "J" (.long (0 : Int64)) := Fld.ext Eh3 Fa2_earlierTops
    have Fa2_earlierRests'h3 : Fld Z h3 a2 "com/example/vireo/vireo/index/BlockTable" "earlierRests" "J" (.long (0 : Int64)) := Fld.ext Eh3 Fa2_earlierRests
    have Fa2_keyBits'h3 : Fld Z h3 a2 "com/example/vireo/vireo/index/BlockTable" "keyBits" "I" (.int (0 : Int32)) := Fld.ext Eh3 Fa2_keyBits
    have Fa2_keyShift'h3 : Fld Z h3 a2 "com/example/vireo/vireo/index/BlockTable" "keyShift" "I" (.int (0 : Int32)) := Fld.ext Eh3 Fa2_keyShift
    have Fa2_lowMask'h3 : Fld Z h3 a2 "com/example/vireo/vireo/index/BlockTable" "lowMask" "I" (.int (0 : Int32)) := Fld.ext Eh3 Fa2_lowMask
    have Fa2_keyMask'h3 : Fld Z h3 a2 "com/example/vireo/vireo/index/BlockTable" "keyMask" "J" (.long (0 : Int64)) := Fld.ext Eh3 Fa2_keyMask
    have Fa2_buckets'h3 : Fld Z h3 a2 "com/example/vireo/vireo/index/BlockTable" "buckets" "[Lcom/example/vireo/vireo/index/BlockTable$Bucket;" .null := Fld.ext Eh3 Fa2_buckets
    have gea4 : n0 ≤ a4 := by rw [ga4]; exact hsh1
    have hsh3 : n0 ≤ h3.size := Nat.le_trans hsh1 Eh3.1
    have Aa4 : OwA Z h3 a4 .long [] := Aa4
    refine X.special (a := a2) (own_ctor l Z a0 hw h3 n0 a2 a4 sh wd kb ks lm km bm k hkb hk hk1 hk2 hks hlm hkm hbm hsh3 Ba2'h3 Fa2_blockMask'h3 Fa2_earlierTops'h3 Fa2_earlierRests'h3 Fa2_keyBits'h3 Fa2_keyShift'h3 Fa2_lowMask'h3 Fa2_keyMask'h3 Fa2_buckets'h3 Aa4 gea2 (Nat.ne_of_lt la2_a4)) rfl (hw _ (List.mem_of_getElem? (i := 7) rfl)) (hw _ (List.mem_of_getElem? (i := 8) rfl)) (hw _ (List.mem_of_getElem? (i := 5) rfl)) (hw _ (List.mem_of_getElem? (i := 9) rfl)) (by decide) own_pd10 (argsL := [(.int sh), (.int wd), (.ref a4)]) (rest := [(.ref a2)]) rfl rfl rfl (W := 1) (Nat.le_of_eq rfl) rfl (by decide) (by decide) (k' := 3) (n' := 65544) rfl rfl (by decide) (by decide) at_90 (q := 93) rfl ?_
    rintro _ h5 ⟨rfl, u, Kh5c, fru, TblockMask, TearlierTops, TearlierRests, TkeyBits, TkeyShift, TlowMask, TkeyMask, Tbuckets, Tu, Tv⟩
    have Ba2'h5 : Exa Z h5 a2 "com/example/vireo/vireo/index/BlockTable" := Exa.keep Ba2'h3 Kh5c
    have Aa4'h5 : OwA Z h5 a4 .long [] := OwA.keep Aa4 Kh5c (ninS (Nat.ne_of_gt la2_a4) nin0)
    have hsh5 : n0 ≤ h5.size := Nat.le_trans hsh3 Kh5c.1
    show X.G h5 3 65544 93 #[.val (.int x0), .val (.int x1), .val (.long f1), .second, .val (.long f2), .second, .val (.int x4), .val (.int x5), .val (.int wd), .val (.int sh), .val (.long bm), .second, .val (.long fq), .second, .val (.int p1), .val (.int p2), .unset, .unset, .unset] [(.ref a2)]
    have la2_u : a2 < u := Nat.lt_of_lt_of_le Ba2'h3.lt fru
    have la4_u : a4 < u := Nat.lt_of_lt_of_le Aa4.lt fru
    have geu : n0 ≤ u := Nat.le_trans hsh3 fru
    refine X.astore (q := 95) (Ls' := #[.val (.int x0), .val (.int x1), .val (.long f1), .second, .val (.long f2), .second, .val (.int x4), .val (.int x5), .val (.int wd), .val (.int sh), .val (.long bm), .second, .val (.long fq), .second, .val (.int p1), .val (.int p2), .val (.ref a2), .unset, .unset]) at_93 rfl rfl rfl ?_
    refine X.aload (q := 97) at_95 rfl rfl rfl ?_
    refine X.lloadN (q := 98) at_97 rfl rfl ?_
    refine X.iload (q := 100) at_98 rfl rfl ?_
    refine X.virtual (a := a2) (own_tr1 l Z a0 hw h5 n0 a2 u f1 p1 kb ks lm j (2 ^ k) q1 hu1 hq1b hj hjN hsh5 Ba2'h5 TkeyBits TkeyShift TlowMask Tbuckets Tu Tv geu (Nat.ne_of_lt la2_u)) (hw _ (List.mem_of_getElem? (i := 36) rfl)) (hw _ (List.mem_of_getElem? (i := 37) rfl)) (hw _ (List.mem_of_getElem? (i := 39) rfl)) (hw _ (List.mem_of_getElem? (i := 38) rfl)) (hw _ (List.mem_of_getElem? (i := 5) rfl)) (hw _ (List.mem_of_getElem? (i := 40) rfl)) (by decide) Ba2'h5 own_pd6 (argsL := [(.long f1), (.int p1)]) (rest := []) rfl rfl rfl (W := 0) (Nat.le_of_eq rfl) rfl (by decide) (by decide) (k' := 7) (n' := 98320) rfl rfl (by decide) (by decide) at_100 (q := 103) rfl ?_
    rintro _ h6 ⟨rfl, c, e, b, L1, Kh6c, ⟨frc, fre, frb, nce, ncb, neb⟩, ⟨hL1a, hL1b⟩, Cx, Ce, Ch, Cs, Cu, CAe, CAb⟩
    have Ba2'h6 : Exa Z h6 a2 "com/example/vireo/vireo/index/BlockTable" := Exa.keep Ba2'h5 Kh6c
    have Aa4'h6 : OwA Z h6 a4 .long [] := OwA.keep Aa4'h5 Kh6c (ninS (Nat.ne_of_lt la4_u) nin0)
    have TblockMask'h6 : Fld Z h6 a2 "com/example/vireo/vireo/index/BlockTable" "blockMask" "J" (.long bm) := Fld.keep TblockMask Kh6c (ninS (Nat.ne_of_lt la2_u) nin0)
    have TearlierTops'h6 : Fld Z h6 a2 "com/example/vireo/vireo/index/BlockTable" "earlierTops" "J" (.long (0 : Int64)) := Fld.keep TearlierTops Kh6c (ninS (Nat.ne_of_lt la2_u) nin0)
    have TearlierRests'h6 : Fld Z h6 a2 "com/example/vireo/vireo/index/BlockTable" "earlierRests" "J" (.long (0 : Int64)) := Fld.keep TearlierRests Kh6c (ninS (Nat.ne_of_lt la2_u) nin0)
    have TkeyBits'h6 : Fld Z h6 a2 "com/example/vireo/vireo/index/BlockTable" "keyBits" "I" (.int kb) := Fld.keep TkeyBits Kh6c (ninS (Nat.ne_of_lt la2_u) nin0)
    have TkeyShift'h6 : Fld Z h6 a2 "com/example/vireo/vireo/index/BlockTable" "keyShift" "I" (.int ks) := Fld.keep TkeyShift Kh6c (ninS (Nat.ne_of_lt la2_u) nin0)
    have TlowMask'h6 : Fld Z h6 a2 "com/example/vireo/vireo/index/BlockTable" "lowMask" "I" (.int lm) := Fld.keep TlowMask Kh6c (ninS (Nat.ne_of_lt la2_u) nin0)
    have TkeyMask'h6 : Fld Z h6 a2 "com/example/vireo/vireo/index/BlockTable" "keyMask" "J" (.long km) := Fld.keep TkeyMask Kh6c (ninS (Nat.ne_of_lt la2_u) nin0)
    have Tbuckets'h6 : Fld Z h6 a2 "com/example/vireo/vireo/index/BlockTable" "buckets" "[Lcom/example/vireo/vireo/index/BlockTable$Bucket;" (.ref u) := Fld.keep Tbuckets Kh6c (ninS (Nat.ne_of_lt la2_u) nin0)
    have Tv'h6 : OwV Z h6 u "com/example/vireo/vireo/index/BlockTable$Bucket" := OwV.keep Tv Kh6c
    have hsh6 : n0 ≤ h6.size := Nat.le_trans hsh5 Kh6c.1
    show X.G h6 7 98320 103 #[.val (.int x0), .val (.int x1), .val (.long f1), .second, .val (.long f2), .second, .val (.int x4), .val (.int x5), .val (.int wd), .val (.int sh), .val (.long bm), .second, .val (.long fq), .second, .val (.int p1), .val (.int p2), .val (.ref a2), .unset, .unset] []
    have la2_c : a2 < c := Nat.lt_of_lt_of_le Ba2'h5.lt frc
    have la4_c : a4 < c := Nat.lt_of_lt_of_le Aa4'h5.lt frc
    have lu_c : u < c := Nat.lt_of_lt_of_le Tu.lt frc
    have gec : n0 ≤ c := Nat.le_trans hsh5 frc
    have la2_e : a2 < e := Nat.lt_of_lt_of_le Ba2'h5.lt fre
    have la4_e : a4 < e := Nat.lt_of_lt_of_le Aa4'h5.lt fre
    have lu_e : u < e := Nat.lt_of_lt_of_le Tu.lt fre
    have gee : n0 ≤ e := Nat.le_trans hsh5 fre
    have la2_b : a2 < b := Nat.lt_of_lt_of_le Ba2'h5.lt frb
    have la4_b : a4 < b := Nat.lt_of_lt_of_le Aa4'h5.lt frb
    have lu_b : u < b := Nat.lt_of_lt_of_le Tu.lt frb
    have geb : n0 ≤ b := Nat.le_trans hsh5 frb
    refine X.aload (q := 105) at_103 rfl rfl rfl ?_
    refine X.lloadN (q := 106) at_105 rfl rfl ?_
    refine X.iload (q := 108) at_106 rfl rfl ?_
    refine X.virtual (a := a2) (own_put l Z a0 hw h6 n0 a2 u c e b f1 km E0 p1 kb ks lm (0 : Int32) j q1 q1 L1 0 (fun _ => 0) _ _ hE0 hu1 (by omega) rfl (by omega) (by decide) hL1a hj (List.getElem?_set_self (by rw [List.length_replicate]; exact hjN)) rfl hsh6 Ba2'h6 TkeyBits'h6 TkeyShift'h6 TlowMask'h6 TkeyMask'h6 Tbuckets'h6 Cu Cx Ce Ch Cs CAe CAb gec gee geb (Nat.ne_of_lt la2_c) (Nat.ne_of_lt la2_e) (Nat.ne_of_lt la2_b) (Nat.ne_of_lt lu_c) (Nat.ne_of_lt lu_e) (Nat.ne_of_lt lu_b) nce ncb neb) (hw _ (List.mem_of_getElem? (i := 63) rfl)) (hw _ (List.mem_of_getElem? (i := 64) rfl)) (hw _ (List.mem_of_getElem? (i := 66) rfl)) (hw _ (List.mem_of_getElem? (i := 65) rfl)) (hw _ (List.mem_of_getElem? (i := 5) rfl)) (hw _ (List.mem_of_getElem? (i := 67) rfl)) (by decide) Ba2'h6 own_pd6 (argsL := [(.long f1), (.int p1)]) (rest := []) rfl rfl rfl (W := 0) (Nat.le_of_eq rfl) rfl (by decide) (by decide) (k' := 7) (n' := 98320) rfl rfl (by decide) (by decide) at_108 (q := 111) rfl ?_
    rintro _ h7 ⟨rfl, Kh7c, D0e, D0h, D0s, D0A, D0B⟩
    have Ba2'h7 : Exa Z h7 a2 "com/example/vireo/vireo/index/BlockTable" := Exa.keep Ba2'h6 Kh7c
    have Aa4'h7 : OwA Z h7 a4 .long [] := OwA.keep Aa4'h6 Kh7c (ninS (Nat.ne_of_lt la4_c) (ninS (Nat.ne_of_lt la4_e) (ninS (Nat.ne_of_lt la4_b) nin0)))
    have TblockMask'h7 : Fld Z h7 a2 "com/example/vireo/vireo/index/BlockTable" "blockMask" "J" (.long bm) := Fld.keep TblockMask'h6 Kh7c (ninS (Nat.ne_of_lt la2_c) (ninS (Nat.ne_of_lt la2_e) (ninS (Nat.ne_of_lt la2_b) nin0)))
    have TearlierTops'h7 : Fld Z h7 a2 "com/example/vireo/vireo/index/BlockTable" "earlierTops" "J" (.long (0 : Int64)) := Fld.keep TearlierTops'h6 Kh7c (ninS (Nat.ne_of_lt la2_c) (ninS (Nat.ne_of_lt la2_e) (ninS (Nat.ne_of_lt la2_b) nin0)))
    have TearlierRests'h7 : Fld Z h7 a2 "com/example/vireo/vireo/index/BlockTable" "earlierRests" "J" (.long (0 : Int64)) := Fld.keep TearlierRests'h6 Kh7c (ninS (Nat.ne_of_lt la2_c) (ninS (Nat.ne_of_lt la2_e) (ninS (Nat.ne_of_lt la2_b) nin0)))
    have TkeyBits'h7 : Fld Z h7 a2 "com/example/vireo/vireo/index/BlockTable" "keyBits" "I" (.int kb) := Fld.keep TkeyBits'h6 Kh7c (ninS (Nat.ne_of_lt la2_c) (ninS (Nat.ne_of_lt la2_e) (ninS (Nat.ne_of_lt la2_b) nin0)))
    have TkeyShift'h7 : Fld Z h7 a2 "com/example/vireo/vireo/index/BlockTable" "keyShift" "I" (.int ks) := Fld.keep TkeyShift'h6 Kh7c (ninS (Nat.ne_of_lt la2_c) (ninS (Nat.ne_of_lt la2_e) (ninS (Nat.ne_of_lt la2_b) nin0)))
    have TlowMask'h7 : Fld Z h7 a2 "com/example/vireo/vireo/index/BlockTable" "lowMask" "I" (.int lm) := Fld.keep TlowMask'h6 Kh7c (ninS (Nat.ne_of_lt la2_c) (ninS (Nat.ne_of_lt la2_e) (ninS (Nat.ne_of_lt la2_b) nin0)))
    have TkeyMask'h7 : Fld Z h7 a2 "com/example/vireo/vireo/index/BlockTable" "keyMask" "J" (.long km) := Fld.keep TkeyMask'h6 Kh7c (ninS (Nat.ne_of_lt la2_c) (ninS (Nat.ne_of_lt la2_e) (ninS (Nat.ne_of_lt la2_b) nin0)))
    have Tbuckets'h7 : Fld Z h7 a2 "com/example/vireo/vireo/index/BlockTable" "buckets" "[Lcom/example/vireo/vireo/index/BlockTable$Bucket;" (.ref u) := Fld.keep Tbuckets'h6 Kh7c (ninS (Nat.ne_of_lt la2_c) (ninS (Nat.ne_of_lt la2_e) (ninS (Nat.ne_of_lt la2_b) nin0)))
    have Tv'h7 : OwV Z h7 u "com/example/vireo/vireo/index/BlockTable$Bucket" := OwV.keep Tv'h6 Kh7c
    have Cx'h7 : Exa Z h7 c "com/example/vireo/vireo/index/BlockTable$Bucket" := Exa.keep Cx Kh7c
    have Cu'h7 : OwA Z h7 u (.object "com/example/vireo/vireo/index/BlockTable$Bucket") ((List.replicate (2 ^ k) .null).set j (.ref c)) := OwA.keep Cu Kh7c (ninS (Nat.ne_of_lt lu_c) (ninS (Nat.ne_of_lt lu_e) (ninS (Nat.ne_of_lt lu_b) nin0)))
    have hsh7 : n0 ≤ h7.size := Nat.le_trans hsh6 Kh7c.1
    show X.G h7 7 98320 111 #[.val (.int x0), .val (.int x1), .val (.long f1), .second, .val (.long f2), .second, .val (.int x4), .val (.int x5), .val (.int wd), .val (.int sh), .val (.long bm), .second, .val (.long fq), .second, .val (.int p1), .val (.int p2), .val (.ref a2), .unset, .unset] []
    have D0s : Fld Z h7 c "com/example/vireo/vireo/index/BlockTable$Bucket" "size" "I" (.int (1 : Int32)) := D0s
    have D0A : OwA Z h7 e .long [(.long E0), (.long (0 : Int64)), (.long (0 : Int64)), (.long (0 : Int64))] := D0A
    have D0B : OwA Z h7 b .long (own_H L1 (own_up (fun _ => 0) q1)) := D0B
    refine X.aload (q := 113) at_111 rfl rfl rfl ?_
    refine X.lload (q := 115) at_113 rfl rfl ?_
    refine X.iload (q := 117) at_115 rfl rfl ?_
    refine X.virtual (a := a2) (own_tr2 l Z a0 hw h7 n0 a2 u c e b fq p2 kb ks lm j q2 L1 (own_up (fun _ => 0) q1) _ _ hu2 hq2b hjq (List.getElem?_set_self (by rw [List.length_replicate]; exact hjN)) rfl hL1b (own_up0 (fun _ _ => rfl) hL1a) hsh7 Ba2'h7 TkeyBits'h7 TkeyShift'h7 TlowMask'h7 Tbuckets'h7 Cu'h7 Cx'h7 D0e D0h D0s D0A D0B gec (Nat.ne_of_lt la2_c) (Nat.ne_of_lt lu_c) (Ne.symm nce) (Ne.symm ncb) (Nat.ne_of_lt la2_b) (Nat.ne_of_lt lu_b) neb) (hw _ (List.mem_of_getElem? (i := 36) rfl)) (hw _ (List.mem_of_getElem? (i := 37) rfl)) (hw _ (List.mem_of_getElem? (i := 39) rfl)) (hw _ (List.mem_of_getElem? (i := 38) rfl)) (hw _ (List.mem_of_getElem? (i := 5) rfl)) (hw _ (List.mem_of_getElem? (i := 40) rfl)) (by decide) Ba2'h7 own_pd6 (argsL := [(.long fq), (.int p2)]) (rest := []) rfl rfl rfl (W := 0) (Nat.le_of_eq rfl) rfl (by decide) (by decide) (k' := 8) (n' := 163857) rfl rfl (by decide) (by decide) at_117 (q := 120) rfl ?_
    rintro _ h8 ⟨rfl, b2, L2, Kh8c, hb2, ⟨hL2a, hL2b⟩, Me, Mh, Ms, MAb⟩
    have Ba2'h8 : Exa Z h8 a2 "com/example/vireo/vireo/index/BlockTable" := Exa.keep Ba2'h7 Kh8c
    have Aa4'h8 : OwA Z h8 a4 .long [] := OwA.keep Aa4'h7 Kh8c (ninS (Nat.ne_of_lt la4_c) nin0)
    have TblockMask'h8 : Fld Z h8 a2 "com/example/vireo/vireo/index/BlockTable" "blockMask" "J" (.long bm) := Fld.keep TblockMask'h7 Kh8c (ninS (Nat.ne_of_lt la2_c) nin0)
    have TearlierTops'h8 : Fld Z h8 a2 "com/example/vireo/vireo/index/BlockTable" "earlierTops" "J" (.long (0 : Int64)) := Fld.keep TearlierTops'h7 Kh8c (ninS (Nat.ne_of_lt la2_c) nin0)
    have TearlierRests'h8 : Fld Z h8 a2 "com/example/vireo/vireo/index/BlockTable" "earlierRests" "J" (.long (0 : Int64)) := Fld.keep TearlierRests'h7 Kh8c (ninS (Nat.ne_of_lt la2_c) nin0)
    have TkeyBits'h8 : Fld Z h8 a2 "com/example/vireo/vireo/index/BlockTable" "keyBits" "I" (.int kb) := Fld.keep TkeyBits'h7 Kh8c (ninS (Nat.ne_of_lt la2_c) nin0)
    have TkeyShift'h8 : Fld Z h8 a2 "com/example/vireo/vireo/index/BlockTable" "keyShift" "I" (.int ks) := Fld.keep TkeyShift'h7 Kh8c (ninS (Nat.ne_of_lt la2_c) nin0)
    have TlowMask'h8 : Fld Z h8 a2 "com/example/vireo/vireo/index/BlockTable" "lowMask" "I" (.int lm) := Fld.keep TlowMask'h7 Kh8c (ninS (Nat.ne_of_lt la2_c) nin0)
    have TkeyMask'h8 : Fld Z h8 a2 "com/example/vireo/vireo/index/BlockTable" "keyMask" "J" (.long km) := Fld.keep TkeyMask'h7 Kh8c (ninS (Nat.ne_of_lt la2_c) nin0)
    have Tbuckets'h8 : Fld Z h8 a2 "com/example/vireo/vireo/index/BlockTable" "buckets" "[Lcom/example/vireo/vireo/index/BlockTable$Bucket;" (.ref u) := Fld.keep Tbuckets'h7 Kh8c (ninS (Nat.ne_of_lt la2_c) nin0)
    have Tv'h8 : OwV Z h8 u "com/example/vireo/vireo/index/BlockTable$Bucket" := OwV.keep Tv'h7 Kh8c
    have Cx'h8 : Exa Z h8 c "com/example/vireo/vireo/index/BlockTable$Bucket" := Exa.keep Cx'h7 Kh8c
    have Cu'h8 : OwA Z h8 u (.object "com/example/vireo/vireo/index/BlockTable$Bucket") ((List.replicate (2 ^ k) .null).set j (.ref c)) := OwA.keep Cu'h7 Kh8c (ninS (Nat.ne_of_lt lu_c) nin0)
    have D0A'h8 : OwA Z h8 e .long [(.long E0), (.long (0 : Int64)), (.long (0 : Int64)), (.long (0 : Int64))] := OwA.keep D0A Kh8c (ninS (Ne.symm nce) nin0)
    have D0B'h8 : OwA Z h8 b .long (own_H L1 (own_up (fun _ => 0) q1)) := OwA.keep D0B Kh8c (ninS (Ne.symm ncb) nin0)
    have hsh8 : n0 ≤ h8.size := Nat.le_trans hsh7 Kh8c.1
    show X.G h8 8 163857 120 #[.val (.int x0), .val (.int x1), .val (.long f1), .second, .val (.long f2), .second, .val (.int x4), .val (.int x5), .val (.int wd), .val (.int sh), .val (.long bm), .second, .val (.long fq), .second, .val (.int p1), .val (.int p2), .val (.ref a2), .unset, .unset] []
    have nea2_b2 : a2 ≠ b2 := own_neo hb2 (Nat.ne_of_lt la2_b) Ba2'h7.lt
    have nea4_b2 : a4 ≠ b2 := own_neo hb2 (Nat.ne_of_lt la4_b) Aa4'h7.lt
    have neu_b2 : u ≠ b2 := own_neo hb2 (Nat.ne_of_lt lu_b) Cu'h7.lt
    have nec_b2 : c ≠ b2 := own_neo hb2 ncb Cx'h7.lt
    have nee_b2 : e ≠ b2 := own_neo hb2 neb D0A.lt
    have geb2 : n0 ≤ b2 := own_geo hb2 geb hsh7
    refine X.aload (q := 122) at_120 rfl rfl rfl ?_
    refine X.lload (q := 124) at_122 rfl rfl ?_
    refine X.iload (q := 126) at_124 rfl rfl ?_
    refine X.virtual (a := a2) (own_put l Z a0 hw h8 n0 a2 u c e b2 fq km E1 p2 kb ks lm (1 : Int32) j q2 (q2 + 1) L2 1 (own_up (fun _ => 0) q1) _ _ hE1 hu2 (by omega) rfl (by omega) (by decide) hL2a hjq (List.getElem?_set_self (by rw [List.length_replicate]; exact hjN)) rfl hsh8 Ba2'h8 TkeyBits'h8 TkeyShift'h8 TlowMask'h8 TkeyMask'h8 Tbuckets'h8 Cu'h8 Cx'h8 Me Mh Ms D0A'h8 MAb gec gee geb2 (Nat.ne_of_lt la2_c) (Nat.ne_of_lt la2_e) nea2_b2 (Nat.ne_of_lt lu_c) (Nat.ne_of_lt lu_e) neu_b2 nce nec_b2 nee_b2) (hw _ (List.mem_of_getElem? (i := 63) rfl)) (hw _ (List.mem_of_getElem? (i := 64) rfl)) (hw _ (List.mem_of_getElem? (i := 66) rfl)) (hw _ (List.mem_of_getElem? (i := 65) rfl)) (hw _ (List.mem_of_getElem? (i := 5) rfl)) (hw _ (List.mem_of_getElem? (i := 67) rfl)) (by decide) Ba2'h8 own_pd6 (argsL := [(.long fq), (.int p2)]) (rest := []) rfl rfl rfl (W := 0) (Nat.le_of_eq rfl) rfl (by decide) (by decide) (k' := 8) (n' := 163857) rfl rfl (by decide) (by decide) at_126 (q := 129) rfl ?_
    rintro _ h9 ⟨rfl, Kh9c, D1e, D1h, D1s, D1A, D1B⟩
    have Ba2'h9 : Exa Z h9 a2 "com/example/vireo/vireo/index/BlockTable" := Exa.keep Ba2'h8 Kh9c
    have Aa4'h9 : OwA Z h9 a4 .long [] := OwA.keep Aa4'h8 Kh9c (ninS (Nat.ne_of_lt la4_c) (ninS (Nat.ne_of_lt la4_e) (ninS nea4_b2 nin0)))
    have TblockMask'h9 : Fld Z h9 a2 "com/example/vireo/vireo/index/BlockTable" "blockMask" "J" (.long bm) := Fld.keep TblockMask'h8 Kh9c (ninS (Nat.ne_of_lt la2_c) (ninS (Nat.ne_of_lt la2_e) (ninS nea2_b2 nin0)))
    have TearlierTops'h9 : Fld Z h9 a2 "com/example/vireo/vireo/index/BlockTable" "earlierTops" "J" (.long (0 : Int64)) := Fld.keep TearlierTops'h8 Kh9c (ninS (Nat.ne_of_lt la2_c) (ninS (Nat.ne_of_lt la2_e) (ninS nea2_b2 nin0)))
    have TearlierRests'h9 : Fld Z h9 a2 "com/example/vireo/vireo/index/BlockTable" "earlierRests" "J" (.long (0 : Int64)) := Fld.keep TearlierRests'h8 Kh9c (ninS (Nat.ne_of_lt la2_c) (ninS (Nat.ne_of_lt la2_e) (ninS nea2_b2 nin0)))
    have TkeyBits'h9 : Fld Z h9 a2 "com/example/vireo/vireo/index/BlockTable" "keyBits" "I" (.int kb) := Fld.keep TkeyBits'h8 Kh9c (ninS (Nat.ne_of_lt la2_c) (ninS (Nat.ne_of_lt la2_e) (ninS nea2_b2 nin0)))
    have TkeyShift'h9 : Fld Z h9 a2 "com/example/vireo/vireo/index/BlockTable" "keyShift" "I" (.int ks) := Fld.keep TkeyShift'h8 Kh9c (ninS (Nat.ne_of_lt la2_c) (ninS (Nat.ne_of_lt la2_e) (ninS nea2_b2 nin0)))
    have TlowMask'h9 : Fld Z h9 a2 "com/example/vireo/vireo/index/BlockTable" "lowMask" "I" (.int lm) := Fld.keep TlowMask'h8 Kh9c (ninS (Nat.ne_of_lt la2_c) (ninS (Nat.ne_of_lt la2_e) (ninS nea2_b2 nin0)))
    have TkeyMask'h9 : Fld Z h9 a2 "com/example/vireo/vireo/index/BlockTable" "keyMask" "J" (.long km) := Fld.keep TkeyMask'h8 Kh9c (ninS (Nat.ne_of_lt la2_c) (ninS (Nat.ne_of_lt la2_e) (ninS nea2_b2 nin0)))
    have Tbuckets'h9 : Fld Z h9 a2 "com/example/vireo/vireo/index/BlockTable" "buckets" "[Lcom/example/vireo/vireo/index/BlockTable$Bucket;" (.ref u) := Fld.keep Tbuckets'h8 Kh9c (ninS (Nat.ne_of_lt la2_c) (ninS (Nat.ne_of_lt la2_e) (ninS nea2_b2 nin0)))
    have Tv'h9 : OwV Z h9 u "com/example/vireo/vireo/index/BlockTable$Bucket" := OwV.keep Tv'h8 Kh9c
    have Cx'h9 : Exa Z h9 c "com/example/vireo/vireo/index/BlockTable$Bucket" := Exa.keep Cx'h8 Kh9c
    have Cu'h9 : OwA Z h9 u (.object "com/example/vireo/vireo/index/BlockTable$Bucket") ((List.replicate (2 ^ k) .null).set j (.ref c)) := OwA.keep Cu'h8 Kh9c (ninS (Nat.ne_of_lt lu_c) (ninS (Nat.ne_of_lt lu_e) (ninS neu_b2 nin0)))
    have hsh9 : n0 ≤ h9.size := Nat.le_trans hsh8 Kh9c.1
    show X.G h9 8 163857 129 #[.val (.int x0), .val (.int x1), .val (.long f1), .second, .val (.long f2), .second, .val (.int x4), .val (.int x5), .val (.int wd), .val (.int sh), .val (.long bm), .second, .val (.long fq), .second, .val (.int p1), .val (.int p2), .val (.ref a2), .unset, .unset] []
    have D1s : Fld Z h9 c "com/example/vireo/vireo/index/BlockTable$Bucket" "size" "I" (.int (2 : Int32)) := D1s
    have D1A : OwA Z h9 e .long [(.long E0), (.long E1), (.long (0 : Int64)), (.long (0 : Int64))] := D1A
    have D1B : OwA Z h9 b2 .long (own_H L2 (own_up (own_up (fun _ => 0) q1) (q2 + 1))) := D1B
    refine X.newO (q := 132) (k' := 9) (n' := 163860) (hw _ (List.mem_of_getElem? (i := 73) rfl)) (hw _ (List.mem_of_getElem? (i := 74) rfl)) (hw _ (List.mem_of_getElem? (i := 75) rfl)) at_129 rfl rfl (by decide) (by decide) rfl (fun h10 a11 ga11 Eh10 Ba11 Da11 => ?_)
    have la2_a11 : a2 < a11 := by have := Ba2'h9.lt; rw [← ga11] at this; exact this
    have la4_a11 : a4 < a11 := by have := Aa4'h9.lt; rw [← ga11] at this; exact this
    have lu_a11 : u < a11 := by have := Cu'h9.lt; rw [← ga11] at this; exact this
    have lc_a11 : c < a11 := by have := Cx'h9.lt; rw [← ga11] at this; exact this
    have le_a11 : e < a11 := by have := D1A.lt; rw [← ga11] at this; exact this
    have lb2_a11 : b2 < a11 := by have := D1B.lt; rw [← ga11] at this; exact this
    have Ba2'h10 : Exa Z h10 a2 "com/example/vireo/vireo/index/BlockTable" := Exa.ext Eh10 Ba2'h9
    have Aa4'h10 : OwA Z h10 a4 .long [] := OwA.ext (E := Eh10) Aa4'h9
    have TblockMask'h10 : Fld Z h10 a2 "com/example/vireo/vireo/index/BlockTable" "blockMask" "J" (.long bm) := Fld.ext Eh10 TblockMask'h9
    have TearlierTops'h10 : Fld Z h10 a2 "com/example/vireo/vireo/index/BlockTable" "earlierTops" "J" (.long (0 : Int64)) := Fld.ext Eh10 TearlierTops'h9
    have TearlierRests'h10 : Fld Z h10 a2 "com/example/vireo/vireo/index/BlockTable" "earlierRests" "J" (.long (0 : Int64)) := Fld.ext Eh10 TearlierRests'h9
    have TkeyBits'h10 : Fld Z h10 a2 "com/example/vireo/vireo/index/BlockTable" "keyBits" "I" (.int kb) := Fld.ext Eh10 TkeyBits'h9
    have TkeyShift'h10 : Fld Z h10 a2 "com/example/vireo/vireo/index/BlockTable" "keyShift" "I" (.int ks) := Fld.ext Eh10 TkeyShift'h9
    have TlowMask'h10 : Fld Z h10 a2 "com/example/vireo/vireo/index/BlockTable" "lowMask" "I" (.int lm) := Fld.ext Eh10 TlowMask'h9
    have TkeyMask'h10 : Fld Z h10 a2 "com/example/vireo/vireo/index/BlockTable" "keyMask" "J" (.long km) := Fld.ext Eh10 TkeyMask'h9
    have Tbuckets'h10 : Fld Z h10 a2 "com/example/vireo/vireo/index/BlockTable" "buckets" "[Lcom/example/vireo/vireo/index/BlockTable$Bucket;" (.ref u) := Fld.ext Eh10 Tbuckets'h9
    have Tv'h10 : OwV Z h10 u "com/example/vireo/vireo/index/BlockTable$Bucket" := OwV.ext (E := Eh10) Tv'h9
    have Cx'h10 : Exa Z h10 c "com/example/vireo/vireo/index/BlockTable$Bucket" := Exa.ext Eh10 Cx'h9
    have Cu'h10 : OwA Z h10 u (.object "com/example/vireo/vireo/index/BlockTable$Bucket") ((List.replicate (2 ^ k) .null).set j (.ref c)) := OwA.ext (E := Eh10) Cu'h9
    have D1e'h10 : Fld Z h10 c "com/example/vireo/vireo/index/BlockTable$Bucket" "entries" "[J" (.ref e) := Fld.ext Eh10 D1e
    have D1h'h10 : Fld Z h10 c "com/example/vireo/vireo/index/BlockTable$Bucket" "highs" "[J" (.ref b2) := Fld.ext Eh10 D1h
    have D1s'h10 : Fld Z h10 c "com/example/vireo/vireo/index/BlockTable$Bucket" "size" "I" (.int (2 : Int32)) := Fld.ext Eh10 D1s
    have D1A'h10 : OwA Z h10 e .long [(.long E0), (.long E1), (.long (0 : Int64)), (.long (0 : Int64))] := OwA.ext (E := Eh10) D1A
    have D1B'h10 : OwA Z h10 b2 .long (own_H L2 (own_up (own_up (fun _ => 0) q1) (q2 + 1))) := OwA.ext (E := Eh10) D1B
    have gea11 : n0 ≤ a11 := by rw [ga11]; exact hsh9
    have hsh10 : n0 ≤ h10.size := Nat.le_trans hsh9 Eh10.1
    have Fa11_positions : Fld Z h10 a11 "com/example/vireo/vireo/index/BlockTable$Hits" "positions" "[I" .null := Da11 (Or.inl (hw _ (List.mem_of_getElem? (i := 82) rfl))) (ty := (.array .int)) (by decide)
    have Fa11_fingerprints : Fld Z h10 a11 "com/example/vireo/vireo/index/BlockTable$Hits" "fingerprints" "[J" .null := Da11 (Or.inl (hw _ (List.mem_of_getElem? (i := 84) rfl))) (ty := (.array .long)) (by decide)
    have Fa11_count : Fld Z h10 a11 "com/example/vireo/vireo/index/BlockTable$Hits" "count" "I" (.int (0 : Int32)) := Da11 (Or.inl (hw _ (List.mem_of_getElem? (i := 121) rfl))) (ty := .int) (by decide)
    refine X.dup (q := 133) at_132 rfl rfl ?_
    refine X.special (a := a11) (own_hinit l Z a0 hw h10 n0 a11 hsh10 Ba11 Fa11_positions Fa11_fingerprints Fa11_count gea11) rfl (hw _ (List.mem_of_getElem? (i := 76) rfl)) (hw _ (List.mem_of_getElem? (i := 77) rfl)) (hw _ (List.mem_of_getElem? (i := 75) rfl)) (hw _ (List.mem_of_getElem? (i := 78) rfl)) (by decide) own_pd4 (argsL := []) (rest := [(.ref a11)]) rfl rfl rfl (W := 1) (Nat.le_of_eq rfl) rfl (by decide) (by decide) (k' := 11) (n' := 163868) rfl rfl (by decide) (by decide) at_133 (q := 136) rfl ?_
    rintro _ h12 ⟨rfl, pp, ff, Kh12c, ⟨frpp, frff, lpf⟩, Ip, If, Ic, IA, IB⟩
    have Ba2'h12 : Exa Z h12 a2 "com/example/vireo/vireo/index/BlockTable" := Exa.keep Ba2'h10 Kh12c
    have Aa4'h12 : OwA Z h12 a4 .long [] := OwA.keep Aa4'h10 Kh12c (ninS (Nat.ne_of_lt la4_a11) nin0)
    have TblockMask'h12 : Fld Z h12 a2 "com/example/vireo/vireo/index/BlockTable" "blockMask" "J" (.long bm) := Fld.keep TblockMask'h10 Kh12c (ninS (Nat.ne_of_lt la2_a11) nin0)
    have TearlierTops'h12 : Fld Z h12 a2 "com/example/vireo/vireo/index/BlockTable" "earlierTops" "J" (.long (0 : Int64)) := Fld.keep TearlierTops'h10 Kh12c (ninS (Nat.ne_of_lt la2_a11) nin0)
    have TearlierRests'h12 : Fld Z h12 a2 "com/example/vireo/vireo/index/BlockTable" "earlierRests" "J" (.long (0 : Int64)) := Fld.keep TearlierRests'h10 Kh12c (ninS (Nat.ne_of_lt la2_a11) nin0)
    have TkeyBits'h12 : Fld Z h12 a2 "com/example/vireo/vireo/index/BlockTable" "keyBits" "I" (.int kb) := Fld.keep TkeyBits'h10 Kh12c (ninS (Nat.ne_of_lt la2_a11) nin0)
    have TkeyShift'h12 : Fld Z h12 a2 "com/example/vireo/vireo/index/BlockTable" "keyShift" "I" (.int ks) := Fld.keep TkeyShift'h10 Kh12c (ninS (Nat.ne_of_lt la2_a11) nin0)
    have TlowMask'h12 : Fld Z h12 a2 "com/example/vireo/vireo/index/BlockTable" "lowMask" "I" (.int lm) := Fld.keep TlowMask'h10 Kh12c (ninS (Nat.ne_of_lt la2_a11) nin0)
    have TkeyMask'h12 : Fld Z h12 a2 "com/example/vireo/vireo/index/BlockTable" "keyMask" "J" (.long km) := Fld.keep TkeyMask'h10 Kh12c (ninS (Nat.ne_of_lt la2_a11) nin0)
    have Tbuckets'h12 : Fld Z h12 a2 "com/example/vireo/vireo/index/BlockTable" "buckets" "[Lcom/example/vireo/vireo/index/BlockTable$Bucket;" (.ref u) := Fld.keep Tbuckets'h10 Kh12c (ninS (Nat.ne_of_lt la2_a11) nin0)
    have Tv'h12 : OwV Z h12 u "com/example/vireo/vireo/index/BlockTable$Bucket" := OwV.keep Tv'h10 Kh12c
    have Cx'h12 : Exa Z h12 c "com/example/vireo/vireo/index/BlockTable$Bucket" := Exa.keep Cx'h10 Kh12c
    have Cu'h12 : OwA Z h12 u (.object "com/example/vireo/vireo/index/BlockTable$Bucket") ((List.replicate (2 ^ k) .null).set j (.ref c)) := OwA.keep Cu'h10 Kh12c (ninS (Nat.ne_of_lt lu_a11) nin0)
    have D1e'h12 : Fld Z h12 c "com/example/vireo/vireo/index/BlockTable$Bucket" "entries" "[J" (.ref e) := Fld.keep D1e'h10 Kh12c (ninS (Nat.ne_of_lt lc_a11) nin0)
    have D1h'h12 : Fld Z h12 c "com/example/vireo/vireo/index/BlockTable$Bucket" "highs" "[J" (.ref b2) := Fld.keep D1h'h10 Kh12c (ninS (Nat.ne_of_lt lc_a11) nin0)
    have D1s'h12 : Fld Z h12 c "com/example/vireo/vireo/index/BlockTable$Bucket" "size" "I" (.int (2 : Int32)) := Fld.keep D1s'h10 Kh12c (ninS (Nat.ne_of_lt lc_a11) nin0)
    have D1A'h12 : OwA Z h12 e .long [(.long E0), (.long E1), (.long (0 : Int64)), (.long (0 : Int64))] := OwA.keep D1A'h10 Kh12c (ninS (Nat.ne_of_lt le_a11) nin0)
    have D1B'h12 : OwA Z h12 b2 .long (own_H L2 (own_up (own_up (fun _ => 0) q1) (q2 + 1))) := OwA.keep D1B'h10 Kh12c (ninS (Nat.ne_of_lt lb2_a11) nin0)
    have Ba11'h12 : Exa Z h12 a11 "com/example/vireo/vireo/index/BlockTable$Hits" := Exa.keep Ba11 Kh12c
    have hsh12 : n0 ≤ h12.size := Nat.le_trans hsh10 Kh12c.1
    show X.G h12 11 163868 136 #[.val (.int x0), .val (.int x1), .val (.long f1), .second, .val (.long f2), .second, .val (.int x4), .val (.int x5), .val (.int wd), .val (.int sh), .val (.long bm), .second, .val (.long fq), .second, .val (.int p1), .val (.int p2), .val (.ref a2), .unset, .unset] [(.ref a11)]
    have la2_pp : a2 < pp := Nat.lt_of_lt_of_le Ba2'h10.lt frpp
    have la4_pp : a4 < pp := Nat.lt_of_lt_of_le Aa4'h10.lt frpp
    have lu_pp : u < pp := Nat.lt_of_lt_of_le Cu'h10.lt frpp
    have lc_pp : c < pp := Nat.lt_of_lt_of_le Cx'h10.lt frpp
    have le_pp : e < pp := Nat.lt_of_lt_of_le D1A'h10.lt frpp
    have lb2_pp : b2 < pp := Nat.lt_of_lt_of_le D1B'h10.lt frpp
    have la11_pp : a11 < pp := Nat.lt_of_lt_of_le Ba11.lt frpp
    have gepp : n0 ≤ pp := Nat.le_trans hsh10 frpp
    have la2_ff : a2 < ff := Nat.lt_of_lt_of_le Ba2'h10.lt frff
    have la4_ff : a4 < ff := Nat.lt_of_lt_of_le Aa4'h10.lt frff
    have lu_ff : u < ff := Nat.lt_of_lt_of_le Cu'h10.lt frff
    have lc_ff : c < ff := Nat.lt_of_lt_of_le Cx'h10.lt frff
    have le_ff : e < ff := Nat.lt_of_lt_of_le D1A'h10.lt frff
    have lb2_ff : b2 < ff := Nat.lt_of_lt_of_le D1B'h10.lt frff
    have la11_ff : a11 < ff := Nat.lt_of_lt_of_le Ba11.lt frff
    have geff : n0 ≤ ff := Nat.le_trans hsh10 frff
    refine X.astore (q := 138) (Ls' := #[.val (.int x0), .val (.int x1), .val (.long f1), .second, .val (.long f2), .second, .val (.int x4), .val (.int x5), .val (.int wd), .val (.int sh), .val (.long bm), .second, .val (.long fq), .second, .val (.int p1), .val (.int p2), .val (.ref a2), .val (.ref a11), .unset]) at_136 rfl rfl rfl ?_
    refine X.aload (q := 140) at_138 rfl rfl rfl ?_
    refine X.lloadN (q := 141) at_140 rfl rfl ?_
    refine X.bipush (q := 143) (64 : Int32) at_141 (by decide) rfl ?_
    refine X.aload (q := 145) at_143 rfl rfl rfl ?_
    have hx0 : ((E0 ^^^ f1) &&& (km ^^^ (-1 : Int64))) &&& bm = 0 := by rw [hE0]; exact own_xb hk hk1 hk2 hks_ hx3 hlm hkm p1 hbk (fun _ _ _ => rfl)
    have hx1 : ((E1 ^^^ f1) &&& (km ^^^ (-1 : Int64))) &&& bm = 0 := by rw [hE1]; exact own_xb hk hk1 hk2 hks_ hx3 hlm hkm p2 hbk hgq
    have hpp0 : ∀ x : Int32, x.toInt = (q1 : Int) → (x <<< (kb &&& 31)) ||| ((XT.ushrL E0 ks).toInt32 &&& lm) = p1 := fun x hx => by rw [hE0]; exact own_pos hk hk1 hk2 hks_ hx3 hlm hkm f1 hP1 (by rw [hx, hq1])
    have hpp1 : ∀ x : Int32, x.toInt = ((q2 + 1 : Nat) : Int) - 1 → (x <<< (kb &&& 31)) ||| ((XT.ushrL E1 ks).toInt32 &&& lm) = p2 := fun x hx => by rw [hE1]; exact own_pos hk hk1 hk2 hks_ hx3 hlm hkm fq hP2 (by rw [hx, ← hq2]; omega)
    have hff0 : (E0 &&& (km ^^^ (-1 : Int64))) ||| (f1 &&& km) = f1 := by rw [hE0]; exact own_fpr hk hk1 hk2 hks_ hx3 hlm hkm p1 (fun _ _ _ => rfl)
    have hff1 : (E1 &&& (km ^^^ (-1 : Int64))) ||| (f1 &&& km) = fq := by rw [hE1]; exact own_fpr hk hk1 hk2 hks_ hx3 hlm hkm p2 hgs
    refine X.virtual (a := a2) (own_find l Z a0 hw h12 n0 a2 u c e b2 a11 pp ff f1 km bm E0 E1 fq kb ks lm p1 p2 j L2 q1 (q2 + 1) (own_up (own_up (fun _ => 0) q1) (q2 + 1)) _ hj (List.getElem?_set_self (by rw [List.length_replicate]; exact hjN)) (own_fxE (by omega)) (by omega) (by omega) hL2a hx0 hx1 hpp0 hpp1 hff0 hff1 hsh12 Ba2'h12 TblockMask'h12 TearlierTops'h12 TearlierRests'h12 TkeyBits'h12 TkeyShift'h12 TlowMask'h12 TkeyMask'h12 Tbuckets'h12 Cu'h12 Cx'h12 D1e'h12 D1h'h12 D1s'h12 D1A'h12 D1B'h12 Ba11'h12 Ip If Ic IA IB gea11 gepp geff (Nat.ne_of_lt la2_a11) (Nat.ne_of_lt la2_pp) (Nat.ne_of_lt la2_ff) (Nat.ne_of_lt lu_a11) (Nat.ne_of_lt lu_pp) (Nat.ne_of_lt lu_ff) (Nat.ne_of_lt lc_a11) (Nat.ne_of_lt lc_pp) (Nat.ne_of_lt lc_ff) (Nat.ne_of_lt le_a11) (Nat.ne_of_lt le_pp) (Nat.ne_of_lt le_ff) (Nat.ne_of_lt lb2_a11) (Nat.ne_of_lt lb2_pp) (Nat.ne_of_lt lb2_ff) (Nat.ne_of_lt la11_pp) (Nat.ne_of_lt la11_ff) (Nat.ne_of_lt lpf)) (hw _ (List.mem_of_getElem? (i := 85) rfl)) (hw _ (List.mem_of_getElem? (i := 86) rfl)) (hw _ (List.mem_of_getElem? (i := 88) rfl)) (hw _ (List.mem_of_getElem? (i := 87) rfl)) (hw _ (List.mem_of_getElem? (i := 5) rfl)) (hw _ (List.mem_of_getElem? (i := 89) rfl)) (by decide) Ba2'h12 own_pd11 (argsL := [(.long f1), (.int (64 : Int32)), (.ref a11)]) (rest := []) rfl rfl rfl (W := 0) (Nat.le_of_eq rfl) rfl (by decide) (by decide) (k' := 11) (n' := 163868) rfl rfl (by decide) (by decide) at_145 (q := 148) rfl ?_
    rintro _ h13 ⟨rfl, Kh13c, Rp, Rf, Rc, RA, RB⟩
    have Ba2'h13 : Exa Z h13 a2 "com/example/vireo/vireo/index/BlockTable" := Exa.keep Ba2'h12 Kh13c
    have Aa4'h13 : OwA Z h13 a4 .long [] := OwA.keep Aa4'h12 Kh13c (ninS (Nat.ne_of_lt la4_a11) (ninS (Nat.ne_of_lt la4_pp) (ninS (Nat.ne_of_lt la4_ff) nin0)))
    have TblockMask'h13 : Fld Z h13 a2 "com/example/vireo/vireo/index/BlockTable" "blockMask" "J" (.long bm) := Fld.keep TblockMask'h12 Kh13c (ninS (Nat.ne_of_lt la2_a11) (ninS (Nat.ne_of_lt la2_pp) (ninS (Nat.ne_of_lt la2_ff) nin0)))
    have TearlierTops'h13 : Fld Z h13 a2 "com/example/vireo/vireo/index/BlockTable" "earlierTops" "J" (.long (0 : Int64)) := Fld.keep TearlierTops'h12 Kh13c (ninS (Nat.ne_of_lt la2_a11) (ninS (Nat.ne_of_lt la2_pp) (ninS (Nat.ne_of_lt la2_ff) nin0)))
    have TearlierRests'h13 : Fld Z h13 a2 "com/example/vireo/vireo/index/BlockTable" "earlierRests" "J" (.long (0 : Int64)) := Fld.keep TearlierRests'h12 Kh13c (ninS (Nat.ne_of_lt la2_a11) (ninS (Nat.ne_of_lt la2_pp) (ninS (Nat.ne_of_lt la2_ff) nin0)))
    have TkeyBits'h13 : Fld Z h13 a2 "com/example/vireo/vireo/index/BlockTable" "keyBits" "I" (.int kb) := Fld.keep TkeyBits'h12 Kh13c (ninS (Nat.ne_of_lt la2_a11) (ninS (Nat.ne_of_lt la2_pp) (ninS (Nat.ne_of_lt la2_ff) nin0)))
    have TkeyShift'h13 : Fld Z h13 a2 "com/example/vireo/vireo/index/BlockTable" "keyShift" "I" (.int ks) := Fld.keep TkeyShift'h12 Kh13c (ninS (Nat.ne_of_lt la2_a11) (ninS (Nat.ne_of_lt la2_pp) (ninS (Nat.ne_of_lt la2_ff) nin0)))
    have TlowMask'h13 : Fld Z h13 a2 "com/example/vireo/vireo/index/BlockTable" "lowMask" "I" (.int lm) := Fld.keep TlowMask'h12 Kh13c (ninS (Nat.ne_of_lt la2_a11) (ninS (Nat.ne_of_lt la2_pp) (ninS (Nat.ne_of_lt la2_ff) nin0)))
    have TkeyMask'h13 : Fld Z h13 a2 "com/example/vireo/vireo/index/BlockTable" "keyMask" "J" (.long km) := Fld.keep TkeyMask'h12 Kh13c (ninS (Nat.ne_of_lt la2_a11) (ninS (Nat.ne_of_lt la2_pp) (ninS (Nat.ne_of_lt la2_ff) nin0)))
    have Tbuckets'h13 : Fld Z h13 a2 "com/example/vireo/vireo/index/BlockTable" "buckets" "[Lcom/example/vireo/vireo/index/BlockTable$Bucket;" (.ref u) := Fld.keep Tbuckets'h12 Kh13c (ninS (Nat.ne_of_lt la2_a11) (ninS (Nat.ne_of_lt la2_pp) (ninS (Nat.ne_of_lt la2_ff) nin0)))
    have Tv'h13 : OwV Z h13 u "com/example/vireo/vireo/index/BlockTable$Bucket" := OwV.keep Tv'h12 Kh13c
    have Cx'h13 : Exa Z h13 c "com/example/vireo/vireo/index/BlockTable$Bucket" := Exa.keep Cx'h12 Kh13c
    have Cu'h13 : OwA Z h13 u (.object "com/example/vireo/vireo/index/BlockTable$Bucket") ((List.replicate (2 ^ k) .null).set j (.ref c)) := OwA.keep Cu'h12 Kh13c (ninS (Nat.ne_of_lt lu_a11) (ninS (Nat.ne_of_lt lu_pp) (ninS (Nat.ne_of_lt lu_ff) nin0)))
    have D1e'h13 : Fld Z h13 c "com/example/vireo/vireo/index/BlockTable$Bucket" "entries" "[J" (.ref e) := Fld.keep D1e'h12 Kh13c (ninS (Nat.ne_of_lt lc_a11) (ninS (Nat.ne_of_lt lc_pp) (ninS (Nat.ne_of_lt lc_ff) nin0)))
    have D1h'h13 : Fld Z h13 c "com/example/vireo/vireo/index/BlockTable$Bucket" "highs" "[J" (.ref b2) := Fld.keep D1h'h12 Kh13c (ninS (Nat.ne_of_lt lc_a11) (ninS (Nat.ne_of_lt lc_pp) (ninS (Nat.ne_of_lt lc_ff) nin0)))
    have D1s'h13 : Fld Z h13 c "com/example/vireo/vireo/index/BlockTable$Bucket" "size" "I" (.int (2 : Int32)) := Fld.keep D1s'h12 Kh13c (ninS (Nat.ne_of_lt lc_a11) (ninS (Nat.ne_of_lt lc_pp) (ninS (Nat.ne_of_lt lc_ff) nin0)))
    have D1A'h13 : OwA Z h13 e .long [(.long E0), (.long E1), (.long (0 : Int64)), (.long (0 : Int64))] := OwA.keep D1A'h12 Kh13c (ninS (Nat.ne_of_lt le_a11) (ninS (Nat.ne_of_lt le_pp) (ninS (Nat.ne_of_lt le_ff) nin0)))
    have D1B'h13 : OwA Z h13 b2 .long (own_H L2 (own_up (own_up (fun _ => 0) q1) (q2 + 1))) := OwA.keep D1B'h12 Kh13c (ninS (Nat.ne_of_lt lb2_a11) (ninS (Nat.ne_of_lt lb2_pp) (ninS (Nat.ne_of_lt lb2_ff) nin0)))
    have Ba11'h13 : Exa Z h13 a11 "com/example/vireo/vireo/index/BlockTable$Hits" := Exa.keep Ba11'h12 Kh13c
    have hsh13 : n0 ≤ h13.size := Nat.le_trans hsh12 Kh13c.1
    show X.G h13 11 163868 148 #[.val (.int x0), .val (.int x1), .val (.long f1), .second, .val (.long f2), .second, .val (.int x4), .val (.int x5), .val (.int wd), .val (.int sh), .val (.long bm), .second, .val (.long fq), .second, .val (.int p1), .val (.int p2), .val (.ref a2), .val (.ref a11), .unset] [(.int (2 : Int32))]
    refine X.istore (q := 150) (Ls' := #[.val (.int x0), .val (.int x1), .val (.long f1), .second, .val (.long f2), .second, .val (.int x4), .val (.int x5), .val (.int wd), .val (.int sh), .val (.long bm), .second, .val (.long fq), .second, .val (.int p1), .val (.int p2), .val (.ref a2), .val (.ref a11), .val (.int (2 : Int32))]) at_148 rfl rfl ?_
    refine X.iload (q := 152) at_150 rfl rfl ?_
    refine X.iconst (q := 153) (2 : Int32) at_152 (by decide) rfl ?_
    refine X.icmp_ne (a := 2) (b := 2) (q' := 214) (q := 156) at_153 rfl rfl (by decide) rfl (fun c153 => ?_) (fun c153 => ?_)
    · omega
    · refine X.aload (q := 158) at_156 rfl rfl rfl ?_
      refine X.virtual (a := a11) (own_hcount l Z a0 hw h13 n0 a11 (2 : Int32) hsh13 Rc) (hw _ (List.mem_of_getElem? (i := 122) rfl)) (hw _ (List.mem_of_getElem? (i := 123) rfl)) (hw _ (List.mem_of_getElem? (i := 125) rfl)) (hw _ (List.mem_of_getElem? (i := 124) rfl)) (hw _ (List.mem_of_getElem? (i := 75) rfl)) (hw _ (List.mem_of_getElem? (i := 126) rfl)) (by decide) Ba11'h13 own_pd12 (argsL := []) (rest := []) rfl rfl rfl (W := 0) (Nat.le_of_eq rfl) rfl (by decide) (by decide) (k' := 11) (n' := 163868) rfl rfl (by decide) (by decide) at_158 (q := 161) rfl ?_
      rintro _ _ ⟨rfl, rfl⟩
      show X.G h13 11 163868 161 #[.val (.int x0), .val (.int x1), .val (.long f1), .second, .val (.long f2), .second, .val (.int x4), .val (.int x5), .val (.int wd), .val (.int sh), .val (.long bm), .second, .val (.long fq), .second, .val (.int p1), .val (.int p2), .val (.ref a2), .val (.ref a11), .val (.int (2 : Int32))] [(.int (2 : Int32))]
      refine X.iconst (q := 162) (2 : Int32) at_161 (by decide) rfl ?_
      refine X.icmp_ne (a := 2) (b := 2) (q' := 214) (q := 165) at_162 rfl rfl (by decide) rfl (fun c162 => ?_) (fun c162 => ?_)
      · omega
      · refine X.aload (q := 167) at_165 rfl rfl rfl ?_
        refine X.iconst (q := 168) (0 : Int32) at_167 (by decide) rfl ?_
        refine X.virtual (a := a11) (own_hpos l Z a0 hw h13 n0 a11 pp (0 : Int32) p1 0 _ rfl rfl hsh13 Rp RA) (hw _ (List.mem_of_getElem? (i := 127) rfl)) (hw _ (List.mem_of_getElem? (i := 128) rfl)) (hw _ (List.mem_of_getElem? (i := 130) rfl)) (hw _ (List.mem_of_getElem? (i := 129) rfl)) (hw _ (List.mem_of_getElem? (i := 75) rfl)) (hw _ (List.mem_of_getElem? (i := 131) rfl)) (by decide) Ba11'h13 own_pd1 (argsL := [(.int (0 : Int32))]) (rest := []) rfl rfl rfl (W := 0) (Nat.le_of_eq rfl) rfl (by decide) (by decide) (k' := 11) (n' := 163868) rfl rfl (by decide) (by decide) at_168 (q := 171) rfl ?_
        rintro _ _ ⟨rfl, rfl⟩
        show X.G h13 11 163868 171 #[.val (.int x0), .val (.int x1), .val (.long f1), .second, .val (.long f2), .second, .val (.int x4), .val (.int x5), .val (.int wd), .val (.int sh), .val (.long bm), .second, .val (.long fq), .second, .val (.int p1), .val (.int p2), .val (.ref a2), .val (.ref a11), .val (.int (2 : Int32))] [(.int p1)]
        refine X.iload (q := 173) at_171 rfl rfl ?_
        refine X.icmp_ne (q' := 214) (q := 176) at_173 rfl rfl (by decide) rfl (fun c173 => ?_) (fun c173 => ?_)
        · omega
        · refine X.aload (q := 178) at_176 rfl rfl rfl ?_
          refine X.iconst (q := 179) (1 : Int32) at_178 (by decide) rfl ?_
          refine X.virtual (a := a11) (own_hpos l Z a0 hw h13 n0 a11 pp (1 : Int32) p2 1 _ rfl rfl hsh13 Rp RA) (hw _ (List.mem_of_getElem? (i := 127) rfl)) (hw _ (List.mem_of_getElem? (i := 128) rfl)) (hw _ (List.mem_of_getElem? (i := 130) rfl)) (hw _ (List.mem_of_getElem? (i := 129) rfl)) (hw _ (List.mem_of_getElem? (i := 75) rfl)) (hw _ (List.mem_of_getElem? (i := 131) rfl)) (by decide) Ba11'h13 own_pd1 (argsL := [(.int (1 : Int32))]) (rest := []) rfl rfl rfl (W := 0) (Nat.le_of_eq rfl) rfl (by decide) (by decide) (k' := 11) (n' := 163868) rfl rfl (by decide) (by decide) at_179 (q := 182) rfl ?_
          rintro _ _ ⟨rfl, rfl⟩
          show X.G h13 11 163868 182 #[.val (.int x0), .val (.int x1), .val (.long f1), .second, .val (.long f2), .second, .val (.int x4), .val (.int x5), .val (.int wd), .val (.int sh), .val (.long bm), .second, .val (.long fq), .second, .val (.int p1), .val (.int p2), .val (.ref a2), .val (.ref a11), .val (.int (2 : Int32))] [(.int p2)]
          refine X.iload (q := 184) at_182 rfl rfl ?_
          refine X.icmp_ne (q' := 214) (q := 187) at_184 rfl rfl (by decide) rfl (fun c184 => ?_) (fun c184 => ?_)
          · omega
          · refine X.aload (q := 189) at_187 rfl rfl rfl ?_
            refine X.iconst (q := 190) (0 : Int32) at_189 (by decide) rfl ?_
            refine X.virtual (a := a11) (own_hfin l Z a0 hw h13 n0 a11 ff (0 : Int32) f1 0 _ rfl rfl hsh13 Rf RB) (hw _ (List.mem_of_getElem? (i := 132) rfl)) (hw _ (List.mem_of_getElem? (i := 133) rfl)) (hw _ (List.mem_of_getElem? (i := 135) rfl)) (hw _ (List.mem_of_getElem? (i := 134) rfl)) (hw _ (List.mem_of_getElem? (i := 75) rfl)) (hw _ (List.mem_of_getElem? (i := 136) rfl)) (by decide) Ba11'h13 own_pd13 (argsL := [(.int (0 : Int32))]) (rest := []) rfl rfl rfl (W := 0) (Nat.le_of_eq rfl) rfl (by decide) (by decide) (k' := 11) (n' := 163868) rfl rfl (by decide) (by decide) at_190 (q := 193) rfl ?_
            rintro _ _ ⟨rfl, rfl⟩
            show X.G h13 11 163868 193 #[.val (.int x0), .val (.int x1), .val (.long f1), .second, .val (.long f2), .second, .val (.int x4), .val (.int x5), .val (.int wd), .val (.int sh), .val (.long bm), .second, .val (.long fq), .second, .val (.int p1), .val (.int p2), .val (.ref a2), .val (.ref a11), .val (.int (2 : Int32))] [(.long f1)]
            refine X.lloadN (q := 194) at_193 rfl rfl ?_
            refine X.lcmp_ne (q1 := 195) (q' := 214) (q := 198) at_194 rfl at_195 rfl rfl (by decide) rfl (fun c194 => ?_) (fun c194 => ?_)
            · omega
            · refine X.aload (q := 200) at_198 rfl rfl rfl ?_
              refine X.iconst (q := 201) (1 : Int32) at_200 (by decide) rfl ?_
              refine X.virtual (a := a11) (own_hfin l Z a0 hw h13 n0 a11 ff (1 : Int32) fq 1 _ rfl rfl hsh13 Rf RB) (hw _ (List.mem_of_getElem? (i := 132) rfl)) (hw _ (List.mem_of_getElem? (i := 133) rfl)) (hw _ (List.mem_of_getElem? (i := 135) rfl)) (hw _ (List.mem_of_getElem? (i := 134) rfl)) (hw _ (List.mem_of_getElem? (i := 75) rfl)) (hw _ (List.mem_of_getElem? (i := 136) rfl)) (by decide) Ba11'h13 own_pd13 (argsL := [(.int (1 : Int32))]) (rest := []) rfl rfl rfl (W := 0) (Nat.le_of_eq rfl) rfl (by decide) (by decide) (k' := 11) (n' := 163868) rfl rfl (by decide) (by decide) at_201 (q := 204) rfl ?_
              rintro _ _ ⟨rfl, rfl⟩
              show X.G h13 11 163868 204 #[.val (.int x0), .val (.int x1), .val (.long f1), .second, .val (.long f2), .second, .val (.int x4), .val (.int x5), .val (.int wd), .val (.int sh), .val (.long bm), .second, .val (.long fq), .second, .val (.int p1), .val (.int p2), .val (.ref a2), .val (.ref a11), .val (.int (2 : Int32))] [(.long fq)]
              refine X.lload (q := 206) at_204 rfl rfl ?_
              refine X.lcmp_ne (q1 := 207) (q' := 214) (q := 210) at_206 rfl at_207 rfl rfl (by decide) rfl (fun c206 => ?_) (fun c206 => ?_)
              · omega
              · refine X.iconst (q := 211) (1 : Int32) at_210 (by decide) rfl ?_
                refine X.goto (q' := 215) at_211 (by decide) ?_
                refine X.retN (t := .boolean) (z' := (1 : Int32)) at_215 rfl (by simp) (by decide) (by decide) (by decide) ?_
                rfl
  refine X.icmp_ne (b := 64) (q' := 33) (q := 27) at_24 rfl rfl (by decide) rfl (fun c24 => ?_) (fun c24 => ?_)
  · refine X.lconst (q := 34) (1 : Int64) at_33 (by decide) rfl ?_
    refine X.iload (q := 36) at_34 rfl rfl ?_
    refine X.lshl (q := 37) at_36 rfl ?_
    refine X.lconst (q := 38) (1 : Int64) at_37 (by decide) rfl ?_
    refine X.lsub (q := 39) at_38 rfl ?_
    refine X.iload (q := 41) at_39 rfl rfl ?_
    refine X.lshl (q := 42) at_41 rfl ?_
    refine X.foldJ (v := (own_b0 wd <<< (sh.toInt64 &&& 63))) (by first | exact own_b0m c24 (by omega) | (unfold own_b0; rw [if_neg c24])) ?_
    exact J42
  · refine X.ldc2_w (q := 30) (v := (-1 : Int64)) (hw _ (List.mem_of_getElem? (i := 1) rfl)) at_27 rfl ?_
    refine X.goto (q' := 42) at_30 (by decide) ?_
    refine X.foldJ (v := (own_b0 wd <<< (sh.toInt64 &&& 63))) (by first | exact own_b0m c24 (by omega) | (unfold own_b0; rw [if_neg c24])) ?_
    exact J42
set_option maxRecDepth 65536 in
set_option maxHeartbeats 40000000 in
theorem comes_1 {Post : Tables → Env → Array Value → State → Outcome → State → Prop} (hpost : ∀ tb e args s v u, (limb_1_1.after args s (.returned v) u = true ∧ limb_1_2.after args s (.returned v) u = true ∧ True) → FrameEnd s (.returned v) u (Jvm.fieldLocs frame_1_writes args s ++ Jvm.arrayLocs frame_1_arrays args s ++ Jvm.staticLocs frame_1_statics s) 32 170880 → Post tb e args s (.returned v) u) :
    ArmFor flags0 classFile x code maxLocals ret World_1 tables_1 room_1 Calls_1 rest_1 Pre_1 Post := by
  intro l hfl _ _ p e ha hc hk s m args below hf hA hF happ hP
  obtain ⟨hcalls, hrest, hpre⟩ := hP
  obtain ⟨-, -, -, hnamed, -, -, -, hat⟩ := (Spec.applies_iff hf).mp happ
  obtain ⟨hg, hn⟩ := and_e (Cond.before_iff.mp (show (Jvm.Cond.and given_1 narrow_1).before args s = true from hpre))
  obtain ⟨hg0, hg⟩ := and_e hg
  obtain ⟨w0, w1, w2, w3, w4, w5, rfl⟩ : ∃ w0 w1 w2 w3 w4 w5 : Value, args = #[w0, w1, w2, w3, w4, w5] := by
    have hs : args.size = 6 := by simpa [Cond.value, given_1] using hg0
    obtain ⟨L⟩ := args
    match L, hs with
    | [w0, w1, w2, w3, w4, w5], _ => exact ⟨w0, w1, w2, w3, w4, w5, rfl⟩
  have hw := fun d (hd : d ∈ tables_1) => atoms_spec (ws := Jvm.Cond.code x code maxLocals ret :: tables_1) hat d (List.mem_cons_of_mem _ hd)
  obtain ⟨ha0, hg⟩ := and_e hg
  obtain ⟨i0, e0⟩ := is_v ha0
  obtain rfl : w0 = (.int i0) := Option.some.inj e0
  obtain ⟨ha1, hg⟩ := and_e hg
  obtain ⟨i1, e1⟩ := is_v ha1
  obtain rfl : w1 = (.int i1) := Option.some.inj e1
  obtain ⟨ha2, hg⟩ := and_e hg
  obtain ⟨i2, e2⟩ := isL_v ha2
  obtain rfl : w2 = (.long i2) := Option.some.inj e2
  obtain ⟨ha3, hg⟩ := and_e hg
  obtain ⟨i3, e3⟩ := isL_v ha3
  obtain rfl : w3 = (.long i3) := Option.some.inj e3
  obtain ⟨ha4, hg⟩ := and_e hg
  obtain ⟨i4, e4⟩ := is_v ha4
  obtain rfl : w4 = (.int i4) := Option.some.inj e4
  have ha5 := hg
  obtain ⟨i5, e5⟩ := is_v ha5
  obtain rfl : w5 = (.int i5) := Option.some.inj e5
  obtain ⟨n, o, h1, h2, h3, _, L, rfl, ⟨rfl, N⟩, hq⟩ := own_law l s _ hw s.heap s.heap.size (Nat.le_refl _) i0 i1 i2 i3 i4 i5 p e ha hc hk s m _ below hf ((Spec.applies_iff_loose hf).mp happ).1 ⟨rfl, State.Warmed39.refl s, rfl⟩ trivial
  refine ⟨n, _, h1, h2, h3, hpost _ _ _ _ _ _ ⟨Cond.after_iff.mpr rfl, Cond.after_iff.mpr (eq_i res_at (Term.int_eval (1)) rfl), trivial⟩ ⟨hq.1, hq.2.1, (hq.2.2.sift fun y hy => Or.inr (N y hy)).mono (by decide) (by decide)⟩⟩
theorem main_1_1 : Claimed_1_1 := comes_1 fun _ _ _ _ _ _ h hF => ⟨h.1, hF⟩
theorem main_1_2 : Claimed_1_2 := comes_1 fun _ _ _ _ _ _ h hF => ⟨h.2.1, hF⟩
end Jvm.Pilot.@@N@@
namespace Jvm.Pilot.@@N@@
open Jvm Jvm.ClassFile Sem Op Lib Jvm.Free Jvm.Stand Jvm.Pilot.@@N@@.Jvm.D
/-! MADE BY PROGRAM (witnessworld.py) out of the Statement's table words and the real class files: 23 classes; the members and pool entries that the words name. The judged class is class 1, her method 1. -/
namespace start1
open Jvm.ClassFile
def u (s : String) : CpInfo := .utf8 (stringToUtf16 s)
/-- a pool by its gaps: so many unusable entries, then the entry; so many at the end -/
def gap : Nat → List CpInfo → List CpInfo
  | 0, r => r
  | n + 1, r => .unusable :: gap n r
def poolList (es : List (Nat × CpInfo)) (last : Nat) : List CpInfo := es.foldr (fun e r => gap e.1 (e.2 :: r)) (gap last [])
def pool (es : List (Nat × CpInfo)) (last : Nat) : Array CpInfo := ⟨poolList es last⟩
def fileOf (pool : Array CpInfo) (this : Nat) (attrs : Array Attribute := #[]) (ms : Array MethodInfo := #[]) (fl : Nat := 33) (sup : Nat := 0) (ifs : Array Nat := #[]) (fds : Array FieldInfo := #[]) : ClassFile where
  minorVersion := 0
  majorVersion := 65
  constantPool := pool
  accessFlags := fl
  thisClass := this
  superClass := sup
  interfaces := ifs
  fields := fds
  methods := ms
  attributes := attrs
def plain (name : String) (sup : Option ClassId) : Class where
  name := name
  kind := .ordinary
  loader := none
  accessFlags := 33
  super := sup
  interfaces := #[]
  cf := none
  fields := #[]
  methods := #[]
  instanceTypes := #[]
  staticTypes := #[]
  resolved := #[]
  callSites := []
  init := .initialized
  statics := none
  mirror := none

def pool0 : Array CpInfo := pool [(5, u "<init>"), (0, u "()V"), (1, .class_ 10), (1, u "java/lang/Object")] 113

def k0c0 : Code := { maxStack := 0, maxLocals := 1, code := object_method_1_code, exceptionTable := #[], attributes := #[] }
def k0m0 : Method := { name := "<init>", desc := "()V", sig := { parameters := [], returnType := none }, accessFlags := 1, code := some k0c0 }
/-- java/lang/Object -/
def k0 : Class := { plain "java/lang/Object" none with
  accessFlags := 33
  interfaces := #[]
  cf := some (fileOf pool0 8 #[] #[{ accessFlags := 1, nameIndex := 5, descriptorIndex := 6, attributes := #[] }] 33 0 #[] #[])
  fields := #[]
  methods := #[k0m0]
  instanceTypes := #[]
  staticTypes := #[]
  resolved := Array.replicate 124 none
  statics := none }

def pool1 : Array CpInfo := pool [(2, .class_ 4), (0, .nameAndType 5 6), (0, u "java/lang/Object"), (0, u "<init>"), (0, u "()V"), (0, .integer 2147483647), (0, .long 18446744073709551615), (1, .integer 4194303), (0, .class_ 12), (0, u "com/example/vireo/vireo/index/BlockTable"), (0, .methodref 11 14), (0, .nameAndType 5 15), (0, u "(II[J)V"), (0, .methodref 11 17), (0, .nameAndType 18 19), (0, u "reserve"), (0, u "(JI)V"), (0, .methodref 11 21), (0, .nameAndType 22 19), (0, u "put"), (0, .class_ 24), (0, u "com/example/vireo/vireo/index/BlockTable$Hits"), (0, .methodref 23 3), (0, .methodref 11 27), (0, .nameAndType 28 29), (0, u "find"), (0, u "(JILcom/example/vireo/vireo/index/BlockTable$Hits;)I"), (0, .methodref 23 31), (0, .nameAndType 32 33), (0, u "count"), (0, u "()I"), (0, .methodref 23 35), (0, .nameAndType 36 37), (0, u "position"), (0, u "(I)I"), (0, .methodref 23 39), (0, .nameAndType 40 41), (0, u "fingerprint"), (0, u "(I)J"), (0, .class_ 43), (0, u "com/example/vireo/vireo/index/BlockTablePutPinLaw"), (2, u "law"), (0, u "(IIJJII)Z")] 5

def k1m0 : Method := { name := "<init>", desc := "()V", sig := { parameters := [], returnType := none }, accessFlags := 1, code := none }
def k1c1 : Code := { maxStack := 6, maxLocals := 19, code := code, exceptionTable := #[], attributes := #[] }
def k1m1 : Method := { name := "law", desc := "(IIJJII)Z", sig := { parameters := [.int, .int, .long, .long, .int, .int], returnType := some .boolean }, accessFlags := 9, code := some k1c1 }
/-- com/example/vireo/vireo/index/BlockTablePutPinLaw -/
def k1 : Class := { plain "com/example/vireo/vireo/index/BlockTablePutPinLaw" (some 0) with
  accessFlags := 49
  interfaces := #[]
  cf := some (fileOf pool1 42 #[] #[{ accessFlags := 1, nameIndex := 5, descriptorIndex := 6, attributes := #[] }, { accessFlags := 9, nameIndex := 46, descriptorIndex := 47, attributes := #[] }] 49 2 #[] #[])
  fields := #[]
  methods := #[k1m0, k1m1]
  instanceTypes := #[]
  staticTypes := #[]
  resolved := Array.replicate 53 none
  statics := none }

def pool2 : Array CpInfo := pool [(1, .methodref 2 3), (0, .class_ 4), (0, .nameAndType 5 6), (0, u "java/lang/Object"), (0, u "<init>"), (0, u "()V"), (0, .class_ 8), (0, u "java/lang/Long"), (0, .long 18446744073709551615), (1, .fieldref 12 13), (0, .class_ 14), (0, .nameAndType 15 16), (0, u "com/example/vireo/vireo/index/BlockTable"), (0, u "blockMask"), (0, u "J"), (4, .fieldref 12 22), (0, .nameAndType 23 16), (0, u "earlierTops"), (0, .fieldref 12 25), (0, .nameAndType 26 16), (0, u "earlierRests"), (0, .methodref 28 29), (0, .class_ 30), (0, .nameAndType 31 32), (0, u "java/lang/Math"), (0, u "min"), (0, u "(II)I"), (0, .fieldref 12 34), (0, .nameAndType 35 36), (0, u "keyBits"), (0, u "I"), (0, .fieldref 12 38), (0, .nameAndType 39 36), (0, u "keyShift"), (0, .fieldref 12 41), (0, .nameAndType 42 36), (0, u "lowMask"), (0, .fieldref 12 44), (0, .nameAndType 45 16), (0, u "keyMask"), (0, .class_ 47), (0, u "com/example/vireo/vireo/index/BlockTable$Bucket"), (0, .fieldref 12 49), (0, .nameAndType 50 51), (0, u "buckets"), (0, u "[Lcom/example/vireo/vireo/index/BlockTable$Bucket;"), (0, .methodref 12 53), (0, .nameAndType 54 55), (0, u "key"), (0, u "(J)I"), (0, .methodref 46 3), (0, .methodref 46 58), (0, .nameAndType 59 60), (0, u "reserve"), (0, u "(I)V"), (0, .methodref 46 62), (0, .nameAndType 63 64), (0, u "add"), (0, u "(JI)V"), (0, .fieldref 46 66), (0, .nameAndType 67 68), (0, u "entries"), (0, u "[J"), (0, .fieldref 46 70), (0, .nameAndType 71 68), (0, u "highs"), (0, .fieldref 46 73), (0, .nameAndType 74 36), (0, u "size"), (0, .methodref 12 76), (0, .nameAndType 77 78), (0, u "agreesEarlier"), (0, u "(J)Z"), (0, .methodref 7 80), (0, .nameAndType 81 55), (0, u "bitCount"), (0, .methodref 12 83), (0, .nameAndType 84 85), (0, u "nthSetBit"), (0, u "(JI)I"), (0, .methodref 87 88), (0, .class_ 89), (0, .nameAndType 63 90), (0, u "com/example/vireo/vireo/index/BlockTable$Hits"), (0, u "(IJ)V"), (0, .methodref 7 92), (0, .nameAndType 93 55), (0, u "numberOfTrailingZeros"), (0, .methodref 28 95), (0, .nameAndType 96 32), (0, u "max"), (0, u "MAX_KEY_BITS"), (2, u "FIRST_CAPACITY"), (1, u "(II[J)V"), (5, u "put"), (0, u "find"), (0, u "(JILcom/example/vireo/vireo/index/BlockTable$Hits;)I"), (0, u "grown"), (0, u "(I)I")] 6

def k2c0 : Code := { maxStack := 7, maxLocals := 13, code := prog_8_method_1_code, exceptionTable := #[], attributes := #[] }
def k2m0 : Method := { name := "<init>", desc := "(II[J)V", sig := { parameters := [.int, .int, (.array .long)], returnType := none }, accessFlags := 0, code := some k2c0 }
def k2c1 : Code := { maxStack := 4, maxLocals := 5, code := prog_8_method_3_code, exceptionTable := #[], attributes := #[] }
def k2m1 : Method := { name := "reserve", desc := "(JI)V", sig := { parameters := [.long, .int], returnType := none }, accessFlags := 0, code := some k2c1 }
def k2c2 : Code := { maxStack := 6, maxLocals := 6, code := prog_8_method_4_code, exceptionTable := #[], attributes := #[] }
def k2m2 : Method := { name := "put", desc := "(JI)V", sig := { parameters := [.long, .int], returnType := none }, accessFlags := 0, code := some k2c2 }
def k2c3 : Code := { maxStack := 8, maxLocals := 16, code := prog_8_method_5_code, exceptionTable := #[], attributes := #[] }
def k2m3 : Method := { name := "find", desc := "(JILcom/example/vireo/vireo/index/BlockTable$Hits;)I", sig := { parameters := [.long, .int, (.object "com/example/vireo/vireo/index/BlockTable$Hits")], returnType := some .int }, accessFlags := 0, code := some k2c3 }
def k2c4 : Code := { maxStack := 3, maxLocals := 3, code := prog_8_method_6_code, exceptionTable := #[], attributes := #[] }
def k2m4 : Method := { name := "key", desc := "(J)I", sig := { parameters := [.long], returnType := some .int }, accessFlags := 2, code := some k2c4 }
def k2c5 : Code := { maxStack := 4, maxLocals := 5, code := prog_8_method_7_code, exceptionTable := #[], attributes := #[] }
def k2m5 : Method := { name := "agreesEarlier", desc := "(J)Z", sig := { parameters := [.long], returnType := some .boolean }, accessFlags := 2, code := some k2c5 }
def k2c6 : Code := { maxStack := 6, maxLocals := 6, code := prog_8_method_8_code, exceptionTable := #[], attributes := #[] }
def k2m6 : Method := { name := "nthSetBit", desc := "(JI)I", sig := { parameters := [.long, .int], returnType := some .int }, accessFlags := 10, code := some k2c6 }
def k2c7 : Code := { maxStack := 3, maxLocals := 1, code := prog_8_method_9_code, exceptionTable := #[], attributes := #[] }
def k2m7 : Method := { name := "grown", desc := "(I)I", sig := { parameters := [.int], returnType := some .int }, accessFlags := 10, code := some k2c7 }
/-- com/example/vireo/vireo/index/BlockTable -/
def k2 : Class := { plain "com/example/vireo/vireo/index/BlockTable" (some 0) with
  accessFlags := 48
  interfaces := #[]
  cf := some (fileOf pool2 12 #[.nestMembers #[87, 46]] #[{ accessFlags := 0, nameIndex := 5, descriptorIndex := 102, attributes := #[] }, { accessFlags := 0, nameIndex := 59, descriptorIndex := 64, attributes := #[] }, { accessFlags := 0, nameIndex := 108, descriptorIndex := 64, attributes := #[] }, { accessFlags := 0, nameIndex := 109, descriptorIndex := 110, attributes := #[] }, { accessFlags := 2, nameIndex := 54, descriptorIndex := 55, attributes := #[] }, { accessFlags := 2, nameIndex := 77, descriptorIndex := 78, attributes := #[] }, { accessFlags := 10, nameIndex := 84, descriptorIndex := 85, attributes := #[] }, { accessFlags := 10, nameIndex := 111, descriptorIndex := 112, attributes := #[] }] 48 2 #[] #[{ accessFlags := 24, nameIndex := 97, descriptorIndex := 36, attributes := #[] }, { accessFlags := 26, nameIndex := 100, descriptorIndex := 36, attributes := #[] }, { accessFlags := 18, nameIndex := 15, descriptorIndex := 16, attributes := #[] }, { accessFlags := 18, nameIndex := 23, descriptorIndex := 16, attributes := #[] }, { accessFlags := 18, nameIndex := 26, descriptorIndex := 16, attributes := #[] }, { accessFlags := 18, nameIndex := 35, descriptorIndex := 36, attributes := #[] }, { accessFlags := 18, nameIndex := 39, descriptorIndex := 36, attributes := #[] }, { accessFlags := 18, nameIndex := 45, descriptorIndex := 16, attributes := #[] }, { accessFlags := 18, nameIndex := 42, descriptorIndex := 36, attributes := #[] }, { accessFlags := 18, nameIndex := 50, descriptorIndex := 51, attributes := #[] }])
  fields := #[{ name := "MAX_KEY_BITS", type := .int, accessFlags := 24, slot := 0, constantValue := 0 }, { name := "FIRST_CAPACITY", type := .int, accessFlags := 26, slot := 1, constantValue := 0 }, { name := "blockMask", type := .long, accessFlags := 18, slot := 0, constantValue := 0 }, { name := "earlierTops", type := .long, accessFlags := 18, slot := 1, constantValue := 0 }, { name := "earlierRests", type := .long, accessFlags := 18, slot := 2, constantValue := 0 }, { name := "keyBits", type := .int, accessFlags := 18, slot := 3, constantValue := 0 }, { name := "keyShift", type := .int, accessFlags := 18, slot := 4, constantValue := 0 }, { name := "keyMask", type := .long, accessFlags := 18, slot := 5, constantValue := 0 }, { name := "lowMask", type := .int, accessFlags := 18, slot := 6, constantValue := 0 }, { name := "buckets", type := (.array (.object "com/example/vireo/vireo/index/BlockTable$Bucket")), accessFlags := 18, slot := 7, constantValue := 0 }]
  methods := #[k2m0, k2m1, k2m2, k2m3, k2m4, k2m5, k2m6, k2m7]
  instanceTypes := #[.long, .long, .long, .int, .int, .long, .int, (.array (.object "com/example/vireo/vireo/index/BlockTable$Bucket"))]
  staticTypes := #[.int, .int]
  resolved := #[none, none, none, none, none, none, none, none, none, none, none, none, none, none, none, none, none, none, none, none, none, none, none, none, none, none, none, none, none, none, none, none, none, none, none, none, none, none, none, none, none, none, none, none, none, none, some (.cls 4), none, none, none, none, none, none, none, none, none, some (.method ⟨4, 0⟩), none, none, none, none, none, none, none, none, some (.field 4 0), none, none, none, some (.field 4 1), none, none, some (.field 4 2), none, none, none, none, none, none, none, none, none, none, none, none, none, none, none, none, none, none, none, none, none, none, none, none, none, none, none, none, none, none, none, none, none, none, none, none, none, none, none, none, none, none, none, none, none, none]
  statics := none }

def pool3 : Array CpInfo := pool [(1, .class_ 2), (0, u "java/lang/Math"), (1, .class_ 6), (1, u "java/lang/Object"), (0, u "<init>"), (0, u "()V"), (89, .class_ 100), (1, u "java/lang/Math$RandomNumberGeneratorHolder"), (71, u "negativeZeroFloatBits"), (0, u "J"), (2, u "negativeZeroDoubleBits"), (21, u "max"), (2, u "min"), (43, u "$assertionsDisabled"), (0, u "Z"), (88, u "(II)I"), (2, u "twoToTheDoubleScaleDown"), (0, u "D"), (4, u "twoToTheDoubleScaleUp"), (9, u "E"), (3, u "PI"), (2, u "TAU"), (2, u "DEGREES_TO_RADIANS"), (0, u "RADIANS_TO_DEGREES")] 94

def k3m0 : Method := { name := "<init>", desc := "()V", sig := { parameters := [], returnType := none }, accessFlags := 2, code := none }
def k3c1 : Code := { maxStack := 2, maxLocals := 2, code := jdk_29_method_65_code, exceptionTable := #[], attributes := #[] }
def k3m1 : Method := { name := "max", desc := "(II)I", sig := { parameters := [.int, .int], returnType := some .int }, accessFlags := 9, code := some k3c1 }
def k3c2 : Code := { maxStack := 2, maxLocals := 2, code := jdk_29_method_69_code, exceptionTable := #[], attributes := #[] }
def k3m2 : Method := { name := "min", desc := "(II)I", sig := { parameters := [.int, .int], returnType := some .int }, accessFlags := 9, code := some k3c2 }
/-- java/lang/Math -/
def k3 : Class := { plain "java/lang/Math" (some 0) with
  accessFlags := 49
  interfaces := #[]
  cf := some (fileOf pool3 1 #[.nestMembers #[98]] #[{ accessFlags := 2, nameIndex := 7, descriptorIndex := 8, attributes := #[] }, { accessFlags := 9, nameIndex := 198, descriptorIndex := 335, attributes := #[] }, { accessFlags := 9, nameIndex := 201, descriptorIndex := 335, attributes := #[] }] 49 4 #[] #[{ accessFlags := 25, nameIndex := 354, descriptorIndex := 339, attributes := #[] }, { accessFlags := 25, nameIndex := 358, descriptorIndex := 339, attributes := #[] }, { accessFlags := 25, nameIndex := 361, descriptorIndex := 339, attributes := #[] }, { accessFlags := 26, nameIndex := 364, descriptorIndex := 339, attributes := #[] }, { accessFlags := 26, nameIndex := 365, descriptorIndex := 339, attributes := #[] }, { accessFlags := 26, nameIndex := 172, descriptorIndex := 173, attributes := #[] }, { accessFlags := 26, nameIndex := 176, descriptorIndex := 173, attributes := #[] }, { accessFlags := 8, nameIndex := 344, descriptorIndex := 339, attributes := #[] }, { accessFlags := 8, nameIndex := 338, descriptorIndex := 339, attributes := #[] }, { accessFlags := 4120, nameIndex := 245, descriptorIndex := 246, attributes := #[] }])
  fields := #[{ name := "E", type := .double, accessFlags := 25, slot := 0, constantValue := 0 }, { name := "PI", type := .double, accessFlags := 25, slot := 1, constantValue := 0 }, { name := "TAU", type := .double, accessFlags := 25, slot := 2, constantValue := 0 }, { name := "DEGREES_TO_RADIANS", type := .double, accessFlags := 26, slot := 3, constantValue := 0 }, { name := "RADIANS_TO_DEGREES", type := .double, accessFlags := 26, slot := 4, constantValue := 0 }, { name := "negativeZeroFloatBits", type := .long, accessFlags := 26, slot := 5, constantValue := 0 }, { name := "negativeZeroDoubleBits", type := .long, accessFlags := 26, slot := 6, constantValue := 0 }, { name := "twoToTheDoubleScaleUp", type := .double, accessFlags := 8, slot := 7, constantValue := 0 }, { name := "twoToTheDoubleScaleDown", type := .double, accessFlags := 8, slot := 8, constantValue := 0 }, { name := "$assertionsDisabled", type := .boolean, accessFlags := 4120, slot := 9, constantValue := 0 }]
  methods := #[k3m0, k3m1, k3m2]
  instanceTypes := #[]
  staticTypes := #[.double, .double, .double, .double, .double, .long, .long, .double, .double, .boolean]
  resolved := Array.replicate 460 none
  statics := none }

def pool4 : Array CpInfo := pool [(1, .class_ 2), (0, u "com/example/vireo/vireo/index/BlockTable"), (0, .methodref 4 5), (0, .class_ 6), (0, .nameAndType 7 8), (0, u "java/lang/Object"), (0, u "<init>"), (0, u "()V"), (0, .fieldref 10 11), (0, .class_ 12), (0, .nameAndType 13 14), (0, u "com/example/vireo/vireo/index/BlockTable$Bucket"), (0, u "entries"), (0, u "[J"), (0, .fieldref 10 16), (0, .nameAndType 17 14), (0, u "highs"), (0, .fieldref 10 19), (0, .nameAndType 20 21), (0, u "size"), (0, u "I"), (0, .methodref 1 23), (0, .nameAndType 24 25), (0, u "grown"), (0, u "(I)I"), (0, .methodref 27 28), (0, .class_ 29), (0, .nameAndType 30 31), (0, u "java/util/Arrays"), (0, u "copyOf"), (0, u "([JI)[J"), (2, .methodref 35 36), (0, .class_ 37), (0, .nameAndType 38 39), (0, u "java/lang/Math"), (0, u "max"), (0, u "(II)I"), (2, u "reserve"), (0, u "(I)V"), (1, u "add"), (0, u "(JI)V")] 5

def k4c0 : Code := { maxStack := 2, maxLocals := 1, code := prog_9_method_1_code, exceptionTable := #[], attributes := #[] }
def k4m0 : Method := { name := "<init>", desc := "()V", sig := { parameters := [], returnType := none }, accessFlags := 2, code := some k4c0 }
def k4c1 : Code := { maxStack := 4, maxLocals := 3, code := prog_9_method_2_code, exceptionTable := #[], attributes := #[] }
def k4m1 : Method := { name := "reserve", desc := "(I)V", sig := { parameters := [.int], returnType := none }, accessFlags := 0, code := some k4c1 }
def k4c2 : Code := { maxStack := 7, maxLocals := 5, code := prog_9_method_3_code, exceptionTable := #[], attributes := #[] }
def k4m2 : Method := { name := "add", desc := "(JI)V", sig := { parameters := [.long, .int], returnType := none }, accessFlags := 0, code := some k4c2 }
/-- com/example/vireo/vireo/index/BlockTable$Bucket -/
def k4 : Class := { plain "com/example/vireo/vireo/index/BlockTable$Bucket" (some 0) with
  accessFlags := 48
  interfaces := #[]
  cf := some (fileOf pool4 10 #[.nestHost 1] #[{ accessFlags := 2, nameIndex := 7, descriptorIndex := 8, attributes := #[] }, { accessFlags := 0, nameIndex := 42, descriptorIndex := 43, attributes := #[] }, { accessFlags := 0, nameIndex := 45, descriptorIndex := 46, attributes := #[] }] 48 4 #[] #[{ accessFlags := 2, nameIndex := 13, descriptorIndex := 14, attributes := #[] }, { accessFlags := 2, nameIndex := 17, descriptorIndex := 14, attributes := #[] }, { accessFlags := 2, nameIndex := 20, descriptorIndex := 21, attributes := #[] }])
  fields := #[{ name := "entries", type := (.array .long), accessFlags := 2, slot := 0, constantValue := 0 }, { name := "highs", type := (.array .long), accessFlags := 2, slot := 1, constantValue := 0 }, { name := "size", type := .int, accessFlags := 2, slot := 2, constantValue := 0 }]
  methods := #[k4m0, k4m1, k4m2]
  instanceTypes := #[(.array .long), (.array .long), .int]
  staticTypes := #[]
  resolved := Array.replicate 52 none
  statics := none }

def pool5 : Array CpInfo := pool [(1, .class_ 2), (0, u "com/example/vireo/vireo/index/BlockTable"), (0, .methodref 4 5), (0, .class_ 6), (0, .nameAndType 7 8), (0, u "java/lang/Object"), (0, u "<init>"), (0, u "()V"), (0, .fieldref 10 11), (0, .class_ 12), (0, .nameAndType 13 14), (0, u "com/example/vireo/vireo/index/BlockTable$Hits"), (0, u "positions"), (0, u "[I"), (0, .fieldref 10 16), (0, .nameAndType 17 18), (0, u "fingerprints"), (0, u "[J"), (0, .fieldref 10 20), (0, .nameAndType 21 22), (0, u "count"), (0, u "I"), (1, .class_ 26), (1, u "java/util/Arrays"), (0, u "copyOf"), (1, .methodref 24 30), (0, .nameAndType 27 31), (0, u "([JI)[J"), (2, u "add"), (0, u "(IJ)V"), (1, u "()I"), (0, u "position"), (0, u "(I)I"), (0, u "fingerprint"), (0, u "(I)J")] 5

def k5c0 : Code := { maxStack := 2, maxLocals := 1, code := prog_10_method_1_code, exceptionTable := #[], attributes := #[] }
def k5m0 : Method := { name := "<init>", desc := "()V", sig := { parameters := [], returnType := none }, accessFlags := 0, code := some k5c0 }
def k5c1 : Code := { maxStack := 4, maxLocals := 4, code := prog_10_method_2_code, exceptionTable := #[], attributes := #[] }
def k5m1 : Method := { name := "add", desc := "(IJ)V", sig := { parameters := [.int, .long], returnType := none }, accessFlags := 0, code := some k5c1 }
def k5c2 : Code := { maxStack := 1, maxLocals := 1, code := prog_10_method_3_code, exceptionTable := #[], attributes := #[] }
def k5m2 : Method := { name := "count", desc := "()I", sig := { parameters := [], returnType := some .int }, accessFlags := 0, code := some k5c2 }
def k5c3 : Code := { maxStack := 2, maxLocals := 2, code := prog_10_method_4_code, exceptionTable := #[], attributes := #[] }
def k5m3 : Method := { name := "position", desc := "(I)I", sig := { parameters := [.int], returnType := some .int }, accessFlags := 0, code := some k5c3 }
def k5c4 : Code := { maxStack := 2, maxLocals := 2, code := prog_10_method_5_code, exceptionTable := #[], attributes := #[] }
def k5m4 : Method := { name := "fingerprint", desc := "(I)J", sig := { parameters := [.int], returnType := some .long }, accessFlags := 0, code := some k5c4 }
/-- com/example/vireo/vireo/index/BlockTable$Hits -/
def k5 : Class := { plain "com/example/vireo/vireo/index/BlockTable$Hits" (some 0) with
  accessFlags := 48
  interfaces := #[]
  cf := some (fileOf pool5 10 #[.nestHost 1] #[{ accessFlags := 0, nameIndex := 7, descriptorIndex := 8, attributes := #[] }, { accessFlags := 0, nameIndex := 34, descriptorIndex := 35, attributes := #[] }, { accessFlags := 0, nameIndex := 21, descriptorIndex := 37, attributes := #[] }, { accessFlags := 0, nameIndex := 38, descriptorIndex := 39, attributes := #[] }, { accessFlags := 0, nameIndex := 40, descriptorIndex := 41, attributes := #[] }] 48 4 #[] #[{ accessFlags := 2, nameIndex := 13, descriptorIndex := 14, attributes := #[] }, { accessFlags := 2, nameIndex := 17, descriptorIndex := 18, attributes := #[] }, { accessFlags := 2, nameIndex := 21, descriptorIndex := 22, attributes := #[] }])
  fields := #[{ name := "positions", type := (.array .int), accessFlags := 2, slot := 0, constantValue := 0 }, { name := "fingerprints", type := (.array .long), accessFlags := 2, slot := 1, constantValue := 0 }, { name := "count", type := .int, accessFlags := 2, slot := 2, constantValue := 0 }]
  methods := #[k5m0, k5m1, k5m2, k5m3, k5m4]
  instanceTypes := #[(.array .int), (.array .long), .int]
  staticTypes := #[]
  resolved := Array.replicate 47 none
  statics := none }

def pool6 : Array CpInfo := pool [(1, .class_ 2), (0, u "java/io/Serializable"), (0, .class_ 4), (0, u "java/lang/Object")] 2

/-- java/io/Serializable -/
def k6 : Class := { plain "java/io/Serializable" (some 0) with
  accessFlags := 1537
  interfaces := #[]
  cf := some (fileOf pool6 1 #[] #[] 1537 3 #[] #[])
  fields := #[]
  methods := #[]
  instanceTypes := #[]
  staticTypes := #[]
  resolved := Array.replicate 7 none
  statics := none }

def pool7 : Array CpInfo := pool [(2, .class_ 4), (1, u "java/lang/Object"), (0, u "<init>"), (0, u "()V"), (1, .class_ 10), (1, u "java/lang/Number"), (2, .class_ 14), (0, u "java/io/Serializable"), (0, u "serialVersionUID"), (0, u "J")] 20

def k7m0 : Method := { name := "<init>", desc := "()V", sig := { parameters := [], returnType := none }, accessFlags := 1, code := none }
/-- java/lang/Number -/
def k7 : Class := { plain "java/lang/Number" (some 0) with
  accessFlags := 1057
  interfaces := #[6]
  cf := some (fileOf pool7 8 #[] #[{ accessFlags := 1, nameIndex := 5, descriptorIndex := 6, attributes := #[] }] 1057 2 #[13] #[{ accessFlags := 26, nameIndex := 15, descriptorIndex := 16, attributes := #[] }])
  fields := #[{ name := "serialVersionUID", type := .long, accessFlags := 26, slot := 0, constantValue := 0 }]
  methods := #[k7m0]
  instanceTypes := #[]
  staticTypes := #[.long]
  resolved := Array.replicate 37 none
  statics := none }

def pool8 : Array CpInfo := pool [(1, .class_ 2), (0, u "java/lang/Comparable"), (0, .class_ 4), (0, u "java/lang/Object")] 7

/-- java/lang/Comparable -/
def k8 : Class := { plain "java/lang/Comparable" (some 0) with
  accessFlags := 1537
  interfaces := #[]
  cf := some (fileOf pool8 1 #[] #[] 1537 3 #[] #[])
  fields := #[]
  methods := #[]
  instanceTypes := #[]
  staticTypes := #[]
  resolved := Array.replicate 12 none
  statics := none }

def pool9 : Array CpInfo := pool [(1, .class_ 2), (0, u "java/lang/constant/Constable"), (0, .class_ 4), (0, u "java/lang/Object")] 6

/-- java/lang/constant/Constable -/
def k9 : Class := { plain "java/lang/constant/Constable" (some 0) with
  accessFlags := 1537
  interfaces := #[]
  cf := some (fileOf pool9 1 #[] #[] 1537 3 #[] #[])
  fields := #[]
  methods := #[]
  instanceTypes := #[]
  staticTypes := #[]
  resolved := Array.replicate 11 none
  statics := none }

def pool10 : Array CpInfo := pool [(1, .class_ 2), (0, u "java/lang/constant/ConstantDesc"), (0, .class_ 4), (0, u "java/lang/Object")] 32

/-- java/lang/constant/ConstantDesc -/
def k10 : Class := { plain "java/lang/constant/ConstantDesc" (some 0) with
  accessFlags := 1537
  interfaces := #[]
  cf := some (fileOf pool10 1 #[] #[] 1537 3 #[] #[])
  fields := #[]
  methods := #[]
  instanceTypes := #[]
  staticTypes := #[]
  resolved := Array.replicate 37 none
  statics := none }

def pool11 : Array CpInfo := pool [(1, .class_ 2), (0, u "java/lang/Long"), (15, .class_ 20), (1, u "java/lang/Integer"), (80, u "(J)I"), (133, .class_ 237), (1, u "java/lang/Long$LongCache"), (33, .class_ 272), (0, u "java/lang/Number"), (2, u "value"), (0, u "J"), (33, u "(I)I"), (0, .methodref 18 312), (0, .nameAndType 313 310), (0, u "numberOfTrailingZeros"), (0, .long 6148914691236517205), (1, .long 3689348814741910323), (1, .long 1085102592571150095), (42, u "TYPE"), (0, u "Ljava/lang/Class;"), (0, .class_ 364), (0, u "java/lang/Comparable"), (0, .class_ 366), (0, u "java/lang/constant/Constable"), (0, .class_ 368), (0, u "java/lang/constant/ConstantDesc"), (0, u "MIN_VALUE"), (1, u "MAX_VALUE"), (4, u "SIZE"), (0, u "I"), (1, u "BYTES"), (1, u "serialVersionUID"), (94, u "bitCount")] 47

def k11c0 : Code := { maxStack := 4, maxLocals := 3, code := jdk_35_method_49_code, exceptionTable := #[], attributes := #[] }
def k11m0 : Method := { name := "numberOfTrailingZeros", desc := "(J)I", sig := { parameters := [.long], returnType := some .int }, accessFlags := 9, code := some k11c0 }
def k11c1 : Code := { maxStack := 6, maxLocals := 2, code := jdk_35_method_50_code, exceptionTable := #[], attributes := #[] }
def k11m1 : Method := { name := "bitCount", desc := "(J)I", sig := { parameters := [.long], returnType := some .int }, accessFlags := 9, code := some k11c1 }
/-- java/lang/Long -/
def k11 : Class := { plain "java/lang/Long" (some 7) with
  accessFlags := 49
  interfaces := #[8, 9, 10]
  cf := some (fileOf pool11 1 #[.nestMembers #[235]] #[{ accessFlags := 9, nameIndex := 313, descriptorIndex := 101, attributes := #[] }, { accessFlags := 9, nameIndex := 476, descriptorIndex := 101, attributes := #[] }] 49 271 #[363, 365, 367] #[{ accessFlags := 25, nameIndex := 369, descriptorIndex := 276, attributes := #[] }, { accessFlags := 25, nameIndex := 371, descriptorIndex := 276, attributes := #[] }, { accessFlags := 25, nameIndex := 361, descriptorIndex := 362, attributes := #[] }, { accessFlags := 18, nameIndex := 275, descriptorIndex := 276, attributes := #[] }, { accessFlags := 25, nameIndex := 376, descriptorIndex := 377, attributes := #[] }, { accessFlags := 25, nameIndex := 379, descriptorIndex := 377, attributes := #[] }, { accessFlags := 26, nameIndex := 381, descriptorIndex := 276, attributes := #[] }])
  fields := #[{ name := "MIN_VALUE", type := .long, accessFlags := 25, slot := 0, constantValue := 0 }, { name := "MAX_VALUE", type := .long, accessFlags := 25, slot := 1, constantValue := 0 }, { name := "TYPE", type := (.object "java/lang/Class"), accessFlags := 25, slot := 2, constantValue := 0 }, { name := "value", type := .long, accessFlags := 18, slot := 0, constantValue := 0 }, { name := "SIZE", type := .int, accessFlags := 25, slot := 3, constantValue := 0 }, { name := "BYTES", type := .int, accessFlags := 25, slot := 4, constantValue := 0 }, { name := "serialVersionUID", type := .long, accessFlags := 26, slot := 5, constantValue := 0 }]
  methods := #[k11m0, k11m1]
  instanceTypes := #[.long]
  staticTypes := #[.long, .long, (.object "java/lang/Class"), .int, .int, .long]
  resolved := Array.replicate 524 none
  statics := none }

def pool12 : Array CpInfo := pool [(1, .class_ 2), (0, u "java/lang/Integer"), (16, u "digits"), (0, u "[C"), (33, u "(I)I"), (30, u "DigitOnes"), (0, u "[B"), (2, u "DigitTens"), (99, .class_ 190), (0, u "java/lang/Integer$IntegerCache"), (3, u "I"), (8, .class_ 204), (0, u "java/lang/Number"), (2, u "value"), (56, .integer 65536), (37, u "TYPE"), (0, u "Ljava/lang/Class;"), (0, .class_ 305), (0, u "java/lang/Comparable"), (0, .class_ 307), (0, u "java/lang/constant/Constable"), (0, .class_ 309), (0, u "java/lang/constant/ConstantDesc"), (0, u "MIN_VALUE"), (1, u "MAX_VALUE"), (3, u "SIZE"), (1, u "BYTES"), (1, u "serialVersionUID"), (0, u "J"), (84, u "numberOfTrailingZeros")] 46

def k12c0 : Code := { maxStack := 3, maxLocals := 2, code := jdk_33_method_48_code, exceptionTable := #[], attributes := #[] }
def k12m0 : Method := { name := "numberOfTrailingZeros", desc := "(I)I", sig := { parameters := [.int], returnType := some .int }, accessFlags := 9, code := some k12c0 }
/-- java/lang/Integer -/
def k12 : Class := { plain "java/lang/Integer" (some 7) with
  accessFlags := 49
  interfaces := #[8, 9, 10]
  cf := some (fileOf pool12 1 #[.nestMembers #[189]] #[{ accessFlags := 9, nameIndex := 406, descriptorIndex := 54, attributes := #[] }] 49 203 #[304, 306, 308] #[{ accessFlags := 25, nameIndex := 310, descriptorIndex := 194, attributes := #[] }, { accessFlags := 25, nameIndex := 312, descriptorIndex := 194, attributes := #[] }, { accessFlags := 25, nameIndex := 302, descriptorIndex := 303, attributes := #[] }, { accessFlags := 24, nameIndex := 19, descriptorIndex := 20, attributes := #[] }, { accessFlags := 24, nameIndex := 89, descriptorIndex := 86, attributes := #[] }, { accessFlags := 24, nameIndex := 85, descriptorIndex := 86, attributes := #[] }, { accessFlags := 18, nameIndex := 207, descriptorIndex := 194, attributes := #[] }, { accessFlags := 25, nameIndex := 316, descriptorIndex := 194, attributes := #[] }, { accessFlags := 25, nameIndex := 318, descriptorIndex := 194, attributes := #[] }, { accessFlags := 26, nameIndex := 320, descriptorIndex := 321, attributes := #[] }])
  fields := #[{ name := "MIN_VALUE", type := .int, accessFlags := 25, slot := 0, constantValue := 0 }, { name := "MAX_VALUE", type := .int, accessFlags := 25, slot := 1, constantValue := 0 }, { name := "TYPE", type := (.object "java/lang/Class"), accessFlags := 25, slot := 2, constantValue := 0 }, { name := "digits", type := (.array .char), accessFlags := 24, slot := 3, constantValue := 0 }, { name := "DigitTens", type := (.array .byte), accessFlags := 24, slot := 4, constantValue := 0 }, { name := "DigitOnes", type := (.array .byte), accessFlags := 24, slot := 5, constantValue := 0 }, { name := "value", type := .int, accessFlags := 18, slot := 0, constantValue := 0 }, { name := "SIZE", type := .int, accessFlags := 25, slot := 6, constantValue := 0 }, { name := "BYTES", type := .int, accessFlags := 25, slot := 7, constantValue := 0 }, { name := "serialVersionUID", type := .long, accessFlags := 26, slot := 8, constantValue := 0 }]
  methods := #[k12m0]
  instanceTypes := #[.int]
  staticTypes := #[.int, .int, (.object "java/lang/Class"), (.array .char), (.array .byte), (.array .byte), .int, .int, .long]
  resolved := Array.replicate 453 none
  statics := none }

def pool13 : Array CpInfo := pool [(2, .class_ 4), (1, u "java/lang/Object"), (0, u "<init>"), (0, u "()V"), (7, .class_ 16), (1, u "java/util/Arrays"), (57, .class_ 76), (1, u "java/util/Arrays$NaturalOrder"), (36, .class_ 115), (1, u "java/util/Arrays$LegacyMergeSort"), (1, u "Z"), (32, .methodref 151 152), (0, .class_ 153), (0, .nameAndType 154 155), (0, u "java/lang/System"), (0, u "arraycopy"), (0, u "(Ljava/lang/Object;ILjava/lang/Object;II)V"), (146, u "copyOf"), (1, .methodref 305 306), (0, .class_ 307), (0, .nameAndType 308 309), (0, u "java/lang/Math"), (0, u "min"), (0, u "(II)I"), (65, .class_ 376), (0, u "java/util/Arrays$ArrayList"), (68, u "$assertionsDisabled"), (269, u "MIN_ARRAY_SORT_GRAN"), (0, u "I"), (2, u "INSERTIONSORT_THRESHOLD"), (152, u "([JI)[J"), (102, .class_ 976), (0, u "java/util/Arrays$ArrayItr")] 52

def k13m0 : Method := { name := "<init>", desc := "()V", sig := { parameters := [], returnType := none }, accessFlags := 2, code := none }
def k13c1 : Code := { maxStack := 6, maxLocals := 3, code := jdk_65_method_124_code, exceptionTable := #[], attributes := #[] }
def k13m1 : Method := { name := "copyOf", desc := "([JI)[J", sig := { parameters := [(.array .long), .int], returnType := some (.array .long) }, accessFlags := 9, code := some k13c1 }
/-- java/util/Arrays -/
def k13 : Class := { plain "java/util/Arrays" (some 0) with
  accessFlags := 49
  interfaces := #[]
  cf := some (fileOf pool13 14 #[.nestMembers #[975, 375, 113, 74]] #[{ accessFlags := 2, nameIndex := 5, descriptorIndex := 6, attributes := #[] }, { accessFlags := 9, nameIndex := 302, descriptorIndex := 872, attributes := #[] }] 49 2 #[] #[{ accessFlags := 26, nameIndex := 715, descriptorIndex := 716, attributes := #[] }, { accessFlags := 26, nameIndex := 719, descriptorIndex := 716, attributes := #[] }, { accessFlags := 4120, nameIndex := 445, descriptorIndex := 117, attributes := #[] }])
  fields := #[{ name := "MIN_ARRAY_SORT_GRAN", type := .int, accessFlags := 26, slot := 0, constantValue := 0 }, { name := "INSERTIONSORT_THRESHOLD", type := .int, accessFlags := 26, slot := 1, constantValue := 0 }, { name := "$assertionsDisabled", type := .boolean, accessFlags := 4120, slot := 2, constantValue := 0 }]
  methods := #[k13m0, k13m1]
  instanceTypes := #[]
  staticTypes := #[.int, .int, .boolean]
  resolved := Array.replicate 1029 none
  statics := none }

def pool14 : Array CpInfo := pool [(2, .class_ 4), (1, u "java/lang/Object"), (0, u "<init>"), (0, u "()V"), (1, .class_ 10), (1, u "java/lang/System"), (0, u "allowSecurityManager"), (0, u "I"), (16, u "cons"), (0, u "Ljava/io/Console;"), (77, .class_ 110), (1, u "java/lang/System$CallersHolder"), (43, u "initialErrStream"), (0, u "Ljava/io/PrintStream;"), (19, u "security"), (0, u "Ljava/lang/SecurityManager;"), (31, .class_ 209), (0, u "java/lang/System$1"), (7, u "props"), (0, u "Ljava/util/Properties;"), (2, u "lineSeparator"), (0, u "Ljava/lang/String;"), (96, .class_ 321), (1, u "java/lang/System$LoggerFinder"), (5, .class_ 328), (0, u "java/lang/System$Logger"), (67, u "err"), (2, u "out"), (91, u "notSupportedJnuEncoding"), (15, u "in"), (17, u "initialIn"), (0, u "Ljava/io/InputStream;"), (35, u "bootLayer"), (0, u "Ljava/lang/ModuleLayer;"), (99, .class_ 664), (0, u "java/lang/System$2"), (9, u "NEVER"), (2, u "MAYBE"), (49, u "arraycopy"), (0, u "(Ljava/lang/Object;ILjava/lang/Object;II)V"), (72, .class_ 802), (0, u "java/lang/System$Logger$Level")] 31

def k14m0 : Method := { name := "<init>", desc := "()V", sig := { parameters := [], returnType := none }, accessFlags := 2, code := none }
def k14m1 : Method := { name := "arraycopy", desc := "(Ljava/lang/Object;ILjava/lang/Object;II)V", sig := { parameters := [(.object "java/lang/Object"), .int, (.object "java/lang/Object"), .int, .int], returnType := none }, accessFlags := 265, code := none }
/-- java/lang/System -/
def k14 : Class := { plain "java/lang/System" (some 0) with
  accessFlags := 49
  interfaces := #[]
  cf := some (fileOf pool14 8 #[.nestMembers #[319, 327, 801, 108, 663, 208]] #[{ accessFlags := 2, nameIndex := 5, descriptorIndex := 6, attributes := #[] }, { accessFlags := 265, nameIndex := 727, descriptorIndex := 728, attributes := #[] }] 49 2 #[] #[{ accessFlags := 25, nameIndex := 507, descriptorIndex := 526, attributes := #[] }, { accessFlags := 25, nameIndex := 399, descriptorIndex := 155, attributes := #[] }, { accessFlags := 25, nameIndex := 396, descriptorIndex := 155, attributes := #[] }, { accessFlags := 10, nameIndex := 525, descriptorIndex := 526, attributes := #[] }, { accessFlags := 26, nameIndex := 674, descriptorIndex := 12, attributes := #[] }, { accessFlags := 26, nameIndex := 677, descriptorIndex := 12, attributes := #[] }, { accessFlags := 10, nameIndex := 11, descriptorIndex := 12, attributes := #[] }, { accessFlags := 74, nameIndex := 175, descriptorIndex := 176, attributes := #[] }, { accessFlags := 10, nameIndex := 491, descriptorIndex := 222, attributes := #[] }, { accessFlags := 74, nameIndex := 29, descriptorIndex := 30, attributes := #[] }, { accessFlags := 74, nameIndex := 154, descriptorIndex := 155, attributes := #[] }, { accessFlags := 10, nameIndex := 217, descriptorIndex := 218, attributes := #[] }, { accessFlags := 10, nameIndex := 221, descriptorIndex := 222, attributes := #[] }, { accessFlags := 8, nameIndex := 562, descriptorIndex := 563, attributes := #[] }])
  fields := #[{ name := "in", type := (.object "java/io/InputStream"), accessFlags := 25, slot := 0, constantValue := 0 }, { name := "out", type := (.object "java/io/PrintStream"), accessFlags := 25, slot := 1, constantValue := 0 }, { name := "err", type := (.object "java/io/PrintStream"), accessFlags := 25, slot := 2, constantValue := 0 }, { name := "initialIn", type := (.object "java/io/InputStream"), accessFlags := 10, slot := 3, constantValue := 0 }, { name := "NEVER", type := .int, accessFlags := 26, slot := 4, constantValue := 0 }, { name := "MAYBE", type := .int, accessFlags := 26, slot := 5, constantValue := 0 }, { name := "allowSecurityManager", type := .int, accessFlags := 10, slot := 6, constantValue := 0 }, { name := "security", type := (.object "java/lang/SecurityManager"), accessFlags := 74, slot := 7, constantValue := 0 }, { name := "notSupportedJnuEncoding", type := (.object "java/lang/String"), accessFlags := 10, slot := 8, constantValue := 0 }, { name := "cons", type := (.object "java/io/Console"), accessFlags := 74, slot := 9, constantValue := 0 }, { name := "initialErrStream", type := (.object "java/io/PrintStream"), accessFlags := 74, slot := 10, constantValue := 0 }, { name := "props", type := (.object "java/util/Properties"), accessFlags := 10, slot := 11, constantValue := 0 }, { name := "lineSeparator", type := (.object "java/lang/String"), accessFlags := 10, slot := 12, constantValue := 0 }, { name := "bootLayer", type := (.object "java/lang/ModuleLayer"), accessFlags := 8, slot := 13, constantValue := 0 }]
  methods := #[k14m0, k14m1]
  instanceTypes := #[]
  staticTypes := #[(.object "java/io/InputStream"), (.object "java/io/PrintStream"), (.object "java/io/PrintStream"), (.object "java/io/InputStream"), .int, .int, .int, (.object "java/lang/SecurityManager"), (.object "java/lang/String"), (.object "java/io/Console"), (.object "java/io/PrintStream"), (.object "java/util/Properties"), (.object "java/lang/String"), (.object "java/lang/ModuleLayer")]
  resolved := Array.replicate 834 none
  statics := none }

def pool15 : Array CpInfo := pool [(1, u "java/lang/Cloneable"), (0, .class_ 1), (0, u "java/lang/Object"), (0, .class_ 3)] 3

/-- java/lang/Cloneable -/
def k15 : Class := { plain "java/lang/Cloneable" (some 0) with
  accessFlags := 1537
  interfaces := #[]
  cf := some (fileOf pool15 2 #[] #[] 1537 4 #[] #[])
  fields := #[]
  methods := #[]
  instanceTypes := #[]
  staticTypes := #[]
  resolved := Array.replicate 8 none
  statics := none }

/-- the primitive byte -/
def k16 : Class := { plain "byte" none with kind := .primitive 'B', accessFlags := 0x411 }
/-- [B -/
def k17 : Class := { plain "[B" (some 0) with kind := .array 16 .byte, interfaces := #[15, 6], accessFlags := 1041 }

/-- the primitive int -/
def k18 : Class := { plain "int" none with kind := .primitive 'I', accessFlags := 0x411 }
/-- [I -/
def k19 : Class := { plain "[I" (some 0) with kind := .array 18 .int, interfaces := #[15, 6], accessFlags := 1041 }

/-- the primitive long -/
def k20 : Class := { plain "long" none with kind := .primitive 'J', accessFlags := 0x411 }
/-- [J -/
def k21 : Class := { plain "[J" (some 0) with kind := .array 20 .long, interfaces := #[15, 6], accessFlags := 1041 }

/-- [Lcom/example/vireo/vireo/index/BlockTable$Bucket; -/
def k22 : Class := { plain "[Lcom/example/vireo/vireo/index/BlockTable$Bucket;" (some 0) with kind := .array 4 (.object "com/example/vireo/vireo/index/BlockTable$Bucket"), interfaces := #[15, 6], accessFlags := 1041 }

def heap : Heap := #[]
def classes : Array Class := #[k0, k1, k2, k3, k4, k5, k6, k7, k8, k9, k10, k11, k12, k13, k14, k15, k16, k17, k18, k19, k20, k21, k22]
def interned : List (Array UInt16 × Addr) := []
def slotsUsed : Nat := 0
def theMethod : MethodId := ⟨1, 1⟩
def args0 : Array Value := #[.int 5, .int 1, .long 2, .long 3, .int 4, .int 6]
def aboutOver (below : List Frame) : State where
  vm := { classes := classes, interned := interned.toArray }
  heap := heap
  slotsUsed := slotsUsed
  threads := #[{ frames := .invoking theMethod args0 :: below }]
def below0 : List Frame := [.native { method := ⟨0, 0⟩, args := #[] }]
def about1 : State := aboutOver below0
def p0 : Program := .bare "" "" ""
def e0 : Env := launch0.env 0 0 0
theorem w_frames : about1.frames = Frame.invoking theMethod args0 :: below0 := rfl
set_option maxRecDepth 65536 in
theorem w_args : argsFit about1.vm theMethod args0 = true := by decide +kernel
set_option maxRecDepth 65536 in
theorem w_heap : heapFits about1 = true := by decide +kernel
set_option maxRecDepth 65536 in
theorem w_runnable : about1.curStatus? = some .runnable := by decide +kernel
set_option maxRecDepth 65536 in
theorem w_alone : about1.alone = true := by decide +kernel
set_option maxRecDepth 65536 in
theorem w_named : about1.methodNamed? x = some theMethod := by decide +kernel
set_option maxRecDepth 65536 in
theorem w_hears : about1.hears theMethod below0 = true := by decide +kernel
set_option maxRecDepth 65536 in
theorem w_ripe : about1.ripe theMethod args0 below0 = true := by decide +kernel
theorem w_running : about1.status = .running := rfl
set_option maxRecDepth 65536 in
theorem w_room : about1.hasRoom e0.platform room_1 = true :=
  launch0.hasRoom_least _ room_1 (by decide +kernel) (by decide +kernel) (by decide +kernel) (by decide +kernel) (by decide +kernel) (by decide +kernel)
theorem allAtoms_all (ts : List Jvm.Cond) (a : Array Jvm.Value) (st : Jvm.State) : (allAtoms ts).before a st = ts.all (fun c => c.before a st) := by
  induction ts with
  | nil => rfl
  | cons c t ih =>
    show (Jvm.Cond.and c (allAtoms t)).before a st = _
    rw [Jvm.Cond.before_and, ih, List.all_cons]
def words1 : List Jvm.Cond := Jvm.Cond.code x code maxLocals ret :: tables_1
/-- a 'code' word, met by the world's own term for the bytes: nothing is compared byte by byte -/
theorem code_word {y : MethodName} {bytes : ByteArray} {mx : Nat} {rt : Option FieldType} {a : Array Value} {s : State} {m : MethodId} {meth : Method} {c : Code} (h1 : s.methodNamed? y = some m) (h2 : s.vm.method? m = some meth) (h3 : meth.code = some c) (h4 : c.code = bytes)
    (h5 : (c.maxLocals == mx && c.exceptionTable.isEmpty && decide (c.maxStack ≤ mostOperands) && decide (meth.sig.returnType = rt) && !meth.locks && decide (parseMethodDescriptor y.desc = some meth.sig)) = true) : (Jvm.Cond.code y bytes mx rt).before a s = true := by
  simp only [Bool.and_eq_true, beq_iff_eq, Bool.not_eq_true', decide_eq_true_eq] at h5
  obtain ⟨⟨⟨⟨⟨g1, g2⟩, g3⟩, g4⟩, g5⟩, g6⟩ := h5
  simp [Cond.before, Cond.holds, Cond.value, h1, h2, h3, h4, g1, g2, g3, g4, g5, g6]
def isCode : Jvm.Cond → Bool
  | .code _ _ _ _ => true
  | _ => false
theorem all_split {L : List Jvm.Cond} {P : Jvm.Cond → Bool} (h1 : L.all (fun c => isCode c || P c) = true) (h2 : ∀ c ∈ L.filter isCode, P c = true) : L.all P = true := by
  refine List.all_eq_true.mpr fun c hc => ?_
  have h := List.all_eq_true.mp h1 c hc
  rcases Bool.eq_false_or_eq_true (isCode c) with hi | hi
  · exact h2 c (List.mem_filter.mpr ⟨hc, hi⟩)
  · simpa [hi] using h
set_option maxRecDepth 65536 in
theorem w_c0 : (Jvm.Cond.code x code maxLocals ret).before args0 about1 = true := code_word (m := ⟨1, 1⟩) (meth := k1m1) (c := k1c1) (by decide +kernel) rfl rfl rfl (by decide +kernel)
set_option maxRecDepth 65536 in
theorem w_c1 : (Jvm.Cond.code ({ cls := "com/example/vireo/vireo/index/BlockTable", name := "<init>", desc := "(II[J)V" } : Jvm.MethodName) prog_8_method_1_code (13 : Nat) (Option.none : Option Jvm.ClassFile.FieldType)).before args0 about1 = true := code_word (m := ⟨2, 0⟩) (meth := k2m0) (c := k2c0) (by decide +kernel) rfl rfl rfl (by decide +kernel)
set_option maxRecDepth 65536 in
theorem w_c2 : (Jvm.Cond.code ({ cls := "java/lang/Object", name := "<init>", desc := "()V" } : Jvm.MethodName) object_method_1_code (1 : Nat) (Option.none : Option Jvm.ClassFile.FieldType)).before args0 about1 = true := code_word (m := ⟨0, 0⟩) (meth := k0m0) (c := k0c0) (by decide +kernel) rfl rfl rfl (by decide +kernel)
set_option maxRecDepth 65536 in
theorem w_c3 : (Jvm.Cond.code ({ cls := "java/lang/Math", name := "min", desc := "(II)I" } : Jvm.MethodName) jdk_29_method_69_code (2 : Nat) (Option.some Jvm.ClassFile.FieldType.int)).before args0 about1 = true := code_word (m := ⟨3, 2⟩) (meth := k3m2) (c := k3c2) (by decide +kernel) rfl rfl rfl (by decide +kernel)
set_option maxRecDepth 65536 in
theorem w_c4 : (Jvm.Cond.code ({ cls := "com/example/vireo/vireo/index/BlockTable", name := "reserve", desc := "(JI)V" } : Jvm.MethodName) prog_8_method_3_code (5 : Nat) (Option.none : Option Jvm.ClassFile.FieldType)).before args0 about1 = true := code_word (m := ⟨2, 1⟩) (meth := k2m1) (c := k2c1) (by decide +kernel) rfl rfl rfl (by decide +kernel)
set_option maxRecDepth 65536 in
theorem w_c5 : (Jvm.Cond.code ({ cls := "com/example/vireo/vireo/index/BlockTable", name := "key", desc := "(J)I" } : Jvm.MethodName) prog_8_method_6_code (3 : Nat) (Option.some Jvm.ClassFile.FieldType.int)).before args0 about1 = true := code_word (m := ⟨2, 4⟩) (meth := k2m4) (c := k2c4) (by decide +kernel) rfl rfl rfl (by decide +kernel)
set_option maxRecDepth 65536 in
theorem w_c6 : (Jvm.Cond.code ({ cls := "com/example/vireo/vireo/index/BlockTable$Bucket", name := "<init>", desc := "()V" } : Jvm.MethodName) prog_9_method_1_code (1 : Nat) (Option.none : Option Jvm.ClassFile.FieldType)).before args0 about1 = true := code_word (m := ⟨4, 0⟩) (meth := k4m0) (c := k4c0) (by decide +kernel) rfl rfl rfl (by decide +kernel)
set_option maxRecDepth 65536 in
theorem w_c7 : (Jvm.Cond.code ({ cls := "com/example/vireo/vireo/index/BlockTable$Bucket", name := "reserve", desc := "(I)V" } : Jvm.MethodName) prog_9_method_2_code (3 : Nat) (Option.none : Option Jvm.ClassFile.FieldType)).before args0 about1 = true := code_word (m := ⟨4, 1⟩) (meth := k4m1) (c := k4c1) (by decide +kernel) rfl rfl rfl (by decide +kernel)
set_option maxRecDepth 65536 in
theorem w_c8 : (Jvm.Cond.code ({ cls := "com/example/vireo/vireo/index/BlockTable", name := "put", desc := "(JI)V" } : Jvm.MethodName) prog_8_method_4_code (6 : Nat) (Option.none : Option Jvm.ClassFile.FieldType)).before args0 about1 = true := code_word (m := ⟨2, 2⟩) (meth := k2m2) (c := k2c2) (by decide +kernel) rfl rfl rfl (by decide +kernel)
set_option maxRecDepth 65536 in
theorem w_c9 : (Jvm.Cond.code ({ cls := "com/example/vireo/vireo/index/BlockTable$Bucket", name := "add", desc := "(JI)V" } : Jvm.MethodName) prog_9_method_3_code (5 : Nat) (Option.none : Option Jvm.ClassFile.FieldType)).before args0 about1 = true := code_word (m := ⟨4, 2⟩) (meth := k4m2) (c := k4c2) (by decide +kernel) rfl rfl rfl (by decide +kernel)
set_option maxRecDepth 65536 in
theorem w_c10 : (Jvm.Cond.code ({ cls := "com/example/vireo/vireo/index/BlockTable$Hits", name := "<init>", desc := "()V" } : Jvm.MethodName) prog_10_method_1_code (1 : Nat) (Option.none : Option Jvm.ClassFile.FieldType)).before args0 about1 = true := code_word (m := ⟨5, 0⟩) (meth := k5m0) (c := k5c0) (by decide +kernel) rfl rfl rfl (by decide +kernel)
set_option maxRecDepth 65536 in
theorem w_c11 : (Jvm.Cond.code ({ cls := "com/example/vireo/vireo/index/BlockTable", name := "find", desc := "(JILcom/example/vireo/vireo/index/BlockTable$Hits;)I" } : Jvm.MethodName) prog_8_method_5_code (16 : Nat) (Option.some Jvm.ClassFile.FieldType.int)).before args0 about1 = true := code_word (m := ⟨2, 3⟩) (meth := k2m3) (c := k2c3) (by decide +kernel) rfl rfl rfl (by decide +kernel)
set_option maxRecDepth 65536 in
theorem w_c12 : (Jvm.Cond.code ({ cls := "com/example/vireo/vireo/index/BlockTable", name := "agreesEarlier", desc := "(J)Z" } : Jvm.MethodName) prog_8_method_7_code (5 : Nat) (Option.some Jvm.ClassFile.FieldType.boolean)).before args0 about1 = true := code_word (m := ⟨2, 5⟩) (meth := k2m5) (c := k2c5) (by decide +kernel) rfl rfl rfl (by decide +kernel)
set_option maxRecDepth 65536 in
theorem w_c13 : (Jvm.Cond.code ({ cls := "java/lang/Long", name := "bitCount", desc := "(J)I" } : Jvm.MethodName) jdk_35_method_50_code (2 : Nat) (Option.some Jvm.ClassFile.FieldType.int)).before args0 about1 = true := code_word (m := ⟨11, 1⟩) (meth := k11m1) (c := k11c1) (by decide +kernel) rfl rfl rfl (by decide +kernel)
set_option maxRecDepth 65536 in
theorem w_c14 : (Jvm.Cond.code ({ cls := "com/example/vireo/vireo/index/BlockTable", name := "nthSetBit", desc := "(JI)I" } : Jvm.MethodName) prog_8_method_8_code (6 : Nat) (Option.some Jvm.ClassFile.FieldType.int)).before args0 about1 = true := code_word (m := ⟨2, 6⟩) (meth := k2m6) (c := k2c6) (by decide +kernel) rfl rfl rfl (by decide +kernel)
set_option maxRecDepth 65536 in
theorem w_c15 : (Jvm.Cond.code ({ cls := "java/lang/Long", name := "numberOfTrailingZeros", desc := "(J)I" } : Jvm.MethodName) jdk_35_method_49_code (3 : Nat) (Option.some Jvm.ClassFile.FieldType.int)).before args0 about1 = true := code_word (m := ⟨11, 0⟩) (meth := k11m0) (c := k11c0) (by decide +kernel) rfl rfl rfl (by decide +kernel)
set_option maxRecDepth 65536 in
theorem w_c16 : (Jvm.Cond.code ({ cls := "java/lang/Integer", name := "numberOfTrailingZeros", desc := "(I)I" } : Jvm.MethodName) jdk_33_method_48_code (2 : Nat) (Option.some Jvm.ClassFile.FieldType.int)).before args0 about1 = true := code_word (m := ⟨12, 0⟩) (meth := k12m0) (c := k12c0) (by decide +kernel) rfl rfl rfl (by decide +kernel)
set_option maxRecDepth 65536 in
theorem w_c17 : (Jvm.Cond.code ({ cls := "com/example/vireo/vireo/index/BlockTable$Hits", name := "add", desc := "(IJ)V" } : Jvm.MethodName) prog_10_method_2_code (4 : Nat) (Option.none : Option Jvm.ClassFile.FieldType)).before args0 about1 = true := code_word (m := ⟨5, 1⟩) (meth := k5m1) (c := k5c1) (by decide +kernel) rfl rfl rfl (by decide +kernel)
set_option maxRecDepth 65536 in
theorem w_c18 : (Jvm.Cond.code ({ cls := "com/example/vireo/vireo/index/BlockTable$Hits", name := "count", desc := "()I" } : Jvm.MethodName) prog_10_method_3_code (1 : Nat) (Option.some Jvm.ClassFile.FieldType.int)).before args0 about1 = true := code_word (m := ⟨5, 2⟩) (meth := k5m2) (c := k5c2) (by decide +kernel) rfl rfl rfl (by decide +kernel)
set_option maxRecDepth 65536 in
theorem w_c19 : (Jvm.Cond.code ({ cls := "com/example/vireo/vireo/index/BlockTable$Hits", name := "position", desc := "(I)I" } : Jvm.MethodName) prog_10_method_4_code (2 : Nat) (Option.some Jvm.ClassFile.FieldType.int)).before args0 about1 = true := code_word (m := ⟨5, 3⟩) (meth := k5m3) (c := k5c3) (by decide +kernel) rfl rfl rfl (by decide +kernel)
set_option maxRecDepth 65536 in
theorem w_c20 : (Jvm.Cond.code ({ cls := "com/example/vireo/vireo/index/BlockTable$Hits", name := "fingerprint", desc := "(I)J" } : Jvm.MethodName) prog_10_method_5_code (2 : Nat) (Option.some Jvm.ClassFile.FieldType.long)).before args0 about1 = true := code_word (m := ⟨5, 4⟩) (meth := k5m4) (c := k5c4) (by decide +kernel) rfl rfl rfl (by decide +kernel)
set_option maxRecDepth 65536 in
theorem w_c21 : (Jvm.Cond.code ({ cls := "com/example/vireo/vireo/index/BlockTable", name := "grown", desc := "(I)I" } : Jvm.MethodName) prog_8_method_9_code (1 : Nat) (Option.some Jvm.ClassFile.FieldType.int)).before args0 about1 = true := code_word (m := ⟨2, 7⟩) (meth := k2m7) (c := k2c7) (by decide +kernel) rfl rfl rfl (by decide +kernel)
set_option maxRecDepth 65536 in
theorem w_c22 : (Jvm.Cond.code ({ cls := "java/lang/Math", name := "max", desc := "(II)I" } : Jvm.MethodName) jdk_29_method_65_code (2 : Nat) (Option.some Jvm.ClassFile.FieldType.int)).before args0 about1 = true := code_word (m := ⟨3, 1⟩) (meth := k3m1) (c := k3c1) (by decide +kernel) rfl rfl rfl (by decide +kernel)
set_option maxRecDepth 65536 in
theorem w_c23 : (Jvm.Cond.code ({ cls := "java/util/Arrays", name := "copyOf", desc := "([JI)[J" } : Jvm.MethodName) jdk_65_method_124_code (3 : Nat) (Option.some (Jvm.ClassFile.FieldType.array Jvm.ClassFile.FieldType.long))).before args0 about1 = true := code_word (m := ⟨13, 1⟩) (meth := k13m1) (c := k13c1) (by decide +kernel) rfl rfl rfl (by decide +kernel)
def codes1 : List Jvm.Cond := [Jvm.Cond.code x code maxLocals ret, Jvm.Cond.code ({ cls := "com/example/vireo/vireo/index/BlockTable", name := "<init>", desc := "(II[J)V" } : Jvm.MethodName) prog_8_method_1_code (13 : Nat) (Option.none : Option Jvm.ClassFile.FieldType), Jvm.Cond.code ({ cls := "java/lang/Object", name := "<init>", desc := "()V" } : Jvm.MethodName) object_method_1_code (1 : Nat) (Option.none : Option Jvm.ClassFile.FieldType), Jvm.Cond.code ({ cls := "java/lang/Math", name := "min", desc := "(II)I" } : Jvm.MethodName) jdk_29_method_69_code (2 : Nat) (Option.some Jvm.ClassFile.FieldType.int), Jvm.Cond.code ({ cls := "com/example/vireo/vireo/index/BlockTable", name := "reserve", desc := "(JI)V" } : Jvm.MethodName) prog_8_method_3_code (5 : Nat) (Option.none : Option Jvm.ClassFile.FieldType), Jvm.Cond.code ({ cls := "com/example/vireo/vireo/index/BlockTable", name := "key", desc := "(J)I" } : Jvm.MethodName) prog_8_method_6_code (3 : Nat) (Option.some Jvm.ClassFile.FieldType.int), Jvm.Cond.code ({ cls := "com/example/vireo/vireo/index/BlockTable$Bucket", name := "<init>", desc := "()V" } : Jvm.MethodName) prog_9_method_1_code (1 : Nat) (Option.none : Option Jvm.ClassFile.FieldType), Jvm.Cond.code ({ cls := "com/example/vireo/vireo/index/BlockTable$Bucket", name := "reserve", desc := "(I)V" } : Jvm.MethodName) prog_9_method_2_code (3 : Nat) (Option.none : Option Jvm.ClassFile.FieldType), Jvm.Cond.code ({ cls := "com/example/vireo/vireo/index/BlockTable", name := "put", desc := "(JI)V" } : Jvm.MethodName) prog_8_method_4_code (6 : Nat) (Option.none : Option Jvm.ClassFile.FieldType), Jvm.Cond.code ({ cls := "com/example/vireo/vireo/index/BlockTable$Bucket", name := "add", desc := "(JI)V" } : Jvm.MethodName) prog_9_method_3_code (5 : Nat) (Option.none : Option Jvm.ClassFile.FieldType), Jvm.Cond.code ({ cls := "com/example/vireo/vireo/index/BlockTable$Hits", name := "<init>", desc := "()V" } : Jvm.MethodName) prog_10_method_1_code (1 : Nat) (Option.none : Option Jvm.ClassFile.FieldType), Jvm.Cond.code ({ cls := "com/example/vireo/vireo/index/BlockTable", name := "find", desc := "(JILcom/example/vireo/vireo/index/BlockTable$Hits;)I" } : Jvm.MethodName) prog_8_method_5_code (16 : Nat) (Option.some Jvm.ClassFile.FieldType.int), Jvm.Cond.code ({ cls := "com/example/vireo/vireo/index/BlockTable", name := "agreesEarlier", desc := "(J)Z" } : Jvm.MethodName) prog_8_method_7_code (5 : Nat) (Option.some Jvm.ClassFile.FieldType.boolean), Jvm.Cond.code ({ cls := "java/lang/Long", name := "bitCount", desc := "(J)I" } : Jvm.MethodName) jdk_35_method_50_code (2 : Nat) (Option.some Jvm.ClassFile.FieldType.int), Jvm.Cond.code ({ cls := "com/example/vireo/vireo/index/BlockTable", name := "nthSetBit", desc := "(JI)I" } : Jvm.MethodName) prog_8_method_8_code (6 : Nat) (Option.some Jvm.ClassFile.FieldType.int), Jvm.Cond.code ({ cls := "java/lang/Long", name := "numberOfTrailingZeros", desc := "(J)I" } : Jvm.MethodName) jdk_35_method_49_code (3 : Nat) (Option.some Jvm.ClassFile.FieldType.int), Jvm.Cond.code ({ cls := "java/lang/Integer", name := "numberOfTrailingZeros", desc := "(I)I" } : Jvm.MethodName) jdk_33_method_48_code (2 : Nat) (Option.some Jvm.ClassFile.FieldType.int), Jvm.Cond.code ({ cls := "com/example/vireo/vireo/index/BlockTable$Hits", name := "add", desc := "(IJ)V" } : Jvm.MethodName) prog_10_method_2_code (4 : Nat) (Option.none : Option Jvm.ClassFile.FieldType), Jvm.Cond.code ({ cls := "com/example/vireo/vireo/index/BlockTable$Hits", name := "count", desc := "()I" } : Jvm.MethodName) prog_10_method_3_code (1 : Nat) (Option.some Jvm.ClassFile.FieldType.int), Jvm.Cond.code ({ cls := "com/example/vireo/vireo/index/BlockTable$Hits", name := "position", desc := "(I)I" } : Jvm.MethodName) prog_10_method_4_code (2 : Nat) (Option.some Jvm.ClassFile.FieldType.int), Jvm.Cond.code ({ cls := "com/example/vireo/vireo/index/BlockTable$Hits", name := "fingerprint", desc := "(I)J" } : Jvm.MethodName) prog_10_method_5_code (2 : Nat) (Option.some Jvm.ClassFile.FieldType.long), Jvm.Cond.code ({ cls := "com/example/vireo/vireo/index/BlockTable", name := "grown", desc := "(I)I" } : Jvm.MethodName) prog_8_method_9_code (1 : Nat) (Option.some Jvm.ClassFile.FieldType.int), Jvm.Cond.code ({ cls := "java/lang/Math", name := "max", desc := "(II)I" } : Jvm.MethodName) jdk_29_method_65_code (2 : Nat) (Option.some Jvm.ClassFile.FieldType.int), Jvm.Cond.code ({ cls := "java/util/Arrays", name := "copyOf", desc := "([JI)[J" } : Jvm.MethodName) jdk_65_method_124_code (3 : Nat) (Option.some (Jvm.ClassFile.FieldType.array Jvm.ClassFile.FieldType.long))]
set_option maxRecDepth 65536 in
theorem codes_eq : words1.filter isCode = codes1 := rfl
theorem w_codes : ∀ c ∈ words1.filter isCode, c.before args0 about1 = true := by
  rw [codes_eq]
  intro c hc
  simp only [codes1, List.mem_cons, List.not_mem_nil, or_false] at hc
  rcases hc with rfl | rfl | rfl | rfl | rfl | rfl | rfl | rfl | rfl | rfl | rfl | rfl | rfl | rfl | rfl | rfl | rfl | rfl | rfl | rfl | rfl | rfl | rfl | rfl
  · exact w_c0
  · exact w_c1
  · exact w_c2
  · exact w_c3
  · exact w_c4
  · exact w_c5
  · exact w_c6
  · exact w_c7
  · exact w_c8
  · exact w_c9
  · exact w_c10
  · exact w_c11
  · exact w_c12
  · exact w_c13
  · exact w_c14
  · exact w_c15
  · exact w_c16
  · exact w_c17
  · exact w_c18
  · exact w_c19
  · exact w_c20
  · exact w_c21
  · exact w_c22
  · exact w_c23
set_option maxRecDepth 65536 in
theorem w_t1 : (words1.take 24).all (fun c => isCode c || c.before args0 about1) = true := by decide +kernel
set_option maxRecDepth 65536 in
theorem w_t2 : ((words1.drop 24).take 24).all (fun c => isCode c || c.before args0 about1) = true := by decide +kernel
set_option maxRecDepth 65536 in
theorem w_t3 : (((words1.drop 24).drop 24).take 24).all (fun c => isCode c || c.before args0 about1) = true := by decide +kernel
set_option maxRecDepth 65536 in
theorem w_t4 : ((((words1.drop 24).drop 24).drop 24).take 24).all (fun c => isCode c || c.before args0 about1) = true := by decide +kernel
set_option maxRecDepth 65536 in
theorem w_t5 : (((((words1.drop 24).drop 24).drop 24).drop 24).take 24).all (fun c => isCode c || c.before args0 about1) = true := by decide +kernel
set_option maxRecDepth 65536 in
theorem w_t6 : ((((((words1.drop 24).drop 24).drop 24).drop 24).drop 24).take 24).all (fun c => isCode c || c.before args0 about1) = true := by decide +kernel
set_option maxRecDepth 65536 in
theorem w_t7 : ((((((words1.drop 24).drop 24).drop 24).drop 24).drop 24).drop 24).all (fun c => isCode c || c.before args0 about1) = true := by decide +kernel
theorem w_tables : (allAtoms (Jvm.Cond.code x code maxLocals ret :: tables_1)).before args0 about1 = true := by
  rw [allAtoms_all]
  show words1.all (fun c => c.before args0 about1) = true
  refine all_split ?_ w_codes
  rw [← List.take_append_drop 24 words1, List.all_append, w_t1, ← List.take_append_drop 24 (words1.drop 24), List.all_append, w_t2, ← List.take_append_drop 24 ((words1.drop 24).drop 24), List.all_append, w_t3, ← List.take_append_drop 24 (((words1.drop 24).drop 24).drop 24), List.all_append, w_t4, ← List.take_append_drop 24 ((((words1.drop 24).drop 24).drop 24).drop 24), List.all_append, w_t5, ← List.take_append_drop 24 (((((words1.drop 24).drop 24).drop 24).drop 24).drop 24), List.all_append, w_t6, w_t7]
  rfl
set_option maxRecDepth 65536 in
theorem w_case : (Jvm.Cond.and given_1 narrow_1).before args0 about1 = true := by decide +kernel
theorem w_applies : (headSpec (Jvm.Cond.code x code maxLocals ret :: tables_1) room_1).applies x e0.platform about1 = true :=
  (Spec.applies_iff w_frames).mpr ⟨w_running, w_runnable, w_alone, w_named, w_hears, w_ripe, w_room, w_tables⟩
theorem atStart : AtStart classFile x code maxLocals ret World_1 tables_1 room_1 Calls_1 rest_1 Pre_1 launch0 p0 e0 about1 theMethod args0 below0 :=
  ⟨lists_1, trivial, launch0.admits_env _ _ _, launch0.least_env, fairChoices_fair.cas, fairChoices_fair.clock, w_frames, w_args, w_heap, w_applies, trivial, trivial, w_case⟩
end start1
theorem witness_1 : WitnessClaimed_1 := ⟨start1.p0, start1.e0, start1.about1, start1.theMethod, start1.args0, start1.below0, start1.atStart⟩
end Jvm.Pilot.@@N@@
