import JvmDerived
import JvmDerived.Pilot.@@N@@Statement
import JvmDerived.Pilot.@@N@@Code
set_option linter.unusedVariables false
set_option linter.unusedSimpArgs false
@@BLOCK:NumsL.lean.txt@@
namespace Jvm.Pilot.@@N@@
open Jvm Jvm.ClassFile Sem Op Lib Jvm.Free Jvm.Stand Jvm.LawKit Jvm.RoadKit Bundle Jvm.Pilot.@@N@@.Jvm.D
/-! ## the walk's own kit: 'from this pc on the body comes to its end, in Φ' (X.G), and one rule a step -/
def OwC (p : Program) (l : Launch) (e : Env) (R : Room) (s : State) (m : MethodId) (args : Array Value) (below : List Frame) (meth : Method) (c : Code) (Z : State) (own nm : String) (bytes : ByteArray) (mL : Nat) (ret : Option FieldType) (n0 kM nM : Nat) (Φ : Option Value → Heap → Prop) : Prop :=
  p.tables.exec = Jvm.exec ∧ c.code = bytes ∧ c.maxLocals = mL ∧ s.vm.findClass own = some m.cls ∧ Z.Warmed39 s.vm ∧ meth.sig.returnType = ret ∧ meth.locks = false ∧ meth.name = nm
section OwKit
variable {p : Program} {l : Launch} {e : Env} {R : Room} {s : State} {m : MethodId} {args : Array Value} {below : List Frame} {meth : Method} {c : Code} {Z : State} {own nm : String} {bytes : ByteArray} {mL : Nat} {ret : Option FieldType} {n0 kM nM : Nat} {Φ : Option Value → Heap → Prop}
variable {a0 : Array Value} {h : Heap} {k n pc q : Nat} {Ls Ls' : Array Slot} {st rest : List Value}
def OwC.G (_X : OwC p l e R s m args below meth c Z own nm bytes mL ret n0 kM nM Φ) (h : Heap) (k n pc : Nat) (Ls : Array Slot) (st : List Value) : Prop :=
  ∀ T locs, Stand p l e R s m args below meth c T locs k n → T.heap = h → Fr n0 locs →
    ∃ v s₂ L, Steps p.tables e below (T.setTop (mkF m pc Ls st)) s₂ ∧ s₂.status = .running ∧ Ended s₂ below (.returned v) ∧ (Φ v s₂.heap ∧ Fr n0 L) ∧ FrameEnd s (.returned v) s₂ L kM nM
variable (X : OwC p l e R s m args below meth c Z own nm bytes mL ret n0 kM nM Φ)
theorem OwC.step {pc' : Nat} {st' : List Value} (g : X.G h k n pc' Ls' st') (w : ∀ T locs, Stand p l e R s m args below meth c T locs k n → ∀ t, Steps p.tables e below (T.setTop (mkF m pc' Ls' st')) t → Steps p.tables e below (T.setTop (mkF m pc Ls st)) t) : X.G h k n pc Ls st := fun T locs Y eT N => by
  obtain ⟨v, s₂, L, r1, r⟩ := g T locs Y eT N
  exact ⟨v, s₂, L, w T locs Y _ r1, r⟩
theorem OwC.hd (X : OwC p l e R s m args below meth c Z own nm bytes mL ret n0 kM nM Φ) {i : Instr} {len : Nat} (d : decode bytes pc = .ok (i, len)) : decode c.code pc = .ok (i, len) := hb X.2.1 d
/-! a name for the top of the stack -/
theorem OwC.nmI {x : Int32} (g : ∀ v : Int32, v = x → X.G h k n pc Ls (.int v :: st)) : X.G h k n pc Ls (.int x :: st) := g x rfl
theorem OwC.nmJ {x : Int64} (g : ∀ v : Int64, v = x → X.G h k n pc Ls (.long v :: st)) : X.G h k n pc Ls (.long x :: st) := g x rfl
theorem OwC.foldI {x v : Int32} (e : x = v) (g : X.G h k n pc Ls (.int v :: st)) : X.G h k n pc Ls (.int x :: st) := by subst e; exact g
theorem OwC.foldJ {x v : Int64} (e : x = v) (g : X.G h k n pc Ls (.long v :: st)) : X.G h k n pc Ls (.long x :: st) := by subst e; exact g
/-! loads and stores -/
theorem OwC.iloadN {j : Fin 4} {v : Int32} (d : decode bytes pc = .ok (.iload_n j, 1)) (hl : Ls[j.val]? = some (.val (.int v))) (hq : pc + 1 = q) (g : X.G h k n q Ls (.int v :: st)) : X.G h k n pc Ls st := by
  subst hq; exact X.step g fun T _ Y t r => XS.iloadN Y.here X.1 rfl (X.hd d) hl r
theorem OwC.iload {j : Nat} {v : Int32} (d : decode bytes pc = .ok (.iload j, 2)) (hl : Ls[j]? = some (.val (.int v))) (hq : pc + 2 = q) (g : X.G h k n q Ls (.int v :: st)) : X.G h k n pc Ls st := by
  subst hq; exact X.step g fun T _ Y t r => XS.iload Y.here X.1 rfl (X.hd d) hl r
theorem OwC.lloadN {j : Fin 4} {v : Int64} (d : decode bytes pc = .ok (.lload_n j, 1)) (hl : Ls[j.val]? = some (.val (.long v))) (hq : pc + 1 = q) (g : X.G h k n q Ls (.long v :: st)) : X.G h k n pc Ls st := by
  subst hq; exact X.step g fun T _ Y t r => XT.lloadN Y.here X.1 rfl (X.hd d) hl r
theorem OwC.lload {j : Nat} {v : Int64} (d : decode bytes pc = .ok (.lload j, 2)) (hl : Ls[j]? = some (.val (.long v))) (hq : pc + 2 = q) (g : X.G h k n q Ls (.long v :: st)) : X.G h k n pc Ls st := by
  subst hq; exact X.step g fun T _ Y t r => XT.lload Y.here X.1 rfl (X.hd d) hl r
theorem OwC.aloadN {j : Fin 4} {v : Value} (d : decode bytes pc = .ok (.aload_n j, 1)) (hl : Ls[j.val]? = some (.val v)) (hv : v.isRef = true) (hq : pc + 1 = q) (g : X.G h k n q Ls (v :: st)) : X.G h k n pc Ls st := by
  subst hq; exact X.step g fun T _ Y t r => XS.aloadN Y.here X.1 rfl (X.hd d) hl hv r
theorem OwC.aload {j : Nat} {v : Value} (d : decode bytes pc = .ok (.aload j, 2)) (hl : Ls[j]? = some (.val v)) (hv : v.isRef = true) (hq : pc + 2 = q) (g : X.G h k n q Ls (v :: st)) : X.G h k n pc Ls st := by
  subst hq; exact X.step g fun T _ Y t r => XS.aload Y.here X.1 rfl (X.hd d) hl hv r
theorem OwC.istoreN {j : Fin 4} {x : Int32} (d : decode bytes pc = .ok (.istore_n j, 1)) (hl : storeLocals Ls j.val (.int x) = some Ls') (hq : pc + 1 = q) (g : X.G h k n q Ls' st) : X.G h k n pc Ls (.int x :: st) := by
  subst hq; exact X.step g fun T _ Y t r => XS.istoreN Y.here X.1 rfl (X.hd d) rfl hl r
theorem OwC.istore {j : Nat} {x : Int32} (d : decode bytes pc = .ok (.istore j, 2)) (hl : storeLocals Ls j (.int x) = some Ls') (hq : pc + 2 = q) (g : X.G h k n q Ls' st) : X.G h k n pc Ls (.int x :: st) := by
  subst hq; exact X.step g fun T _ Y t r => XS.istore Y.here X.1 rfl (X.hd d) rfl hl r
theorem OwC.lstoreN {j : Fin 4} {x : Int64} (d : decode bytes pc = .ok (.lstore_n j, 1)) (hl : storeLocals Ls j.val (.long x) = some Ls') (hq : pc + 1 = q) (g : X.G h k n q Ls' st) : X.G h k n pc Ls (.long x :: st) := by
  subst hq; exact X.step g fun T _ Y t r => XT.lstoreN Y.here X.1 rfl (X.hd d) rfl hl r
theorem OwC.lstore {j : Nat} {x : Int64} (d : decode bytes pc = .ok (.lstore j, 2)) (hl : storeLocals Ls j (.long x) = some Ls') (hq : pc + 2 = q) (g : X.G h k n q Ls' st) : X.G h k n pc Ls (.long x :: st) := by
  subst hq; exact X.step g fun T _ Y t r => XT.lstore Y.here X.1 rfl (X.hd d) rfl hl r
theorem OwC.astoreN {j : Fin 4} {x : Value} (d : decode bytes pc = .ok (.astore_n j, 1)) (hv : x.isRef = true) (hl : storeLocals Ls j.val x = some Ls') (hq : pc + 1 = q) (g : X.G h k n q Ls' st) : X.G h k n pc Ls (x :: st) := by
  subst hq; exact X.step g fun T _ Y t r => XS.astoreN Y.here X.1 rfl (X.hd d) rfl hv hl r
theorem OwC.astore {j : Nat} {x : Value} (d : decode bytes pc = .ok (.astore j, 2)) (hv : x.isRef = true) (hl : storeLocals Ls j x = some Ls') (hq : pc + 2 = q) (g : X.G h k n q Ls' st) : X.G h k n pc Ls (x :: st) := by
  subst hq; exact X.step g fun T _ Y t r => XS.astore Y.here X.1 rfl (X.hd d) rfl hv hl r
/-! constants -/
theorem OwC.iconst {i : Int} (v : Int32) (d : decode bytes pc = .ok (.iconst i, 1)) (hv : Int32.ofInt i = v) (hq : pc + 1 = q) (g : X.G h k n q Ls (.int v :: st)) : X.G h k n pc Ls st := by
  subst hq hv; exact X.step g fun T _ Y t r => XS.iconst Y.here X.1 rfl (X.hd d) r
theorem OwC.bipush {i : Int} (v : Int32) (d : decode bytes pc = .ok (.bipush i, 2)) (hv : (Int8.ofInt i).toInt32 = v) (hq : pc + 2 = q) (g : X.G h k n q Ls (.int v :: st)) : X.G h k n pc Ls st := by
  subst hq hv; exact X.step g fun T _ Y t r => XS.bipush Y.here X.1 rfl (X.hd d) r
theorem OwC.sipush {i : Int} (v : Int32) (d : decode bytes pc = .ok (.sipush i, 3)) (hv : (Int16.ofInt i).toInt32 = v) (hq : pc + 3 = q) (g : X.G h k n q Ls (.int v :: st)) : X.G h k n pc Ls st := by
  subst hq hv; exact X.step g fun T _ Y t r => XS.sipush Y.here X.1 rfl (X.hd d) r
theorem OwC.lconst {j : Fin 2} (v : Int64) (d : decode bytes pc = .ok (.lconst j, 1)) (hv : Int64.ofNat j = v) (hq : pc + 1 = q) (g : X.G h k n q Ls (.long v :: st)) : X.G h k n pc Ls st := by
  subst hq hv; exact X.step g fun T _ Y t r => XT.lconst Y.here X.1 rfl (X.hd d) r
theorem OwC.aconstNull (d : decode bytes pc = .ok (.aconst_null, 1)) (hq : pc + 1 = q) (g : X.G h k n q Ls (.null :: st)) : X.G h k n pc Ls st := by
  subst hq; exact X.step g fun T _ Y t r => XS.aconstNull Y.here X.1 rfl (X.hd d) r
theorem OwC.ldc {i : Nat} {v : Int32} (w : (Cond.constant own i v).before a0 Z = true) (d : decode bytes pc = .ok (.ldc i, 2)) (hq : pc + 2 = q) (g : X.G h k n q Ls (.int v :: st)) : X.G h k n pc Ls st := by
  subst hq; exact X.step g fun T _ Y t r => Y.ldcI X.1 X.2.2.2.1 (mvT X.2.2.2.2.1 w) rfl (X.hd d) r
theorem OwC.ldc_w {i : Nat} {v : Int32} (w : (Cond.constant own i v).before a0 Z = true) (d : decode bytes pc = .ok (.ldc_w i, 3)) (hq : pc + 3 = q) (g : X.G h k n q Ls (.int v :: st)) : X.G h k n pc Ls st := by
  subst hq; exact X.step g fun T _ Y t r => Y.ldcWI X.1 X.2.2.2.1 (mvT X.2.2.2.2.1 w) rfl (X.hd d) r
theorem OwC.ldc2_w {i : Nat} {v : Int64} (w : (Cond.constantLong own i v).before a0 Z = true) (d : decode bytes pc = .ok (.ldc2_w i, 3)) (hq : pc + 3 = q) (g : X.G h k n q Ls (.long v :: st)) : X.G h k n pc Ls st := by
  subst hq; exact X.step g fun T _ Y t r => Y.ldc2J X.1 X.2.2.2.1 (mvT X.2.2.2.2.1 w) rfl (X.hd d) r
/-! arithmetic -/
theorem OwC.iadd {x y : Int32} (d : decode bytes pc = .ok (.iadd, 1)) (hq : pc + 1 = q) (g : X.G h k n q Ls (.int (x + y) :: st)) : X.G h k n pc Ls (.int y :: .int x :: st) := by
  subst hq; exact X.step g fun T _ Y t r => XS.iadd Y.here X.1 rfl (X.hd d) rfl r
theorem OwC.isub {x y : Int32} (d : decode bytes pc = .ok (.isub, 1)) (hq : pc + 1 = q) (g : X.G h k n q Ls (.int (x - y) :: st)) : X.G h k n pc Ls (.int y :: .int x :: st) := by
  subst hq; exact X.step g fun T _ Y t r => XS.isub Y.here X.1 rfl (X.hd d) rfl r
theorem OwC.imul {x y : Int32} (d : decode bytes pc = .ok (.imul, 1)) (hq : pc + 1 = q) (g : X.G h k n q Ls (.int (x * y) :: st)) : X.G h k n pc Ls (.int y :: .int x :: st) := by
  subst hq; exact X.step g fun T _ Y t r => XS.imul Y.here X.1 rfl (X.hd d) rfl r
theorem OwC.iand {x y : Int32} (d : decode bytes pc = .ok (.iand, 1)) (hq : pc + 1 = q) (g : X.G h k n q Ls (.int (x &&& y) :: st)) : X.G h k n pc Ls (.int y :: .int x :: st) := by
  subst hq; exact X.step g fun T _ Y t r => XS.iand Y.here X.1 rfl (X.hd d) rfl r
theorem OwC.ixor {x y : Int32} (d : decode bytes pc = .ok (.ixor, 1)) (hq : pc + 1 = q) (g : X.G h k n q Ls (.int (x ^^^ y) :: st)) : X.G h k n pc Ls (.int y :: .int x :: st) := by
  subst hq; exact X.step g fun T _ Y t r => XT.ixor Y.here X.1 rfl (X.hd d) rfl r
theorem OwC.ior {x y : Int32} (d : decode bytes pc = .ok (.ior, 1)) (hq : pc + 1 = q) (g : X.G h k n q Ls (.int (x ||| y) :: st)) : X.G h k n pc Ls (.int y :: .int x :: st) := by
  subst hq; exact X.step g fun T _ Y t r => XT.ior Y.here X.1 rfl (X.hd d) rfl r
theorem OwC.ishl {x y : Int32} (d : decode bytes pc = .ok (.ishl, 1)) (hq : pc + 1 = q) (g : X.G h k n q Ls (.int (x <<< (y &&& 31)) :: st)) : X.G h k n pc Ls (.int y :: .int x :: st) := by
  subst hq; exact X.step g fun T _ Y t r => XT.ishl Y.here X.1 rfl (X.hd d) rfl r
theorem OwC.ishr {x y : Int32} (d : decode bytes pc = .ok (.ishr, 1)) (hq : pc + 1 = q) (g : X.G h k n q Ls (.int (x >>> (y &&& 31)) :: st)) : X.G h k n pc Ls (.int y :: .int x :: st) := by
  subst hq; exact X.step g fun T _ Y t r => XT.ishr Y.here X.1 rfl (X.hd d) rfl r
theorem OwC.iushr {x y : Int32} (d : decode bytes pc = .ok (.iushr, 1)) (hq : pc + 1 = q) (g : X.G h k n q Ls (.int (XT.ushr x y) :: st)) : X.G h k n pc Ls (.int y :: .int x :: st) := by
  subst hq; exact X.step g fun T _ Y t r => XT.iushr Y.here X.1 rfl (X.hd d) rfl r
theorem OwC.ladd {x y : Int64} (d : decode bytes pc = .ok (.ladd, 1)) (hq : pc + 1 = q) (g : X.G h k n q Ls (.long (x + y) :: st)) : X.G h k n pc Ls (.long y :: .long x :: st) := by
  subst hq; exact X.step g fun T _ Y t r => XT.ladd Y.here X.1 rfl (X.hd d) rfl r
theorem OwC.lsub {x y : Int64} (d : decode bytes pc = .ok (.lsub, 1)) (hq : pc + 1 = q) (g : X.G h k n q Ls (.long (x - y) :: st)) : X.G h k n pc Ls (.long y :: .long x :: st) := by
  subst hq; exact X.step g fun T _ Y t r => XT.lsub Y.here X.1 rfl (X.hd d) rfl r
theorem OwC.lmul {x y : Int64} (d : decode bytes pc = .ok (.lmul, 1)) (hq : pc + 1 = q) (g : X.G h k n q Ls (.long (x * y) :: st)) : X.G h k n pc Ls (.long y :: .long x :: st) := by
  subst hq; exact X.step g fun T _ Y t r => XT.lmul Y.here X.1 rfl (X.hd d) rfl r
theorem OwC.land {x y : Int64} (d : decode bytes pc = .ok (.land, 1)) (hq : pc + 1 = q) (g : X.G h k n q Ls (.long (x &&& y) :: st)) : X.G h k n pc Ls (.long y :: .long x :: st) := by
  subst hq; exact X.step g fun T _ Y t r => XT.land Y.here X.1 rfl (X.hd d) rfl r
theorem OwC.lxor {x y : Int64} (d : decode bytes pc = .ok (.lxor, 1)) (hq : pc + 1 = q) (g : X.G h k n q Ls (.long (x ^^^ y) :: st)) : X.G h k n pc Ls (.long y :: .long x :: st) := by
  subst hq; exact X.step g fun T _ Y t r => XT.lxor Y.here X.1 rfl (X.hd d) rfl r
theorem OwC.lor {x y : Int64} (d : decode bytes pc = .ok (.lor, 1)) (hq : pc + 1 = q) (g : X.G h k n q Ls (.long (x ||| y) :: st)) : X.G h k n pc Ls (.long y :: .long x :: st) := by
  subst hq; exact X.step g fun T _ Y t r => XT.lor Y.here X.1 rfl (X.hd d) rfl r
theorem OwC.lshl {x : Int64} {y : Int32} (d : decode bytes pc = .ok (.lshl, 1)) (hq : pc + 1 = q) (g : X.G h k n q Ls (.long (x <<< (y.toInt64 &&& 63)) :: st)) : X.G h k n pc Ls (.int y :: .long x :: st) := by
  subst hq; exact X.step g fun T _ Y t r => XT.lshl Y.here X.1 rfl (X.hd d) rfl r
theorem OwC.lshr {x : Int64} {y : Int32} (d : decode bytes pc = .ok (.lshr, 1)) (hq : pc + 1 = q) (g : X.G h k n q Ls (.long (x >>> (y.toInt64 &&& 63)) :: st)) : X.G h k n pc Ls (.int y :: .long x :: st) := by
  subst hq; exact X.step g fun T _ Y t r => XT.lshr Y.here X.1 rfl (X.hd d) rfl r
theorem OwC.lushr {x : Int64} {y : Int32} (d : decode bytes pc = .ok (.lushr, 1)) (hq : pc + 1 = q) (g : X.G h k n q Ls (.long (XT.ushrL x y) :: st)) : X.G h k n pc Ls (.int y :: .long x :: st) := by
  subst hq; exact X.step g fun T _ Y t r => XT.lushr Y.here X.1 rfl (X.hd d) rfl r
theorem OwC.idiv {x y : Int32} (d : decode bytes pc = .ok (.idiv, 1)) (hy : y ≠ 0) (hq : pc + 1 = q) (g : X.G h k n q Ls (.int (x / y) :: st)) : X.G h k n pc Ls (.int y :: .int x :: st) := by
  subst hq; exact X.step g fun T _ Y t r => XS.idiv Y.here X.1 rfl (X.hd d) rfl hy r
theorem OwC.ldiv {x y : Int64} (d : decode bytes pc = .ok (.ldiv, 1)) (hy : y ≠ 0) (hq : pc + 1 = q) (g : X.G h k n q Ls (.long (x / y) :: st)) : X.G h k n pc Ls (.long y :: .long x :: st) := by
  subst hq; exact X.step g fun T _ Y t r => XT.ldiv Y.here X.1 rfl (X.hd d) rfl hy r
theorem OwC.irem {x y : Int32} (d : decode bytes pc = .ok (.irem, 1)) (hy : y ≠ 0) (hq : pc + 1 = q) (g : X.G h k n q Ls (.int (x % y) :: st)) : X.G h k n pc Ls (.int y :: .int x :: st) := by
  subst hq; exact X.step g fun T _ Y t r => iremM Y X.1 rfl (X.hd d) rfl hy r
theorem ow_lrem (x y : Int64) : x - (x / y) * y = x % y := by
  rw [← Int64.toInt_inj, Int64.toInt_sub, Int64.toInt_mul, Int64.toInt_mod, Int64.toInt_div]
  have h1 : (((x.toInt.tdiv y.toInt).bmod (2 ^ 64) * y.toInt).bmod (2 ^ 64)) = (x.toInt.tdiv y.toInt * y.toInt).bmod (2 ^ 64) := by simp [Int.bmod_mul_bmod]
  rw [h1, Int.sub_bmod_bmod]
  have h2 : x.toInt - x.toInt.tdiv y.toInt * y.toInt = x.toInt.tmod y.toInt := by
    have := Int.mul_tdiv_add_tmod x.toInt y.toInt
    rw [Int.mul_comm] at this; omega
  rw [h2, ← Int64.toInt_mod, Int64.toInt_bmod]
theorem OwC.lrem {x y : Int64} (d : decode bytes pc = .ok (.lrem, 1)) (hy : y ≠ 0) (hq : pc + 1 = q) (g : X.G h k n q Ls (.long (x % y) :: st)) : X.G h k n pc Ls (.long y :: .long x :: st) := by
  subst hq; exact X.step g fun T _ Y t r => XT.lrem Y.here X.1 rfl (X.hd d) rfl hy (by rw [ow_lrem]; exact r)
theorem OwC.ineg {x : Int32} (d : decode bytes pc = .ok (.ineg, 1)) (hq : pc + 1 = q) (g : X.G h k n q Ls (.int (-x) :: st)) : X.G h k n pc Ls (.int x :: st) := by
  subst hq; exact X.step g fun T _ Y t r => XS.ineg Y.here X.1 rfl (X.hd d) rfl r
theorem OwC.lneg {x : Int64} (d : decode bytes pc = .ok (.lneg, 1)) (hq : pc + 1 = q) (g : X.G h k n q Ls (.long (-x) :: st)) : X.G h k n pc Ls (.long x :: st) := by
  subst hq; exact X.step g fun T _ Y t r => XT.lneg Y.here X.1 rfl (X.hd d) rfl r
theorem OwC.i2l {x : Int32} (d : decode bytes pc = .ok (.i2l, 1)) (hq : pc + 1 = q) (g : X.G h k n q Ls (.long (x.toInt64) :: st)) : X.G h k n pc Ls (.int x :: st) := by
  subst hq; exact X.step g fun T _ Y t r => XT.i2l Y.here X.1 rfl (X.hd d) rfl r
theorem OwC.l2i {x : Int64} (d : decode bytes pc = .ok (.l2i, 1)) (hq : pc + 1 = q) (g : X.G h k n q Ls (.int (x.toInt32) :: st)) : X.G h k n pc Ls (.long x :: st) := by
  subst hq; exact X.step g fun T _ Y t r => XT.l2i Y.here X.1 rfl (X.hd d) rfl r
theorem OwC.i2b {x : Int32} (d : decode bytes pc = .ok (.i2b, 1)) (hq : pc + 1 = q) (g : X.G h k n q Ls (.int (x.toInt8.toInt32) :: st)) : X.G h k n pc Ls (.int x :: st) := by
  subst hq; exact X.step g fun T _ Y t r => XT.i2b Y.here X.1 rfl (X.hd d) rfl r
theorem OwC.i2c {x : Int32} (d : decode bytes pc = .ok (.i2c, 1)) (hq : pc + 1 = q) (g : X.G h k n q Ls (.int (x.toUInt32.toUInt16.toUInt32.toInt32) :: st)) : X.G h k n pc Ls (.int x :: st) := by
  subst hq; exact X.step g fun T _ Y t r => XT.i2c Y.here X.1 rfl (X.hd d) rfl r
theorem OwC.iinc {j : Nat} {cst : Int} {x : Int32} (v : Int32) (d : decode bytes pc = .ok (.iinc j cst, 3)) (hv : Int32.ofInt cst = v) (hl : Ls[j]? = some (.val (.int x))) (hl' : storeLocals Ls j (.int (x + v)) = some Ls') (hq : pc + 3 = q) (g : X.G h k n q Ls' st) : X.G h k n pc Ls st := by
  subst hq hv; exact X.step g fun T _ Y t r => XS.iinc Y.here X.1 rfl (X.hd d) hl hl' r
/-! the stack -/
theorem OwC.dup {x : Value} (d : decode bytes pc = .ok (.dup, 1)) (hc : x.category = 1) (hq : pc + 1 = q) (g : X.G h k n q Ls (x :: x :: st)) : X.G h k n pc Ls (x :: st) := by
  subst hq; exact X.step g fun T _ Y t r => XS.dup Y.here X.1 rfl (X.hd d) rfl hc r
theorem OwC.pop {x : Value} (d : decode bytes pc = .ok (.pop, 1)) (hc : x.category = 1) (hq : pc + 1 = q) (g : X.G h k n q Ls st) : X.G h k n pc Ls (x :: st) := by
  subst hq; exact X.step g fun T _ Y t r => XT.pop Y.here X.1 rfl (X.hd d) rfl hc r
theorem OwC.dup_x1 {x y : Value} (d : decode bytes pc = .ok (.dup_x1, 1)) (hc : x.category = 1) (hc' : y.category = 1) (hq : pc + 1 = q) (g : X.G h k n q Ls (x :: y :: x :: st)) : X.G h k n pc Ls (x :: y :: st) := by
  subst hq; exact X.step g fun T _ Y t r => XT.dupX1 Y.here X.1 rfl (X.hd d) rfl hc hc' r
theorem OwC.dup2 {x y : Value} (d : decode bytes pc = .ok (.dup2, 1)) (hc : x.category = 1) (hc' : y.category = 1) (hq : pc + 1 = q) (g : X.G h k n q Ls (x :: y :: x :: y :: st)) : X.G h k n pc Ls (x :: y :: st) := by
  subst hq; exact X.step g fun T _ Y t r => XT.dup2 Y.here X.1 rfl (X.hd d) rfl hc hc' r
theorem OwC.dup2L {x : Int64} (d : decode bytes pc = .ok (.dup2, 1)) (hq : pc + 1 = q) (g : X.G h k n q Ls (.long x :: .long x :: st)) : X.G h k n pc Ls (.long x :: st) := by
  subst hq; exact X.step g fun T _ Y t r => XT.dup2L Y.here X.1 rfl (X.hd d) rfl r
/-! branches -/
theorem OwC.goto {o : Int} {q' : Nat} (d : decode bytes pc = .ok (.goto o, 3)) (hp : 0 ≤ (pc : Int) + o ∧ ((pc : Int) + o).toNat = q') (g : X.G h k n q' Ls st) : X.G h k n pc Ls st :=
  X.step g fun T _ Y t r => XS.goto Y.here X.1 rfl rfl (X.hd d) hp.1 hp.2 r
theorem OwC.icmpB {cd : ClassFile.Cond} {o : Int} {q' : Nat} {x y : Int32} (d : decode bytes pc = .ok (.if_icmp cd o, 3)) (hp : 0 ≤ (pc : Int) + o ∧ ((pc : Int) + o).toNat = q') (hq : pc + 3 = q) (g1 : if_icmp.holds cd x y = true → X.G h k n q' Ls st) (g0 : if_icmp.holds cd x y = false → X.G h k n q Ls st) : X.G h k n pc Ls (.int y :: .int x :: st) := by
  subst hq
  cases hc : if_icmp.holds cd x y with
  | true => exact X.step (g1 hc) fun T _ Y t r => XS.icmpYes Y.here X.1 rfl rfl (X.hd d) rfl hc hp.1 hp.2 r
  | false => exact X.step (g0 hc) fun T _ Y t r => XS.icmpNo Y.here X.1 rfl (X.hd d) rfl hc r
theorem OwC.ifB {cd : ClassFile.Cond} {o : Int} {q' : Nat} {x : Int32} (d : decode bytes pc = .ok (.ifCond cd o, 3)) (hp : 0 ≤ (pc : Int) + o ∧ ((pc : Int) + o).toNat = q') (hq : pc + 3 = q) (g1 : ifCond.holds cd x = true → X.G h k n q' Ls st) (g0 : ifCond.holds cd x = false → X.G h k n q Ls st) : X.G h k n pc Ls (.int x :: st) := by
  subst hq
  cases hc : ifCond.holds cd x with
  | true => exact X.step (g1 hc) fun T _ Y t r => XS.ifYes Y.here X.1 rfl rfl (X.hd d) rfl hc hp.1 hp.2 r
  | false => exact X.step (g0 hc) fun T _ Y t r => XS.ifNo Y.here X.1 rfl (X.hd d) rfl hc r
def owCd : ClassFile.Cond → Int → Int → Prop
  | .eq, a, b => a = b | .ne, a, b => ¬ a = b | .lt, a, b => a < b | .ge, a, b => b ≤ a | .gt, a, b => b < a | .le, a, b => a ≤ b
theorem ow_icmp (cd : ClassFile.Cond) (x y : Int32) : if_icmp.holds cd x y = true ↔ owCd cd x.toInt y.toInt := by
  cases cd <;> simp [if_icmp.holds, owCd, ← Int32.toInt_inj, Int32.lt_iff_toInt_lt, Int32.le_iff_toInt_le]
theorem ow_if (cd : ClassFile.Cond) (x : Int32) : ifCond.holds cd x = true ↔ owCd cd x.toInt 0 := by rw [if0, ow_icmp]; rfl
theorem ow_icmpF {cd : ClassFile.Cond} {x y : Int32} (hc : if_icmp.holds cd x y = false) : ¬ owCd cd x.toInt y.toInt := fun q => by rw [(ow_icmp cd x y).mpr q] at hc; cases hc
theorem ow_ifF {cd : ClassFile.Cond} {x : Int32} (hc : ifCond.holds cd x = false) : ¬ owCd cd x.toInt 0 := fun q => by rw [(ow_if cd x).mpr q] at hc; cases hc
theorem ow_lc (cd : ClassFile.Cond) (x y : Int64) : owCd cd (XT.cmpL x y).toInt 0 ↔ owCd cd x.toInt y.toInt := by
  have e1 : (1 : Int32).toInt = 1 := rfl
  have e0 : (0 : Int32).toInt = 0 := rfl
  have em : (-1 : Int32).toInt = -1 := rfl
  unfold XT.cmpL
  split
  · rename_i h1; rw [Int64.lt_iff_toInt_lt] at h1; cases cd <;> simp only [owCd, e1] <;> omega
  · rename_i h1; rw [Int64.lt_iff_toInt_lt] at h1
    split
    · rename_i h2; subst h2; cases cd <;> simp only [owCd, e0] <;> omega
    · rename_i h2; rw [← Int64.toInt_inj] at h2; cases cd <;> simp only [owCd, em] <;> omega
theorem OwC.icmp_eq {o : Int} {q' : Nat} {x y : Int32} {a b : Int} (d : decode bytes pc = .ok (.if_icmp .eq o, 3)) (hx : x.toInt = a) (hy : y.toInt = b) (hp : 0 ≤ (pc : Int) + o ∧ ((pc : Int) + o).toNat = q') (hq : pc + 3 = q) (g1 : a = b → X.G h k n q' Ls st) (g0 : ¬ a = b → X.G h k n q Ls st) : X.G h k n pc Ls (.int y :: .int x :: st) := by
  subst hx hy; exact X.icmpB d hp hq (fun hc => g1 ((ow_icmp _ _ _).mp hc)) (fun hc => g0 (by have := ow_icmpF hc; simp only [owCd] at this; omega))
theorem OwC.if_eq {o : Int} {q' : Nat} {x : Int32} {a : Int} (d : decode bytes pc = .ok (.ifCond .eq o, 3)) (hx : x.toInt = a) (hp : 0 ≤ (pc : Int) + o ∧ ((pc : Int) + o).toNat = q') (hq : pc + 3 = q) (g1 : a = 0 → X.G h k n q' Ls st) (g0 : ¬ a = 0 → X.G h k n q Ls st) : X.G h k n pc Ls (.int x :: st) := by
  subst hx; exact X.ifB d hp hq (fun hc => g1 ((ow_if _ _).mp hc)) (fun hc => g0 (by have := ow_ifF hc; simp only [owCd] at this; omega))
theorem OwC.lcmp_eq {o : Int} {q1 q' : Nat} {x y : Int64} {a b : Int} (d1 : decode bytes pc = .ok (.lcmp, 1)) (hq1 : pc + 1 = q1) (d : decode bytes q1 = .ok (.ifCond .eq o, 3)) (hx : x.toInt = a) (hy : y.toInt = b) (hp : 0 ≤ (q1 : Int) + o ∧ ((q1 : Int) + o).toNat = q') (hq : q1 + 3 = q) (g1 : a = b → X.G h k n q' Ls st) (g0 : ¬ a = b → X.G h k n q Ls st) : X.G h k n pc Ls (.long y :: .long x :: st) := by
  subst hx hy hq1; refine X.step (X.ifB d hp hq (fun hc => g1 ((ow_lc _ _ _).mp ((ow_if _ _).mp hc))) (fun hc => g0 (by have := mt (ow_lc _ _ _).mpr (ow_ifF hc); simp only [owCd] at this; omega))) fun T _ Y t r => XT.lcmp Y.here X.1 rfl (X.hd d1) rfl r
theorem OwC.icmp_ne {o : Int} {q' : Nat} {x y : Int32} {a b : Int} (d : decode bytes pc = .ok (.if_icmp .ne o, 3)) (hx : x.toInt = a) (hy : y.toInt = b) (hp : 0 ≤ (pc : Int) + o ∧ ((pc : Int) + o).toNat = q') (hq : pc + 3 = q) (g1 : ¬ a = b → X.G h k n q' Ls st) (g0 : a = b → X.G h k n q Ls st) : X.G h k n pc Ls (.int y :: .int x :: st) := by
  subst hx hy; exact X.icmpB d hp hq (fun hc => g1 ((ow_icmp _ _ _).mp hc)) (fun hc => g0 (by have := ow_icmpF hc; simp only [owCd] at this; omega))
theorem OwC.if_ne {o : Int} {q' : Nat} {x : Int32} {a : Int} (d : decode bytes pc = .ok (.ifCond .ne o, 3)) (hx : x.toInt = a) (hp : 0 ≤ (pc : Int) + o ∧ ((pc : Int) + o).toNat = q') (hq : pc + 3 = q) (g1 : ¬ a = 0 → X.G h k n q' Ls st) (g0 : a = 0 → X.G h k n q Ls st) : X.G h k n pc Ls (.int x :: st) := by
  subst hx; exact X.ifB d hp hq (fun hc => g1 ((ow_if _ _).mp hc)) (fun hc => g0 (by have := ow_ifF hc; simp only [owCd] at this; omega))
theorem OwC.lcmp_ne {o : Int} {q1 q' : Nat} {x y : Int64} {a b : Int} (d1 : decode bytes pc = .ok (.lcmp, 1)) (hq1 : pc + 1 = q1) (d : decode bytes q1 = .ok (.ifCond .ne o, 3)) (hx : x.toInt = a) (hy : y.toInt = b) (hp : 0 ≤ (q1 : Int) + o ∧ ((q1 : Int) + o).toNat = q') (hq : q1 + 3 = q) (g1 : ¬ a = b → X.G h k n q' Ls st) (g0 : a = b → X.G h k n q Ls st) : X.G h k n pc Ls (.long y :: .long x :: st) := by
  subst hx hy hq1; refine X.step (X.ifB d hp hq (fun hc => g1 ((ow_lc _ _ _).mp ((ow_if _ _).mp hc))) (fun hc => g0 (by have := mt (ow_lc _ _ _).mpr (ow_ifF hc); simp only [owCd] at this; omega))) fun T _ Y t r => XT.lcmp Y.here X.1 rfl (X.hd d1) rfl r
theorem OwC.icmp_lt {o : Int} {q' : Nat} {x y : Int32} {a b : Int} (d : decode bytes pc = .ok (.if_icmp .lt o, 3)) (hx : x.toInt = a) (hy : y.toInt = b) (hp : 0 ≤ (pc : Int) + o ∧ ((pc : Int) + o).toNat = q') (hq : pc + 3 = q) (g1 : a < b → X.G h k n q' Ls st) (g0 : b ≤ a → X.G h k n q Ls st) : X.G h k n pc Ls (.int y :: .int x :: st) := by
  subst hx hy; exact X.icmpB d hp hq (fun hc => g1 ((ow_icmp _ _ _).mp hc)) (fun hc => g0 (by have := ow_icmpF hc; simp only [owCd] at this; omega))
theorem OwC.if_lt {o : Int} {q' : Nat} {x : Int32} {a : Int} (d : decode bytes pc = .ok (.ifCond .lt o, 3)) (hx : x.toInt = a) (hp : 0 ≤ (pc : Int) + o ∧ ((pc : Int) + o).toNat = q') (hq : pc + 3 = q) (g1 : a < 0 → X.G h k n q' Ls st) (g0 : 0 ≤ a → X.G h k n q Ls st) : X.G h k n pc Ls (.int x :: st) := by
  subst hx; exact X.ifB d hp hq (fun hc => g1 ((ow_if _ _).mp hc)) (fun hc => g0 (by have := ow_ifF hc; simp only [owCd] at this; omega))
theorem OwC.lcmp_lt {o : Int} {q1 q' : Nat} {x y : Int64} {a b : Int} (d1 : decode bytes pc = .ok (.lcmp, 1)) (hq1 : pc + 1 = q1) (d : decode bytes q1 = .ok (.ifCond .lt o, 3)) (hx : x.toInt = a) (hy : y.toInt = b) (hp : 0 ≤ (q1 : Int) + o ∧ ((q1 : Int) + o).toNat = q') (hq : q1 + 3 = q) (g1 : a < b → X.G h k n q' Ls st) (g0 : b ≤ a → X.G h k n q Ls st) : X.G h k n pc Ls (.long y :: .long x :: st) := by
  subst hx hy hq1; refine X.step (X.ifB d hp hq (fun hc => g1 ((ow_lc _ _ _).mp ((ow_if _ _).mp hc))) (fun hc => g0 (by have := mt (ow_lc _ _ _).mpr (ow_ifF hc); simp only [owCd] at this; omega))) fun T _ Y t r => XT.lcmp Y.here X.1 rfl (X.hd d1) rfl r
theorem OwC.icmp_ge {o : Int} {q' : Nat} {x y : Int32} {a b : Int} (d : decode bytes pc = .ok (.if_icmp .ge o, 3)) (hx : x.toInt = a) (hy : y.toInt = b) (hp : 0 ≤ (pc : Int) + o ∧ ((pc : Int) + o).toNat = q') (hq : pc + 3 = q) (g1 : b ≤ a → X.G h k n q' Ls st) (g0 : a < b → X.G h k n q Ls st) : X.G h k n pc Ls (.int y :: .int x :: st) := by
  subst hx hy; exact X.icmpB d hp hq (fun hc => g1 ((ow_icmp _ _ _).mp hc)) (fun hc => g0 (by have := ow_icmpF hc; simp only [owCd] at this; omega))
theorem OwC.if_ge {o : Int} {q' : Nat} {x : Int32} {a : Int} (d : decode bytes pc = .ok (.ifCond .ge o, 3)) (hx : x.toInt = a) (hp : 0 ≤ (pc : Int) + o ∧ ((pc : Int) + o).toNat = q') (hq : pc + 3 = q) (g1 : 0 ≤ a → X.G h k n q' Ls st) (g0 : a < 0 → X.G h k n q Ls st) : X.G h k n pc Ls (.int x :: st) := by
  subst hx; exact X.ifB d hp hq (fun hc => g1 ((ow_if _ _).mp hc)) (fun hc => g0 (by have := ow_ifF hc; simp only [owCd] at this; omega))
theorem OwC.lcmp_ge {o : Int} {q1 q' : Nat} {x y : Int64} {a b : Int} (d1 : decode bytes pc = .ok (.lcmp, 1)) (hq1 : pc + 1 = q1) (d : decode bytes q1 = .ok (.ifCond .ge o, 3)) (hx : x.toInt = a) (hy : y.toInt = b) (hp : 0 ≤ (q1 : Int) + o ∧ ((q1 : Int) + o).toNat = q') (hq : q1 + 3 = q) (g1 : b ≤ a → X.G h k n q' Ls st) (g0 : a < b → X.G h k n q Ls st) : X.G h k n pc Ls (.long y :: .long x :: st) := by
  subst hx hy hq1; refine X.step (X.ifB d hp hq (fun hc => g1 ((ow_lc _ _ _).mp ((ow_if _ _).mp hc))) (fun hc => g0 (by have := mt (ow_lc _ _ _).mpr (ow_ifF hc); simp only [owCd] at this; omega))) fun T _ Y t r => XT.lcmp Y.here X.1 rfl (X.hd d1) rfl r
theorem OwC.icmp_gt {o : Int} {q' : Nat} {x y : Int32} {a b : Int} (d : decode bytes pc = .ok (.if_icmp .gt o, 3)) (hx : x.toInt = a) (hy : y.toInt = b) (hp : 0 ≤ (pc : Int) + o ∧ ((pc : Int) + o).toNat = q') (hq : pc + 3 = q) (g1 : b < a → X.G h k n q' Ls st) (g0 : a ≤ b → X.G h k n q Ls st) : X.G h k n pc Ls (.int y :: .int x :: st) := by
  subst hx hy; exact X.icmpB d hp hq (fun hc => g1 ((ow_icmp _ _ _).mp hc)) (fun hc => g0 (by have := ow_icmpF hc; simp only [owCd] at this; omega))
theorem OwC.if_gt {o : Int} {q' : Nat} {x : Int32} {a : Int} (d : decode bytes pc = .ok (.ifCond .gt o, 3)) (hx : x.toInt = a) (hp : 0 ≤ (pc : Int) + o ∧ ((pc : Int) + o).toNat = q') (hq : pc + 3 = q) (g1 : 0 < a → X.G h k n q' Ls st) (g0 : a ≤ 0 → X.G h k n q Ls st) : X.G h k n pc Ls (.int x :: st) := by
  subst hx; exact X.ifB d hp hq (fun hc => g1 ((ow_if _ _).mp hc)) (fun hc => g0 (by have := ow_ifF hc; simp only [owCd] at this; omega))
theorem OwC.lcmp_gt {o : Int} {q1 q' : Nat} {x y : Int64} {a b : Int} (d1 : decode bytes pc = .ok (.lcmp, 1)) (hq1 : pc + 1 = q1) (d : decode bytes q1 = .ok (.ifCond .gt o, 3)) (hx : x.toInt = a) (hy : y.toInt = b) (hp : 0 ≤ (q1 : Int) + o ∧ ((q1 : Int) + o).toNat = q') (hq : q1 + 3 = q) (g1 : b < a → X.G h k n q' Ls st) (g0 : a ≤ b → X.G h k n q Ls st) : X.G h k n pc Ls (.long y :: .long x :: st) := by
  subst hx hy hq1; refine X.step (X.ifB d hp hq (fun hc => g1 ((ow_lc _ _ _).mp ((ow_if _ _).mp hc))) (fun hc => g0 (by have := mt (ow_lc _ _ _).mpr (ow_ifF hc); simp only [owCd] at this; omega))) fun T _ Y t r => XT.lcmp Y.here X.1 rfl (X.hd d1) rfl r
theorem OwC.icmp_le {o : Int} {q' : Nat} {x y : Int32} {a b : Int} (d : decode bytes pc = .ok (.if_icmp .le o, 3)) (hx : x.toInt = a) (hy : y.toInt = b) (hp : 0 ≤ (pc : Int) + o ∧ ((pc : Int) + o).toNat = q') (hq : pc + 3 = q) (g1 : a ≤ b → X.G h k n q' Ls st) (g0 : b < a → X.G h k n q Ls st) : X.G h k n pc Ls (.int y :: .int x :: st) := by
  subst hx hy; exact X.icmpB d hp hq (fun hc => g1 ((ow_icmp _ _ _).mp hc)) (fun hc => g0 (by have := ow_icmpF hc; simp only [owCd] at this; omega))
theorem OwC.if_le {o : Int} {q' : Nat} {x : Int32} {a : Int} (d : decode bytes pc = .ok (.ifCond .le o, 3)) (hx : x.toInt = a) (hp : 0 ≤ (pc : Int) + o ∧ ((pc : Int) + o).toNat = q') (hq : pc + 3 = q) (g1 : a ≤ 0 → X.G h k n q' Ls st) (g0 : 0 < a → X.G h k n q Ls st) : X.G h k n pc Ls (.int x :: st) := by
  subst hx; exact X.ifB d hp hq (fun hc => g1 ((ow_if _ _).mp hc)) (fun hc => g0 (by have := ow_ifF hc; simp only [owCd] at this; omega))
theorem OwC.lcmp_le {o : Int} {q1 q' : Nat} {x y : Int64} {a b : Int} (d1 : decode bytes pc = .ok (.lcmp, 1)) (hq1 : pc + 1 = q1) (d : decode bytes q1 = .ok (.ifCond .le o, 3)) (hx : x.toInt = a) (hy : y.toInt = b) (hp : 0 ≤ (q1 : Int) + o ∧ ((q1 : Int) + o).toNat = q') (hq : q1 + 3 = q) (g1 : a ≤ b → X.G h k n q' Ls st) (g0 : b < a → X.G h k n q Ls st) : X.G h k n pc Ls (.long y :: .long x :: st) := by
  subst hx hy hq1; refine X.step (X.ifB d hp hq (fun hc => g1 ((ow_lc _ _ _).mp ((ow_if _ _).mp hc))) (fun hc => g0 (by have := mt (ow_lc _ _ _).mpr (ow_ifF hc); simp only [owCd] at this; omega))) fun T _ Y t r => XT.lcmp Y.here X.1 rfl (X.hd d1) rfl r
theorem OwC.ifnullT {o : Int} {q' : Nat} (d : decode bytes pc = .ok (.ifnull o, 3)) (hp : 0 ≤ (pc : Int) + o ∧ ((pc : Int) + o).toNat = q') (g : X.G h k n q' Ls st) : X.G h k n pc Ls (.null :: st) :=
  X.step g fun T _ Y t r => XS.ifnullYes Y.here X.1 rfl rfl (X.hd d) rfl hp.1 hp.2 r
theorem OwC.ifnullF {o : Int} {b : Addr} (d : decode bytes pc = .ok (.ifnull o, 3)) (hq : pc + 3 = q) (g : X.G h k n q Ls st) : X.G h k n pc Ls (.ref b :: st) := by
  subst hq; exact X.step g fun T _ Y t r => XS.ifnullNo Y.here X.1 rfl (X.hd d) rfl r
theorem OwC.ifnonnullT {o : Int} {q' : Nat} {b : Addr} (d : decode bytes pc = .ok (.ifnonnull o, 3)) (hp : 0 ≤ (pc : Int) + o ∧ ((pc : Int) + o).toNat = q') (g : X.G h k n q' Ls st) : X.G h k n pc Ls (.ref b :: st) :=
  X.step g fun T _ Y t r => XT.ifnonnullYes Y.here X.1 rfl rfl (X.hd d) rfl hp.1 hp.2 r
theorem OwC.ifnonnullF {o : Int} (d : decode bytes pc = .ok (.ifnonnull o, 3)) (hq : pc + 3 = q) (g : X.G h k n q Ls st) : X.G h k n pc Ls (.null :: st) := by
  subst hq; exact X.step g fun T _ Y t r => XT.ifnonnullNo Y.here X.1 rfl (X.hd d) rfl r
theorem OwC.acmp_ne {o : Int} {q' : Nat} {x y : Addr} (d : decode bytes pc = .ok (.if_acmp .ne o, 3)) (hp : 0 ≤ (pc : Int) + o ∧ ((pc : Int) + o).toNat = q') (hq : pc + 3 = q) (g1 : ¬ x = y → X.G h k n q' Ls st) (g0 : x = y → X.G h k n q Ls st) : X.G h k n pc Ls (.ref y :: .ref x :: st) := by
  subst hq
  by_cases hc : x = y
  · exact X.step (g0 hc) fun T _ Y t r => XT.acmpNo Y.here X.1 rfl (X.hd d) rfl rfl rfl (by simp [XT.acmp, hc]) r
  · exact X.step (g1 hc) fun T _ Y t r => XT.acmpYes Y.here X.1 rfl rfl (X.hd d) rfl rfl rfl (by simp [XT.acmp, hc]) hp.1 hp.2 r
theorem OwC.acmp_eq {o : Int} {q' : Nat} {x y : Addr} (d : decode bytes pc = .ok (.if_acmp .eq o, 3)) (hp : 0 ≤ (pc : Int) + o ∧ ((pc : Int) + o).toNat = q') (hq : pc + 3 = q) (g1 : x = y → X.G h k n q' Ls st) (g0 : ¬ x = y → X.G h k n q Ls st) : X.G h k n pc Ls (.ref y :: .ref x :: st) := by
  subst hq
  by_cases hc : x = y
  · exact X.step (g1 hc) fun T _ Y t r => XT.acmpYes Y.here X.1 rfl rfl (X.hd d) rfl rfl rfl (by simp [XT.acmp, hc]) hp.1 hp.2 r
  · exact X.step (g0 hc) fun T _ Y t r => XT.acmpNo Y.here X.1 rfl (X.hd d) rfl rfl rfl (by simp [XT.acmp, hc]) r
/-! returns -/
theorem OwC.fin {v : Option Value} (hv : meth.sig.returnType = none → v = none) (w : ∀ T locs, Stand p l e R s m args below meth c T locs k n → ∀ fs, (∀ (f : JFrame) (acts : List Action), f.method = m → f.locked = none → f.entered = [] → (doReturn e (T.setTop f) acts v).1 = T.setFrames fs) → Steps p.tables e below (T.setTop (mkF m pc Ls st)) (T.setFrames fs)) (hk : k ≤ kM) (hn : n ≤ nM) (hΦ : Φ v h) : X.G h k n pc Ls st := fun T locs Y eT N => by
  obtain ⟨fs, hr, hrun, hended, hW, hsame⟩ := Y.leave (v := v) hv X.2.2.2.2.2.2.1
  exact ⟨v, _, locs, w T locs Y fs hr, hrun, hended, ⟨by show Φ v T.heap; rw [eT]; exact hΦ, N⟩, ⟨_, rfl⟩, hW, hsame.mono hk hn⟩
theorem OwC.retV (d : decode bytes pc = .ok (.return_, 1)) (hret : ret = none) (hk : k ≤ kM) (hn : n ≤ nM) (hΦ : Φ none h) : X.G h k n pc Ls [] :=
  X.fin (fun _ => rfl) (fun T _ Y fs hr => Y.returnOut X.1 (X.2.2.2.2.2.1.trans hret) (X.hd d) hr) hk hn hΦ
theorem OwC.retI {z : Int32} (d : decode bytes pc = .ok (.ireturn, 1)) (hret : ret = some .int) (hk : k ≤ kM) (hn : n ≤ nM) (hΦ : Φ (some (.int z)) h) : X.G h k n pc Ls (.int z :: st) :=
  X.fin (fun q => by rw [X.2.2.2.2.2.1, hret] at q; cases q) (fun T _ Y fs hr => retOut Y X.1 (X.2.2.2.2.2.1.trans hret) rfl (Or.inl ⟨rfl, Or.inl rfl, z, rfl⟩) (X.hd d) hr) hk hn hΦ
theorem OwC.retN {z z' : Int32} {t : FieldType} (d : decode bytes pc = .ok (.ireturn, 1)) (hret : ret = some t) (ht : t = .boolean ∨ t = .byte ∨ t = .char ∨ t = .short) (hz : nar t z = z') (hk : k ≤ kM) (hn : n ≤ nM) (hΦ : Φ (some (.int z')) h) : X.G h k n pc Ls (.int z :: st) := by
  subst hz
  exact X.fin (fun q => by rw [X.2.2.2.2.2.1, hret] at q; cases q) (fun T _ Y fs hr => RoadKit.retN Y X.1 (X.2.2.2.2.2.1.trans hret) ht (X.hd d) hr) hk hn hΦ
theorem OwC.retJ {z : Int64} (d : decode bytes pc = .ok (.lreturn, 1)) (hret : ret = some .long) (hk : k ≤ kM) (hn : n ≤ nM) (hΦ : Φ (some (.long z)) h) : X.G h k n pc Ls (.long z :: st) :=
  X.fin (fun q => by rw [X.2.2.2.2.2.1, hret] at q; cases q) (fun T _ Y fs hr => retOut Y X.1 (X.2.2.2.2.2.1.trans hret) rfl (Or.inr (Or.inl ⟨rfl, rfl, z, rfl⟩)) (X.hd d) hr) hk hn hΦ
theorem OwC.retA {v : Value} {t : FieldType} (d : decode bytes pc = .ok (.areturn, 1)) (hret : ret = some t) (ht : t.isReference = true) (hv : v.isRef = true) (hnv : narrow t v = v) (hk : k ≤ kM) (hn : n ≤ nM) (hΦ : Φ (some v) h) : X.G h k n pc Ls (v :: st) :=
  X.fin (fun q => by rw [X.2.2.2.2.2.1, hret] at q; cases q) (fun T _ Y fs hr => retOut Y X.1 (X.2.2.2.2.2.1.trans hret) hnv (Or.inr (Or.inr (Or.inr (Or.inr ⟨rfl, ht, hv⟩)))) (X.hd d) hr) hk hn hΦ
/-! the heap -/
theorem OwC.getF {R0 O fn d0 host : String} {i : Nat} {a : Addr} {v : Value} (w : (Cond.fieldLink own i R0 fn d0).before a0 Z = true ∨ (Cond.fieldLinkNest own i R0 fn d0 host).before a0 Z = true) (via : Via Z R0 O fn d0) (F : Fld Z h a O fn d0 v) (d : decode bytes pc = .ok (.getfield i, 3)) (hq : pc + 3 = q) (g : X.G h k n q Ls (v :: st)) : X.G h k n pc Ls (.ref a :: st) := fun T locs Y eT N => by
  subst hq
  obtain ⟨T', Y', eT', w'⟩ := RoadKit.getF Y X.1 X.2.2.2.2.1 X.2.2.2.1 w via eT F (g := mkF m pc Ls (.ref a :: st)) rfl rfl (X.hd d)
  obtain ⟨v, s₂, L, r1, r⟩ := g T' locs Y' eT' N
  exact ⟨v, s₂, L, w' _ r1, r⟩
theorem OwC.getS {R0 O fn d0 : String} {i : Nat} {v : Value} (w : (Cond.fieldLink own i R0 fn d0).before a0 Z = true) (via : Via Z R0 O fn d0) (F : Sta Z h O fn d0 v) (d : decode bytes pc = .ok (.getstatic i, 3)) (hq : pc + 3 = q) (g : X.G h k n q Ls (v :: st)) : X.G h k n pc Ls st := fun T locs Y eT N => by
  subst hq
  obtain ⟨T', Y', eT', w'⟩ := RoadKit.getS (host := "") Y X.1 X.2.2.2.2.1 X.2.2.2.1 w via eT F (g := mkF m pc Ls st) rfl (X.hd d)
  obtain ⟨v, s₂, L, r1, r⟩ := g T' locs Y' eT' N
  exact ⟨v, s₂, L, w' _ r1, r⟩
theorem OwC.putF {R0 O fn d0 host C : String} {i kk : Nat} {a : Addr} {v old : Value} {ty : FieldType} (w : (Cond.fieldLink own i R0 fn d0).before a0 Z = true ∨ (Cond.fieldLinkNest own i R0 fn d0 host).before a0 Z = true) (via : Via Z R0 O fn d0) (F : Fld Z h a O fn d0 old) (E : Exa Z h a C)
    (L : (Cond.lays C O fn d0).before a0 Z = true ∨ ((Cond.laysFinal C O fn d0).before a0 Z = true ∧ own = O ∧ nm = "<init>")) (wi : (Cond.instantiable C kk).before a0 Z = true) (hty : parseFieldDescriptor d0 = some ty) (hnv : narrow ty v = v) (hf : fits ty v = true) (ge : n0 ≤ a)
    (d : decode bytes pc = .ok (.putfield i, 3)) (hq : pc + 3 = q) (g : ∀ h', Wr h h' a (RoadKit.slotOf Z O fn d0) v → X.G h' k n q Ls st) : X.G h k n pc Ls (v :: .ref a :: st) := fun T locs Y eT N => by
  subst hq
  obtain ⟨T', h', Y', eT', W, w'⟩ := RoadKit.putF Y X.1 X.2.2.2.2.1 X.2.2.2.1 w via eT F E (L.imp_right fun z => ⟨z.1, z.2.1, X.2.2.2.2.2.2.2.trans z.2.2⟩) wi hty hnv hf (g := mkF m pc Ls (v :: .ref a :: st)) rfl rfl (X.hd d)
  obtain ⟨v, s₂, L, r1, r⟩ := g h' W T' _ Y' eT' (Fr.snoc Y' N ge)
  exact ⟨v, s₂, L, w' _ r1, r⟩
theorem OwC.newO {C : String} {i N k' n' : Nat} (w : (Cond.classLink own i C).before a0 Z = true) (wi : (Cond.instantiable C N).before a0 Z = true) (wz : (Cond.initialized C).before a0 Z = true) (d : decode bytes pc = .ok (.new i, 3)) (hk : k + 1 = k') (hn : n + N = n') (hc : k' ≤ R.cells) (hs : n' ≤ R.slots) (hq : pc + 3 = q)
    (g : ∀ h' a, a = h.size → Ext h h' → Exa Z h' a C → (∀ {O fn d0 : String} {ty : FieldType}, Laid Z a0 C O fn d0 → parseFieldDescriptor d0 = some ty → Fld Z h' a O fn d0 (defaultValue ty)) → X.G h' k' n' q Ls (.ref a :: st)) : X.G h k n pc Ls st := fun T locs Y eT Nf => by
  subst hq hk hn
  obtain ⟨T', h', Y', eT', E, A, D, -, w'⟩ := RoadKit.newO Y X.1 X.2.2.2.2.1 X.2.2.2.1 w wi wz eT (g := mkF m pc Ls st) rfl (X.hd d) hc hs
  obtain ⟨v, s₂, L, r1, r⟩ := g h' h.size rfl E A D T' _ Y' eT' Nf
  exact ⟨v, s₂, L, w' _ r1, r⟩
theorem OwC.initO {i W : Nat} {a : Addr} (w1 : (Cond.methodLink own i Lib.objectInit).before a0 Z = true) (w2 : (Cond.instanceMethod Lib.objectInit).before a0 Z = true) (w3 : (Cond.code Lib.objectInit ⟨#[0xb1]⟩ 1 none).before a0 Z = true) (d : decode bytes pc = .ok (.invokespecial i, 3)) (hsz : Ls.size = mL) (hf : 1 ≤ R.frames) (hW : (st.map fun v => v.category).sum ≤ W) (hl : W + 12 ≤ R.locals) (hq : pc + 3 = q)
    (g : X.G h k n q Ls st) : X.G h k n pc Ls (.ref a :: st) := fun T locs Y eT N => by
  subst hq
  obtain ⟨T', Y', eT', w'⟩ := RoadKit.initO Y X.1 X.2.2.2.2.1 X.2.2.2.1 w1 w2 w3 eT (g := mkF m pc Ls (.ref a :: st)) rfl (hsz.trans X.2.2.1.symm) rfl (X.hd d) hf (W := W) (by show 2 * 0 + _ ≤ _; omega) hl
  obtain ⟨v, s₂, L, r1, r⟩ := g T' locs Y' eT' N
  exact ⟨v, s₂, L, w' _ r1, r⟩
/-! arrays: what stands in one, as a list -/
def OwA (Z : State) (h : Heap) (a : Addr) (ty : FieldType) (vs : List Value) : Prop := ∃ cl : Cell, Arr Z h a cl ty ∧ cl.slots.toList = vs ∧ vs.length < 2 ^ 31
variable {a : Addr} {ty : FieldType} {vs : List Value}
theorem OwA.lt (A : OwA Z h a ty vs) : a < h.size := by obtain ⟨cl, A, -⟩ := A; exact A.lt
theorem OwA.len (A : OwA Z h a ty vs) : vs.length < 2 ^ 31 := by obtain ⟨cl, A, -, r⟩ := A; exact r
theorem OwA.ext {h' : Heap} (A : OwA Z h a ty vs) (E : Ext h h') : OwA Z h' a ty vs := by obtain ⟨cl, A, r⟩ := A; exact ⟨cl, A.ext E, r⟩
theorem OwA.other {h' : Heap} {b : Addr} {sl : Nat} {v : Value} (A : OwA Z h a ty vs) (W : Wr h h' b sl v) (ne : a ≠ b) : OwA Z h' a ty vs := by obtain ⟨cl, A, r⟩ := A; exact ⟨cl, A.other W ne, r⟩
theorem OwA.keep {h' : Heap} {ws : List Addr} (A : OwA Z h a ty vs) (K : Keep h h' ws) (ni : a ∉ ws) : OwA Z h' a ty vs := by obtain ⟨cl, A, r⟩ := A; exact ⟨cl, ⟨K.2.1 a cl A.1 ni, A.2⟩, r⟩
theorem OwA.set {h' : Heap} {j : Nat} {v : Value} (A : OwA Z h a ty vs) (W : Wr h h' a j v) : OwA Z h' a ty (vs.set j v) := by
  obtain ⟨cl, A, r1, r2⟩ := A
  exact ⟨cl.setSlot j v, A.same W, by simp [Cell.setSlot, r1], by simpa using r2⟩
theorem ow_idx {i : Int32} {j : Nat} (hi : i.toInt = (j : Int)) : ¬ i < 0 ∧ i.toNatClampNeg = j := by
  refine ⟨?_, ?_⟩
  · rw [Int32.lt_iff_toInt_lt]; have : (0 : Int32).toInt = 0 := rfl; omega
  · have : i.toNatClampNeg = i.toInt.toNat := rfl
    omega
theorem OwA.inb {cl : Cell} {i : Int32} {j : Nat} (e : cl.slots.toList = vs) (hi : i.toInt = (j : Int)) (hj : j < vs.length) : ¬ (i < 0 ∨ cl.slots.size ≤ i.toNatClampNeg) := by
  obtain ⟨h1, h2⟩ := ow_idx hi
  have : cl.slots.size = vs.length := by rw [← e]; simp
  rintro (q | q)
  · exact h1 q
  · omega
theorem OwA.at {cl : Cell} {i : Int32} {j : Nat} {v : Value} (e : cl.slots.toList = vs) (hi : i.toInt = (j : Int)) (hv : vs[j]? = some v) : cl.slots[i.toNatClampNeg]? = some v := by
  rw [(ow_idx hi).2, ← hv, ← e]; simp
theorem ow_getlt {j : Nat} {v : Value} (hv : vs[j]? = some v) : j < vs.length := (List.getElem?_eq_some_iff.mp hv).1
theorem OwC.newP {aty : ArrayType} {z : Int32} {N k' n' : Nat} (w : (Cond.arrayClass (newarray.typeOf aty)).before a0 Z = true) (d : decode bytes pc = .ok (.newarray aty, 2)) (ht : newarray.typeOf aty = ty) (hz : z.toInt = (N : Int)) {cap : Nat} (hcap : N ≤ cap) (hb : cap * 8 ≤ 536870912) (hk : k + 1 = k') (hn : n + cap = n') (hc : k' ≤ R.cells) (hs : n' ≤ R.slots) (hq : pc + 2 = q)
    (g : ∀ h' a, a = h.size → Ext h h' → OwA Z h' a ty (List.replicate N (defaultValue ty)) → X.G h' k' n' q Ls (.ref a :: st)) : X.G h k n pc Ls (.int z :: st) := fun T locs Y eT Nf => by
  subst hq hk hn ht
  obtain ⟨z1, z2⟩ := ow_idx hz
  obtain ⟨T', h', cA, Y', eT', E, A, w'⟩ := RoadKit.newP Y X.1 X.2.2.2.2.1 w eT (g := mkF m pc Ls (.int z :: st)) rfl (X.hd d) rfl z1 (cap := cap) (by omega) hb hc hs
  obtain ⟨v, s₂, L, r1, r⟩ := g h' h.size rfl E ⟨_, A, by simp [newA, z2], by have := z.toInt_lt; simp; omega⟩ T' _ Y' eT' Nf
  exact ⟨v, s₂, L, w' _ r1, r⟩
theorem OwC.alen {z : Int32} (A : OwA Z h a ty vs) (hz : z.toInt = (vs.length : Int)) (d : decode bytes pc = .ok (.arraylength, 1)) (hq : pc + 1 = q) (g : X.G h k n q Ls (.int z :: st)) : X.G h k n pc Ls (.ref a :: st) := fun T locs Y eT N => by
  subst hq
  obtain ⟨cl, A, e, hl⟩ := A
  obtain ⟨v, s₂, L, r1, r⟩ := g T locs Y eT N
  have hsz : cl.slots.size = vs.length := by rw [← e]; simp
  have ez : cl.slots.size.toInt32 = z := by rw [hsz, ← Int32.toInt_inj, len_toInt hl, hz]
  exact ⟨v, s₂, L, Y.arraylength X.1 (by rw [eT]; exact A.1) (State.isArrayOf_alike X.2.2.2.2.1.alike A.2.1) (g := mkF m pc Ls (.ref a :: st)) rfl rfl (X.hd d) _ (by rw [ez]; exact r1), r⟩
theorem OwC.iaload {i : Int32} {j : Nat} {v : Value} (A : OwA Z h a .int vs) (hi : i.toInt = (j : Int)) (hv : vs[j]? = some v) (d : decode bytes pc = .ok (.iaload, 1)) (hq : pc + 1 = q) (g : X.G h k n q Ls (v :: st)) : X.G h k n pc Ls (.int i :: .ref a :: st) := fun T locs Y eT N => by
  subst hq
  obtain ⟨cl, A, e, -⟩ := A
  obtain ⟨v, s₂, L, r1, r⟩ := g T locs Y eT N
  exact ⟨v, s₂, L, Y.iaload X.1 (by rw [eT]; exact A.1) (State.isArrayOf_alike X.2.2.2.2.1.alike A.2.1) A.2.2 (OwA.inb e hi (ow_getlt hv)) (OwA.at e hi hv) (g := mkF m pc Ls (.int i :: .ref a :: st)) rfl rfl (X.hd d) _ r1, r⟩
theorem OwC.laload {i : Int32} {j : Nat} {v : Value} (A : OwA Z h a .long vs) (hi : i.toInt = (j : Int)) (hv : vs[j]? = some v) (d : decode bytes pc = .ok (.laload, 1)) (hq : pc + 1 = q) (g : X.G h k n q Ls (v :: st)) : X.G h k n pc Ls (.int i :: .ref a :: st) := fun T locs Y eT N => by
  subst hq
  obtain ⟨cl, A, e, -⟩ := A
  obtain ⟨v, s₂, L, r1, r⟩ := g T locs Y eT N
  exact ⟨v, s₂, L, Y.laload X.1 (by rw [eT]; exact A.1) (State.isArrayOf_alike X.2.2.2.2.1.alike A.2.1) A.2.2 (OwA.inb e hi (ow_getlt hv)) (OwA.at e hi hv) (g := mkF m pc Ls (.int i :: .ref a :: st)) rfl rfl (X.hd d) _ r1, r⟩
theorem OwC.baload {i : Int32} {j : Nat} {v : Value} (A : OwA Z h a .byte vs) (hi : i.toInt = (j : Int)) (hv : vs[j]? = some v) (d : decode bytes pc = .ok (.baload, 1)) (hq : pc + 1 = q) (g : X.G h k n q Ls (v :: st)) : X.G h k n pc Ls (.int i :: .ref a :: st) := fun T locs Y eT N => by
  subst hq
  obtain ⟨cl, A, e, -⟩ := A
  obtain ⟨v, s₂, L, r1, r⟩ := g T locs Y eT N
  exact ⟨v, s₂, L, Y.baloadBytes X.1 (by rw [eT]; exact A.1) (State.isArrayOf_alike X.2.2.2.2.1.alike A.2.1) A.2.2 (OwA.inb e hi (ow_getlt hv)) (OwA.at e hi hv) (g := mkF m pc Ls (.int i :: .ref a :: st)) rfl rfl (X.hd d) _ r1, r⟩
theorem OwC.caload {i : Int32} {j : Nat} {v : Value} (A : OwA Z h a .char vs) (hi : i.toInt = (j : Int)) (hv : vs[j]? = some v) (d : decode bytes pc = .ok (.caload, 1)) (hq : pc + 1 = q) (g : X.G h k n q Ls (v :: st)) : X.G h k n pc Ls (.int i :: .ref a :: st) := fun T locs Y eT N => by
  subst hq
  obtain ⟨cl, A, e, -⟩ := A
  obtain ⟨v, s₂, L, r1, r⟩ := g T locs Y eT N
  exact ⟨v, s₂, L, Y.caload X.1 (by rw [eT]; exact A.1) (State.isArrayOf_alike X.2.2.2.2.1.alike A.2.1) A.2.2 (OwA.inb e hi (ow_getlt hv)) (OwA.at e hi hv) (g := mkF m pc Ls (.int i :: .ref a :: st)) rfl rfl (X.hd d) _ r1, r⟩
theorem OwC.iastore {i : Int32} {j : Nat} {x : Int32} (A : OwA Z h a .int vs) (hi : i.toInt = (j : Int)) (hj : j < vs.length) (ge : n0 ≤ a) (d : decode bytes pc = .ok (.iastore, 1)) (hq : pc + 1 = q) (g : ∀ h', Wr h h' a j (.int x) → OwA Z h' a .int (vs.set j (.int x)) → X.G h' k n q Ls st) : X.G h k n pc Ls (.int x :: .int i :: .ref a :: st) := fun T locs Y eT N => by
  subst hq
  obtain ⟨cl, A1, e, hl⟩ := id A
  obtain ⟨T', h', Y', eT', W, w'⟩ := RoadKit.stI Y X.1 X.2.2.2.2.1 eT A1 (OwA.inb e hi hj) (g := mkF m pc Ls (.int x :: .int i :: .ref a :: st)) rfl rfl (X.hd d)
  have N' := Fr.snoc Y' N ge
  rw [(ow_idx hi).2] at W
  obtain ⟨v, s₂, L, r1, r⟩ := g h' W (A.set W) T' _ Y' eT' N'
  exact ⟨v, s₂, L, w' _ r1, r⟩
theorem OwC.lastore {i : Int32} {j : Nat} {x : Int64} (A : OwA Z h a .long vs) (hi : i.toInt = (j : Int)) (hj : j < vs.length) (ge : n0 ≤ a) (d : decode bytes pc = .ok (.lastore, 1)) (hq : pc + 1 = q) (g : ∀ h', Wr h h' a j (.long x) → OwA Z h' a .long (vs.set j (.long x)) → X.G h' k n q Ls st) : X.G h k n pc Ls (.long x :: .int i :: .ref a :: st) := fun T locs Y eT N => by
  subst hq
  obtain ⟨cl, A1, e, hl⟩ := id A
  obtain ⟨T', h', Y', eT', W, w'⟩ := RoadKit.stJ Y X.1 X.2.2.2.2.1 eT A1 (OwA.inb e hi hj) (g := mkF m pc Ls (.long x :: .int i :: .ref a :: st)) rfl rfl (X.hd d)
  have N' := Fr.snoc Y' N ge
  rw [(ow_idx hi).2] at W
  obtain ⟨v, s₂, L, r1, r⟩ := g h' W (A.set W) T' _ Y' eT' N'
  exact ⟨v, s₂, L, w' _ r1, r⟩
theorem OwC.bastore {i : Int32} {j : Nat} {x : Int32} (A : OwA Z h a .byte vs) (hi : i.toInt = (j : Int)) (hj : j < vs.length) (ge : n0 ≤ a) (d : decode bytes pc = .ok (.bastore, 1)) (hq : pc + 1 = q) (g : ∀ h', Wr h h' a j (.int (nar .byte x)) → OwA Z h' a .byte (vs.set j (.int (nar .byte x))) → X.G h' k n q Ls st) : X.G h k n pc Ls (.int x :: .int i :: .ref a :: st) := fun T locs Y eT N => by
  subst hq
  obtain ⟨cl, A1, e, hl⟩ := id A
  obtain ⟨T', h', Y', eT', W, w'⟩ := RoadKit.stB Y X.1 X.2.2.2.2.1 eT A1 (OwA.inb e hi hj) (g := mkF m pc Ls (.int x :: .int i :: .ref a :: st)) rfl rfl (X.hd d)
  have N' := Fr.snoc Y' N ge
  rw [(ow_idx hi).2] at W
  obtain ⟨v, s₂, L, r1, r⟩ := g h' W (A.set W) T' _ Y' eT' N'
  exact ⟨v, s₂, L, w' _ r1, r⟩
theorem OwC.castore {i : Int32} {j : Nat} {x : Int32} (A : OwA Z h a .char vs) (hi : i.toInt = (j : Int)) (hj : j < vs.length) (ge : n0 ≤ a) (d : decode bytes pc = .ok (.castore, 1)) (hq : pc + 1 = q) (g : ∀ h', Wr h h' a j (.int (nar .char x)) → OwA Z h' a .char (vs.set j (.int (nar .char x))) → X.G h' k n q Ls st) : X.G h k n pc Ls (.int x :: .int i :: .ref a :: st) := fun T locs Y eT N => by
  subst hq
  obtain ⟨cl, A1, e, hl⟩ := id A
  obtain ⟨T', h', Y', eT', W, w'⟩ := RoadKit.stC Y X.1 X.2.2.2.2.1 eT A1 (OwA.inb e hi hj) (g := mkF m pc Ls (.int x :: .int i :: .ref a :: st)) rfl rfl (X.hd d)
  have N' := Fr.snoc Y' N ge
  rw [(ow_idx hi).2] at W
  obtain ⟨v, s₂, L, r1, r⟩ := g h' W (A.set W) T' _ Y' eT' N'
  exact ⟨v, s₂, L, w' _ r1, r⟩
/-! contracts and calls -/
def OwM (l : Launch) (Z : State) (y : MethodName) (bytes : ByteArray) (mL : Nat) (ret : Option FieldType) (rm : Room) (kM nM : Nat) (ws : List Cond) (as : Array Value) (h0 : Heap) (n0 : Nat) (Φ : Option Value → Heap → Prop) : Prop :=
  MetFree l y (head1 (Cond.code y bytes mL ret :: ws) rm) (fun a U => a = as ∧ Z.Warmed39 U.vm ∧ U.heap = h0) (fun _ _ _ _ _ => True) (fun _ U o U' => ∃ v L, o = .returned v ∧ (Φ v U'.heap ∧ Fr n0 L) ∧ FrameEnd U o U' L kM nM)
theorem OwM.of {y : MethodName} {rm : Room} {ws : List Cond} {as : Array Value} {h0 : Heap} (hpn : plainFor y = true) (hef : ∀ m, entryFrame m as mL = mkF m 0 Ls [])
    (body : ∀ p e s m below meth c (X : OwC p l e rm s m as below meth c Z y.cls y.name bytes mL ret n0 kM nM Φ), X.G h0 0 0 0 Ls []) : OwM l Z y bytes mL ret rm kM nM ws as h0 n0 Φ := by
  refine MetFree.of_bodySF hpn hisR ?_
  intro p e s m args below meth c s₁ Bd hml0 hP hK
  obtain ⟨rfl, hZ, hh⟩ := hP
  have X : OwC p l e rm s m args below meth c Z y.cls y.name bytes mL ret n0 kM nM Φ := ⟨Bd.exec, Bd.bytes, hml0, findClass_of_methodNamed Bd.named, hZ, Bd.returns, Bd.notSynchronized, (name_of_methodNamed Bd.named Bd.method).1⟩
  obtain ⟨v, s₂, L, r1, r2, r3, r4, r5⟩ := body p e s m below meth c X s₁ [] (Stand.of_body Bd) (by rw [← hh, Bd.state]; rfl) (Fr.nil n0)
  exact ⟨s₂, _, castTop (hef m) r1, r2, r3, v, L, rfl, r4, r5⟩
variable {y : MethodName} {by' : ByteArray} {mL' : Nat} {ret' : Option FieldType} {rm : Room} {as : Array Value} {Ψ : Option Value → Heap → Prop}
theorem OwC.back (X : OwC p l e R s m args below meth c Z own nm bytes mL ret n0 kM nM Φ) {len W : Nat} (K : OwM l Z y by' mL' ret' rm rm.cells rm.slots [] as h n0 Ψ) (wc : (Cond.code y by' mL' ret').before a0 Z = true) (wz : (Cond.initialized y.cls).before a0 Z = true) (hf : rm.frames + 1 ≤ R.frames) (hl : W + (mL' + 11) + rm.locals ≤ R.locals) :
    Back l R p e below s args y len W (fun A a => a = as ∧ A.U.heap = h ∧ A.cells + rm.cells ≤ R.cells ∧ A.slots + rm.slots ≤ R.slots)
      (fun A _ v B => ∃ L, (Ψ v B.U.heap ∧ Fr n0 L) ∧ B.locs = A.locs ++ L ∧ B.cells = A.cells + rm.cells ∧ B.slots = A.slots + rm.slots) :=
  backOf (Q := fun v h L => Ψ v h ∧ Fr n0 L) K X.2.2.2.2.1 wc wz hf hl
theorem OwC.callS {i W k' n' : Nat} {argsL : List Value} {ps : List FieldType} {rt : Option FieldType} (K : OwM l Z y by' mL' ret' rm rm.cells rm.slots [] as h n0 Ψ) (w1 : (Cond.methodLink own i y).before a0 Z = true) (w2 : (Cond.static y).before a0 Z = true) (w3 : (Cond.initialized y.cls).before a0 Z = true) (w4 : (Cond.code y by' mL' ret').before a0 Z = true) (hy : y.cls ≠ "java/lang/invoke/MethodHandle" ∧ y.cls ≠ "java/lang/invoke/VarHandle")
    (pd : parseMethodDescriptor y.desc = some ⟨ps, rt⟩) (hlen : argsL.length = ps.length) (has : argsL.toArray = as) (hst : st = argsL.reverse ++ rest) (hW : (rest.map fun v => v.category).sum ≤ W) (hsz : Ls.size = mL) (hf : rm.frames + 1 ≤ R.frames) (hl : W + (mL' + 11) + rm.locals ≤ R.locals) (hk : k + rm.cells = k') (hn : n + rm.slots = n') (hc : k' ≤ R.cells) (hs : n' ≤ R.slots)
    (d : decode bytes pc = .ok (.invokestatic i, 3)) (hq : pc + 3 = q) (g : ∀ v h', Ψ v h' → X.G h' k' n' q Ls (v.toList ++ rest)) : X.G h k n pc Ls st := fun T locs Y eT N => by
  subst hq hk hn has
  obtain ⟨v, vm1, B, -, Y', ⟨L0, ⟨hΨ, N0⟩, l1, l2, l3⟩, w'⟩ := Jvm.LawKit.callS Y X.1 (y := y) X.2.2.2.1 (mvT X.2.2.2.2.1 w1) (mvT X.2.2.2.2.1 w2) (mvT X.2.2.2.2.1 w3) (mvT X.2.2.2.2.1 w4) hy (X.back K w4 w3 hf hl) (g := mkF m pc Ls st) rfl (hsz.trans X.2.2.1.symm) (argsL := argsL) (rest := rest) (lenOf pd hlen) hst (by show 2 * 0 + _ ≤ _; omega) (X.hd d) (fun _ _ => ⟨rfl, eT, hc, hs⟩)
  obtain ⟨T', L', k', n'⟩ := B
  dsimp only [Pt.U, Pt.locs, Pt.cells, Pt.slots] at Y' l1 l2 l3 w' hΨ
  subst l1 l2 l3
  obtain ⟨v, s₂, L, r1, r⟩ := g v _ hΨ T' _ Y' rfl (N.app N0)
  exact ⟨v, s₂, L, w' _ r1, r⟩
theorem OwC.special {i W k' n' : Nat} {a : Addr} {argsL : List Value} {ps : List FieldType} {rt : Option FieldType} (K : OwM l Z y by' mL' none rm rm.cells rm.slots [] as h n0 Ψ) (hin : y.name = "<init>") (w1 : (Cond.methodLink own i y).before a0 Z = true) (w2 : (Cond.instanceMethod y).before a0 Z = true) (w3 : (Cond.initialized y.cls).before a0 Z = true) (w4 : (Cond.code y by' mL' none).before a0 Z = true) (hy : y.cls ≠ "java/lang/invoke/MethodHandle" ∧ y.cls ≠ "java/lang/invoke/VarHandle")
    (pd : parseMethodDescriptor y.desc = some ⟨ps, rt⟩) (hlen : argsL.length = ps.length) (has : (.ref a :: argsL).toArray = as) (hst : st = argsL.reverse ++ .ref a :: rest) (hW : (rest.map fun v => v.category).sum ≤ W) (hsz : Ls.size = mL) (hf : rm.frames + 1 ≤ R.frames) (hl : W + (mL' + 11) + rm.locals ≤ R.locals) (hk : k + rm.cells = k') (hn : n + rm.slots = n') (hc : k' ≤ R.cells) (hs : n' ≤ R.slots)
    (d : decode bytes pc = .ok (.invokespecial i, 3)) (hq : pc + 3 = q) (g : ∀ v h', Ψ v h' → X.G h' k' n' q Ls (v.toList ++ rest)) : X.G h k n pc Ls st := fun T locs Y eT N => by
  subst hq hk hn has
  obtain ⟨v, vm1, B, -, Y', ⟨L0, ⟨hΨ, N0⟩, l1, l2, l3⟩, w'⟩ := Y.specialBack X.1 (y := y) hin X.2.2.2.1 (mvT X.2.2.2.2.1 w1) (mvT X.2.2.2.2.1 w2) (mvT X.2.2.2.2.1 w4) hy (X.back K w4 w3 hf hl) (g := mkF m pc Ls st) rfl (hsz.trans X.2.2.1.symm) (Steps.refl _) (a := a) (argsL := argsL) (rest := rest) (lenOf pd hlen) hst (by show 2 * 0 + _ ≤ _; omega) (X.hd d) (fun _ _ => ⟨rfl, eT, hc, hs⟩)
  obtain ⟨T', L', k', n'⟩ := B
  dsimp only [Pt.U, Pt.locs, Pt.cells, Pt.slots] at Y' l1 l2 l3 w' hΨ
  subst l1 l2 l3
  obtain ⟨v, s₂, L, r1, r⟩ := g v _ hΨ T' _ Y' rfl (N.app N0)
  exact ⟨v, s₂, L, w'.trans r1, r⟩
theorem OwC.virtual {C : String} {i W k' n' : Nat} {a : Addr} {argsL : List Value} {ps : List FieldType} {rt : Option FieldType} (K : OwM l Z y by' mL' ret' rm rm.cells rm.slots [] as h n0 Ψ) (w1 : (Cond.methodLink own i y).before a0 Z = true) (w2 : (Cond.declares y).before a0 Z = true) (w5 : (Cond.selects C y y).before a0 Z = true) (w6 : (Cond.instanceMethod y).before a0 Z = true) (w3 : (Cond.initialized y.cls).before a0 Z = true) (w4 : (Cond.code y by' mL' ret').before a0 Z = true) (hy : y.cls ≠ "java/lang/invoke/MethodHandle" ∧ y.cls ≠ "java/lang/invoke/VarHandle") (E : Exa Z h a C)
    (pd : parseMethodDescriptor y.desc = some ⟨ps, rt⟩) (hlen : argsL.length = ps.length) (has : (.ref a :: argsL).toArray = as) (hst : st = argsL.reverse ++ .ref a :: rest) (hW : (rest.map fun v => v.category).sum ≤ W) (hsz : Ls.size = mL) (hf : rm.frames + 1 ≤ R.frames) (hl : W + (mL' + 11) + rm.locals ≤ R.locals) (hk : k + rm.cells = k') (hn : n + rm.slots = n') (hc : k' ≤ R.cells) (hs : n' ≤ R.slots)
    (d : decode bytes pc = .ok (.invokevirtual i, 3)) (hq : pc + 3 = q) (g : ∀ v h', Ψ v h' → X.G h' k' n' q Ls (v.toList ++ rest)) : X.G h k n pc Ls st := fun T locs Y eT N => by
  subst hq hk hn has
  obtain ⟨cB, kB, q1, q2, q3⟩ := isOf (T := T) X.2.2.2.2.1 eT E
  obtain ⟨v, vm1, B, -, Y', ⟨L0, ⟨hΨ, N0⟩, l1, l2, l3⟩, w'⟩ := Y.virtualBack X.1 (y := y) (z := y) X.2.2.2.1 (mvT X.2.2.2.2.1 w1) (mvT X.2.2.2.2.1 w2) (notFace_of_selects (args := #[]) (mvT X.2.2.2.2.1 w5)) (mvT X.2.2.2.2.1 w5) (mvT X.2.2.2.2.1 w6) hy (X.back K w4 w3 hf hl) q1 q3 (g := mkF m pc Ls st) rfl (hsz.trans X.2.2.1.symm) (Steps.refl _) (argsL := argsL) (rest := rest) (lenOf pd hlen) hst (by show 2 * 0 + _ ≤ _; omega) (X.hd d) (fun _ _ => ⟨rfl, eT, hc, hs⟩)
  obtain ⟨T', L', k', n'⟩ := B
  dsimp only [Pt.U, Pt.locs, Pt.cells, Pt.slots] at Y' l1 l2 l3 w' hΨ
  subst l1 l2 l3
  obtain ⟨v, s₂, L, r1, r⟩ := g v _ hΨ T' _ Y' rfl (N.app N0)
  exact ⟨v, s₂, L, w'.trans r1, r⟩
end OwKit
/-! numbers -/
theorem own_ofNat {c : Int32} (h1 : 0 ≤ c.toInt) (h2 : c.toInt < 2147483648) : c = Int32.ofNat c.toInt.toNat := by
  rw [← Int32.toInt_inj, Int32.toInt_ofNat_small (by omega)]; omega
theorem own_natInt (x : Int32) : x.toInt = if x.toBitVec.toNat < 2147483648 then (x.toBitVec.toNat : Int) else (x.toBitVec.toNat : Int) - 4294967296 := by
  show x.toBitVec.toInt = _
  rw [BitVec.toInt_eq_toNat_cond]
  split <;> split <;> omega
theorem own_c16 (x : Int32) : x.toUInt32.toUInt16.toUInt32.toInt32.toInt = x.toInt % 65536 := by
  have e : x.toUInt32.toUInt16.toUInt32.toInt32.toBitVec.toNat = x.toBitVec.toNat % 65536 := rfl
  have h1 := own_natInt x.toUInt32.toUInt16.toUInt32.toInt32
  have h2 := own_natInt x
  have h3 := x.toBitVec.isLt
  rw [e] at h1
  split at h1 <;> split at h2 <;> omega

theorem own_sub {x y : Int32} {b : Int} (hy : y.toInt = b) (h1 : -2147483648 ≤ x.toInt - b) (h2 : x.toInt - b < 2147483648) : (x - y).toInt = x.toInt - b := by
  subst hy; rw [Int32.toInt_sub]; exact Int.bmod_eq_of_le (by omega) (by omega)
theorem own_add {x y : Int32} {b : Int} (hy : y.toInt = b) (h1 : -2147483648 ≤ x.toInt + b) (h2 : x.toInt + b < 2147483648) : (x + y).toInt = x.toInt + b := by
  subst hy; rw [Int32.toInt_add]; exact Int.bmod_eq_of_le (by omega) (by omega)
theorem own_nor32 (n : Nat) : n ||| 32 = n + 32 * (1 - n / 32 % 2) := by
  have h1 : (n ||| 32) / 64 = n / 64 := by
    have := Nat.or_div_two_pow (a := n) (b := 32) (n := 6)
    simpa using this
  have h2 : (n ||| 32) % 64 = (n % 64) ||| 32 := by
    have := Nat.or_mod_two_pow (a := n) (b := 32) (n := 6)
    simpa using this
  have key : ∀ k : Fin 64, k.val ||| 32 = k.val + 32 * (1 - k.val / 32 % 2) := by decide
  have h3 := key ⟨n % 64, Nat.mod_lt _ (by omega)⟩
  simp only at h3
  rw [h3] at h2
  omega
theorem own_or32 (c : Int32) (h0 : 0 ≤ c.toInt) : (c ||| 32).toInt = c.toInt + 32 * (1 - c.toInt / 32 % 2) := by
  have e : (c ||| 32).toBitVec.toNat = c.toBitVec.toNat ||| 32 := rfl
  have h1 := own_natInt (c ||| 32)
  have h2 := own_natInt c
  have h3 := c.toBitVec.isLt
  rw [e, own_nor32] at h1
  split at h1 <;> split at h2 <;> omega

theorem own_d_prog_3_method_1_0 : decode prog_3_method_1_code 0 = .ok (.aload_n 0, 1) := by decide +kernel
theorem own_d_prog_3_method_1_1 : decode prog_3_method_1_code 1 = .ok (.invokespecial 1, 3) := by decide +kernel
theorem own_d_prog_3_method_1_4 : decode prog_3_method_1_code 4 = .ok (.aload_n 0, 1) := by decide +kernel
theorem own_d_prog_3_method_1_5 : decode prog_3_method_1_code 5 = .ok (.bipush 16, 2) := by decide +kernel
theorem own_d_prog_3_method_1_7 : decode prog_3_method_1_code 7 = .ok (.newarray .int, 2) := by decide +kernel
theorem own_d_prog_3_method_1_9 : decode prog_3_method_1_code 9 = .ok (.putfield 7, 3) := by decide +kernel
theorem own_d_prog_3_method_1_12 : decode prog_3_method_1_code 12 = .ok (.return_, 1) := by decide +kernel
def own_rm_own_init : Room := ({ frames := 1, cells := 1, slots := 16, locals := 13 } : Room)
set_option maxRecDepth 65536 in
set_option maxHeartbeats 1000000 in
theorem own_init (l : Launch) (Z : State) (a0 : Array Value) (hw : ∀ d ∈ tables_1, d.before a0 Z = true) (h : Heap) (n0 : Nat) (a : Addr)  (hn0 : n0 ≤ h.size) (B : Exa Z h a "com/example/vireo/vireo/cli/IntList") (F1 : Fld Z h a "com/example/vireo/vireo/cli/IntList" "values" "[I" .null) (F2 : Fld Z h a "com/example/vireo/vireo/cli/IntList" "size" "I" (.int (0 : Int32))) (gea : n0 ≤ a) :
    OwM l Z (⟨"com/example/vireo/vireo/cli/IntList", "<init>", "()V"⟩ : MethodName) prog_3_method_1_code 1 none own_rm_own_init 1 16 [] #[(.ref a)] h n0 (fun r h' => r = none ∧ ∃ b, Keep h h' [a] ∧ h.size ≤ b ∧ Fld Z h' a "com/example/vireo/vireo/cli/IntList" "values" "[I" (.ref b) ∧ Fld Z h' a "com/example/vireo/vireo/cli/IntList" "size" "I" (.int (0 : Int32)) ∧ OwA Z h' b .int [(.int (0 : Int32)), (.int (0 : Int32)), (.int (0 : Int32)), (.int (0 : Int32)), (.int (0 : Int32)), (.int (0 : Int32)), (.int (0 : Int32)), (.int (0 : Int32)), (.int (0 : Int32)), (.int (0 : Int32)), (.int (0 : Int32)), (.int (0 : Int32)), (.int (0 : Int32)), (.int (0 : Int32)), (.int (0 : Int32)), (.int (0 : Int32))]) := by
  refine OwM.of (Ls := #[.val (.ref a)]) (by decide +kernel) (fun m => by first | (simp [entryFrame, mkF, argsToLocals, Value.category]; done) | rfl) ?_
  intro _ _ _ _ _ _ _ X
  have K0 : Keep h h [a] := Keep.refl _ _
  refine X.aloadN (q := 1) own_d_prog_3_method_1_0 rfl rfl rfl ?_
  refine X.initO (q := 4) (W := 0) (hw _ (List.mem_of_getElem? (i := 6) rfl)) (hw _ (List.mem_of_getElem? (i := 7) rfl)) (hw _ (List.mem_of_getElem? (i := 8) rfl)) own_d_prog_3_method_1_1 rfl (by decide) (Nat.le_of_eq rfl) (by decide) rfl ?_
  refine X.aloadN (q := 5) own_d_prog_3_method_1_4 rfl rfl rfl ?_
  refine X.bipush (q := 7) (16 : Int32) own_d_prog_3_method_1_5 (by decide) rfl ?_
  refine X.newP (q := 9) (ty := .int) (N := 16) (cap := 16) (k' := 1) (n' := 16) (hw _ (List.mem_of_getElem? (i := 9) rfl)) own_d_prog_3_method_1_7 rfl rfl (Nat.le_refl _) (by decide) rfl rfl (by decide) (by decide) rfl (fun h1 a2 ga2 Eh1 Aa2 => ?_)
  have la_a2 : a < a2 := by have := B.lt; rw [← ga2] at this; exact this
  have B'h1 : Exa Z h1 a "com/example/vireo/vireo/cli/IntList" := Exa.ext Eh1 B
  have F1'h1 : Fld Z h1 a "com/example/vireo/vireo/cli/IntList" "values" "[I" .null := Fld.ext Eh1 F1
  have F2'h1 : Fld Z h1 a "com/example/vireo/vireo/cli/IntList" "size" "I" (.int (0 : Int32)) := Fld.ext Eh1 F2
  have gea2 : n0 ≤ a2 := by rw [ga2]; exact hn0
  have hsh1 : n0 ≤ h1.size := Nat.le_trans hn0 Eh1.1
  have fra2 : h.size ≤ a2 := by rw [ga2]; exact K0.1
  have Kh1 : Keep h h1 [a] := Keep.ext K0 Eh1
  have Aa2 : OwA Z h1 a2 .int [(.int (0 : Int32)), (.int (0 : Int32)), (.int (0 : Int32)), (.int (0 : Int32)), (.int (0 : Int32)), (.int (0 : Int32)), (.int (0 : Int32)), (.int (0 : Int32)), (.int (0 : Int32)), (.int (0 : Int32)), (.int (0 : Int32)), (.int (0 : Int32)), (.int (0 : Int32)), (.int (0 : Int32)), (.int (0 : Int32)), (.int (0 : Int32))] := Aa2
  refine X.putF (q := 12) (host := "") (Or.inl (hw _ (List.mem_of_getElem? (i := 10) rfl))) Via.refl F1'h1 B'h1 (Or.inl (hw _ (List.mem_of_getElem? (i := 11) rfl))) (hw _ (List.mem_of_getElem? (i := 1) rfl)) (ty := (.array .int)) (by decide) rfl rfl gea own_d_prog_3_method_1_9 rfl (fun h3 Wh3 => ?_)
  have B'h3 : Exa Z h3 a "com/example/vireo/vireo/cli/IntList" := Exa.wr Wh3 B'h1
  have F1'h3 : Fld Z h3 a "com/example/vireo/vireo/cli/IntList" "values" "[I" (.ref a2) := Fld.same Wh3 F1'h1
  have F2'h3 : Fld Z h3 a "com/example/vireo/vireo/cli/IntList" "size" "I" (.int (0 : Int32)) := Fld.other Wh3 F2'h1 (Or.inr (slot_ne (Or.inl (hw _ (List.mem_of_getElem? (i := 18) rfl))) (Or.inl (hw _ (List.mem_of_getElem? (i := 11) rfl))) (by decide) (ht := (by decide : _ = some .int)) (ht' := (by decide : _ = some (.array .int)))))
  have Aa2'h3 : OwA Z h3 a2 .int [(.int (0 : Int32)), (.int (0 : Int32)), (.int (0 : Int32)), (.int (0 : Int32)), (.int (0 : Int32)), (.int (0 : Int32)), (.int (0 : Int32)), (.int (0 : Int32)), (.int (0 : Int32)), (.int (0 : Int32)), (.int (0 : Int32)), (.int (0 : Int32)), (.int (0 : Int32)), (.int (0 : Int32)), (.int (0 : Int32)), (.int (0 : Int32))] := OwA.other Aa2 Wh3 (Nat.ne_of_gt la_a2)
  have hsh3 : n0 ≤ h3.size := by rw [Wr.size Wh3]; exact hsh1
  have Kh3 : Keep h h3 [a] := Keep.wr Kh1 Wh3 (Or.inl (List.mem_of_getElem? (i := 0) rfl))
  refine X.retV own_d_prog_3_method_1_12 rfl (by decide) (by decide) ?_
  exact ⟨rfl, a2, Kh3, fra2, F1'h3, F2'h3, Aa2'h3⟩
theorem own_d_prog_3_method_2_0 : decode prog_3_method_2_code 0 = .ok (.aload_n 0, 1) := by decide +kernel
theorem own_d_prog_3_method_2_1 : decode prog_3_method_2_code 1 = .ok (.getfield 13, 3) := by decide +kernel
theorem own_d_prog_3_method_2_4 : decode prog_3_method_2_code 4 = .ok (.aload_n 0, 1) := by decide +kernel
theorem own_d_prog_3_method_2_5 : decode prog_3_method_2_code 5 = .ok (.getfield 7, 3) := by decide +kernel
theorem own_d_prog_3_method_2_8 : decode prog_3_method_2_code 8 = .ok (.arraylength, 1) := by decide +kernel
theorem own_d_prog_3_method_2_9 : decode prog_3_method_2_code 9 = .ok (.if_icmp .ne 20, 3) := by decide +kernel
theorem own_d_prog_3_method_2_29 : decode prog_3_method_2_code 29 = .ok (.aload_n 0, 1) := by decide +kernel
theorem own_d_prog_3_method_2_30 : decode prog_3_method_2_code 30 = .ok (.getfield 7, 3) := by decide +kernel
theorem own_d_prog_3_method_2_33 : decode prog_3_method_2_code 33 = .ok (.aload_n 0, 1) := by decide +kernel
theorem own_d_prog_3_method_2_34 : decode prog_3_method_2_code 34 = .ok (.dup, 1) := by decide +kernel
theorem own_d_prog_3_method_2_35 : decode prog_3_method_2_code 35 = .ok (.getfield 13, 3) := by decide +kernel
theorem own_d_prog_3_method_2_38 : decode prog_3_method_2_code 38 = .ok (.dup_x1, 1) := by decide +kernel
theorem own_d_prog_3_method_2_39 : decode prog_3_method_2_code 39 = .ok (.iconst 1, 1) := by decide +kernel
theorem own_d_prog_3_method_2_40 : decode prog_3_method_2_code 40 = .ok (.iadd, 1) := by decide +kernel
theorem own_d_prog_3_method_2_41 : decode prog_3_method_2_code 41 = .ok (.putfield 13, 3) := by decide +kernel
theorem own_d_prog_3_method_2_44 : decode prog_3_method_2_code 44 = .ok (.iload_n 1, 1) := by decide +kernel
theorem own_d_prog_3_method_2_45 : decode prog_3_method_2_code 45 = .ok (.iastore, 1) := by decide +kernel
theorem own_d_prog_3_method_2_46 : decode prog_3_method_2_code 46 = .ok (.return_, 1) := by decide +kernel
def own_rm_own_ladd : Room := ({ frames := 0, cells := 0, slots := 0, locals := 0 } : Room)
set_option maxRecDepth 65536 in
set_option maxHeartbeats 1000000 in
theorem own_ladd (l : Launch) (Z : State) (a0 : Array Value) (hw : ∀ d ∈ tables_1, d.before a0 Z = true) (h : Heap) (n0 : Nat) (a b : Addr) (x n L : Int32) (j : Nat) (vs : List Value) (hj : n.toInt = (j : Int)) (hL : L.toInt = (vs.length : Int)) (hlt : j < vs.length)  (hn0 : n0 ≤ h.size) (B : Exa Z h a "com/example/vireo/vireo/cli/IntList") (F1 : Fld Z h a "com/example/vireo/vireo/cli/IntList" "values" "[I" (.ref b)) (F2 : Fld Z h a "com/example/vireo/vireo/cli/IntList" "size" "I" (.int n)) (A1 : OwA Z h b .int vs) (gea : n0 ≤ a) (geb : n0 ≤ b) (neab : a ≠ b) :
    OwM l Z (⟨"com/example/vireo/vireo/cli/IntList", "add", "(I)V"⟩ : MethodName) prog_3_method_2_code 2 none own_rm_own_ladd 0 0 [] #[(.ref a), (.int x)] h n0 (fun r h' => r = none ∧ Keep h h' [a, b] ∧ Fld Z h' a "com/example/vireo/vireo/cli/IntList" "values" "[I" (.ref b) ∧ Fld Z h' a "com/example/vireo/vireo/cli/IntList" "size" "I" (.int (n + (1 : Int32))) ∧ OwA Z h' b .int (vs.set j (.int x))) := by
  refine OwM.of (Ls := #[.val (.ref a), .val (.int x)]) (by decide +kernel) (fun m => by first | (simp [entryFrame, mkF, argsToLocals, Value.category]; done) | rfl) ?_
  intro _ _ _ _ _ _ _ X
  have K0 : Keep h h [a, b] := Keep.refl _ _
  refine X.aloadN (q := 1) own_d_prog_3_method_2_0 rfl rfl rfl ?_
  refine X.getF (q := 4) (host := "") (Or.inl (hw _ (List.mem_of_getElem? (i := 17) rfl))) Via.refl F2 own_d_prog_3_method_2_1 rfl ?_
  refine X.aloadN (q := 5) own_d_prog_3_method_2_4 rfl rfl rfl ?_
  refine X.getF (q := 8) (host := "") (Or.inl (hw _ (List.mem_of_getElem? (i := 10) rfl))) Via.refl F1 own_d_prog_3_method_2_5 rfl ?_
  refine X.alen (q := 9) (z := L) A1 hL own_d_prog_3_method_2_8 rfl ?_
  refine X.icmp_ne (q' := 29) (q := 12) own_d_prog_3_method_2_9 rfl rfl (by decide) rfl (fun c9 => ?_) (fun c9 => ?_)
  · refine X.aloadN (q := 30) own_d_prog_3_method_2_29 rfl rfl rfl ?_
    refine X.getF (q := 33) (host := "") (Or.inl (hw _ (List.mem_of_getElem? (i := 10) rfl))) Via.refl F1 own_d_prog_3_method_2_30 rfl ?_
    refine X.aloadN (q := 34) own_d_prog_3_method_2_33 rfl rfl rfl ?_
    refine X.dup (q := 35) own_d_prog_3_method_2_34 rfl rfl ?_
    refine X.getF (q := 38) (host := "") (Or.inl (hw _ (List.mem_of_getElem? (i := 17) rfl))) Via.refl F2 own_d_prog_3_method_2_35 rfl ?_
    refine X.dup_x1 (q := 39) own_d_prog_3_method_2_38 rfl rfl rfl ?_
    refine X.iconst (q := 40) (1 : Int32) own_d_prog_3_method_2_39 (by decide) rfl ?_
    refine X.iadd (q := 41) own_d_prog_3_method_2_40 rfl ?_
    refine X.putF (q := 44) (host := "") (Or.inl (hw _ (List.mem_of_getElem? (i := 17) rfl))) Via.refl F2 B (Or.inl (hw _ (List.mem_of_getElem? (i := 18) rfl))) (hw _ (List.mem_of_getElem? (i := 1) rfl)) (ty := .int) (by decide) rfl rfl gea own_d_prog_3_method_2_41 rfl (fun h1 Wh1 => ?_)
    have B'h1 : Exa Z h1 a "com/example/vireo/vireo/cli/IntList" := Exa.wr Wh1 B
    have F1'h1 : Fld Z h1 a "com/example/vireo/vireo/cli/IntList" "values" "[I" (.ref b) := Fld.other Wh1 F1 (Or.inr (slot_ne (Or.inl (hw _ (List.mem_of_getElem? (i := 11) rfl))) (Or.inl (hw _ (List.mem_of_getElem? (i := 18) rfl))) (by decide) (ht := (by decide : _ = some (.array .int))) (ht' := (by decide : _ = some .int))))
    have F2'h1 : Fld Z h1 a "com/example/vireo/vireo/cli/IntList" "size" "I" (.int (n + (1 : Int32))) := Fld.same Wh1 F2
    have A1'h1 : OwA Z h1 b .int vs := OwA.other A1 Wh1 (Ne.symm neab)
    have hsh1 : n0 ≤ h1.size := by rw [Wr.size Wh1]; exact hn0
    have Kh1 : Keep h h1 [a, b] := Keep.wr K0 Wh1 (Or.inl (List.mem_of_getElem? (i := 0) rfl))
    refine X.iloadN (q := 45) own_d_prog_3_method_2_44 rfl rfl ?_
    refine X.iastore (q := 46) (j := j) A1'h1 hj hlt geb own_d_prog_3_method_2_45 rfl (fun h2 Wh2 Ah2 => ?_)
    have B'h2 : Exa Z h2 a "com/example/vireo/vireo/cli/IntList" := Exa.wr Wh2 B'h1
    have F1'h2 : Fld Z h2 a "com/example/vireo/vireo/cli/IntList" "values" "[I" (.ref b) := Fld.other Wh2 F1'h1 (Or.inl neab)
    have F2'h2 : Fld Z h2 a "com/example/vireo/vireo/cli/IntList" "size" "I" (.int (n + (1 : Int32))) := Fld.other Wh2 F2'h1 (Or.inl neab)
    have hsh2 : n0 ≤ h2.size := by rw [Wr.size Wh2]; exact hsh1
    have Kh2 : Keep h h2 [a, b] := Keep.wr Kh1 Wh2 (Or.inl (List.mem_of_getElem? (i := 1) rfl))
    have Ah2_ : OwA Z h2 b .int (vs.set j (.int x)) := Ah2
    refine X.retV own_d_prog_3_method_2_46 rfl (by decide) (by decide) ?_
    exact ⟨rfl, Kh2, F1'h2, F2'h2, Ah2_⟩
  · omega
theorem own_d_jdk_41_method_11_0 : decode jdk_41_method_11_code 0 = .ok (.iload_n 0, 1) := by decide +kernel
theorem own_d_jdk_41_method_11_1 : decode jdk_41_method_11_code 1 = .ok (.ifCond .lt 8, 3) := by decide +kernel
theorem own_d_jdk_41_method_11_4 : decode jdk_41_method_11_code 4 = .ok (.iload_n 0, 1) := by decide +kernel
theorem own_d_jdk_41_method_11_5 : decode jdk_41_method_11_code 5 = .ok (.iload_n 1, 1) := by decide +kernel
theorem own_d_jdk_41_method_11_6 : decode jdk_41_method_11_code 6 = .ok (.if_icmp .lt 10, 3) := by decide +kernel
theorem own_d_jdk_41_method_11_16 : decode jdk_41_method_11_code 16 = .ok (.iload_n 0, 1) := by decide +kernel
theorem own_d_jdk_41_method_11_17 : decode jdk_41_method_11_code 17 = .ok (.ireturn, 1) := by decide +kernel
def own_rm_own_ci0 : Room := ({ frames := 0, cells := 0, slots := 0, locals := 0 } : Room)
set_option maxRecDepth 65536 in
set_option maxHeartbeats 1000000 in
theorem own_ci0 (l : Launch) (Z : State) (a0 : Array Value) (hw : ∀ d ∈ tables_1, d.before a0 Z = true) (h : Heap) (n0 : Nat) (i n : Int32) (h1 : 0 ≤ i.toInt) (h2 : i.toInt < n.toInt)  :
    OwM l Z (⟨"jdk/internal/util/Preconditions", "checkIndex", "(IILjava/util/function/BiFunction;)I"⟩ : MethodName) jdk_41_method_11_code 3 (some .int) own_rm_own_ci0 0 0 [] #[(.int i), (.int n), .null] h n0 (fun r h' => r = some (.int i) ∧ h = h') := by
  refine OwM.of (Ls := #[.val (.int i), .val (.int n), .val .null]) (by decide +kernel) (fun m => by first | (simp [entryFrame, mkF, argsToLocals, Value.category]; done) | rfl) ?_
  intro _ _ _ _ _ _ _ X
  refine X.iloadN (q := 1) own_d_jdk_41_method_11_0 rfl rfl ?_
  refine X.if_lt (q' := 9) (q := 4) own_d_jdk_41_method_11_1 rfl (by decide) rfl (fun c1 => ?_) (fun c1 => ?_)
  · omega
  · refine X.iloadN (q := 5) own_d_jdk_41_method_11_4 rfl rfl ?_
    refine X.iloadN (q := 6) own_d_jdk_41_method_11_5 rfl rfl ?_
    refine X.icmp_lt (q' := 16) (q := 9) own_d_jdk_41_method_11_6 rfl rfl (by decide) rfl (fun c6 => ?_) (fun c6 => ?_)
    · refine X.iloadN (q := 17) own_d_jdk_41_method_11_16 rfl rfl ?_
      refine X.retI own_d_jdk_41_method_11_17 rfl (by decide) (by decide) ?_
      exact ⟨rfl, rfl⟩
    · omega
theorem own_d_jdk_31_method_17_0 : decode jdk_31_method_17_code 0 = .ok (.iload_n 0, 1) := by decide +kernel
theorem own_d_jdk_31_method_17_1 : decode jdk_31_method_17_code 1 = .ok (.iload_n 1, 1) := by decide +kernel
theorem own_d_jdk_31_method_17_2 : decode jdk_31_method_17_code 2 = .ok (.aconst_null, 1) := by decide +kernel
theorem own_d_jdk_31_method_17_3 : decode jdk_31_method_17_code 3 = .ok (.invokestatic 105, 3) := by decide +kernel
theorem own_pd0 : parseMethodDescriptor "(IILjava/util/function/BiFunction;)I" = some ⟨[.int, .int, (.object "java/util/function/BiFunction")], some .int⟩ := by decide +kernel
theorem own_d_jdk_31_method_17_6 : decode jdk_31_method_17_code 6 = .ok (.ireturn, 1) := by decide +kernel
def own_rm_own_ci : Room := ({ frames := 1, cells := 0, slots := 0, locals := 14 } : Room)
set_option maxRecDepth 65536 in
set_option maxHeartbeats 1000000 in
theorem own_ci (l : Launch) (Z : State) (a0 : Array Value) (hw : ∀ d ∈ tables_1, d.before a0 Z = true) (h : Heap) (n0 : Nat) (i n : Int32) (h1 : 0 ≤ i.toInt) (h2 : i.toInt < n.toInt)  :
    OwM l Z (⟨"java/util/Objects", "checkIndex", "(II)I"⟩ : MethodName) jdk_31_method_17_code 2 (some .int) own_rm_own_ci 0 0 [] #[(.int i), (.int n)] h n0 (fun r h' => r = some (.int i) ∧ h = h') := by
  refine OwM.of (Ls := #[.val (.int i), .val (.int n)]) (by decide +kernel) (fun m => by first | (simp [entryFrame, mkF, argsToLocals, Value.category]; done) | rfl) ?_
  intro _ _ _ _ _ _ _ X
  refine X.iloadN (q := 1) own_d_jdk_31_method_17_0 rfl rfl ?_
  refine X.iloadN (q := 2) own_d_jdk_31_method_17_1 rfl rfl ?_
  refine X.aconstNull (q := 3) own_d_jdk_31_method_17_2 rfl ?_
  refine X.callS (own_ci0 l Z a0 hw h n0 i n h1 h2) (hw _ (List.mem_of_getElem? (i := 29) rfl)) (hw _ (List.mem_of_getElem? (i := 30) rfl)) (hw _ (List.mem_of_getElem? (i := 31) rfl)) (hw _ (List.mem_of_getElem? (i := 32) rfl)) (by decide) own_pd0 (argsL := [(.int i), (.int n), .null]) (rest := []) rfl rfl rfl (W := 0) (Nat.le_of_eq rfl) rfl (by decide) (by decide) (k' := 0) (n' := 0) rfl rfl (by decide) (by decide) own_d_jdk_31_method_17_3 (q := 6) rfl ?_
  rintro _ _ ⟨rfl, rfl⟩
  show X.G h 0 0 6 #[.val (.int i), .val (.int n)] [(.int i)]
  refine X.retI own_d_jdk_31_method_17_6 rfl (by decide) (by decide) ?_
  exact ⟨rfl, rfl⟩
theorem own_d_prog_3_method_4_0 : decode prog_3_method_4_code 0 = .ok (.iload_n 1, 1) := by decide +kernel
theorem own_d_prog_3_method_4_1 : decode prog_3_method_4_code 1 = .ok (.aload_n 0, 1) := by decide +kernel
theorem own_d_prog_3_method_4_2 : decode prog_3_method_4_code 2 = .ok (.getfield 13, 3) := by decide +kernel
theorem own_d_prog_3_method_4_5 : decode prog_3_method_4_code 5 = .ok (.invokestatic 23, 3) := by decide +kernel
theorem own_pd1 : parseMethodDescriptor "(II)I" = some ⟨[.int, .int], some .int⟩ := by decide +kernel
theorem own_d_prog_3_method_4_8 : decode prog_3_method_4_code 8 = .ok (.pop, 1) := by decide +kernel
theorem own_d_prog_3_method_4_9 : decode prog_3_method_4_code 9 = .ok (.aload_n 0, 1) := by decide +kernel
theorem own_d_prog_3_method_4_10 : decode prog_3_method_4_code 10 = .ok (.getfield 7, 3) := by decide +kernel
theorem own_d_prog_3_method_4_13 : decode prog_3_method_4_code 13 = .ok (.iload_n 1, 1) := by decide +kernel
theorem own_d_prog_3_method_4_14 : decode prog_3_method_4_code 14 = .ok (.iaload, 1) := by decide +kernel
theorem own_d_prog_3_method_4_15 : decode prog_3_method_4_code 15 = .ok (.ireturn, 1) := by decide +kernel
def own_rm_own_get : Room := ({ frames := 2, cells := 0, slots := 0, locals := 29 } : Room)
set_option maxRecDepth 65536 in
set_option maxHeartbeats 1000000 in
theorem own_get (l : Launch) (Z : State) (a0 : Array Value) (hw : ∀ d ∈ tables_1, d.before a0 Z = true) (h : Heap) (n0 : Nat) (a b : Addr) (i n : Int32) (j : Nat) (v : Int32) (vs : List Value) (hj : i.toInt = (j : Int)) (h2 : i.toInt < n.toInt) (hv : vs[j]? = some (.int v))  (hn0 : n0 ≤ h.size) (F1 : Fld Z h a "com/example/vireo/vireo/cli/IntList" "values" "[I" (.ref b)) (F2 : Fld Z h a "com/example/vireo/vireo/cli/IntList" "size" "I" (.int n)) (A1 : OwA Z h b .int vs) :
    OwM l Z (⟨"com/example/vireo/vireo/cli/IntList", "get", "(I)I"⟩ : MethodName) prog_3_method_4_code 2 (some .int) own_rm_own_get 0 0 [] #[(.ref a), (.int i)] h n0 (fun r h' => r = some (.int v) ∧ h = h') := by
  refine OwM.of (Ls := #[.val (.ref a), .val (.int i)]) (by decide +kernel) (fun m => by first | (simp [entryFrame, mkF, argsToLocals, Value.category]; done) | rfl) ?_
  intro _ _ _ _ _ _ _ X
  refine X.iloadN (q := 1) own_d_prog_3_method_4_0 rfl rfl ?_
  refine X.aloadN (q := 2) own_d_prog_3_method_4_1 rfl rfl rfl ?_
  refine X.getF (q := 5) (host := "") (Or.inl (hw _ (List.mem_of_getElem? (i := 17) rfl))) Via.refl F2 own_d_prog_3_method_4_2 rfl ?_
  refine X.callS (own_ci l Z a0 hw h n0 i n (by omega) h2) (hw _ (List.mem_of_getElem? (i := 25) rfl)) (hw _ (List.mem_of_getElem? (i := 26) rfl)) (hw _ (List.mem_of_getElem? (i := 27) rfl)) (hw _ (List.mem_of_getElem? (i := 28) rfl)) (by decide) own_pd1 (argsL := [(.int i), (.int n)]) (rest := []) rfl rfl rfl (W := 0) (Nat.le_of_eq rfl) rfl (by decide) (by decide) (k' := 0) (n' := 0) rfl rfl (by decide) (by decide) own_d_prog_3_method_4_5 (q := 8) rfl ?_
  rintro _ _ ⟨rfl, rfl⟩
  show X.G h 0 0 8 #[.val (.ref a), .val (.int i)] [(.int i)]
  refine X.pop (q := 9) own_d_prog_3_method_4_8 rfl rfl ?_
  refine X.aloadN (q := 10) own_d_prog_3_method_4_9 rfl rfl rfl ?_
  refine X.getF (q := 13) (host := "") (Or.inl (hw _ (List.mem_of_getElem? (i := 10) rfl))) Via.refl F1 own_d_prog_3_method_4_10 rfl ?_
  refine X.iloadN (q := 14) own_d_prog_3_method_4_13 rfl rfl ?_
  refine X.iaload (q := 15) (j := j) (v := (.int v)) A1 hj hv own_d_prog_3_method_4_14 rfl ?_
  refine X.retI own_d_prog_3_method_4_15 rfl (by decide) (by decide) ?_
  exact ⟨rfl, rfl⟩
theorem own_d_prog_3_method_3_0 : decode prog_3_method_3_code 0 = .ok (.aload_n 0, 1) := by decide +kernel
theorem own_d_prog_3_method_3_1 : decode prog_3_method_3_code 1 = .ok (.getfield 13, 3) := by decide +kernel
theorem own_d_prog_3_method_3_4 : decode prog_3_method_3_code 4 = .ok (.ireturn, 1) := by decide +kernel
def own_rm_own_size : Room := ({ frames := 0, cells := 0, slots := 0, locals := 0 } : Room)
set_option maxRecDepth 65536 in
set_option maxHeartbeats 1000000 in
theorem own_size (l : Launch) (Z : State) (a0 : Array Value) (hw : ∀ d ∈ tables_1, d.before a0 Z = true) (h : Heap) (n0 : Nat) (a : Addr) (n : Int32)  (hn0 : n0 ≤ h.size) (F2 : Fld Z h a "com/example/vireo/vireo/cli/IntList" "size" "I" (.int n)) :
    OwM l Z (⟨"com/example/vireo/vireo/cli/IntList", "size", "()I"⟩ : MethodName) prog_3_method_3_code 1 (some .int) own_rm_own_size 0 0 [] #[(.ref a)] h n0 (fun r h' => r = some (.int n) ∧ h = h') := by
  refine OwM.of (Ls := #[.val (.ref a)]) (by decide +kernel) (fun m => by first | (simp [entryFrame, mkF, argsToLocals, Value.category]; done) | rfl) ?_
  intro _ _ _ _ _ _ _ X
  refine X.aloadN (q := 1) own_d_prog_3_method_3_0 rfl rfl rfl ?_
  refine X.getF (q := 4) (host := "") (Or.inl (hw _ (List.mem_of_getElem? (i := 17) rfl))) Via.refl F2 own_d_prog_3_method_3_1 rfl ?_
  refine X.retI own_d_prog_3_method_3_4 rfl (by decide) (by decide) ?_
  exact ⟨rfl, rfl⟩
theorem own_pd2 : parseMethodDescriptor "()V" = some ⟨[], none⟩ := by decide +kernel
theorem own_pd3 : parseMethodDescriptor "()I" = some ⟨[], some .int⟩ := by decide +kernel
theorem own_pd4 : parseMethodDescriptor "(I)V" = some ⟨[.int], none⟩ := by decide +kernel
theorem own_pd5 : parseMethodDescriptor "(I)I" = some ⟨[.int], some .int⟩ := by decide +kernel
set_option maxRecDepth 65536 in
set_option maxHeartbeats 1000000 in
theorem own_law (l : Launch) (Z : State) (a0 : Array Value) (hw : ∀ d ∈ tables_1, d.before a0 Z = true) (h : Heap) (n0 : Nat) (hn0 : n0 ≤ h.size) (x0 x1 x2 x3 x4 : Int32)  :
    OwM l Z (⟨"com/example/vireo/vireo/cli/IntListGetPinLaw", "law", "(IIIII)Z"⟩ : MethodName) code 11 (some .boolean) room_1 16 128 tables_1 #[(.int x0), (.int x1), (.int x2), (.int x3), (.int x4)] h n0 (fun r h' => r = some (.int 1)) := by
  refine OwM.of (Ls := #[.val (.int x0), .val (.int x1), .val (.int x2), .val (.int x3), .val (.int x4), .unset, .unset, .unset, .unset, .unset, .unset]) (by decide +kernel) (fun m => by first | (simp [entryFrame, mkF, argsToLocals, Value.category]; done) | rfl) ?_
  intro _ _ _ _ _ _ _ X
  have e0 : (0 : Int32).toInt = 0 := rfl
  have e1 : (1 : Int32).toInt = 1 := rfl
  have e2 : (2 : Int32).toInt = 2 := rfl
  have e3 : (3 : Int32).toInt = 3 := rfl
  refine X.newO (q := 3) (k' := 1) (n' := 2) (hw _ (List.mem_of_getElem? (i := 0) rfl)) (hw _ (List.mem_of_getElem? (i := 1) rfl)) (hw _ (List.mem_of_getElem? (i := 2) rfl)) at_0 rfl rfl (by decide) (by decide) rfl (fun h1 a2 ga2 Eh1 Ba2 Da2 => ?_)
  have gea2 : n0 ≤ a2 := by rw [ga2]; exact hn0
  have hsh1 : n0 ≤ h1.size := Nat.le_trans hn0 Eh1.1
  have Fa2_values : Fld Z h1 a2 "com/example/vireo/vireo/cli/IntList" "values" "[I" .null := Da2 (Or.inl (hw _ (List.mem_of_getElem? (i := 11) rfl))) (ty := (.array .int)) (by decide)
  have Fa2_size : Fld Z h1 a2 "com/example/vireo/vireo/cli/IntList" "size" "I" (.int (0 : Int32)) := Da2 (Or.inl (hw _ (List.mem_of_getElem? (i := 18) rfl))) (ty := .int) (by decide)
  refine X.dup (q := 4) at_3 rfl rfl ?_
  refine X.special (a := a2) (own_init l Z a0 hw h1 n0 a2 hsh1 Ba2 Fa2_values Fa2_size gea2) rfl (hw _ (List.mem_of_getElem? (i := 3) rfl)) (hw _ (List.mem_of_getElem? (i := 4) rfl)) (hw _ (List.mem_of_getElem? (i := 2) rfl)) (hw _ (List.mem_of_getElem? (i := 5) rfl)) (by decide) own_pd2 (argsL := []) (rest := [(.ref a2)]) rfl rfl rfl (W := 1) (Nat.le_of_eq rfl) rfl (by decide) (by decide) (k' := 2) (n' := 18) rfl rfl (by decide) (by decide) at_4 (q := 7) rfl ?_
  rintro _ h3 ⟨rfl, b, Kh3c, frb, GV, GS, GA⟩
  have Ba2'h3 : Exa Z h3 a2 "com/example/vireo/vireo/cli/IntList" := Exa.keep Ba2 Kh3c
  have hsh3 : n0 ≤ h3.size := Nat.le_trans hsh1 Kh3c.1
  show X.G h3 2 18 7 #[.val (.int x0), .val (.int x1), .val (.int x2), .val (.int x3), .val (.int x4), .unset, .unset, .unset, .unset, .unset, .unset] [(.ref a2)]
  have lab : a2 < b := Nat.lt_of_lt_of_le Ba2.lt frb
  have geb : n0 ≤ b := Nat.le_trans hsh1 frb
  refine X.astore (q := 9) (Ls' := #[.val (.int x0), .val (.int x1), .val (.int x2), .val (.int x3), .val (.int x4), .val (.ref a2), .unset, .unset, .unset, .unset, .unset]) at_7 rfl rfl rfl ?_
  refine X.iloadN (q := 10) at_9 rfl rfl ?_
  refine X.iconst (q := 11) (3 : Int32) at_10 (by decide) rfl ?_
  refine X.iand (q := 12) at_11 rfl ?_
  refine X.nmI (fun cnt hcnt => ?_)
  have hcr : 0 ≤ cnt.toInt ∧ cnt.toInt ≤ 3 := by rw [hcnt, Jvm.Kit.i32_mask (k := 2) _ _ (by decide) (by decide)]; omega
  refine X.istore (q := 14) (Ls' := #[.val (.int x0), .val (.int x1), .val (.int x2), .val (.int x3), .val (.int x4), .val (.ref a2), .val (.int cnt), .unset, .unset, .unset, .unset]) at_12 rfl rfl ?_
  refine X.iload (q := 16) at_14 rfl rfl ?_
  refine X.iconst (q := 17) (1 : Int32) at_16 (by decide) rfl ?_
  refine X.icmp_lt (b := 1) (q' := 26) (q := 20) at_17 rfl rfl (by decide) rfl (fun c17 => ?_) (fun c17 => ?_)
  · refine X.iload (q := 28) at_26 rfl rfl ?_
    refine X.iconst (q := 29) (2 : Int32) at_28 (by decide) rfl ?_
    refine X.icmp_lt (b := 2) (q' := 38) (q := 32) at_29 rfl rfl (by decide) rfl (fun c29 => ?_) (fun c29 => ?_)
    · refine X.iload (q := 40) at_38 rfl rfl ?_
      refine X.iconst (q := 41) (3 : Int32) at_40 (by decide) rfl ?_
      refine X.icmp_lt (b := 3) (q' := 50) (q := 44) at_41 rfl rfl (by decide) rfl (fun c41 => ?_) (fun c41 => ?_)
      · obtain rfl : cnt = (0 : Int32) := by rw [← Int32.toInt_inj]; have e_ : (0 : Int32).toInt = 0 := rfl; omega
        refine X.iload (q := 52) at_50 rfl rfl ?_
        refine X.if_ne (a := 0) (q' := 69) (q := 55) at_52 rfl (by decide) rfl (fun c52 => ?_) (fun c52 => ?_)
        · omega
        · refine X.aload (q := 57) at_55 rfl rfl rfl ?_
          refine X.virtual (a := a2) (own_size l Z a0 hw h3 n0 a2 (0 : Int32) hsh3 GS) (hw _ (List.mem_of_getElem? (i := 33) rfl)) (hw _ (List.mem_of_getElem? (i := 34) rfl)) (hw _ (List.mem_of_getElem? (i := 36) rfl)) (hw _ (List.mem_of_getElem? (i := 35) rfl)) (hw _ (List.mem_of_getElem? (i := 2) rfl)) (hw _ (List.mem_of_getElem? (i := 37) rfl)) (by decide) Ba2'h3 own_pd3 (argsL := []) (rest := []) rfl rfl rfl (W := 0) (Nat.le_of_eq rfl) rfl (by decide) (by decide) (k' := 2) (n' := 18) rfl rfl (by decide) (by decide) at_57 (q := 60) rfl ?_
          rintro _ _ ⟨rfl, rfl⟩
          show X.G h3 2 18 60 #[.val (.int x0), .val (.int x1), .val (.int x2), .val (.int x3), .val (.int x4), .val (.ref a2), .val (.int (0 : Int32)), .unset, .unset, .unset, .unset] [(.int (0 : Int32))]
          refine X.if_ne (a := 0) (q' := 67) (q := 63) at_60 rfl (by decide) rfl (fun c60 => ?_) (fun c60 => ?_)
          · omega
          · refine X.iconst (q := 64) (1 : Int32) at_63 (by decide) rfl ?_
            refine X.goto (q' := 68) at_64 (by decide) ?_
            refine X.retN (t := .boolean) (z' := (1 : Int32)) at_68 rfl (by simp) (by decide) (by decide) (by decide) ?_
            rfl
      · omega
    · omega
  · refine X.aload (q := 22) at_20 rfl rfl rfl ?_
    refine X.iloadN (q := 23) at_22 rfl rfl ?_
    refine X.virtual (a := a2) (own_ladd l Z a0 hw h3 n0 a2 b x0 (0 : Int32) 16 0 _ rfl rfl (by simp) hsh3 Ba2'h3 GV GS GA gea2 geb (Nat.ne_of_lt lab)) (hw _ (List.mem_of_getElem? (i := 12) rfl)) (hw _ (List.mem_of_getElem? (i := 13) rfl)) (hw _ (List.mem_of_getElem? (i := 15) rfl)) (hw _ (List.mem_of_getElem? (i := 14) rfl)) (hw _ (List.mem_of_getElem? (i := 2) rfl)) (hw _ (List.mem_of_getElem? (i := 16) rfl)) (by decide) Ba2'h3 own_pd4 (argsL := [(.int x0)]) (rest := []) rfl rfl rfl (W := 0) (Nat.le_of_eq rfl) rfl (by decide) (by decide) (k' := 2) (n' := 18) rfl rfl (by decide) (by decide) at_23 (q := 26) rfl ?_
    rintro _ h4 ⟨rfl, Kh4c, HV0, HS0, HA0⟩
    have Ba2'h4 : Exa Z h4 a2 "com/example/vireo/vireo/cli/IntList" := Exa.keep Ba2'h3 Kh4c
    have hsh4 : n0 ≤ h4.size := Nat.le_trans hsh3 Kh4c.1
    show X.G h4 2 18 26 #[.val (.int x0), .val (.int x1), .val (.int x2), .val (.int x3), .val (.int x4), .val (.ref a2), .val (.int cnt), .unset, .unset, .unset, .unset] []
    have HS0 : Fld Z h4 a2 "com/example/vireo/vireo/cli/IntList" "size" "I" (.int (1 : Int32)) := HS0
    have HA0 : OwA Z h4 b .int [(.int x0), (.int (0 : Int32)), (.int (0 : Int32)), (.int (0 : Int32)), (.int (0 : Int32)), (.int (0 : Int32)), (.int (0 : Int32)), (.int (0 : Int32)), (.int (0 : Int32)), (.int (0 : Int32)), (.int (0 : Int32)), (.int (0 : Int32)), (.int (0 : Int32)), (.int (0 : Int32)), (.int (0 : Int32)), (.int (0 : Int32))] := HA0
    refine X.iload (q := 28) at_26 rfl rfl ?_
    refine X.iconst (q := 29) (2 : Int32) at_28 (by decide) rfl ?_
    refine X.icmp_lt (b := 2) (q' := 38) (q := 32) at_29 rfl rfl (by decide) rfl (fun c29 => ?_) (fun c29 => ?_)
    · refine X.iload (q := 40) at_38 rfl rfl ?_
      refine X.iconst (q := 41) (3 : Int32) at_40 (by decide) rfl ?_
      refine X.icmp_lt (b := 3) (q' := 50) (q := 44) at_41 rfl rfl (by decide) rfl (fun c41 => ?_) (fun c41 => ?_)
      · obtain rfl : cnt = (1 : Int32) := by rw [← Int32.toInt_inj]; have e_ : (1 : Int32).toInt = 1 := rfl; omega
        refine X.iload (q := 52) at_50 rfl rfl ?_
        refine X.if_ne (a := 1) (q' := 69) (q := 55) at_52 rfl (by decide) rfl (fun c52 => ?_) (fun c52 => ?_)
        · refine X.iload (q := 71) at_69 rfl rfl ?_
          refine X.ldc (q := 73) (v := (2147483647 : Int32)) (hw _ (List.mem_of_getElem? (i := 19) rfl)) at_71 rfl ?_
          refine X.iand (q := 74) at_73 rfl ?_
          refine X.iload (q := 76) at_74 rfl rfl ?_
          refine X.irem (q := 77) at_76 (by decide) rfl ?_
          refine X.nmI (fun ix hix => ?_)
          have hix_ : 0 ≤ ix.toInt ∧ ix.toInt < 1 := by
              have q : (1 : Int32).toInt = 1 := rfl
              generalize hm : (x4 &&& (2147483647 : Int32)) = y at hix
              have r : 0 ≤ y.toInt := by rw [← hm, Jvm.Kit.i32_mask (k := 31) _ _ (by decide) (by decide)]; omega
              rw [hix, Jvm.Kit.i32_rem_nonneg r, q]; omega
          refine X.istore (q := 79) (Ls' := #[.val (.int x0), .val (.int x1), .val (.int x2), .val (.int x3), .val (.int x4), .val (.ref a2), .val (.int (1 : Int32)), .val (.int ix), .unset, .unset, .unset]) at_77 rfl rfl ?_
          refine X.iload (q := 81) at_79 rfl rfl ?_
          refine X.if_ne (q' := 90) (q := 84) at_81 rfl (by decide) rfl (fun c81 => ?_) (fun c81 => ?_)
          · omega
          · refine X.iloadN (q := 85) at_84 rfl rfl ?_
            refine X.istore (q := 87) (Ls' := #[.val (.int x0), .val (.int x1), .val (.int x2), .val (.int x3), .val (.int x4), .val (.ref a2), .val (.int (1 : Int32)), .val (.int ix), .val (.int x0), .unset, .unset]) at_85 rfl rfl ?_
            refine X.goto (q' := 105) at_87 (by decide) ?_
            obtain rfl : ix = (0 : Int32) := by rw [← Int32.toInt_inj]; have e_ : (0 : Int32).toInt = 0 := rfl; omega
            refine X.aload (q := 107) at_105 rfl rfl rfl ?_
            refine X.iconst (q := 108) (0 : Int32) at_107 (by decide) rfl ?_
            refine X.virtual (a := a2) (own_get l Z a0 hw h4 n0 a2 b (0 : Int32) (1 : Int32) 0 x0 _ rfl (by decide) rfl hsh4 HV0 HS0 HA0) (hw _ (List.mem_of_getElem? (i := 20) rfl)) (hw _ (List.mem_of_getElem? (i := 21) rfl)) (hw _ (List.mem_of_getElem? (i := 23) rfl)) (hw _ (List.mem_of_getElem? (i := 22) rfl)) (hw _ (List.mem_of_getElem? (i := 2) rfl)) (hw _ (List.mem_of_getElem? (i := 24) rfl)) (by decide) Ba2'h4 own_pd5 (argsL := [(.int (0 : Int32))]) (rest := []) rfl rfl rfl (W := 0) (Nat.le_of_eq rfl) rfl (by decide) (by decide) (k' := 2) (n' := 18) rfl rfl (by decide) (by decide) at_108 (q := 111) rfl ?_
            rintro _ _ ⟨rfl, rfl⟩
            show X.G h4 2 18 111 #[.val (.int x0), .val (.int x1), .val (.int x2), .val (.int x3), .val (.int x4), .val (.ref a2), .val (.int (1 : Int32)), .val (.int (0 : Int32)), .val (.int x0), .unset, .unset] [(.int x0)]
            refine X.iloadN (q := 112) at_111 rfl rfl ?_
            refine X.icmp_ne (q' := 119) (q := 115) at_112 rfl rfl (by decide) rfl (fun c112 => ?_) (fun c112 => ?_)
            · omega
            · refine X.iconst (q := 116) (1 : Int32) at_115 (by decide) rfl ?_
              refine X.goto (q' := 120) at_116 (by decide) ?_
              refine X.istore (q := 122) (Ls' := #[.val (.int x0), .val (.int x1), .val (.int x2), .val (.int x3), .val (.int x4), .val (.ref a2), .val (.int (1 : Int32)), .val (.int (0 : Int32)), .val (.int x0), .val (.int (1 : Int32)), .unset]) at_120 rfl rfl ?_
              refine X.aload (q := 124) at_122 rfl rfl rfl ?_
              refine X.iload (q := 126) at_124 rfl rfl ?_
              refine X.iconst (q := 127) (1 : Int32) at_126 (by decide) rfl ?_
              refine X.isub (q := 128) at_127 rfl ?_
              refine X.foldI (v := (0 : Int32)) (by decide) ?_
              refine X.virtual (a := a2) (own_get l Z a0 hw h4 n0 a2 b (0 : Int32) (1 : Int32) 0 x0 _ rfl (by decide) rfl hsh4 HV0 HS0 HA0) (hw _ (List.mem_of_getElem? (i := 20) rfl)) (hw _ (List.mem_of_getElem? (i := 21) rfl)) (hw _ (List.mem_of_getElem? (i := 23) rfl)) (hw _ (List.mem_of_getElem? (i := 22) rfl)) (hw _ (List.mem_of_getElem? (i := 2) rfl)) (hw _ (List.mem_of_getElem? (i := 24) rfl)) (by decide) Ba2'h4 own_pd5 (argsL := [(.int (0 : Int32))]) (rest := []) rfl rfl rfl (W := 0) (Nat.le_of_eq rfl) rfl (by decide) (by decide) (k' := 2) (n' := 18) rfl rfl (by decide) (by decide) at_128 (q := 131) rfl ?_
              rintro _ _ ⟨rfl, rfl⟩
              show X.G h4 2 18 131 #[.val (.int x0), .val (.int x1), .val (.int x2), .val (.int x3), .val (.int x4), .val (.ref a2), .val (.int (1 : Int32)), .val (.int (0 : Int32)), .val (.int x0), .val (.int (1 : Int32)), .unset] [(.int x0)]
              refine X.iload (q := 133) at_131 rfl rfl ?_
              refine X.iconst (q := 134) (1 : Int32) at_133 (by decide) rfl ?_
              refine X.icmp_ne (a := 1) (b := 1) (q' := 141) (q := 137) at_134 rfl rfl (by decide) rfl (fun c134 => ?_) (fun c134 => ?_)
              · omega
              · refine X.iloadN (q := 138) at_137 rfl rfl ?_
                refine X.goto (q' := 152) at_138 (by decide) ?_
                refine X.icmp_ne (q' := 159) (q := 155) at_152 rfl rfl (by decide) rfl (fun c152 => ?_) (fun c152 => ?_)
                · omega
                · refine X.iconst (q := 156) (1 : Int32) at_155 (by decide) rfl ?_
                  refine X.goto (q' := 160) at_156 (by decide) ?_
                  refine X.istore (q := 162) (Ls' := #[.val (.int x0), .val (.int x1), .val (.int x2), .val (.int x3), .val (.int x4), .val (.ref a2), .val (.int (1 : Int32)), .val (.int (0 : Int32)), .val (.int x0), .val (.int (1 : Int32)), .val (.int (1 : Int32))]) at_160 rfl rfl ?_
                  refine X.iload (q := 164) at_162 rfl rfl ?_
                  refine X.if_eq (a := 1) (q' := 188) (q := 167) at_164 rfl (by decide) rfl (fun c164 => ?_) (fun c164 => ?_)
                  · omega
                  · refine X.iload (q := 169) at_167 rfl rfl ?_
                    refine X.if_eq (a := 1) (q' := 188) (q := 172) at_169 rfl (by decide) rfl (fun c169 => ?_) (fun c169 => ?_)
                    · omega
                    · refine X.aload (q := 174) at_172 rfl rfl rfl ?_
                      refine X.iload (q := 176) at_174 rfl rfl ?_
                      refine X.virtual (a := a2) (own_get l Z a0 hw h4 n0 a2 b (0 : Int32) (1 : Int32) 0 x0 _ rfl (by decide) rfl hsh4 HV0 HS0 HA0) (hw _ (List.mem_of_getElem? (i := 20) rfl)) (hw _ (List.mem_of_getElem? (i := 21) rfl)) (hw _ (List.mem_of_getElem? (i := 23) rfl)) (hw _ (List.mem_of_getElem? (i := 22) rfl)) (hw _ (List.mem_of_getElem? (i := 2) rfl)) (hw _ (List.mem_of_getElem? (i := 24) rfl)) (by decide) Ba2'h4 own_pd5 (argsL := [(.int (0 : Int32))]) (rest := []) rfl rfl rfl (W := 0) (Nat.le_of_eq rfl) rfl (by decide) (by decide) (k' := 2) (n' := 18) rfl rfl (by decide) (by decide) at_176 (q := 179) rfl ?_
                      rintro _ _ ⟨rfl, rfl⟩
                      show X.G h4 2 18 179 #[.val (.int x0), .val (.int x1), .val (.int x2), .val (.int x3), .val (.int x4), .val (.ref a2), .val (.int (1 : Int32)), .val (.int (0 : Int32)), .val (.int x0), .val (.int (1 : Int32)), .val (.int (1 : Int32))] [(.int x0)]
                      refine X.iload (q := 181) at_179 rfl rfl ?_
                      refine X.icmp_ne (q' := 188) (q := 184) at_181 rfl rfl (by decide) rfl (fun c181 => ?_) (fun c181 => ?_)
                      · omega
                      · refine X.iconst (q := 185) (1 : Int32) at_184 (by decide) rfl ?_
                        refine X.goto (q' := 189) at_185 (by decide) ?_
                        refine X.retN (t := .boolean) (z' := (1 : Int32)) at_189 rfl (by simp) (by decide) (by decide) (by decide) ?_
                        rfl
        · omega
      · omega
    · refine X.aload (q := 34) at_32 rfl rfl rfl ?_
      refine X.iloadN (q := 35) at_34 rfl rfl ?_
      refine X.virtual (a := a2) (own_ladd l Z a0 hw h4 n0 a2 b x1 (1 : Int32) 16 1 _ rfl rfl (by simp) hsh4 Ba2'h4 HV0 HS0 HA0 gea2 geb (Nat.ne_of_lt lab)) (hw _ (List.mem_of_getElem? (i := 12) rfl)) (hw _ (List.mem_of_getElem? (i := 13) rfl)) (hw _ (List.mem_of_getElem? (i := 15) rfl)) (hw _ (List.mem_of_getElem? (i := 14) rfl)) (hw _ (List.mem_of_getElem? (i := 2) rfl)) (hw _ (List.mem_of_getElem? (i := 16) rfl)) (by decide) Ba2'h4 own_pd4 (argsL := [(.int x1)]) (rest := []) rfl rfl rfl (W := 0) (Nat.le_of_eq rfl) rfl (by decide) (by decide) (k' := 2) (n' := 18) rfl rfl (by decide) (by decide) at_35 (q := 38) rfl ?_
      rintro _ h5 ⟨rfl, Kh5c, HV1, HS1, HA1⟩
      have Ba2'h5 : Exa Z h5 a2 "com/example/vireo/vireo/cli/IntList" := Exa.keep Ba2'h4 Kh5c
      have hsh5 : n0 ≤ h5.size := Nat.le_trans hsh4 Kh5c.1
      show X.G h5 2 18 38 #[.val (.int x0), .val (.int x1), .val (.int x2), .val (.int x3), .val (.int x4), .val (.ref a2), .val (.int cnt), .unset, .unset, .unset, .unset] []
      have HS1 : Fld Z h5 a2 "com/example/vireo/vireo/cli/IntList" "size" "I" (.int (2 : Int32)) := HS1
      have HA1 : OwA Z h5 b .int [(.int x0), (.int x1), (.int (0 : Int32)), (.int (0 : Int32)), (.int (0 : Int32)), (.int (0 : Int32)), (.int (0 : Int32)), (.int (0 : Int32)), (.int (0 : Int32)), (.int (0 : Int32)), (.int (0 : Int32)), (.int (0 : Int32)), (.int (0 : Int32)), (.int (0 : Int32)), (.int (0 : Int32)), (.int (0 : Int32))] := HA1
      refine X.iload (q := 40) at_38 rfl rfl ?_
      refine X.iconst (q := 41) (3 : Int32) at_40 (by decide) rfl ?_
      refine X.icmp_lt (b := 3) (q' := 50) (q := 44) at_41 rfl rfl (by decide) rfl (fun c41 => ?_) (fun c41 => ?_)
      · obtain rfl : cnt = (2 : Int32) := by rw [← Int32.toInt_inj]; have e_ : (2 : Int32).toInt = 2 := rfl; omega
        refine X.iload (q := 52) at_50 rfl rfl ?_
        refine X.if_ne (a := 2) (q' := 69) (q := 55) at_52 rfl (by decide) rfl (fun c52 => ?_) (fun c52 => ?_)
        · refine X.iload (q := 71) at_69 rfl rfl ?_
          refine X.ldc (q := 73) (v := (2147483647 : Int32)) (hw _ (List.mem_of_getElem? (i := 19) rfl)) at_71 rfl ?_
          refine X.iand (q := 74) at_73 rfl ?_
          refine X.iload (q := 76) at_74 rfl rfl ?_
          refine X.irem (q := 77) at_76 (by decide) rfl ?_
          refine X.nmI (fun ix hix => ?_)
          have hix_ : 0 ≤ ix.toInt ∧ ix.toInt < 2 := by
              have q : (2 : Int32).toInt = 2 := rfl
              generalize hm : (x4 &&& (2147483647 : Int32)) = y at hix
              have r : 0 ≤ y.toInt := by rw [← hm, Jvm.Kit.i32_mask (k := 31) _ _ (by decide) (by decide)]; omega
              rw [hix, Jvm.Kit.i32_rem_nonneg r, q]; omega
          refine X.istore (q := 79) (Ls' := #[.val (.int x0), .val (.int x1), .val (.int x2), .val (.int x3), .val (.int x4), .val (.ref a2), .val (.int (2 : Int32)), .val (.int ix), .unset, .unset, .unset]) at_77 rfl rfl ?_
          refine X.iload (q := 81) at_79 rfl rfl ?_
          refine X.if_ne (q' := 90) (q := 84) at_81 rfl (by decide) rfl (fun c81 => ?_) (fun c81 => ?_)
          · refine X.iload (q := 92) at_90 rfl rfl ?_
            refine X.iconst (q := 93) (1 : Int32) at_92 (by decide) rfl ?_
            refine X.icmp_ne (b := 1) (q' := 102) (q := 96) at_93 rfl rfl (by decide) rfl (fun c93 => ?_) (fun c93 => ?_)
            · omega
            · refine X.iloadN (q := 97) at_96 rfl rfl ?_
              refine X.istore (q := 99) (Ls' := #[.val (.int x0), .val (.int x1), .val (.int x2), .val (.int x3), .val (.int x4), .val (.ref a2), .val (.int (2 : Int32)), .val (.int ix), .val (.int x1), .unset, .unset]) at_97 rfl rfl ?_
              refine X.goto (q' := 105) at_99 (by decide) ?_
              obtain rfl : ix = (1 : Int32) := by rw [← Int32.toInt_inj]; have e_ : (1 : Int32).toInt = 1 := rfl; omega
              refine X.aload (q := 107) at_105 rfl rfl rfl ?_
              refine X.iconst (q := 108) (0 : Int32) at_107 (by decide) rfl ?_
              refine X.virtual (a := a2) (own_get l Z a0 hw h5 n0 a2 b (0 : Int32) (2 : Int32) 0 x0 _ rfl (by decide) rfl hsh5 HV1 HS1 HA1) (hw _ (List.mem_of_getElem? (i := 20) rfl)) (hw _ (List.mem_of_getElem? (i := 21) rfl)) (hw _ (List.mem_of_getElem? (i := 23) rfl)) (hw _ (List.mem_of_getElem? (i := 22) rfl)) (hw _ (List.mem_of_getElem? (i := 2) rfl)) (hw _ (List.mem_of_getElem? (i := 24) rfl)) (by decide) Ba2'h5 own_pd5 (argsL := [(.int (0 : Int32))]) (rest := []) rfl rfl rfl (W := 0) (Nat.le_of_eq rfl) rfl (by decide) (by decide) (k' := 2) (n' := 18) rfl rfl (by decide) (by decide) at_108 (q := 111) rfl ?_
              rintro _ _ ⟨rfl, rfl⟩
              show X.G h5 2 18 111 #[.val (.int x0), .val (.int x1), .val (.int x2), .val (.int x3), .val (.int x4), .val (.ref a2), .val (.int (2 : Int32)), .val (.int (1 : Int32)), .val (.int x1), .unset, .unset] [(.int x0)]
              refine X.iloadN (q := 112) at_111 rfl rfl ?_
              refine X.icmp_ne (q' := 119) (q := 115) at_112 rfl rfl (by decide) rfl (fun c112 => ?_) (fun c112 => ?_)
              · omega
              · refine X.iconst (q := 116) (1 : Int32) at_115 (by decide) rfl ?_
                refine X.goto (q' := 120) at_116 (by decide) ?_
                refine X.istore (q := 122) (Ls' := #[.val (.int x0), .val (.int x1), .val (.int x2), .val (.int x3), .val (.int x4), .val (.ref a2), .val (.int (2 : Int32)), .val (.int (1 : Int32)), .val (.int x1), .val (.int (1 : Int32)), .unset]) at_120 rfl rfl ?_
                refine X.aload (q := 124) at_122 rfl rfl rfl ?_
                refine X.iload (q := 126) at_124 rfl rfl ?_
                refine X.iconst (q := 127) (1 : Int32) at_126 (by decide) rfl ?_
                refine X.isub (q := 128) at_127 rfl ?_
                refine X.foldI (v := (1 : Int32)) (by decide) ?_
                refine X.virtual (a := a2) (own_get l Z a0 hw h5 n0 a2 b (1 : Int32) (2 : Int32) 1 x1 _ rfl (by decide) rfl hsh5 HV1 HS1 HA1) (hw _ (List.mem_of_getElem? (i := 20) rfl)) (hw _ (List.mem_of_getElem? (i := 21) rfl)) (hw _ (List.mem_of_getElem? (i := 23) rfl)) (hw _ (List.mem_of_getElem? (i := 22) rfl)) (hw _ (List.mem_of_getElem? (i := 2) rfl)) (hw _ (List.mem_of_getElem? (i := 24) rfl)) (by decide) Ba2'h5 own_pd5 (argsL := [(.int (1 : Int32))]) (rest := []) rfl rfl rfl (W := 0) (Nat.le_of_eq rfl) rfl (by decide) (by decide) (k' := 2) (n' := 18) rfl rfl (by decide) (by decide) at_128 (q := 131) rfl ?_
                rintro _ _ ⟨rfl, rfl⟩
                show X.G h5 2 18 131 #[.val (.int x0), .val (.int x1), .val (.int x2), .val (.int x3), .val (.int x4), .val (.ref a2), .val (.int (2 : Int32)), .val (.int (1 : Int32)), .val (.int x1), .val (.int (1 : Int32)), .unset] [(.int x1)]
                refine X.iload (q := 133) at_131 rfl rfl ?_
                refine X.iconst (q := 134) (1 : Int32) at_133 (by decide) rfl ?_
                refine X.icmp_ne (a := 2) (b := 1) (q' := 141) (q := 137) at_134 rfl rfl (by decide) rfl (fun c134 => ?_) (fun c134 => ?_)
                · refine X.iload (q := 143) at_141 rfl rfl ?_
                  refine X.iconst (q := 144) (2 : Int32) at_143 (by decide) rfl ?_
                  refine X.icmp_ne (a := 2) (b := 2) (q' := 151) (q := 147) at_144 rfl rfl (by decide) rfl (fun c144 => ?_) (fun c144 => ?_)
                  · omega
                  · refine X.iloadN (q := 148) at_147 rfl rfl ?_
                    refine X.goto (q' := 152) at_148 (by decide) ?_
                    refine X.icmp_ne (q' := 159) (q := 155) at_152 rfl rfl (by decide) rfl (fun c152 => ?_) (fun c152 => ?_)
                    · omega
                    · refine X.iconst (q := 156) (1 : Int32) at_155 (by decide) rfl ?_
                      refine X.goto (q' := 160) at_156 (by decide) ?_
                      refine X.istore (q := 162) (Ls' := #[.val (.int x0), .val (.int x1), .val (.int x2), .val (.int x3), .val (.int x4), .val (.ref a2), .val (.int (2 : Int32)), .val (.int (1 : Int32)), .val (.int x1), .val (.int (1 : Int32)), .val (.int (1 : Int32))]) at_160 rfl rfl ?_
                      refine X.iload (q := 164) at_162 rfl rfl ?_
                      refine X.if_eq (a := 1) (q' := 188) (q := 167) at_164 rfl (by decide) rfl (fun c164 => ?_) (fun c164 => ?_)
                      · omega
                      · refine X.iload (q := 169) at_167 rfl rfl ?_
                        refine X.if_eq (a := 1) (q' := 188) (q := 172) at_169 rfl (by decide) rfl (fun c169 => ?_) (fun c169 => ?_)
                        · omega
                        · refine X.aload (q := 174) at_172 rfl rfl rfl ?_
                          refine X.iload (q := 176) at_174 rfl rfl ?_
                          refine X.virtual (a := a2) (own_get l Z a0 hw h5 n0 a2 b (1 : Int32) (2 : Int32) 1 x1 _ rfl (by decide) rfl hsh5 HV1 HS1 HA1) (hw _ (List.mem_of_getElem? (i := 20) rfl)) (hw _ (List.mem_of_getElem? (i := 21) rfl)) (hw _ (List.mem_of_getElem? (i := 23) rfl)) (hw _ (List.mem_of_getElem? (i := 22) rfl)) (hw _ (List.mem_of_getElem? (i := 2) rfl)) (hw _ (List.mem_of_getElem? (i := 24) rfl)) (by decide) Ba2'h5 own_pd5 (argsL := [(.int (1 : Int32))]) (rest := []) rfl rfl rfl (W := 0) (Nat.le_of_eq rfl) rfl (by decide) (by decide) (k' := 2) (n' := 18) rfl rfl (by decide) (by decide) at_176 (q := 179) rfl ?_
                          rintro _ _ ⟨rfl, rfl⟩
                          show X.G h5 2 18 179 #[.val (.int x0), .val (.int x1), .val (.int x2), .val (.int x3), .val (.int x4), .val (.ref a2), .val (.int (2 : Int32)), .val (.int (1 : Int32)), .val (.int x1), .val (.int (1 : Int32)), .val (.int (1 : Int32))] [(.int x1)]
                          refine X.iload (q := 181) at_179 rfl rfl ?_
                          refine X.icmp_ne (q' := 188) (q := 184) at_181 rfl rfl (by decide) rfl (fun c181 => ?_) (fun c181 => ?_)
                          · omega
                          · refine X.iconst (q := 185) (1 : Int32) at_184 (by decide) rfl ?_
                            refine X.goto (q' := 189) at_185 (by decide) ?_
                            refine X.retN (t := .boolean) (z' := (1 : Int32)) at_189 rfl (by simp) (by decide) (by decide) (by decide) ?_
                            rfl
                · omega
          · refine X.iloadN (q := 85) at_84 rfl rfl ?_
            refine X.istore (q := 87) (Ls' := #[.val (.int x0), .val (.int x1), .val (.int x2), .val (.int x3), .val (.int x4), .val (.ref a2), .val (.int (2 : Int32)), .val (.int ix), .val (.int x0), .unset, .unset]) at_85 rfl rfl ?_
            refine X.goto (q' := 105) at_87 (by decide) ?_
            obtain rfl : ix = (0 : Int32) := by rw [← Int32.toInt_inj]; have e_ : (0 : Int32).toInt = 0 := rfl; omega
            refine X.aload (q := 107) at_105 rfl rfl rfl ?_
            refine X.iconst (q := 108) (0 : Int32) at_107 (by decide) rfl ?_
            refine X.virtual (a := a2) (own_get l Z a0 hw h5 n0 a2 b (0 : Int32) (2 : Int32) 0 x0 _ rfl (by decide) rfl hsh5 HV1 HS1 HA1) (hw _ (List.mem_of_getElem? (i := 20) rfl)) (hw _ (List.mem_of_getElem? (i := 21) rfl)) (hw _ (List.mem_of_getElem? (i := 23) rfl)) (hw _ (List.mem_of_getElem? (i := 22) rfl)) (hw _ (List.mem_of_getElem? (i := 2) rfl)) (hw _ (List.mem_of_getElem? (i := 24) rfl)) (by decide) Ba2'h5 own_pd5 (argsL := [(.int (0 : Int32))]) (rest := []) rfl rfl rfl (W := 0) (Nat.le_of_eq rfl) rfl (by decide) (by decide) (k' := 2) (n' := 18) rfl rfl (by decide) (by decide) at_108 (q := 111) rfl ?_
            rintro _ _ ⟨rfl, rfl⟩
            show X.G h5 2 18 111 #[.val (.int x0), .val (.int x1), .val (.int x2), .val (.int x3), .val (.int x4), .val (.ref a2), .val (.int (2 : Int32)), .val (.int (0 : Int32)), .val (.int x0), .unset, .unset] [(.int x0)]
            refine X.iloadN (q := 112) at_111 rfl rfl ?_
            refine X.icmp_ne (q' := 119) (q := 115) at_112 rfl rfl (by decide) rfl (fun c112 => ?_) (fun c112 => ?_)
            · omega
            · refine X.iconst (q := 116) (1 : Int32) at_115 (by decide) rfl ?_
              refine X.goto (q' := 120) at_116 (by decide) ?_
              refine X.istore (q := 122) (Ls' := #[.val (.int x0), .val (.int x1), .val (.int x2), .val (.int x3), .val (.int x4), .val (.ref a2), .val (.int (2 : Int32)), .val (.int (0 : Int32)), .val (.int x0), .val (.int (1 : Int32)), .unset]) at_120 rfl rfl ?_
              refine X.aload (q := 124) at_122 rfl rfl rfl ?_
              refine X.iload (q := 126) at_124 rfl rfl ?_
              refine X.iconst (q := 127) (1 : Int32) at_126 (by decide) rfl ?_
              refine X.isub (q := 128) at_127 rfl ?_
              refine X.foldI (v := (1 : Int32)) (by decide) ?_
              refine X.virtual (a := a2) (own_get l Z a0 hw h5 n0 a2 b (1 : Int32) (2 : Int32) 1 x1 _ rfl (by decide) rfl hsh5 HV1 HS1 HA1) (hw _ (List.mem_of_getElem? (i := 20) rfl)) (hw _ (List.mem_of_getElem? (i := 21) rfl)) (hw _ (List.mem_of_getElem? (i := 23) rfl)) (hw _ (List.mem_of_getElem? (i := 22) rfl)) (hw _ (List.mem_of_getElem? (i := 2) rfl)) (hw _ (List.mem_of_getElem? (i := 24) rfl)) (by decide) Ba2'h5 own_pd5 (argsL := [(.int (1 : Int32))]) (rest := []) rfl rfl rfl (W := 0) (Nat.le_of_eq rfl) rfl (by decide) (by decide) (k' := 2) (n' := 18) rfl rfl (by decide) (by decide) at_128 (q := 131) rfl ?_
              rintro _ _ ⟨rfl, rfl⟩
              show X.G h5 2 18 131 #[.val (.int x0), .val (.int x1), .val (.int x2), .val (.int x3), .val (.int x4), .val (.ref a2), .val (.int (2 : Int32)), .val (.int (0 : Int32)), .val (.int x0), .val (.int (1 : Int32)), .unset] [(.int x1)]
              refine X.iload (q := 133) at_131 rfl rfl ?_
              refine X.iconst (q := 134) (1 : Int32) at_133 (by decide) rfl ?_
              refine X.icmp_ne (a := 2) (b := 1) (q' := 141) (q := 137) at_134 rfl rfl (by decide) rfl (fun c134 => ?_) (fun c134 => ?_)
              · refine X.iload (q := 143) at_141 rfl rfl ?_
                refine X.iconst (q := 144) (2 : Int32) at_143 (by decide) rfl ?_
                refine X.icmp_ne (a := 2) (b := 2) (q' := 151) (q := 147) at_144 rfl rfl (by decide) rfl (fun c144 => ?_) (fun c144 => ?_)
                · omega
                · refine X.iloadN (q := 148) at_147 rfl rfl ?_
                  refine X.goto (q' := 152) at_148 (by decide) ?_
                  refine X.icmp_ne (q' := 159) (q := 155) at_152 rfl rfl (by decide) rfl (fun c152 => ?_) (fun c152 => ?_)
                  · omega
                  · refine X.iconst (q := 156) (1 : Int32) at_155 (by decide) rfl ?_
                    refine X.goto (q' := 160) at_156 (by decide) ?_
                    refine X.istore (q := 162) (Ls' := #[.val (.int x0), .val (.int x1), .val (.int x2), .val (.int x3), .val (.int x4), .val (.ref a2), .val (.int (2 : Int32)), .val (.int (0 : Int32)), .val (.int x0), .val (.int (1 : Int32)), .val (.int (1 : Int32))]) at_160 rfl rfl ?_
                    refine X.iload (q := 164) at_162 rfl rfl ?_
                    refine X.if_eq (a := 1) (q' := 188) (q := 167) at_164 rfl (by decide) rfl (fun c164 => ?_) (fun c164 => ?_)
                    · omega
                    · refine X.iload (q := 169) at_167 rfl rfl ?_
                      refine X.if_eq (a := 1) (q' := 188) (q := 172) at_169 rfl (by decide) rfl (fun c169 => ?_) (fun c169 => ?_)
                      · omega
                      · refine X.aload (q := 174) at_172 rfl rfl rfl ?_
                        refine X.iload (q := 176) at_174 rfl rfl ?_
                        refine X.virtual (a := a2) (own_get l Z a0 hw h5 n0 a2 b (0 : Int32) (2 : Int32) 0 x0 _ rfl (by decide) rfl hsh5 HV1 HS1 HA1) (hw _ (List.mem_of_getElem? (i := 20) rfl)) (hw _ (List.mem_of_getElem? (i := 21) rfl)) (hw _ (List.mem_of_getElem? (i := 23) rfl)) (hw _ (List.mem_of_getElem? (i := 22) rfl)) (hw _ (List.mem_of_getElem? (i := 2) rfl)) (hw _ (List.mem_of_getElem? (i := 24) rfl)) (by decide) Ba2'h5 own_pd5 (argsL := [(.int (0 : Int32))]) (rest := []) rfl rfl rfl (W := 0) (Nat.le_of_eq rfl) rfl (by decide) (by decide) (k' := 2) (n' := 18) rfl rfl (by decide) (by decide) at_176 (q := 179) rfl ?_
                        rintro _ _ ⟨rfl, rfl⟩
                        show X.G h5 2 18 179 #[.val (.int x0), .val (.int x1), .val (.int x2), .val (.int x3), .val (.int x4), .val (.ref a2), .val (.int (2 : Int32)), .val (.int (0 : Int32)), .val (.int x0), .val (.int (1 : Int32)), .val (.int (1 : Int32))] [(.int x0)]
                        refine X.iload (q := 181) at_179 rfl rfl ?_
                        refine X.icmp_ne (q' := 188) (q := 184) at_181 rfl rfl (by decide) rfl (fun c181 => ?_) (fun c181 => ?_)
                        · omega
                        · refine X.iconst (q := 185) (1 : Int32) at_184 (by decide) rfl ?_
                          refine X.goto (q' := 189) at_185 (by decide) ?_
                          refine X.retN (t := .boolean) (z' := (1 : Int32)) at_189 rfl (by simp) (by decide) (by decide) (by decide) ?_
                          rfl
              · omega
        · omega
      · refine X.aload (q := 46) at_44 rfl rfl rfl ?_
        refine X.iloadN (q := 47) at_46 rfl rfl ?_
        refine X.virtual (a := a2) (own_ladd l Z a0 hw h5 n0 a2 b x2 (2 : Int32) 16 2 _ rfl rfl (by simp) hsh5 Ba2'h5 HV1 HS1 HA1 gea2 geb (Nat.ne_of_lt lab)) (hw _ (List.mem_of_getElem? (i := 12) rfl)) (hw _ (List.mem_of_getElem? (i := 13) rfl)) (hw _ (List.mem_of_getElem? (i := 15) rfl)) (hw _ (List.mem_of_getElem? (i := 14) rfl)) (hw _ (List.mem_of_getElem? (i := 2) rfl)) (hw _ (List.mem_of_getElem? (i := 16) rfl)) (by decide) Ba2'h5 own_pd4 (argsL := [(.int x2)]) (rest := []) rfl rfl rfl (W := 0) (Nat.le_of_eq rfl) rfl (by decide) (by decide) (k' := 2) (n' := 18) rfl rfl (by decide) (by decide) at_47 (q := 50) rfl ?_
        rintro _ h6 ⟨rfl, Kh6c, HV2, HS2, HA2⟩
        have Ba2'h6 : Exa Z h6 a2 "com/example/vireo/vireo/cli/IntList" := Exa.keep Ba2'h5 Kh6c
        have hsh6 : n0 ≤ h6.size := Nat.le_trans hsh5 Kh6c.1
        show X.G h6 2 18 50 #[.val (.int x0), .val (.int x1), .val (.int x2), .val (.int x3), .val (.int x4), .val (.ref a2), .val (.int cnt), .unset, .unset, .unset, .unset] []
        have HS2 : Fld Z h6 a2 "com/example/vireo/vireo/cli/IntList" "size" "I" (.int (3 : Int32)) := HS2
        have HA2 : OwA Z h6 b .int [(.int x0), (.int x1), (.int x2), (.int (0 : Int32)), (.int (0 : Int32)), (.int (0 : Int32)), (.int (0 : Int32)), (.int (0 : Int32)), (.int (0 : Int32)), (.int (0 : Int32)), (.int (0 : Int32)), (.int (0 : Int32)), (.int (0 : Int32)), (.int (0 : Int32)), (.int (0 : Int32)), (.int (0 : Int32))] := HA2
        obtain rfl : cnt = (3 : Int32) := by rw [← Int32.toInt_inj]; have e_ : (3 : Int32).toInt = 3 := rfl; omega
        refine X.iload (q := 52) at_50 rfl rfl ?_
        refine X.if_ne (a := 3) (q' := 69) (q := 55) at_52 rfl (by decide) rfl (fun c52 => ?_) (fun c52 => ?_)
        · refine X.iload (q := 71) at_69 rfl rfl ?_
          refine X.ldc (q := 73) (v := (2147483647 : Int32)) (hw _ (List.mem_of_getElem? (i := 19) rfl)) at_71 rfl ?_
          refine X.iand (q := 74) at_73 rfl ?_
          refine X.iload (q := 76) at_74 rfl rfl ?_
          refine X.irem (q := 77) at_76 (by decide) rfl ?_
          refine X.nmI (fun ix hix => ?_)
          have hix_ : 0 ≤ ix.toInt ∧ ix.toInt < 3 := by
              have q : (3 : Int32).toInt = 3 := rfl
              generalize hm : (x4 &&& (2147483647 : Int32)) = y at hix
              have r : 0 ≤ y.toInt := by rw [← hm, Jvm.Kit.i32_mask (k := 31) _ _ (by decide) (by decide)]; omega
              rw [hix, Jvm.Kit.i32_rem_nonneg r, q]; omega
          refine X.istore (q := 79) (Ls' := #[.val (.int x0), .val (.int x1), .val (.int x2), .val (.int x3), .val (.int x4), .val (.ref a2), .val (.int (3 : Int32)), .val (.int ix), .unset, .unset, .unset]) at_77 rfl rfl ?_
          refine X.iload (q := 81) at_79 rfl rfl ?_
          refine X.if_ne (q' := 90) (q := 84) at_81 rfl (by decide) rfl (fun c81 => ?_) (fun c81 => ?_)
          · refine X.iload (q := 92) at_90 rfl rfl ?_
            refine X.iconst (q := 93) (1 : Int32) at_92 (by decide) rfl ?_
            refine X.icmp_ne (b := 1) (q' := 102) (q := 96) at_93 rfl rfl (by decide) rfl (fun c93 => ?_) (fun c93 => ?_)
            · refine X.iloadN (q := 103) at_102 rfl rfl ?_
              refine X.istore (q := 105) (Ls' := #[.val (.int x0), .val (.int x1), .val (.int x2), .val (.int x3), .val (.int x4), .val (.ref a2), .val (.int (3 : Int32)), .val (.int ix), .val (.int x2), .unset, .unset]) at_103 rfl rfl ?_
              obtain rfl : ix = (2 : Int32) := by rw [← Int32.toInt_inj]; have e_ : (2 : Int32).toInt = 2 := rfl; omega
              refine X.aload (q := 107) at_105 rfl rfl rfl ?_
              refine X.iconst (q := 108) (0 : Int32) at_107 (by decide) rfl ?_
              refine X.virtual (a := a2) (own_get l Z a0 hw h6 n0 a2 b (0 : Int32) (3 : Int32) 0 x0 _ rfl (by decide) rfl hsh6 HV2 HS2 HA2) (hw _ (List.mem_of_getElem? (i := 20) rfl)) (hw _ (List.mem_of_getElem? (i := 21) rfl)) (hw _ (List.mem_of_getElem? (i := 23) rfl)) (hw _ (List.mem_of_getElem? (i := 22) rfl)) (hw _ (List.mem_of_getElem? (i := 2) rfl)) (hw _ (List.mem_of_getElem? (i := 24) rfl)) (by decide) Ba2'h6 own_pd5 (argsL := [(.int (0 : Int32))]) (rest := []) rfl rfl rfl (W := 0) (Nat.le_of_eq rfl) rfl (by decide) (by decide) (k' := 2) (n' := 18) rfl rfl (by decide) (by decide) at_108 (q := 111) rfl ?_
              rintro _ _ ⟨rfl, rfl⟩
              show X.G h6 2 18 111 #[.val (.int x0), .val (.int x1), .val (.int x2), .val (.int x3), .val (.int x4), .val (.ref a2), .val (.int (3 : Int32)), .val (.int (2 : Int32)), .val (.int x2), .unset, .unset] [(.int x0)]
              refine X.iloadN (q := 112) at_111 rfl rfl ?_
              refine X.icmp_ne (q' := 119) (q := 115) at_112 rfl rfl (by decide) rfl (fun c112 => ?_) (fun c112 => ?_)
              · omega
              · refine X.iconst (q := 116) (1 : Int32) at_115 (by decide) rfl ?_
                refine X.goto (q' := 120) at_116 (by decide) ?_
                refine X.istore (q := 122) (Ls' := #[.val (.int x0), .val (.int x1), .val (.int x2), .val (.int x3), .val (.int x4), .val (.ref a2), .val (.int (3 : Int32)), .val (.int (2 : Int32)), .val (.int x2), .val (.int (1 : Int32)), .unset]) at_120 rfl rfl ?_
                refine X.aload (q := 124) at_122 rfl rfl rfl ?_
                refine X.iload (q := 126) at_124 rfl rfl ?_
                refine X.iconst (q := 127) (1 : Int32) at_126 (by decide) rfl ?_
                refine X.isub (q := 128) at_127 rfl ?_
                refine X.foldI (v := (2 : Int32)) (by decide) ?_
                refine X.virtual (a := a2) (own_get l Z a0 hw h6 n0 a2 b (2 : Int32) (3 : Int32) 2 x2 _ rfl (by decide) rfl hsh6 HV2 HS2 HA2) (hw _ (List.mem_of_getElem? (i := 20) rfl)) (hw _ (List.mem_of_getElem? (i := 21) rfl)) (hw _ (List.mem_of_getElem? (i := 23) rfl)) (hw _ (List.mem_of_getElem? (i := 22) rfl)) (hw _ (List.mem_of_getElem? (i := 2) rfl)) (hw _ (List.mem_of_getElem? (i := 24) rfl)) (by decide) Ba2'h6 own_pd5 (argsL := [(.int (2 : Int32))]) (rest := []) rfl rfl rfl (W := 0) (Nat.le_of_eq rfl) rfl (by decide) (by decide) (k' := 2) (n' := 18) rfl rfl (by decide) (by decide) at_128 (q := 131) rfl ?_
                rintro _ _ ⟨rfl, rfl⟩
                show X.G h6 2 18 131 #[.val (.int x0), .val (.int x1), .val (.int x2), .val (.int x3), .val (.int x4), .val (.ref a2), .val (.int (3 : Int32)), .val (.int (2 : Int32)), .val (.int x2), .val (.int (1 : Int32)), .unset] [(.int x2)]
                refine X.iload (q := 133) at_131 rfl rfl ?_
                refine X.iconst (q := 134) (1 : Int32) at_133 (by decide) rfl ?_
                refine X.icmp_ne (a := 3) (b := 1) (q' := 141) (q := 137) at_134 rfl rfl (by decide) rfl (fun c134 => ?_) (fun c134 => ?_)
                · refine X.iload (q := 143) at_141 rfl rfl ?_
                  refine X.iconst (q := 144) (2 : Int32) at_143 (by decide) rfl ?_
                  refine X.icmp_ne (a := 3) (b := 2) (q' := 151) (q := 147) at_144 rfl rfl (by decide) rfl (fun c144 => ?_) (fun c144 => ?_)
                  · refine X.iloadN (q := 152) at_151 rfl rfl ?_
                    refine X.icmp_ne (q' := 159) (q := 155) at_152 rfl rfl (by decide) rfl (fun c152 => ?_) (fun c152 => ?_)
                    · omega
                    · refine X.iconst (q := 156) (1 : Int32) at_155 (by decide) rfl ?_
                      refine X.goto (q' := 160) at_156 (by decide) ?_
                      refine X.istore (q := 162) (Ls' := #[.val (.int x0), .val (.int x1), .val (.int x2), .val (.int x3), .val (.int x4), .val (.ref a2), .val (.int (3 : Int32)), .val (.int (2 : Int32)), .val (.int x2), .val (.int (1 : Int32)), .val (.int (1 : Int32))]) at_160 rfl rfl ?_
                      refine X.iload (q := 164) at_162 rfl rfl ?_
                      refine X.if_eq (a := 1) (q' := 188) (q := 167) at_164 rfl (by decide) rfl (fun c164 => ?_) (fun c164 => ?_)
                      · omega
                      · refine X.iload (q := 169) at_167 rfl rfl ?_
                        refine X.if_eq (a := 1) (q' := 188) (q := 172) at_169 rfl (by decide) rfl (fun c169 => ?_) (fun c169 => ?_)
                        · omega
                        · refine X.aload (q := 174) at_172 rfl rfl rfl ?_
                          refine X.iload (q := 176) at_174 rfl rfl ?_
                          refine X.virtual (a := a2) (own_get l Z a0 hw h6 n0 a2 b (2 : Int32) (3 : Int32) 2 x2 _ rfl (by decide) rfl hsh6 HV2 HS2 HA2) (hw _ (List.mem_of_getElem? (i := 20) rfl)) (hw _ (List.mem_of_getElem? (i := 21) rfl)) (hw _ (List.mem_of_getElem? (i := 23) rfl)) (hw _ (List.mem_of_getElem? (i := 22) rfl)) (hw _ (List.mem_of_getElem? (i := 2) rfl)) (hw _ (List.mem_of_getElem? (i := 24) rfl)) (by decide) Ba2'h6 own_pd5 (argsL := [(.int (2 : Int32))]) (rest := []) rfl rfl rfl (W := 0) (Nat.le_of_eq rfl) rfl (by decide) (by decide) (k' := 2) (n' := 18) rfl rfl (by decide) (by decide) at_176 (q := 179) rfl ?_
                          rintro _ _ ⟨rfl, rfl⟩
                          show X.G h6 2 18 179 #[.val (.int x0), .val (.int x1), .val (.int x2), .val (.int x3), .val (.int x4), .val (.ref a2), .val (.int (3 : Int32)), .val (.int (2 : Int32)), .val (.int x2), .val (.int (1 : Int32)), .val (.int (1 : Int32))] [(.int x2)]
                          refine X.iload (q := 181) at_179 rfl rfl ?_
                          refine X.icmp_ne (q' := 188) (q := 184) at_181 rfl rfl (by decide) rfl (fun c181 => ?_) (fun c181 => ?_)
                          · omega
                          · refine X.iconst (q := 185) (1 : Int32) at_184 (by decide) rfl ?_
                            refine X.goto (q' := 189) at_185 (by decide) ?_
                            refine X.retN (t := .boolean) (z' := (1 : Int32)) at_189 rfl (by simp) (by decide) (by decide) (by decide) ?_
                            rfl
                  · omega
                · omega
            · refine X.iloadN (q := 97) at_96 rfl rfl ?_
              refine X.istore (q := 99) (Ls' := #[.val (.int x0), .val (.int x1), .val (.int x2), .val (.int x3), .val (.int x4), .val (.ref a2), .val (.int (3 : Int32)), .val (.int ix), .val (.int x1), .unset, .unset]) at_97 rfl rfl ?_
              refine X.goto (q' := 105) at_99 (by decide) ?_
              obtain rfl : ix = (1 : Int32) := by rw [← Int32.toInt_inj]; have e_ : (1 : Int32).toInt = 1 := rfl; omega
              refine X.aload (q := 107) at_105 rfl rfl rfl ?_
              refine X.iconst (q := 108) (0 : Int32) at_107 (by decide) rfl ?_
              refine X.virtual (a := a2) (own_get l Z a0 hw h6 n0 a2 b (0 : Int32) (3 : Int32) 0 x0 _ rfl (by decide) rfl hsh6 HV2 HS2 HA2) (hw _ (List.mem_of_getElem? (i := 20) rfl)) (hw _ (List.mem_of_getElem? (i := 21) rfl)) (hw _ (List.mem_of_getElem? (i := 23) rfl)) (hw _ (List.mem_of_getElem? (i := 22) rfl)) (hw _ (List.mem_of_getElem? (i := 2) rfl)) (hw _ (List.mem_of_getElem? (i := 24) rfl)) (by decide) Ba2'h6 own_pd5 (argsL := [(.int (0 : Int32))]) (rest := []) rfl rfl rfl (W := 0) (Nat.le_of_eq rfl) rfl (by decide) (by decide) (k' := 2) (n' := 18) rfl rfl (by decide) (by decide) at_108 (q := 111) rfl ?_
              rintro _ _ ⟨rfl, rfl⟩
              show X.G h6 2 18 111 #[.val (.int x0), .val (.int x1), .val (.int x2), .val (.int x3), .val (.int x4), .val (.ref a2), .val (.int (3 : Int32)), .val (.int (1 : Int32)), .val (.int x1), .unset, .unset] [(.int x0)]
              refine X.iloadN (q := 112) at_111 rfl rfl ?_
              refine X.icmp_ne (q' := 119) (q := 115) at_112 rfl rfl (by decide) rfl (fun c112 => ?_) (fun c112 => ?_)
              · omega
              · refine X.iconst (q := 116) (1 : Int32) at_115 (by decide) rfl ?_
                refine X.goto (q' := 120) at_116 (by decide) ?_
                refine X.istore (q := 122) (Ls' := #[.val (.int x0), .val (.int x1), .val (.int x2), .val (.int x3), .val (.int x4), .val (.ref a2), .val (.int (3 : Int32)), .val (.int (1 : Int32)), .val (.int x1), .val (.int (1 : Int32)), .unset]) at_120 rfl rfl ?_
                refine X.aload (q := 124) at_122 rfl rfl rfl ?_
                refine X.iload (q := 126) at_124 rfl rfl ?_
                refine X.iconst (q := 127) (1 : Int32) at_126 (by decide) rfl ?_
                refine X.isub (q := 128) at_127 rfl ?_
                refine X.foldI (v := (2 : Int32)) (by decide) ?_
                refine X.virtual (a := a2) (own_get l Z a0 hw h6 n0 a2 b (2 : Int32) (3 : Int32) 2 x2 _ rfl (by decide) rfl hsh6 HV2 HS2 HA2) (hw _ (List.mem_of_getElem? (i := 20) rfl)) (hw _ (List.mem_of_getElem? (i := 21) rfl)) (hw _ (List.mem_of_getElem? (i := 23) rfl)) (hw _ (List.mem_of_getElem? (i := 22) rfl)) (hw _ (List.mem_of_getElem? (i := 2) rfl)) (hw _ (List.mem_of_getElem? (i := 24) rfl)) (by decide) Ba2'h6 own_pd5 (argsL := [(.int (2 : Int32))]) (rest := []) rfl rfl rfl (W := 0) (Nat.le_of_eq rfl) rfl (by decide) (by decide) (k' := 2) (n' := 18) rfl rfl (by decide) (by decide) at_128 (q := 131) rfl ?_
                rintro _ _ ⟨rfl, rfl⟩
                show X.G h6 2 18 131 #[.val (.int x0), .val (.int x1), .val (.int x2), .val (.int x3), .val (.int x4), .val (.ref a2), .val (.int (3 : Int32)), .val (.int (1 : Int32)), .val (.int x1), .val (.int (1 : Int32)), .unset] [(.int x2)]
                refine X.iload (q := 133) at_131 rfl rfl ?_
                refine X.iconst (q := 134) (1 : Int32) at_133 (by decide) rfl ?_
                refine X.icmp_ne (a := 3) (b := 1) (q' := 141) (q := 137) at_134 rfl rfl (by decide) rfl (fun c134 => ?_) (fun c134 => ?_)
                · refine X.iload (q := 143) at_141 rfl rfl ?_
                  refine X.iconst (q := 144) (2 : Int32) at_143 (by decide) rfl ?_
                  refine X.icmp_ne (a := 3) (b := 2) (q' := 151) (q := 147) at_144 rfl rfl (by decide) rfl (fun c144 => ?_) (fun c144 => ?_)
                  · refine X.iloadN (q := 152) at_151 rfl rfl ?_
                    refine X.icmp_ne (q' := 159) (q := 155) at_152 rfl rfl (by decide) rfl (fun c152 => ?_) (fun c152 => ?_)
                    · omega
                    · refine X.iconst (q := 156) (1 : Int32) at_155 (by decide) rfl ?_
                      refine X.goto (q' := 160) at_156 (by decide) ?_
                      refine X.istore (q := 162) (Ls' := #[.val (.int x0), .val (.int x1), .val (.int x2), .val (.int x3), .val (.int x4), .val (.ref a2), .val (.int (3 : Int32)), .val (.int (1 : Int32)), .val (.int x1), .val (.int (1 : Int32)), .val (.int (1 : Int32))]) at_160 rfl rfl ?_
                      refine X.iload (q := 164) at_162 rfl rfl ?_
                      refine X.if_eq (a := 1) (q' := 188) (q := 167) at_164 rfl (by decide) rfl (fun c164 => ?_) (fun c164 => ?_)
                      · omega
                      · refine X.iload (q := 169) at_167 rfl rfl ?_
                        refine X.if_eq (a := 1) (q' := 188) (q := 172) at_169 rfl (by decide) rfl (fun c169 => ?_) (fun c169 => ?_)
                        · omega
                        · refine X.aload (q := 174) at_172 rfl rfl rfl ?_
                          refine X.iload (q := 176) at_174 rfl rfl ?_
                          refine X.virtual (a := a2) (own_get l Z a0 hw h6 n0 a2 b (1 : Int32) (3 : Int32) 1 x1 _ rfl (by decide) rfl hsh6 HV2 HS2 HA2) (hw _ (List.mem_of_getElem? (i := 20) rfl)) (hw _ (List.mem_of_getElem? (i := 21) rfl)) (hw _ (List.mem_of_getElem? (i := 23) rfl)) (hw _ (List.mem_of_getElem? (i := 22) rfl)) (hw _ (List.mem_of_getElem? (i := 2) rfl)) (hw _ (List.mem_of_getElem? (i := 24) rfl)) (by decide) Ba2'h6 own_pd5 (argsL := [(.int (1 : Int32))]) (rest := []) rfl rfl rfl (W := 0) (Nat.le_of_eq rfl) rfl (by decide) (by decide) (k' := 2) (n' := 18) rfl rfl (by decide) (by decide) at_176 (q := 179) rfl ?_
                          rintro _ _ ⟨rfl, rfl⟩
                          show X.G h6 2 18 179 #[.val (.int x0), .val (.int x1), .val (.int x2), .val (.int x3), .val (.int x4), .val (.ref a2), .val (.int (3 : Int32)), .val (.int (1 : Int32)), .val (.int x1), .val (.int (1 : Int32)), .val (.int (1 : Int32))] [(.int x1)]
                          refine X.iload (q := 181) at_179 rfl rfl ?_
                          refine X.icmp_ne (q' := 188) (q := 184) at_181 rfl rfl (by decide) rfl (fun c181 => ?_) (fun c181 => ?_)
                          · omega
                          · refine X.iconst (q := 185) (1 : Int32) at_184 (by decide) rfl ?_
                            refine X.goto (q' := 189) at_185 (by decide) ?_
                            refine X.retN (t := .boolean) (z' := (1 : Int32)) at_189 rfl (by simp) (by decide) (by decide) (by decide) ?_
                            rfl
                  · omega
                · omega
          · refine X.iloadN (q := 85) at_84 rfl rfl ?_
            refine X.istore (q := 87) (Ls' := #[.val (.int x0), .val (.int x1), .val (.int x2), .val (.int x3), .val (.int x4), .val (.ref a2), .val (.int (3 : Int32)), .val (.int ix), .val (.int x0), .unset, .unset]) at_85 rfl rfl ?_
            refine X.goto (q' := 105) at_87 (by decide) ?_
            obtain rfl : ix = (0 : Int32) := by rw [← Int32.toInt_inj]; have e_ : (0 : Int32).toInt = 0 := rfl; omega
            refine X.aload (q := 107) at_105 rfl rfl rfl ?_
            refine X.iconst (q := 108) (0 : Int32) at_107 (by decide) rfl ?_
            refine X.virtual (a := a2) (own_get l Z a0 hw h6 n0 a2 b (0 : Int32) (3 : Int32) 0 x0 _ rfl (by decide) rfl hsh6 HV2 HS2 HA2) (hw _ (List.mem_of_getElem? (i := 20) rfl)) (hw _ (List.mem_of_getElem? (i := 21) rfl)) (hw _ (List.mem_of_getElem? (i := 23) rfl)) (hw _ (List.mem_of_getElem? (i := 22) rfl)) (hw _ (List.mem_of_getElem? (i := 2) rfl)) (hw _ (List.mem_of_getElem? (i := 24) rfl)) (by decide) Ba2'h6 own_pd5 (argsL := [(.int (0 : Int32))]) (rest := []) rfl rfl rfl (W := 0) (Nat.le_of_eq rfl) rfl (by decide) (by decide) (k' := 2) (n' := 18) rfl rfl (by decide) (by decide) at_108 (q := 111) rfl ?_
            rintro _ _ ⟨rfl, rfl⟩
            show X.G h6 2 18 111 #[.val (.int x0), .val (.int x1), .val (.int x2), .val (.int x3), .val (.int x4), .val (.ref a2), .val (.int (3 : Int32)), .val (.int (0 : Int32)), .val (.int x0), .unset, .unset] [(.int x0)]
            refine X.iloadN (q := 112) at_111 rfl rfl ?_
            refine X.icmp_ne (q' := 119) (q := 115) at_112 rfl rfl (by decide) rfl (fun c112 => ?_) (fun c112 => ?_)
            · omega
            · refine X.iconst (q := 116) (1 : Int32) at_115 (by decide) rfl ?_
              refine X.goto (q' := 120) at_116 (by decide) ?_
              refine X.istore (q := 122) (Ls' := #[.val (.int x0), .val (.int x1), .val (.int x2), .val (.int x3), .val (.int x4), .val (.ref a2), .val (.int (3 : Int32)), .val (.int (0 : Int32)), .val (.int x0), .val (.int (1 : Int32)), .unset]) at_120 rfl rfl ?_
              refine X.aload (q := 124) at_122 rfl rfl rfl ?_
              refine X.iload (q := 126) at_124 rfl rfl ?_
              refine X.iconst (q := 127) (1 : Int32) at_126 (by decide) rfl ?_
              refine X.isub (q := 128) at_127 rfl ?_
              refine X.foldI (v := (2 : Int32)) (by decide) ?_
              refine X.virtual (a := a2) (own_get l Z a0 hw h6 n0 a2 b (2 : Int32) (3 : Int32) 2 x2 _ rfl (by decide) rfl hsh6 HV2 HS2 HA2) (hw _ (List.mem_of_getElem? (i := 20) rfl)) (hw _ (List.mem_of_getElem? (i := 21) rfl)) (hw _ (List.mem_of_getElem? (i := 23) rfl)) (hw _ (List.mem_of_getElem? (i := 22) rfl)) (hw _ (List.mem_of_getElem? (i := 2) rfl)) (hw _ (List.mem_of_getElem? (i := 24) rfl)) (by decide) Ba2'h6 own_pd5 (argsL := [(.int (2 : Int32))]) (rest := []) rfl rfl rfl (W := 0) (Nat.le_of_eq rfl) rfl (by decide) (by decide) (k' := 2) (n' := 18) rfl rfl (by decide) (by decide) at_128 (q := 131) rfl ?_
              rintro _ _ ⟨rfl, rfl⟩
              show X.G h6 2 18 131 #[.val (.int x0), .val (.int x1), .val (.int x2), .val (.int x3), .val (.int x4), .val (.ref a2), .val (.int (3 : Int32)), .val (.int (0 : Int32)), .val (.int x0), .val (.int (1 : Int32)), .unset] [(.int x2)]
              refine X.iload (q := 133) at_131 rfl rfl ?_
              refine X.iconst (q := 134) (1 : Int32) at_133 (by decide) rfl ?_
              refine X.icmp_ne (a := 3) (b := 1) (q' := 141) (q := 137) at_134 rfl rfl (by decide) rfl (fun c134 => ?_) (fun c134 => ?_)
              · refine X.iload (q := 143) at_141 rfl rfl ?_
                refine X.iconst (q := 144) (2 : Int32) at_143 (by decide) rfl ?_
                refine X.icmp_ne (a := 3) (b := 2) (q' := 151) (q := 147) at_144 rfl rfl (by decide) rfl (fun c144 => ?_) (fun c144 => ?_)
                · refine X.iloadN (q := 152) at_151 rfl rfl ?_
                  refine X.icmp_ne (q' := 159) (q := 155) at_152 rfl rfl (by decide) rfl (fun c152 => ?_) (fun c152 => ?_)
                  · omega
                  · refine X.iconst (q := 156) (1 : Int32) at_155 (by decide) rfl ?_
                    refine X.goto (q' := 160) at_156 (by decide) ?_
                    refine X.istore (q := 162) (Ls' := #[.val (.int x0), .val (.int x1), .val (.int x2), .val (.int x3), .val (.int x4), .val (.ref a2), .val (.int (3 : Int32)), .val (.int (0 : Int32)), .val (.int x0), .val (.int (1 : Int32)), .val (.int (1 : Int32))]) at_160 rfl rfl ?_
                    refine X.iload (q := 164) at_162 rfl rfl ?_
                    refine X.if_eq (a := 1) (q' := 188) (q := 167) at_164 rfl (by decide) rfl (fun c164 => ?_) (fun c164 => ?_)
                    · omega
                    · refine X.iload (q := 169) at_167 rfl rfl ?_
                      refine X.if_eq (a := 1) (q' := 188) (q := 172) at_169 rfl (by decide) rfl (fun c169 => ?_) (fun c169 => ?_)
                      · omega
                      · refine X.aload (q := 174) at_172 rfl rfl rfl ?_
                        refine X.iload (q := 176) at_174 rfl rfl ?_
                        refine X.virtual (a := a2) (own_get l Z a0 hw h6 n0 a2 b (0 : Int32) (3 : Int32) 0 x0 _ rfl (by decide) rfl hsh6 HV2 HS2 HA2) (hw _ (List.mem_of_getElem? (i := 20) rfl)) (hw _ (List.mem_of_getElem? (i := 21) rfl)) (hw _ (List.mem_of_getElem? (i := 23) rfl)) (hw _ (List.mem_of_getElem? (i := 22) rfl)) (hw _ (List.mem_of_getElem? (i := 2) rfl)) (hw _ (List.mem_of_getElem? (i := 24) rfl)) (by decide) Ba2'h6 own_pd5 (argsL := [(.int (0 : Int32))]) (rest := []) rfl rfl rfl (W := 0) (Nat.le_of_eq rfl) rfl (by decide) (by decide) (k' := 2) (n' := 18) rfl rfl (by decide) (by decide) at_176 (q := 179) rfl ?_
                        rintro _ _ ⟨rfl, rfl⟩
                        show X.G h6 2 18 179 #[.val (.int x0), .val (.int x1), .val (.int x2), .val (.int x3), .val (.int x4), .val (.ref a2), .val (.int (3 : Int32)), .val (.int (0 : Int32)), .val (.int x0), .val (.int (1 : Int32)), .val (.int (1 : Int32))] [(.int x0)]
                        refine X.iload (q := 181) at_179 rfl rfl ?_
                        refine X.icmp_ne (q' := 188) (q := 184) at_181 rfl rfl (by decide) rfl (fun c181 => ?_) (fun c181 => ?_)
                        · omega
                        · refine X.iconst (q := 185) (1 : Int32) at_184 (by decide) rfl ?_
                          refine X.goto (q' := 189) at_185 (by decide) ?_
                          refine X.retN (t := .boolean) (z' := (1 : Int32)) at_189 rfl (by simp) (by decide) (by decide) (by decide) ?_
                          rfl
                · omega
              · omega
        · omega
set_option maxRecDepth 65536 in
set_option maxHeartbeats 1000000 in
theorem comes_1 {Post : Tables → Env → Array Value → State → Outcome → State → Prop} (hpost : ∀ tb e args s v u, (limb_1_1.after args s (.returned v) u = true ∧ limb_1_2.after args s (.returned v) u = true ∧ True) → FrameEnd s (.returned v) u (Jvm.fieldLocs frame_1_writes args s ++ Jvm.arrayLocs frame_1_arrays args s ++ Jvm.staticLocs frame_1_statics s) 16 128 → Post tb e args s (.returned v) u) :
    ArmFor flags0 classFile x code maxLocals ret World_1 tables_1 room_1 Calls_1 rest_1 Pre_1 Post := by
  intro l hfl _ _ p e ha hc hk s m args below hf hA hF happ hP
  obtain ⟨hcalls, hrest, hpre⟩ := hP
  obtain ⟨-, -, -, hnamed, -, -, -, hat⟩ := (Spec.applies_iff hf).mp happ
  obtain ⟨hg, hn⟩ := and_e (Cond.before_iff.mp (show (Jvm.Cond.and given_1 narrow_1).before args s = true from hpre))
  obtain ⟨hg0, hg⟩ := and_e hg
  obtain ⟨w0, w1, w2, w3, w4, rfl⟩ : ∃ w0 w1 w2 w3 w4 : Value, args = #[w0, w1, w2, w3, w4] := by
    have hs : args.size = 5 := by simpa [Cond.value, given_1] using hg0
    obtain ⟨L⟩ := args
    match L, hs with
    | [w0, w1, w2, w3, w4], _ => exact ⟨w0, w1, w2, w3, w4, rfl⟩
  have hw := fun d (hd : d ∈ tables_1) => atoms_spec (ws := Jvm.Cond.code x code maxLocals ret :: tables_1) hat d (List.mem_cons_of_mem _ hd)
  obtain ⟨ha0, hg⟩ := and_e hg
  obtain ⟨i0, e0⟩ := is_v ha0
  obtain rfl : w0 = (.int i0) := Option.some.inj e0
  obtain ⟨ha1, hg⟩ := and_e hg
  obtain ⟨i1, e1⟩ := is_v ha1
  obtain rfl : w1 = (.int i1) := Option.some.inj e1
  obtain ⟨ha2, hg⟩ := and_e hg
  obtain ⟨i2, e2⟩ := is_v ha2
  obtain rfl : w2 = (.int i2) := Option.some.inj e2
  obtain ⟨ha3, hg⟩ := and_e hg
  obtain ⟨i3, e3⟩ := is_v ha3
  obtain rfl : w3 = (.int i3) := Option.some.inj e3
  have ha4 := hg
  obtain ⟨i4, e4⟩ := is_v ha4
  obtain rfl : w4 = (.int i4) := Option.some.inj e4
  obtain ⟨n, o, h1, h2, h3, _, L, rfl, ⟨rfl, N⟩, hq⟩ := own_law l s _ hw s.heap s.heap.size (Nat.le_refl _) i0 i1 i2 i3 i4 p e ha hc hk s m _ below hf ((Spec.applies_iff_loose hf).mp happ).1 ⟨rfl, State.Warmed39.refl s, rfl⟩ trivial
  refine ⟨n, _, h1, h2, h3, hpost _ _ _ _ _ _ ⟨Cond.after_iff.mpr rfl, Cond.after_iff.mpr (eq_i res_at (Term.int_eval (1)) rfl), trivial⟩ ⟨hq.1, hq.2.1, (hq.2.2.sift fun y hy => Or.inr (N y hy)).mono (by decide) (by decide)⟩⟩
theorem main_1_1 : Claimed_1_1 := comes_1 fun _ _ _ _ _ _ h hF => ⟨h.1, hF⟩
theorem main_1_2 : Claimed_1_2 := comes_1 fun _ _ _ _ _ _ h hF => ⟨h.2.1, hF⟩
end Jvm.Pilot.@@N@@
namespace Jvm.Pilot.@@N@@
open Jvm Jvm.ClassFile Sem Op Lib Jvm.Free Jvm.Stand Jvm.Pilot.@@N@@.Jvm.D
/-! MADE BY PROGRAM (witnessworld.py) out of the Statement's table words and the real class files: 11 classes; the members and pool entries that the words name. The judged class is class 1, her method 1. -/
namespace start1
open Jvm.ClassFile
def u (s : String) : CpInfo := .utf8 (stringToUtf16 s)
/-- a pool by its gaps: so many unusable entries, then the entry; so many at the end -/
def gap : Nat → List CpInfo → List CpInfo
  | 0, r => r
  | n + 1, r => .unusable :: gap n r
def poolList (es : List (Nat × CpInfo)) (last : Nat) : List CpInfo := es.foldr (fun e r => gap e.1 (e.2 :: r)) (gap last [])
def pool (es : List (Nat × CpInfo)) (last : Nat) : Array CpInfo := ⟨poolList es last⟩
def fileOf (pool : Array CpInfo) (this : Nat) (attrs : Array Attribute := #[]) (ms : Array MethodInfo := #[]) (fl : Nat := 33) (sup : Nat := 0) (ifs : Array Nat := #[]) (fds : Array FieldInfo := #[]) : ClassFile where
  minorVersion := 0
  majorVersion := 65
  constantPool := pool
  accessFlags := fl
  thisClass := this
  superClass := sup
  interfaces := ifs
  fields := fds
  methods := ms
  attributes := attrs
def plain (name : String) (sup : Option ClassId) : Class where
  name := name
  kind := .ordinary
  loader := none
  accessFlags := 33
  super := sup
  interfaces := #[]
  cf := none
  fields := #[]
  methods := #[]
  instanceTypes := #[]
  staticTypes := #[]
  resolved := #[]
  callSites := []
  init := .initialized
  statics := none
  mirror := none

def pool0 : Array CpInfo := pool [(5, u "<init>"), (0, u "()V"), (1, .class_ 10), (1, u "java/lang/Object")] 113

def k0c0 : Code := { maxStack := 0, maxLocals := 1, code := object_method_1_code, exceptionTable := #[], attributes := #[] }
def k0m0 : Method := { name := "<init>", desc := "()V", sig := { parameters := [], returnType := none }, accessFlags := 1, code := some k0c0 }
/-- java/lang/Object -/
def k0 : Class := { plain "java/lang/Object" none with
  accessFlags := 33
  interfaces := #[]
  cf := some (fileOf pool0 8 #[] #[{ accessFlags := 1, nameIndex := 5, descriptorIndex := 6, attributes := #[] }] 33 0 #[] #[])
  fields := #[]
  methods := #[k0m0]
  instanceTypes := #[]
  staticTypes := #[]
  resolved := Array.replicate 124 none
  statics := none }

def pool1 : Array CpInfo := pool [(2, .class_ 4), (0, .nameAndType 5 6), (0, u "java/lang/Object"), (0, u "<init>"), (0, u "()V"), (0, .class_ 8), (0, u "com/example/vireo/vireo/cli/IntList"), (0, .methodref 7 3), (0, .methodref 7 11), (0, .nameAndType 12 13), (0, u "add"), (0, u "(I)V"), (0, .methodref 7 15), (0, .nameAndType 16 17), (0, u "size"), (0, u "()I"), (0, .integer 2147483647), (0, .methodref 7 20), (0, .nameAndType 21 22), (0, u "get"), (0, u "(I)I"), (0, .class_ 24), (0, u "com/example/vireo/vireo/cli/IntListGetPinLaw"), (2, u "law"), (0, u "(IIIII)Z")] 3

def k1m0 : Method := { name := "<init>", desc := "()V", sig := { parameters := [], returnType := none }, accessFlags := 1, code := none }
def k1c1 : Code := { maxStack := 3, maxLocals := 11, code := code, exceptionTable := #[], attributes := #[] }
def k1m1 : Method := { name := "law", desc := "(IIIII)Z", sig := { parameters := [.int, .int, .int, .int, .int], returnType := some .boolean }, accessFlags := 9, code := some k1c1 }
/-- com/example/vireo/vireo/cli/IntListGetPinLaw -/
def k1 : Class := { plain "com/example/vireo/vireo/cli/IntListGetPinLaw" (some 0) with
  accessFlags := 49
  interfaces := #[]
  cf := some (fileOf pool1 23 #[] #[{ accessFlags := 1, nameIndex := 5, descriptorIndex := 6, attributes := #[] }, { accessFlags := 9, nameIndex := 27, descriptorIndex := 28, attributes := #[] }] 49 2 #[] #[])
  fields := #[]
  methods := #[k1m0, k1m1]
  instanceTypes := #[]
  staticTypes := #[]
  resolved := Array.replicate 32 none
  statics := none }

def pool2 : Array CpInfo := pool [(1, .methodref 2 3), (0, .class_ 4), (0, .nameAndType 5 6), (0, u "java/lang/Object"), (0, u "<init>"), (0, u "()V"), (0, .fieldref 8 9), (0, .class_ 10), (0, .nameAndType 11 12), (0, u "com/example/vireo/vireo/cli/IntList"), (0, u "values"), (0, u "[I"), (0, .fieldref 8 14), (0, .nameAndType 15 16), (0, u "size"), (0, u "I"), (6, .methodref 24 25), (0, .class_ 26), (0, .nameAndType 27 28), (0, u "java/util/Objects"), (0, u "checkIndex"), (0, u "(II)I"), (2, u "add"), (0, u "(I)V"), (1, u "()I"), (0, u "get"), (0, u "(I)I")] 4

def k2c0 : Code := { maxStack := 2, maxLocals := 1, code := prog_3_method_1_code, exceptionTable := #[], attributes := #[] }
def k2m0 : Method := { name := "<init>", desc := "()V", sig := { parameters := [], returnType := none }, accessFlags := 0, code := some k2c0 }
def k2c1 : Code := { maxStack := 5, maxLocals := 2, code := prog_3_method_2_code, exceptionTable := #[], attributes := #[] }
def k2m1 : Method := { name := "add", desc := "(I)V", sig := { parameters := [.int], returnType := none }, accessFlags := 0, code := some k2c1 }
def k2c2 : Code := { maxStack := 1, maxLocals := 1, code := prog_3_method_3_code, exceptionTable := #[], attributes := #[] }
def k2m2 : Method := { name := "size", desc := "()I", sig := { parameters := [], returnType := some .int }, accessFlags := 0, code := some k2c2 }
def k2c3 : Code := { maxStack := 2, maxLocals := 2, code := prog_3_method_4_code, exceptionTable := #[], attributes := #[] }
def k2m3 : Method := { name := "get", desc := "(I)I", sig := { parameters := [.int], returnType := some .int }, accessFlags := 0, code := some k2c3 }
/-- com/example/vireo/vireo/cli/IntList -/
def k2 : Class := { plain "com/example/vireo/vireo/cli/IntList" (some 0) with
  accessFlags := 48
  interfaces := #[]
  cf := some (fileOf pool2 8 #[] #[{ accessFlags := 0, nameIndex := 5, descriptorIndex := 6, attributes := #[] }, { accessFlags := 0, nameIndex := 31, descriptorIndex := 32, attributes := #[] }, { accessFlags := 0, nameIndex := 15, descriptorIndex := 34, attributes := #[] }, { accessFlags := 0, nameIndex := 35, descriptorIndex := 36, attributes := #[] }] 48 2 #[] #[{ accessFlags := 2, nameIndex := 11, descriptorIndex := 12, attributes := #[] }, { accessFlags := 2, nameIndex := 15, descriptorIndex := 16, attributes := #[] }])
  fields := #[{ name := "values", type := (.array .int), accessFlags := 2, slot := 0, constantValue := 0 }, { name := "size", type := .int, accessFlags := 2, slot := 1, constantValue := 0 }]
  methods := #[k2m0, k2m1, k2m2, k2m3]
  instanceTypes := #[(.array .int), .int]
  staticTypes := #[]
  resolved := Array.replicate 41 none
  statics := none }

def pool3 : Array CpInfo := pool [(2, .class_ 4), (1, u "java/lang/Object"), (0, u "<init>"), (0, u "()V"), (35, .class_ 44), (1, u "java/util/Objects"), (60, .methodref 106 107), (0, .class_ 108), (0, .nameAndType 109 110), (0, u "jdk/internal/util/Preconditions"), (0, u "checkIndex"), (0, u "(IILjava/util/function/BiFunction;)I"), (60, u "(II)I")] 12

def k3m0 : Method := { name := "<init>", desc := "()V", sig := { parameters := [], returnType := none }, accessFlags := 2, code := none }
def k3c1 : Code := { maxStack := 3, maxLocals := 2, code := jdk_31_method_17_code, exceptionTable := #[], attributes := #[] }
def k3m1 : Method := { name := "checkIndex", desc := "(II)I", sig := { parameters := [.int, .int], returnType := some .int }, accessFlags := 9, code := some k3c1 }
/-- java/util/Objects -/
def k3 : Class := { plain "java/util/Objects" (some 0) with
  accessFlags := 49
  interfaces := #[]
  cf := some (fileOf pool3 42 #[] #[{ accessFlags := 2, nameIndex := 5, descriptorIndex := 6, attributes := #[] }, { accessFlags := 9, nameIndex := 109, descriptorIndex := 171, attributes := #[] }] 49 2 #[] #[])
  fields := #[]
  methods := #[k3m0, k3m1]
  instanceTypes := #[]
  staticTypes := #[]
  resolved := Array.replicate 184 none
  statics := none }

def pool4 : Array CpInfo := pool [(2, .class_ 4), (1, u "java/lang/Object"), (0, u "<init>"), (0, u "()V"), (17, .class_ 26), (1, u "jdk/internal/util/Preconditions"), (6, u "checkIndex"), (21, .class_ 56), (0, u "jdk/internal/util/Preconditions$4"), (57, .class_ 115), (0, u "jdk/internal/util/Preconditions$1"), (7, u "SIOOBE_FORMATTER"), (0, u "Ljava/util/function/BiFunction;"), (0, .class_ 126), (0, u "jdk/internal/util/Preconditions$2"), (3, u "AIOOBE_FORMATTER"), (0, .class_ 132), (0, u "jdk/internal/util/Preconditions$3"), (3, u "IOOBE_FORMATTER"), (41, u "(IILjava/util/function/BiFunction;)I")] 15

def k4m0 : Method := { name := "<init>", desc := "()V", sig := { parameters := [], returnType := none }, accessFlags := 1, code := none }
def k4c1 : Code := { maxStack := 3, maxLocals := 3, code := jdk_41_method_11_code, exceptionTable := #[], attributes := #[] }
def k4m1 : Method := { name := "checkIndex", desc := "(IILjava/util/function/BiFunction;)I", sig := { parameters := [.int, .int, (.object "java/util/function/BiFunction")], returnType := some .int }, accessFlags := 9, code := some k4c1 }
/-- jdk/internal/util/Preconditions -/
def k4 : Class := { plain "jdk/internal/util/Preconditions" (some 0) with
  accessFlags := 33
  interfaces := #[]
  cf := some (fileOf pool4 24 #[.nestMembers #[55, 131, 125, 114]] #[{ accessFlags := 1, nameIndex := 5, descriptorIndex := 6, attributes := #[] }, { accessFlags := 9, nameIndex := 33, descriptorIndex := 178, attributes := #[] }] 33 2 #[] #[{ accessFlags := 25, nameIndex := 123, descriptorIndex := 124, attributes := #[] }, { accessFlags := 25, nameIndex := 130, descriptorIndex := 124, attributes := #[] }, { accessFlags := 25, nameIndex := 136, descriptorIndex := 124, attributes := #[] }])
  fields := #[{ name := "SIOOBE_FORMATTER", type := (.object "java/util/function/BiFunction"), accessFlags := 25, slot := 0, constantValue := 0 }, { name := "AIOOBE_FORMATTER", type := (.object "java/util/function/BiFunction"), accessFlags := 25, slot := 1, constantValue := 0 }, { name := "IOOBE_FORMATTER", type := (.object "java/util/function/BiFunction"), accessFlags := 25, slot := 2, constantValue := 0 }]
  methods := #[k4m0, k4m1]
  instanceTypes := #[]
  staticTypes := #[(.object "java/util/function/BiFunction"), (.object "java/util/function/BiFunction"), (.object "java/util/function/BiFunction")]
  resolved := Array.replicate 194 none
  statics := none }

def pool5 : Array CpInfo := pool [(1, u "java/lang/Cloneable"), (0, .class_ 1), (0, u "java/lang/Object"), (0, .class_ 3)] 3

/-- java/lang/Cloneable -/
def k5 : Class := { plain "java/lang/Cloneable" (some 0) with
  accessFlags := 1537
  interfaces := #[]
  cf := some (fileOf pool5 2 #[] #[] 1537 4 #[] #[])
  fields := #[]
  methods := #[]
  instanceTypes := #[]
  staticTypes := #[]
  resolved := Array.replicate 8 none
  statics := none }

def pool6 : Array CpInfo := pool [(1, u "java/io/Serializable"), (0, .class_ 1), (0, u "java/lang/Object"), (0, .class_ 3)] 3

/-- java/io/Serializable -/
def k6 : Class := { plain "java/io/Serializable" (some 0) with
  accessFlags := 1537
  interfaces := #[]
  cf := some (fileOf pool6 2 #[] #[] 1537 4 #[] #[])
  fields := #[]
  methods := #[]
  instanceTypes := #[]
  staticTypes := #[]
  resolved := Array.replicate 8 none
  statics := none }

/-- the primitive byte -/
def k7 : Class := { plain "byte" none with kind := .primitive 'B', accessFlags := 0x411 }
/-- [B -/
def k8 : Class := { plain "[B" (some 0) with kind := .array 7 .byte, interfaces := #[5, 6], accessFlags := 1041 }

/-- the primitive int -/
def k9 : Class := { plain "int" none with kind := .primitive 'I', accessFlags := 0x411 }
/-- [I -/
def k10 : Class := { plain "[I" (some 0) with kind := .array 9 .int, interfaces := #[5, 6], accessFlags := 1041 }

def heap : Heap := #[]
def classes : Array Class := #[k0, k1, k2, k3, k4, k5, k6, k7, k8, k9, k10]
def interned : List (Array UInt16 × Addr) := []
def slotsUsed : Nat := 0
def theMethod : MethodId := ⟨1, 1⟩
def args0 : Array Value := #[.int 5, .int 1, .int 2, .int 3, .int 4]
def aboutOver (below : List Frame) : State where
  vm := { classes := classes, interned := interned.toArray }
  heap := heap
  slotsUsed := slotsUsed
  threads := #[{ frames := .invoking theMethod args0 :: below }]
def below0 : List Frame := [.native { method := ⟨0, 0⟩, args := #[] }]
def about1 : State := aboutOver below0
def p0 : Program := .bare "" "" ""
def e0 : Env := launch0.env 0 0 0
theorem w_frames : about1.frames = Frame.invoking theMethod args0 :: below0 := rfl
set_option maxRecDepth 65536 in
theorem w_args : argsFit about1.vm theMethod args0 = true := by decide +kernel
set_option maxRecDepth 65536 in
theorem w_heap : heapFits about1 = true := by decide +kernel
set_option maxRecDepth 65536 in
theorem w_runnable : about1.curStatus? = some .runnable := by decide +kernel
set_option maxRecDepth 65536 in
theorem w_alone : about1.alone = true := by decide +kernel
set_option maxRecDepth 65536 in
theorem w_named : about1.methodNamed? x = some theMethod := by decide +kernel
set_option maxRecDepth 65536 in
theorem w_hears : about1.hears theMethod below0 = true := by decide +kernel
set_option maxRecDepth 65536 in
theorem w_ripe : about1.ripe theMethod args0 below0 = true := by decide +kernel
theorem w_running : about1.status = .running := rfl
set_option maxRecDepth 65536 in
theorem w_room : about1.hasRoom e0.platform room_1 = true :=
  launch0.hasRoom_least _ room_1 (by decide +kernel) (by decide +kernel) (by decide +kernel) (by decide +kernel) (by decide +kernel) (by decide +kernel)
theorem allAtoms_all (ts : List Jvm.Cond) (a : Array Jvm.Value) (st : Jvm.State) : (allAtoms ts).before a st = ts.all (fun c => c.before a st) := by
  induction ts with
  | nil => rfl
  | cons c t ih =>
    show (Jvm.Cond.and c (allAtoms t)).before a st = _
    rw [Jvm.Cond.before_and, ih, List.all_cons]
def words1 : List Jvm.Cond := Jvm.Cond.code x code maxLocals ret :: tables_1
/-- a 'code' word, met by the world's own term for the bytes: nothing is compared byte by byte -/
theorem code_word {y : MethodName} {bytes : ByteArray} {mx : Nat} {rt : Option FieldType} {a : Array Value} {s : State} {m : MethodId} {meth : Method} {c : Code} (h1 : s.methodNamed? y = some m) (h2 : s.vm.method? m = some meth) (h3 : meth.code = some c) (h4 : c.code = bytes)
    (h5 : (c.maxLocals == mx && c.exceptionTable.isEmpty && decide (c.maxStack ≤ mostOperands) && decide (meth.sig.returnType = rt) && !meth.locks && decide (parseMethodDescriptor y.desc = some meth.sig)) = true) : (Jvm.Cond.code y bytes mx rt).before a s = true := by
  simp only [Bool.and_eq_true, beq_iff_eq, Bool.not_eq_true', decide_eq_true_eq] at h5
  obtain ⟨⟨⟨⟨⟨g1, g2⟩, g3⟩, g4⟩, g5⟩, g6⟩ := h5
  simp [Cond.before, Cond.holds, Cond.value, h1, h2, h3, h4, g1, g2, g3, g4, g5, g6]
def isCode : Jvm.Cond → Bool
  | .code _ _ _ _ => true
  | _ => false
theorem all_split {L : List Jvm.Cond} {P : Jvm.Cond → Bool} (h1 : L.all (fun c => isCode c || P c) = true) (h2 : ∀ c ∈ L.filter isCode, P c = true) : L.all P = true := by
  refine List.all_eq_true.mpr fun c hc => ?_
  have h := List.all_eq_true.mp h1 c hc
  rcases Bool.eq_false_or_eq_true (isCode c) with hi | hi
  · exact h2 c (List.mem_filter.mpr ⟨hc, hi⟩)
  · simpa [hi] using h
set_option maxRecDepth 65536 in
theorem w_c0 : (Jvm.Cond.code x code maxLocals ret).before args0 about1 = true := code_word (m := ⟨1, 1⟩) (meth := k1m1) (c := k1c1) (by decide +kernel) rfl rfl rfl (by decide +kernel)
set_option maxRecDepth 65536 in
theorem w_c1 : (Jvm.Cond.code ({ cls := "com/example/vireo/vireo/cli/IntList", name := "<init>", desc := "()V" } : Jvm.MethodName) prog_3_method_1_code (1 : Nat) (Option.none : Option Jvm.ClassFile.FieldType)).before args0 about1 = true := code_word (m := ⟨2, 0⟩) (meth := k2m0) (c := k2c0) (by decide +kernel) rfl rfl rfl (by decide +kernel)
set_option maxRecDepth 65536 in
theorem w_c2 : (Jvm.Cond.code ({ cls := "java/lang/Object", name := "<init>", desc := "()V" } : Jvm.MethodName) object_method_1_code (1 : Nat) (Option.none : Option Jvm.ClassFile.FieldType)).before args0 about1 = true := code_word (m := ⟨0, 0⟩) (meth := k0m0) (c := k0c0) (by decide +kernel) rfl rfl rfl (by decide +kernel)
set_option maxRecDepth 65536 in
theorem w_c3 : (Jvm.Cond.code ({ cls := "com/example/vireo/vireo/cli/IntList", name := "add", desc := "(I)V" } : Jvm.MethodName) prog_3_method_2_code (2 : Nat) (Option.none : Option Jvm.ClassFile.FieldType)).before args0 about1 = true := code_word (m := ⟨2, 1⟩) (meth := k2m1) (c := k2c1) (by decide +kernel) rfl rfl rfl (by decide +kernel)
set_option maxRecDepth 65536 in
theorem w_c4 : (Jvm.Cond.code ({ cls := "com/example/vireo/vireo/cli/IntList", name := "get", desc := "(I)I" } : Jvm.MethodName) prog_3_method_4_code (2 : Nat) (Option.some Jvm.ClassFile.FieldType.int)).before args0 about1 = true := code_word (m := ⟨2, 3⟩) (meth := k2m3) (c := k2c3) (by decide +kernel) rfl rfl rfl (by decide +kernel)
set_option maxRecDepth 65536 in
theorem w_c5 : (Jvm.Cond.code ({ cls := "java/util/Objects", name := "checkIndex", desc := "(II)I" } : Jvm.MethodName) jdk_31_method_17_code (2 : Nat) (Option.some Jvm.ClassFile.FieldType.int)).before args0 about1 = true := code_word (m := ⟨3, 1⟩) (meth := k3m1) (c := k3c1) (by decide +kernel) rfl rfl rfl (by decide +kernel)
set_option maxRecDepth 65536 in
theorem w_c6 : (Jvm.Cond.code ({ cls := "jdk/internal/util/Preconditions", name := "checkIndex", desc := "(IILjava/util/function/BiFunction;)I" } : Jvm.MethodName) jdk_41_method_11_code (3 : Nat) (Option.some Jvm.ClassFile.FieldType.int)).before args0 about1 = true := code_word (m := ⟨4, 1⟩) (meth := k4m1) (c := k4c1) (by decide +kernel) rfl rfl rfl (by decide +kernel)
set_option maxRecDepth 65536 in
theorem w_c7 : (Jvm.Cond.code ({ cls := "com/example/vireo/vireo/cli/IntList", name := "size", desc := "()I" } : Jvm.MethodName) prog_3_method_3_code (1 : Nat) (Option.some Jvm.ClassFile.FieldType.int)).before args0 about1 = true := code_word (m := ⟨2, 2⟩) (meth := k2m2) (c := k2c2) (by decide +kernel) rfl rfl rfl (by decide +kernel)
def codes1 : List Jvm.Cond := [Jvm.Cond.code x code maxLocals ret, Jvm.Cond.code ({ cls := "com/example/vireo/vireo/cli/IntList", name := "<init>", desc := "()V" } : Jvm.MethodName) prog_3_method_1_code (1 : Nat) (Option.none : Option Jvm.ClassFile.FieldType), Jvm.Cond.code ({ cls := "java/lang/Object", name := "<init>", desc := "()V" } : Jvm.MethodName) object_method_1_code (1 : Nat) (Option.none : Option Jvm.ClassFile.FieldType), Jvm.Cond.code ({ cls := "com/example/vireo/vireo/cli/IntList", name := "add", desc := "(I)V" } : Jvm.MethodName) prog_3_method_2_code (2 : Nat) (Option.none : Option Jvm.ClassFile.FieldType), Jvm.Cond.code ({ cls := "com/example/vireo/vireo/cli/IntList", name := "get", desc := "(I)I" } : Jvm.MethodName) prog_3_method_4_code (2 : Nat) (Option.some Jvm.ClassFile.FieldType.int), Jvm.Cond.code ({ cls := "java/util/Objects", name := "checkIndex", desc := "(II)I" } : Jvm.MethodName) jdk_31_method_17_code (2 : Nat) (Option.some Jvm.ClassFile.FieldType.int), Jvm.Cond.code ({ cls := "jdk/internal/util/Preconditions", name := "checkIndex", desc := "(IILjava/util/function/BiFunction;)I" } : Jvm.MethodName) jdk_41_method_11_code (3 : Nat) (Option.some Jvm.ClassFile.FieldType.int), Jvm.Cond.code ({ cls := "com/example/vireo/vireo/cli/IntList", name := "size", desc := "()I" } : Jvm.MethodName) prog_3_method_3_code (1 : Nat) (Option.some Jvm.ClassFile.FieldType.int)]
set_option maxRecDepth 65536 in
theorem codes_eq : words1.filter isCode = codes1 := rfl
theorem w_codes : ∀ c ∈ words1.filter isCode, c.before args0 about1 = true := by
  rw [codes_eq]
  intro c hc
  simp only [codes1, List.mem_cons, List.not_mem_nil, or_false] at hc
  rcases hc with rfl | rfl | rfl | rfl | rfl | rfl | rfl | rfl
  · exact w_c0
  · exact w_c1
  · exact w_c2
  · exact w_c3
  · exact w_c4
  · exact w_c5
  · exact w_c6
  · exact w_c7
set_option maxRecDepth 65536 in
theorem w_t1 : (words1.take 24).all (fun c => isCode c || c.before args0 about1) = true := by decide +kernel
set_option maxRecDepth 65536 in
theorem w_t2 : (words1.drop 24).all (fun c => isCode c || c.before args0 about1) = true := by decide +kernel
theorem w_tables : (allAtoms (Jvm.Cond.code x code maxLocals ret :: tables_1)).before args0 about1 = true := by
  rw [allAtoms_all]
  show words1.all (fun c => c.before args0 about1) = true
  refine all_split ?_ w_codes
  rw [← List.take_append_drop 24 words1, List.all_append, w_t1, w_t2]
  rfl
set_option maxRecDepth 65536 in
theorem w_case : (Jvm.Cond.and given_1 narrow_1).before args0 about1 = true := by decide +kernel
theorem w_applies : (headSpec (Jvm.Cond.code x code maxLocals ret :: tables_1) room_1).applies x e0.platform about1 = true :=
  (Spec.applies_iff w_frames).mpr ⟨w_running, w_runnable, w_alone, w_named, w_hears, w_ripe, w_room, w_tables⟩
theorem atStart : AtStart classFile x code maxLocals ret World_1 tables_1 room_1 Calls_1 rest_1 Pre_1 launch0 p0 e0 about1 theMethod args0 below0 :=
  ⟨lists_1, trivial, launch0.admits_env _ _ _, launch0.least_env, fairChoices_fair.cas, fairChoices_fair.clock, w_frames, w_args, w_heap, w_applies, trivial, trivial, w_case⟩
end start1
theorem witness_1 : WitnessClaimed_1 := ⟨start1.p0, start1.e0, start1.about1, start1.theMethod, start1.args0, start1.below0, start1.atStart⟩
end Jvm.Pilot.@@N@@
