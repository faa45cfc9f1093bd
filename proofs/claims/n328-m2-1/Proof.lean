import JvmDerived
import JvmDerived.Pilot.@@N@@Statement
import JvmDerived.Pilot.@@N@@Code
set_option linter.unusedVariables false
set_option linter.unusedSimpArgs false
@@BLOCK:NumsL.lean.txt@@
namespace Jvm.Pilot.@@N@@
open Jvm Jvm.ClassFile Sem Op Lib Jvm.Free Jvm.Stand Jvm.LawKit Jvm.RoadKit Bundle Jvm.Pilot.@@N@@.Jvm.D
/-! ## the walk's own kit: 'from this pc on the body comes to its end, in Φ' (X.G), and one rule a step -/
def OwC (p : Program) (l : Launch) (e : Env) (R : Room) (s : State) (m : MethodId) (args : Array Value) (below : List Frame) (meth : Method) (c : Code) (Z : State) (own nm : String) (bytes : ByteArray) (mL : Nat) (ret : Option FieldType) (n0 kM nM : Nat) (Φ : Option Value → Heap → Prop) : Prop :=
  p.tables.exec = Jvm.exec ∧ c.code = bytes ∧ c.maxLocals = mL ∧ s.vm.findClass own = some m.cls ∧ Z.Warmed39 s.vm ∧ meth.sig.returnType = ret ∧ meth.locks = false ∧ meth.name = nm
section OwKit
variable {p : Program} {l : Launch} {e : Env} {R : Room} {s : State} {m : MethodId} {args : Array Value} {below : List Frame} {meth : Method} {c : Code} {Z : State} {own nm : String} {bytes : ByteArray} {mL : Nat} {ret : Option FieldType} {n0 kM nM : Nat} {Φ : Option Value → Heap → Prop}
variable {a0 : Array Value} {h : Heap} {k n pc q : Nat} {Ls Ls' : Array Slot} {st rest : List Value}
def OwC.G (_X : OwC p l e R s m args below meth c Z own nm bytes mL ret n0 kM nM Φ) (h : Heap) (k n pc : Nat) (Ls : Array Slot) (st : List Value) : Prop :=
  ∀ T locs, Stand p l e R s m args below meth c T locs k n → T.heap = h → Fr n0 locs →
    ∃ v s₂ L, Steps p.tables e below (T.setTop (mkF m pc Ls st)) s₂ ∧ s₂.status = .running ∧ Ended s₂ below (.returned v) ∧ (Φ v s₂.heap ∧ Fr n0 L) ∧ FrameEnd s (.returned v) s₂ L kM nM
variable (X : OwC p l e R s m args below meth c Z own nm bytes mL ret n0 kM nM Φ)
theorem OwC.step {pc' : Nat} {st' : List Value} (g : X.G h k n pc' Ls' st') (w : ∀ T locs, Stand p l e R s m args below meth c T locs k n → ∀ t, Steps p.tables e below (T.setTop (mkF m pc' Ls' st')) t → Steps p.tables e below (T.setTop (mkF m pc Ls st)) t) : X.G h k n pc Ls st := fun T locs Y eT N => by
  obtain ⟨v, s₂, L, r1, r⟩ := g T locs Y eT N
  exact ⟨v, s₂, L, w T locs Y _ r1, r⟩
theorem OwC.hd (X : OwC p l e R s m args below meth c Z own nm bytes mL ret n0 kM nM Φ) {i : Instr} {len : Nat} (d : decode bytes pc = .ok (i, len)) : decode c.code pc = .ok (i, len) := hb X.2.1 d
/-! a name for the top of the stack -/
theorem OwC.nmI {x : Int32} (g : ∀ v : Int32, v = x → X.G h k n pc Ls (.int v :: st)) : X.G h k n pc Ls (.int x :: st) := g x rfl
theorem OwC.nmJ {x : Int64} (g : ∀ v : Int64, v = x → X.G h k n pc Ls (.long v :: st)) : X.G h k n pc Ls (.long x :: st) := g x rfl
theorem OwC.foldI {x v : Int32} (e : x = v) (g : X.G h k n pc Ls (.int v :: st)) : X.G h k n pc Ls (.int x :: st) := by subst e; exact g
theorem OwC.foldJ {x v : Int64} (e : x = v) (g : X.G h k n pc Ls (.long v :: st)) : X.G h k n pc Ls (.long x :: st) := by subst e; exact g
/-! loads and stores -/
theorem OwC.iloadN {j : Fin 4} {v : Int32} (d : decode bytes pc = .ok (.iload_n j, 1)) (hl : Ls[j.val]? = some (.val (.int v))) (hq : pc + 1 = q) (g : X.G h k n q Ls (.int v :: st)) : X.G h k n pc Ls st := by
  subst hq; exact X.step g fun T _ Y t r => XS.iloadN Y.here X.1 rfl (X.hd d) hl r
theorem OwC.iload {j : Nat} {v : Int32} (d : decode bytes pc = .ok (.iload j, 2)) (hl : Ls[j]? = some (.val (.int v))) (hq : pc + 2 = q) (g : X.G h k n q Ls (.int v :: st)) : X.G h k n pc Ls st := by
  subst hq; exact X.step g fun T _ Y t r => XS.iload Y.here X.1 rfl (X.hd d) hl r
theorem OwC.lloadN {j : Fin 4} {v : Int64} (d : decode bytes pc = .ok (.lload_n j, 1)) (hl : Ls[j.val]? = some (.val (.long v))) (hq : pc + 1 = q) (g : X.G h k n q Ls (.long v :: st)) : X.G h k n pc Ls st := by
  subst hq; exact X.step g fun T _ Y t r => XT.lloadN Y.here X.1 rfl (X.hd d) hl r
theorem OwC.lload {j : Nat} {v : Int64} (d : decode bytes pc = .ok (.lload j, 2)) (hl : Ls[j]? = some (.val (.long v))) (hq : pc + 2 = q) (g : X.G h k n q Ls (.long v :: st)) : X.G h k n pc Ls st := by
  subst hq; exact X.step g fun T _ Y t r => XT.lload Y.here X.1 rfl (X.hd d) hl r
theorem OwC.aloadN {j : Fin 4} {v : Value} (d : decode bytes pc = .ok (.aload_n j, 1)) (hl : Ls[j.val]? = some (.val v)) (hv : v.isRef = true) (hq : pc + 1 = q) (g : X.G h k n q Ls (v :: st)) : X.G h k n pc Ls st := by
  subst hq; exact X.step g fun T _ Y t r => XS.aloadN Y.here X.1 rfl (X.hd d) hl hv r
theorem OwC.aload {j : Nat} {v : Value} (d : decode bytes pc = .ok (.aload j, 2)) (hl : Ls[j]? = some (.val v)) (hv : v.isRef = true) (hq : pc + 2 = q) (g : X.G h k n q Ls (v :: st)) : X.G h k n pc Ls st := by
  subst hq; exact X.step g fun T _ Y t r => XS.aload Y.here X.1 rfl (X.hd d) hl hv r
theorem OwC.istoreN {j : Fin 4} {x : Int32} (d : decode bytes pc = .ok (.istore_n j, 1)) (hl : storeLocals Ls j.val (.int x) = some Ls') (hq : pc + 1 = q) (g : X.G h k n q Ls' st) : X.G h k n pc Ls (.int x :: st) := by
  subst hq; exact X.step g fun T _ Y t r => XS.istoreN Y.here X.1 rfl (X.hd d) rfl hl r
theorem OwC.istore {j : Nat} {x : Int32} (d : decode bytes pc = .ok (.istore j, 2)) (hl : storeLocals Ls j (.int x) = some Ls') (hq : pc + 2 = q) (g : X.G h k n q Ls' st) : X.G h k n pc Ls (.int x :: st) := by
  subst hq; exact X.step g fun T _ Y t r => XS.istore Y.here X.1 rfl (X.hd d) rfl hl r
theorem OwC.lstoreN {j : Fin 4} {x : Int64} (d : decode bytes pc = .ok (.lstore_n j, 1)) (hl : storeLocals Ls j.val (.long x) = some Ls') (hq : pc + 1 = q) (g : X.G h k n q Ls' st) : X.G h k n pc Ls (.long x :: st) := by
  subst hq; exact X.step g fun T _ Y t r => XT.lstoreN Y.here X.1 rfl (X.hd d) rfl hl r
theorem OwC.lstore {j : Nat} {x : Int64} (d : decode bytes pc = .ok (.lstore j, 2)) (hl : storeLocals Ls j (.long x) = some Ls') (hq : pc + 2 = q) (g : X.G h k n q Ls' st) : X.G h k n pc Ls (.long x :: st) := by
  subst hq; exact X.step g fun T _ Y t r => XT.lstore Y.here X.1 rfl (X.hd d) rfl hl r
theorem OwC.astoreN {j : Fin 4} {x : Value} (d : decode bytes pc = .ok (.astore_n j, 1)) (hv : x.isRef = true) (hl : storeLocals Ls j.val x = some Ls') (hq : pc + 1 = q) (g : X.G h k n q Ls' st) : X.G h k n pc Ls (x :: st) := by
  subst hq; exact X.step g fun T _ Y t r => XS.astoreN Y.here X.1 rfl (X.hd d) rfl hv hl r
theorem OwC.astore {j : Nat} {x : Value} (d : decode bytes pc = .ok (.astore j, 2)) (hv : x.isRef = true) (hl : storeLocals Ls j x = some Ls') (hq : pc + 2 = q) (g : X.G h k n q Ls' st) : X.G h k n pc Ls (x :: st) := by
  subst hq; exact X.step g fun T _ Y t r => XS.astore Y.here X.1 rfl (X.hd d) rfl hv hl r
/-! constants -/
theorem OwC.iconst {i : Int} (v : Int32) (d : decode bytes pc = .ok (.iconst i, 1)) (hv : Int32.ofInt i = v) (hq : pc + 1 = q) (g : X.G h k n q Ls (.int v :: st)) : X.G h k n pc Ls st := by
  subst hq hv; exact X.step g fun T _ Y t r => XS.iconst Y.here X.1 rfl (X.hd d) r
theorem OwC.bipush {i : Int} (v : Int32) (d : decode bytes pc = .ok (.bipush i, 2)) (hv : (Int8.ofInt i).toInt32 = v) (hq : pc + 2 = q) (g : X.G h k n q Ls (.int v :: st)) : X.G h k n pc Ls st := by
  subst hq hv; exact X.step g fun T _ Y t r => XS.bipush Y.here X.1 rfl (X.hd d) r
theorem OwC.sipush {i : Int} (v : Int32) (d : decode bytes pc = .ok (.sipush i, 3)) (hv : (Int16.ofInt i).toInt32 = v) (hq : pc + 3 = q) (g : X.G h k n q Ls (.int v :: st)) : X.G h k n pc Ls st := by
  subst hq hv; exact X.step g fun T _ Y t r => XS.sipush Y.here X.1 rfl (X.hd d) r
theorem OwC.lconst {j : Fin 2} (v : Int64) (d : decode bytes pc = .ok (.lconst j, 1)) (hv : Int64.ofNat j = v) (hq : pc + 1 = q) (g : X.G h k n q Ls (.long v :: st)) : X.G h k n pc Ls st := by
  subst hq hv; exact X.step g fun T _ Y t r => XT.lconst Y.here X.1 rfl (X.hd d) r
theorem OwC.aconstNull (d : decode bytes pc = .ok (.aconst_null, 1)) (hq : pc + 1 = q) (g : X.G h k n q Ls (.null :: st)) : X.G h k n pc Ls st := by
  subst hq; exact X.step g fun T _ Y t r => XS.aconstNull Y.here X.1 rfl (X.hd d) r
theorem OwC.ldc {i : Nat} {v : Int32} (w : (Cond.constant own i v).before a0 Z = true) (d : decode bytes pc = .ok (.ldc i, 2)) (hq : pc + 2 = q) (g : X.G h k n q Ls (.int v :: st)) : X.G h k n pc Ls st := by
  subst hq; exact X.step g fun T _ Y t r => Y.ldcI X.1 X.2.2.2.1 (mvT X.2.2.2.2.1 w) rfl (X.hd d) r
theorem OwC.ldc_w {i : Nat} {v : Int32} (w : (Cond.constant own i v).before a0 Z = true) (d : decode bytes pc = .ok (.ldc_w i, 3)) (hq : pc + 3 = q) (g : X.G h k n q Ls (.int v :: st)) : X.G h k n pc Ls st := by
  subst hq; exact X.step g fun T _ Y t r => Y.ldcWI X.1 X.2.2.2.1 (mvT X.2.2.2.2.1 w) rfl (X.hd d) r
theorem OwC.ldc2_w {i : Nat} {v : Int64} (w : (Cond.constantLong own i v).before a0 Z = true) (d : decode bytes pc = .ok (.ldc2_w i, 3)) (hq : pc + 3 = q) (g : X.G h k n q Ls (.long v :: st)) : X.G h k n pc Ls st := by
  subst hq; exact X.step g fun T _ Y t r => Y.ldc2J X.1 X.2.2.2.1 (mvT X.2.2.2.2.1 w) rfl (X.hd d) r
/-! arithmetic -/
theorem OwC.iadd {x y : Int32} (d : decode bytes pc = .ok (.iadd, 1)) (hq : pc + 1 = q) (g : X.G h k n q Ls (.int (x + y) :: st)) : X.G h k n pc Ls (.int y :: .int x :: st) := by
  subst hq; exact X.step g fun T _ Y t r => XS.iadd Y.here X.1 rfl (X.hd d) rfl r
theorem OwC.isub {x y : Int32} (d : decode bytes pc = .ok (.isub, 1)) (hq : pc + 1 = q) (g : X.G h k n q Ls (.int (x - y) :: st)) : X.G h k n pc Ls (.int y :: .int x :: st) := by
  subst hq; exact X.step g fun T _ Y t r => XS.isub Y.here X.1 rfl (X.hd d) rfl r
theorem OwC.imul {x y : Int32} (d : decode bytes pc = .ok (.imul, 1)) (hq : pc + 1 = q) (g : X.G h k n q Ls (.int (x * y) :: st)) : X.G h k n pc Ls (.int y :: .int x :: st) := by
  subst hq; exact X.step g fun T _ Y t r => XS.imul Y.here X.1 rfl (X.hd d) rfl r
theorem OwC.iand {x y : Int32} (d : decode bytes pc = .ok (.iand, 1)) (hq : pc + 1 = q) (g : X.G h k n q Ls (.int (x &&& y) :: st)) : X.G h k n pc Ls (.int y :: .int x :: st) := by
  subst hq; exact X.step g fun T _ Y t r => XS.iand Y.here X.1 rfl (X.hd d) rfl r
theorem OwC.ixor {x y : Int32} (d : decode bytes pc = .ok (.ixor, 1)) (hq : pc + 1 = q) (g : X.G h k n q Ls (.int (x ^^^ y) :: st)) : X.G h k n pc Ls (.int y :: .int x :: st) := by
  subst hq; exact X.step g fun T _ Y t r => XT.ixor Y.here X.1 rfl (X.hd d) rfl r
theorem OwC.ior {x y : Int32} (d : decode bytes pc = .ok (.ior, 1)) (hq : pc + 1 = q) (g : X.G h k n q Ls (.int (x ||| y) :: st)) : X.G h k n pc Ls (.int y :: .int x :: st) := by
  subst hq; exact X.step g fun T _ Y t r => XT.ior Y.here X.1 rfl (X.hd d) rfl r
theorem OwC.ishl {x y : Int32} (d : decode bytes pc = .ok (.ishl, 1)) (hq : pc + 1 = q) (g : X.G h k n q Ls (.int (x <<< (y &&& 31)) :: st)) : X.G h k n pc Ls (.int y :: .int x :: st) := by
  subst hq; exact X.step g fun T _ Y t r => XT.ishl Y.here X.1 rfl (X.hd d) rfl r
theorem OwC.ishr {x y : Int32} (d : decode bytes pc = .ok (.ishr, 1)) (hq : pc + 1 = q) (g : X.G h k n q Ls (.int (x >>> (y &&& 31)) :: st)) : X.G h k n pc Ls (.int y :: .int x :: st) := by
  subst hq; exact X.step g fun T _ Y t r => XT.ishr Y.here X.1 rfl (X.hd d) rfl r
theorem OwC.iushr {x y : Int32} (d : decode bytes pc = .ok (.iushr, 1)) (hq : pc + 1 = q) (g : X.G h k n q Ls (.int (XT.ushr x y) :: st)) : X.G h k n pc Ls (.int y :: .int x :: st) := by
  subst hq; exact X.step g fun T _ Y t r => XT.iushr Y.here X.1 rfl (X.hd d) rfl r
theorem OwC.ladd {x y : Int64} (d : decode bytes pc = .ok (.ladd, 1)) (hq : pc + 1 = q) (g : X.G h k n q Ls (.long (x + y) :: st)) : X.G h k n pc Ls (.long y :: .long x :: st) := by
  subst hq; exact X.step g fun T _ Y t r => XT.ladd Y.here X.1 rfl (X.hd d) rfl r
theorem OwC.lsub {x y : Int64} (d : decode bytes pc = .ok (.lsub, 1)) (hq : pc + 1 = q) (g : X.G h k n q Ls (.long (x - y) :: st)) : X.G h k n pc Ls (.long y :: .long x :: st) := by
  subst hq; exact X.step g fun T _ Y t r => XT.lsub Y.here X.1 rfl (X.hd d) rfl r
theorem OwC.lmul {x y : Int64} (d : decode bytes pc = .ok (.lmul, 1)) (hq : pc + 1 = q) (g : X.G h k n q Ls (.long (x * y) :: st)) : X.G h k n pc Ls (.long y :: .long x :: st) := by
  subst hq; exact X.step g fun T _ Y t r => XT.lmul Y.here X.1 rfl (X.hd d) rfl r
theorem OwC.land {x y : Int64} (d : decode bytes pc = .ok (.land, 1)) (hq : pc + 1 = q) (g : X.G h k n q Ls (.long (x &&& y) :: st)) : X.G h k n pc Ls (.long y :: .long x :: st) := by
  subst hq; exact X.step g fun T _ Y t r => XT.land Y.here X.1 rfl (X.hd d) rfl r
theorem OwC.lxor {x y : Int64} (d : decode bytes pc = .ok (.lxor, 1)) (hq : pc + 1 = q) (g : X.G h k n q Ls (.long (x ^^^ y) :: st)) : X.G h k n pc Ls (.long y :: .long x :: st) := by
  subst hq; exact X.step g fun T _ Y t r => XT.lxor Y.here X.1 rfl (X.hd d) rfl r
theorem OwC.lor {x y : Int64} (d : decode bytes pc = .ok (.lor, 1)) (hq : pc + 1 = q) (g : X.G h k n q Ls (.long (x ||| y) :: st)) : X.G h k n pc Ls (.long y :: .long x :: st) := by
  subst hq; exact X.step g fun T _ Y t r => XT.lor Y.here X.1 rfl (X.hd d) rfl r
theorem OwC.lshl {x : Int64} {y : Int32} (d : decode bytes pc = .ok (.lshl, 1)) (hq : pc + 1 = q) (g : X.G h k n q Ls (.long (x <<< (y.toInt64 &&& 63)) :: st)) : X.G h k n pc Ls (.int y :: .long x :: st) := by
  subst hq; exact X.step g fun T _ Y t r => XT.lshl Y.here X.1 rfl (X.hd d) rfl r
theorem OwC.lshr {x : Int64} {y : Int32} (d : decode bytes pc = .ok (.lshr, 1)) (hq : pc + 1 = q) (g : X.G h k n q Ls (.long (x >>> (y.toInt64 &&& 63)) :: st)) : X.G h k n pc Ls (.int y :: .long x :: st) := by
  subst hq; exact X.step g fun T _ Y t r => XT.lshr Y.here X.1 rfl (X.hd d) rfl r
theorem OwC.lushr {x : Int64} {y : Int32} (d : decode bytes pc = .ok (.lushr, 1)) (hq : pc + 1 = q) (g : X.G h k n q Ls (.long (XT.ushrL x y) :: st)) : X.G h k n pc Ls (.int y :: .long x :: st) := by
  subst hq; exact X.step g fun T _ Y t r => XT.lushr Y.here X.1 rfl (X.hd d) rfl r
theorem OwC.idiv {x y : Int32} (d : decode bytes pc = .ok (.idiv, 1)) (hy : y ≠ 0) (hq : pc + 1 = q) (g : X.G h k n q Ls (.int (x / y) :: st)) : X.G h k n pc Ls (.int y :: .int x :: st) := by
  subst hq; exact X.step g fun T _ Y t r => XS.idiv Y.here X.1 rfl (X.hd d) rfl hy r
theorem OwC.ldiv {x y : Int64} (d : decode bytes pc = .ok (.ldiv, 1)) (hy : y ≠ 0) (hq : pc + 1 = q) (g : X.G h k n q Ls (.long (x / y) :: st)) : X.G h k n pc Ls (.long y :: .long x :: st) := by
  subst hq; exact X.step g fun T _ Y t r => XT.ldiv Y.here X.1 rfl (X.hd d) rfl hy r
theorem OwC.irem {x y : Int32} (d : decode bytes pc = .ok (.irem, 1)) (hy : y ≠ 0) (hq : pc + 1 = q) (g : X.G h k n q Ls (.int (x % y) :: st)) : X.G h k n pc Ls (.int y :: .int x :: st) := by
  subst hq; exact X.step g fun T _ Y t r => iremM Y X.1 rfl (X.hd d) rfl hy r
theorem ow_lrem (x y : Int64) : x - (x / y) * y = x % y := by
  rw [← Int64.toInt_inj, Int64.toInt_sub, Int64.toInt_mul, Int64.toInt_mod, Int64.toInt_div]
  have h1 : (((x.toInt.tdiv y.toInt).bmod (2 ^ 64) * y.toInt).bmod (2 ^ 64)) = (x.toInt.tdiv y.toInt * y.toInt).bmod (2 ^ 64) := by simp [Int.bmod_mul_bmod]
  rw [h1, Int.sub_bmod_bmod]
  have h2 : x.toInt - x.toInt.tdiv y.toInt * y.toInt = x.toInt.tmod y.toInt := by
    have := Int.mul_tdiv_add_tmod x.toInt y.toInt
    rw [Int.mul_comm] at this; omega
  rw [h2, ← Int64.toInt_mod, Int64.toInt_bmod]
theorem OwC.lrem {x y : Int64} (d : decode bytes pc = .ok (.lrem, 1)) (hy : y ≠ 0) (hq : pc + 1 = q) (g : X.G h k n q Ls (.long (x % y) :: st)) : X.G h k n pc Ls (.long y :: .long x :: st) := by
  subst hq; exact X.step g fun T _ Y t r => XT.lrem Y.here X.1 rfl (X.hd d) rfl hy (by rw [ow_lrem]; exact r)
theorem OwC.ineg {x : Int32} (d : decode bytes pc = .ok (.ineg, 1)) (hq : pc + 1 = q) (g : X.G h k n q Ls (.int (-x) :: st)) : X.G h k n pc Ls (.int x :: st) := by
  subst hq; exact X.step g fun T _ Y t r => XS.ineg Y.here X.1 rfl (X.hd d) rfl r
theorem OwC.lneg {x : Int64} (d : decode bytes pc = .ok (.lneg, 1)) (hq : pc + 1 = q) (g : X.G h k n q Ls (.long (-x) :: st)) : X.G h k n pc Ls (.long x :: st) := by
  subst hq; exact X.step g fun T _ Y t r => XT.lneg Y.here X.1 rfl (X.hd d) rfl r
theorem OwC.i2l {x : Int32} (d : decode bytes pc = .ok (.i2l, 1)) (hq : pc + 1 = q) (g : X.G h k n q Ls (.long (x.toInt64) :: st)) : X.G h k n pc Ls (.int x :: st) := by
  subst hq; exact X.step g fun T _ Y t r => XT.i2l Y.here X.1 rfl (X.hd d) rfl r
theorem OwC.l2i {x : Int64} (d : decode bytes pc = .ok (.l2i, 1)) (hq : pc + 1 = q) (g : X.G h k n q Ls (.int (x.toInt32) :: st)) : X.G h k n pc Ls (.long x :: st) := by
  subst hq; exact X.step g fun T _ Y t r => XT.l2i Y.here X.1 rfl (X.hd d) rfl r
theorem OwC.i2b {x : Int32} (d : decode bytes pc = .ok (.i2b, 1)) (hq : pc + 1 = q) (g : X.G h k n q Ls (.int (x.toInt8.toInt32) :: st)) : X.G h k n pc Ls (.int x :: st) := by
  subst hq; exact X.step g fun T _ Y t r => XT.i2b Y.here X.1 rfl (X.hd d) rfl r
theorem OwC.i2c {x : Int32} (d : decode bytes pc = .ok (.i2c, 1)) (hq : pc + 1 = q) (g : X.G h k n q Ls (.int (x.toUInt32.toUInt16.toUInt32.toInt32) :: st)) : X.G h k n pc Ls (.int x :: st) := by
  subst hq; exact X.step g fun T _ Y t r => XT.i2c Y.here X.1 rfl (X.hd d) rfl r
theorem OwC.iinc {j : Nat} {cst : Int} {x : Int32} (v : Int32) (d : decode bytes pc = .ok (.iinc j cst, 3)) (hv : Int32.ofInt cst = v) (hl : Ls[j]? = some (.val (.int x))) (hl' : storeLocals Ls j (.int (x + v)) = some Ls') (hq : pc + 3 = q) (g : X.G h k n q Ls' st) : X.G h k n pc Ls st := by
  subst hq hv; exact X.step g fun T _ Y t r => XS.iinc Y.here X.1 rfl (X.hd d) hl hl' r
/-! the stack -/
theorem OwC.dup {x : Value} (d : decode bytes pc = .ok (.dup, 1)) (hc : x.category = 1) (hq : pc + 1 = q) (g : X.G h k n q Ls (x :: x :: st)) : X.G h k n pc Ls (x :: st) := by
  subst hq; exact X.step g fun T _ Y t r => XS.dup Y.here X.1 rfl (X.hd d) rfl hc r
theorem OwC.pop {x : Value} (d : decode bytes pc = .ok (.pop, 1)) (hc : x.category = 1) (hq : pc + 1 = q) (g : X.G h k n q Ls st) : X.G h k n pc Ls (x :: st) := by
  subst hq; exact X.step g fun T _ Y t r => XT.pop Y.here X.1 rfl (X.hd d) rfl hc r
theorem OwC.dup_x1 {x y : Value} (d : decode bytes pc = .ok (.dup_x1, 1)) (hc : x.category = 1) (hc' : y.category = 1) (hq : pc + 1 = q) (g : X.G h k n q Ls (x :: y :: x :: st)) : X.G h k n pc Ls (x :: y :: st) := by
  subst hq; exact X.step g fun T _ Y t r => XT.dupX1 Y.here X.1 rfl (X.hd d) rfl hc hc' r
theorem OwC.dup2 {x y : Value} (d : decode bytes pc = .ok (.dup2, 1)) (hc : x.category = 1) (hc' : y.category = 1) (hq : pc + 1 = q) (g : X.G h k n q Ls (x :: y :: x :: y :: st)) : X.G h k n pc Ls (x :: y :: st) := by
  subst hq; exact X.step g fun T _ Y t r => XT.dup2 Y.here X.1 rfl (X.hd d) rfl hc hc' r
theorem OwC.dup2L {x : Int64} (d : decode bytes pc = .ok (.dup2, 1)) (hq : pc + 1 = q) (g : X.G h k n q Ls (.long x :: .long x :: st)) : X.G h k n pc Ls (.long x :: st) := by
  subst hq; exact X.step g fun T _ Y t r => XT.dup2L Y.here X.1 rfl (X.hd d) rfl r
/-! branches -/
theorem OwC.goto {o : Int} {q' : Nat} (d : decode bytes pc = .ok (.goto o, 3)) (hp : 0 ≤ (pc : Int) + o ∧ ((pc : Int) + o).toNat = q') (g : X.G h k n q' Ls st) : X.G h k n pc Ls st :=
  X.step g fun T _ Y t r => XS.goto Y.here X.1 rfl rfl (X.hd d) hp.1 hp.2 r
theorem OwC.icmpB {cd : ClassFile.Cond} {o : Int} {q' : Nat} {x y : Int32} (d : decode bytes pc = .ok (.if_icmp cd o, 3)) (hp : 0 ≤ (pc : Int) + o ∧ ((pc : Int) + o).toNat = q') (hq : pc + 3 = q) (g1 : if_icmp.holds cd x y = true → X.G h k n q' Ls st) (g0 : if_icmp.holds cd x y = false → X.G h k n q Ls st) : X.G h k n pc Ls (.int y :: .int x :: st) := by
  subst hq
  cases hc : if_icmp.holds cd x y with
  | true => exact X.step (g1 hc) fun T _ Y t r => XS.icmpYes Y.here X.1 rfl rfl (X.hd d) rfl hc hp.1 hp.2 r
  | false => exact X.step (g0 hc) fun T _ Y t r => XS.icmpNo Y.here X.1 rfl (X.hd d) rfl hc r
theorem OwC.ifB {cd : ClassFile.Cond} {o : Int} {q' : Nat} {x : Int32} (d : decode bytes pc = .ok (.ifCond cd o, 3)) (hp : 0 ≤ (pc : Int) + o ∧ ((pc : Int) + o).toNat = q') (hq : pc + 3 = q) (g1 : ifCond.holds cd x = true → X.G h k n q' Ls st) (g0 : ifCond.holds cd x = false → X.G h k n q Ls st) : X.G h k n pc Ls (.int x :: st) := by
  subst hq
  cases hc : ifCond.holds cd x with
  | true => exact X.step (g1 hc) fun T _ Y t r => XS.ifYes Y.here X.1 rfl rfl (X.hd d) rfl hc hp.1 hp.2 r
  | false => exact X.step (g0 hc) fun T _ Y t r => XS.ifNo Y.here X.1 rfl (X.hd d) rfl hc r
def owCd : ClassFile.Cond → Int → Int → Prop
  | .eq, a, b => a = b | .ne, a, b => ¬ a = b | .lt, a, b => a < b | .ge, a, b => b ≤ a | .gt, a, b => b < a | .le, a, b => a ≤ b
theorem ow_icmp (cd : ClassFile.Cond) (x y : Int32) : if_icmp.holds cd x y = true ↔ owCd cd x.toInt y.toInt := by
  cases cd <;> simp [if_icmp.holds, owCd, ← Int32.toInt_inj, Int32.lt_iff_toInt_lt, Int32.le_iff_toInt_le]
theorem ow_if (cd : ClassFile.Cond) (x : Int32) : ifCond.holds cd x = true ↔ owCd cd x.toInt 0 := by rw [if0, ow_icmp]; rfl
theorem ow_icmpF {cd : ClassFile.Cond} {x y : Int32} (hc : if_icmp.holds cd x y = false) : ¬ owCd cd x.toInt y.toInt := fun q => by rw [(ow_icmp cd x y).mpr q] at hc; cases hc
theorem ow_ifF {cd : ClassFile.Cond} {x : Int32} (hc : ifCond.holds cd x = false) : ¬ owCd cd x.toInt 0 := fun q => by rw [(ow_if cd x).mpr q] at hc; cases hc
theorem ow_lc (cd : ClassFile.Cond) (x y : Int64) : owCd cd (XT.cmpL x y).toInt 0 ↔ owCd cd x.toInt y.toInt := by
  have e1 : (1 : Int32).toInt = 1 := rfl
  have e0 : (0 : Int32).toInt = 0 := rfl
  have em : (-1 : Int32).toInt = -1 := rfl
  unfold XT.cmpL
  split
  · rename_i h1; rw [Int64.lt_iff_toInt_lt] at h1; cases cd <;> simp only [owCd, e1] <;> omega
  · rename_i h1; rw [Int64.lt_iff_toInt_lt] at h1
    split
    · rename_i h2; subst h2; cases cd <;> simp only [owCd, e0] <;> omega
    · rename_i h2; rw [← Int64.toInt_inj] at h2; cases cd <;> simp only [owCd, em] <;> omega
theorem OwC.icmp_eq {o : Int} {q' : Nat} {x y : Int32} {a b : Int} (d : decode bytes pc = .ok (.if_icmp .eq o, 3)) (hx : x.toInt = a) (hy : y.toInt = b) (hp : 0 ≤ (pc : Int) + o ∧ ((pc : Int) + o).toNat = q') (hq : pc + 3 = q) (g1 : a = b → X.G h k n q' Ls st) (g0 : ¬ a = b → X.G h k n q Ls st) : X.G h k n pc Ls (.int y :: .int x :: st) := by
  subst hx hy; exact X.icmpB d hp hq (fun hc => g1 ((ow_icmp _ _ _).mp hc)) (fun hc => g0 (by have := ow_icmpF hc; simp only [owCd] at this; omega))
theorem OwC.if_eq {o : Int} {q' : Nat} {x : Int32} {a : Int} (d : decode bytes pc = .ok (.ifCond .eq o, 3)) (hx : x.toInt = a) (hp : 0 ≤ (pc : Int) + o ∧ ((pc : Int) + o).toNat = q') (hq : pc + 3 = q) (g1 : a = 0 → X.G h k n q' Ls st) (g0 : ¬ a = 0 → X.G h k n q Ls st) : X.G h k n pc Ls (.int x :: st) := by
  subst hx; exact X.ifB d hp hq (fun hc => g1 ((ow_if _ _).mp hc)) (fun hc => g0 (by have := ow_ifF hc; simp only [owCd] at this; omega))
theorem OwC.lcmp_eq {o : Int} {q1 q' : Nat} {x y : Int64} {a b : Int} (d1 : decode bytes pc = .ok (.lcmp, 1)) (hq1 : pc + 1 = q1) (d : decode bytes q1 = .ok (.ifCond .eq o, 3)) (hx : x.toInt = a) (hy : y.toInt = b) (hp : 0 ≤ (q1 : Int) + o ∧ ((q1 : Int) + o).toNat = q') (hq : q1 + 3 = q) (g1 : a = b → X.G h k n q' Ls st) (g0 : ¬ a = b → X.G h k n q Ls st) : X.G h k n pc Ls (.long y :: .long x :: st) := by
  subst hx hy hq1; refine X.step (X.ifB d hp hq (fun hc => g1 ((ow_lc _ _ _).mp ((ow_if _ _).mp hc))) (fun hc => g0 (by have := mt (ow_lc _ _ _).mpr (ow_ifF hc); simp only [owCd] at this; omega))) fun T _ Y t r => XT.lcmp Y.here X.1 rfl (X.hd d1) rfl r
theorem OwC.icmp_ne {o : Int} {q' : Nat} {x y : Int32} {a b : Int} (d : decode bytes pc = .ok (.if_icmp .ne o, 3)) (hx : x.toInt = a) (hy : y.toInt = b) (hp : 0 ≤ (pc : Int) + o ∧ ((pc : Int) + o).toNat = q') (hq : pc + 3 = q) (g1 : ¬ a = b → X.G h k n q' Ls st) (g0 : a = b → X.G h k n q Ls st) : X.G h k n pc Ls (.int y :: .int x :: st) := by
  subst hx hy; exact X.icmpB d hp hq (fun hc => g1 ((ow_icmp _ _ _).mp hc)) (fun hc => g0 (by have := ow_icmpF hc; simp only [owCd] at this; omega))
theorem OwC.if_ne {o : Int} {q' : Nat} {x : Int32} {a : Int} (d : decode bytes pc = .ok (.ifCond .ne o, 3)) (hx : x.toInt = a) (hp : 0 ≤ (pc : Int) + o ∧ ((pc : Int) + o).toNat = q') (hq : pc + 3 = q) (g1 : ¬ a = 0 → X.G h k n q' Ls st) (g0 : a = 0 → X.G h k n q Ls st) : X.G h k n pc Ls (.int x :: st) := by
  subst hx; exact X.ifB d hp hq (fun hc => g1 ((ow_if _ _).mp hc)) (fun hc => g0 (by have := ow_ifF hc; simp only [owCd] at this; omega))
theorem OwC.lcmp_ne {o : Int} {q1 q' : Nat} {x y : Int64} {a b : Int} (d1 : decode bytes pc = .ok (.lcmp, 1)) (hq1 : pc + 1 = q1) (d : decode bytes q1 = .ok (.ifCond .ne o, 3)) (hx : x.toInt = a) (hy : y.toInt = b) (hp : 0 ≤ (q1 : Int) + o ∧ ((q1 : Int) + o).toNat = q') (hq : q1 + 3 = q) (g1 : ¬ a = b → X.G h k n q' Ls st) (g0 : a = b → X.G h k n q Ls st) : X.G h k n pc Ls (.long y :: .long x :: st) := by
  subst hx hy hq1; refine X.step (X.ifB d hp hq (fun hc => g1 ((ow_lc _ _ _).mp ((ow_if _ _).mp hc))) (fun hc => g0 (by have := mt (ow_lc _ _ _).mpr (ow_ifF hc); simp only [owCd] at this; omega))) fun T _ Y t r => XT.lcmp Y.here X.1 rfl (X.hd d1) rfl r
theorem OwC.icmp_lt {o : Int} {q' : Nat} {x y : Int32} {a b : Int} (d : decode bytes pc = .ok (.if_icmp .lt o, 3)) (hx : x.toInt = a) (hy : y.toInt = b) (hp : 0 ≤ (pc : Int) + o ∧ ((pc : Int) + o).toNat = q') (hq : pc + 3 = q) (g1 : a < b → X.G h k n q' Ls st) (g0 : b ≤ a → X.G h k n q Ls st) : X.G h k n pc Ls (.int y :: .int x :: st) := by
  subst hx hy; exact X.icmpB d hp hq (fun hc => g1 ((ow_icmp _ _ _).mp hc)) (fun hc => g0 (by have := ow_icmpF hc; simp only [owCd] at this; omega))
theorem OwC.if_lt {o : Int} {q' : Nat} {x : Int32} {a : Int} (d : decode bytes pc = .ok (.ifCond .lt o, 3)) (hx : x.toInt = a) (hp : 0 ≤ (pc : Int) + o ∧ ((pc : Int) + o).toNat = q') (hq : pc + 3 = q) (g1 : a < 0 → X.G h k n q' Ls st) (g0 : 0 ≤ a → X.G h k n q Ls st) : X.G h k n pc Ls (.int x :: st) := by
  subst hx; exact X.ifB d hp hq (fun hc => g1 ((ow_if _ _).mp hc)) (fun hc => g0 (by have := ow_ifF hc; simp only [owCd] at this; omega))
theorem OwC.lcmp_lt {o : Int} {q1 q' : Nat} {x y : Int64} {a b : Int} (d1 : decode bytes pc = .ok (.lcmp, 1)) (hq1 : pc + 1 = q1) (d : decode bytes q1 = .ok (.ifCond .lt o, 3)) (hx : x.toInt = a) (hy : y.toInt = b) (hp : 0 ≤ (q1 : Int) + o ∧ ((q1 : Int) + o).toNat = q') (hq : q1 + 3 = q) (g1 : a < b → X.G h k n q' Ls st) (g0 : b ≤ a → X.G h k n q Ls st) : X.G h k n pc Ls (.long y :: .long x :: st) := by
  subst hx hy hq1; refine X.step (X.ifB d hp hq (fun hc => g1 ((ow_lc _ _ _).mp ((ow_if _ _).mp hc))) (fun hc => g0 (by have := mt (ow_lc _ _ _).mpr (ow_ifF hc); simp only [owCd] at this; omega))) fun T _ Y t r => XT.lcmp Y.here X.1 rfl (X.hd d1) rfl r
theorem OwC.icmp_ge {o : Int} {q' : Nat} {x y : Int32} {a b : Int} (d : decode bytes pc = .ok (.if_icmp .ge o, 3)) (hx : x.toInt = a) (hy : y.toInt = b) (hp : 0 ≤ (pc : Int) + o ∧ ((pc : Int) + o).toNat = q') (hq : pc + 3 = q) (g1 : b ≤ a → X.G h k n q' Ls st) (g0 : a < b → X.G h k n q Ls st) : X.G h k n pc Ls (.int y :: .int x :: st) := by
  subst hx hy; exact X.icmpB d hp hq (fun hc => g1 ((ow_icmp _ _ _).mp hc)) (fun hc => g0 (by have := ow_icmpF hc; simp only [owCd] at this; omega))
theorem OwC.if_ge {o : Int} {q' : Nat} {x : Int32} {a : Int} (d : decode bytes pc = .ok (.ifCond .ge o, 3)) (hx : x.toInt = a) (hp : 0 ≤ (pc : Int) + o ∧ ((pc : Int) + o).toNat = q') (hq : pc + 3 = q) (g1 : 0 ≤ a → X.G h k n q' Ls st) (g0 : a < 0 → X.G h k n q Ls st) : X.G h k n pc Ls (.int x :: st) := by
  subst hx; exact X.ifB d hp hq (fun hc => g1 ((ow_if _ _).mp hc)) (fun hc => g0 (by have := ow_ifF hc; simp only [owCd] at this; omega))
theorem OwC.lcmp_ge {o : Int} {q1 q' : Nat} {x y : Int64} {a b : Int} (d1 : decode bytes pc = .ok (.lcmp, 1)) (hq1 : pc + 1 = q1) (d : decode bytes q1 = .ok (.ifCond .ge o, 3)) (hx : x.toInt = a) (hy : y.toInt = b) (hp : 0 ≤ (q1 : Int) + o ∧ ((q1 : Int) + o).toNat = q') (hq : q1 + 3 = q) (g1 : b ≤ a → X.G h k n q' Ls st) (g0 : a < b → X.G h k n q Ls st) : X.G h k n pc Ls (.long y :: .long x :: st) := by
  subst hx hy hq1; refine X.step (X.ifB d hp hq (fun hc => g1 ((ow_lc _ _ _).mp ((ow_if _ _).mp hc))) (fun hc => g0 (by have := mt (ow_lc _ _ _).mpr (ow_ifF hc); simp only [owCd] at this; omega))) fun T _ Y t r => XT.lcmp Y.here X.1 rfl (X.hd d1) rfl r
theorem OwC.icmp_gt {o : Int} {q' : Nat} {x y : Int32} {a b : Int} (d : decode bytes pc = .ok (.if_icmp .gt o, 3)) (hx : x.toInt = a) (hy : y.toInt = b) (hp : 0 ≤ (pc : Int) + o ∧ ((pc : Int) + o).toNat = q') (hq : pc + 3 = q) (g1 : b < a → X.G h k n q' Ls st) (g0 : a ≤ b → X.G h k n q Ls st) : X.G h k n pc Ls (.int y :: .int x :: st) := by
  subst hx hy; exact X.icmpB d hp hq (fun hc => g1 ((ow_icmp _ _ _).mp hc)) (fun hc => g0 (by have := ow_icmpF hc; simp only [owCd] at this; omega))
theorem OwC.if_gt {o : Int} {q' : Nat} {x : Int32} {a : Int} (d : decode bytes pc = .ok (.ifCond .gt o, 3)) (hx : x.toInt = a) (hp : 0 ≤ (pc : Int) + o ∧ ((pc : Int) + o).toNat = q') (hq : pc + 3 = q) (g1 : 0 < a → X.G h k n q' Ls st) (g0 : a ≤ 0 → X.G h k n q Ls st) : X.G h k n pc Ls (.int x :: st) := by
  subst hx; exact X.ifB d hp hq (fun hc => g1 ((ow_if _ _).mp hc)) (fun hc => g0 (by have := ow_ifF hc; simp only [owCd] at this; omega))
theorem OwC.lcmp_gt {o : Int} {q1 q' : Nat} {x y : Int64} {a b : Int} (d1 : decode bytes pc = .ok (.lcmp, 1)) (hq1 : pc + 1 = q1) (d : decode bytes q1 = .ok (.ifCond .gt o, 3)) (hx : x.toInt = a) (hy : y.toInt = b) (hp : 0 ≤ (q1 : Int) + o ∧ ((q1 : Int) + o).toNat = q') (hq : q1 + 3 = q) (g1 : b < a → X.G h k n q' Ls st) (g0 : a ≤ b → X.G h k n q Ls st) : X.G h k n pc Ls (.long y :: .long x :: st) := by
  subst hx hy hq1; refine X.step (X.ifB d hp hq (fun hc => g1 ((ow_lc _ _ _).mp ((ow_if _ _).mp hc))) (fun hc => g0 (by have := mt (ow_lc _ _ _).mpr (ow_ifF hc); simp only [owCd] at this; omega))) fun T _ Y t r => XT.lcmp Y.here X.1 rfl (X.hd d1) rfl r
theorem OwC.icmp_le {o : Int} {q' : Nat} {x y : Int32} {a b : Int} (d : decode bytes pc = .ok (.if_icmp .le o, 3)) (hx : x.toInt = a) (hy : y.toInt = b) (hp : 0 ≤ (pc : Int) + o ∧ ((pc : Int) + o).toNat = q') (hq : pc + 3 = q) (g1 : a ≤ b → X.G h k n q' Ls st) (g0 : b < a → X.G h k n q Ls st) : X.G h k n pc Ls (.int y :: .int x :: st) := by
  subst hx hy; exact X.icmpB d hp hq (fun hc => g1 ((ow_icmp _ _ _).mp hc)) (fun hc => g0 (by have := ow_icmpF hc; simp only [owCd] at this; omega))
theorem OwC.if_le {o : Int} {q' : Nat} {x : Int32} {a : Int} (d : decode bytes pc = .ok (.ifCond .le o, 3)) (hx : x.toInt = a) (hp : 0 ≤ (pc : Int) + o ∧ ((pc : Int) + o).toNat = q') (hq : pc + 3 = q) (g1 : a ≤ 0 → X.G h k n q' Ls st) (g0 : 0 < a → X.G h k n q Ls st) : X.G h k n pc Ls (.int x :: st) := by
  subst hx; exact X.ifB d hp hq (fun hc => g1 ((ow_if _ _).mp hc)) (fun hc => g0 (by have := ow_ifF hc; simp only [owCd] at this; omega))
theorem OwC.lcmp_le {o : Int} {q1 q' : Nat} {x y : Int64} {a b : Int} (d1 : decode bytes pc = .ok (.lcmp, 1)) (hq1 : pc + 1 = q1) (d : decode bytes q1 = .ok (.ifCond .le o, 3)) (hx : x.toInt = a) (hy : y.toInt = b) (hp : 0 ≤ (q1 : Int) + o ∧ ((q1 : Int) + o).toNat = q') (hq : q1 + 3 = q) (g1 : a ≤ b → X.G h k n q' Ls st) (g0 : b < a → X.G h k n q Ls st) : X.G h k n pc Ls (.long y :: .long x :: st) := by
  subst hx hy hq1; refine X.step (X.ifB d hp hq (fun hc => g1 ((ow_lc _ _ _).mp ((ow_if _ _).mp hc))) (fun hc => g0 (by have := mt (ow_lc _ _ _).mpr (ow_ifF hc); simp only [owCd] at this; omega))) fun T _ Y t r => XT.lcmp Y.here X.1 rfl (X.hd d1) rfl r
theorem OwC.ifnullT {o : Int} {q' : Nat} (d : decode bytes pc = .ok (.ifnull o, 3)) (hp : 0 ≤ (pc : Int) + o ∧ ((pc : Int) + o).toNat = q') (g : X.G h k n q' Ls st) : X.G h k n pc Ls (.null :: st) :=
  X.step g fun T _ Y t r => XS.ifnullYes Y.here X.1 rfl rfl (X.hd d) rfl hp.1 hp.2 r
theorem OwC.ifnullF {o : Int} {b : Addr} (d : decode bytes pc = .ok (.ifnull o, 3)) (hq : pc + 3 = q) (g : X.G h k n q Ls st) : X.G h k n pc Ls (.ref b :: st) := by
  subst hq; exact X.step g fun T _ Y t r => XS.ifnullNo Y.here X.1 rfl (X.hd d) rfl r
theorem OwC.ifnonnullT {o : Int} {q' : Nat} {b : Addr} (d : decode bytes pc = .ok (.ifnonnull o, 3)) (hp : 0 ≤ (pc : Int) + o ∧ ((pc : Int) + o).toNat = q') (g : X.G h k n q' Ls st) : X.G h k n pc Ls (.ref b :: st) :=
  X.step g fun T _ Y t r => XT.ifnonnullYes Y.here X.1 rfl rfl (X.hd d) rfl hp.1 hp.2 r
theorem OwC.ifnonnullF {o : Int} (d : decode bytes pc = .ok (.ifnonnull o, 3)) (hq : pc + 3 = q) (g : X.G h k n q Ls st) : X.G h k n pc Ls (.null :: st) := by
  subst hq; exact X.step g fun T _ Y t r => XT.ifnonnullNo Y.here X.1 rfl (X.hd d) rfl r
theorem OwC.acmp_ne {o : Int} {q' : Nat} {x y : Addr} (d : decode bytes pc = .ok (.if_acmp .ne o, 3)) (hp : 0 ≤ (pc : Int) + o ∧ ((pc : Int) + o).toNat = q') (hq : pc + 3 = q) (g1 : ¬ x = y → X.G h k n q' Ls st) (g0 : x = y → X.G h k n q Ls st) : X.G h k n pc Ls (.ref y :: .ref x :: st) := by
  subst hq
  by_cases hc : x = y
  · exact X.step (g0 hc) fun T _ Y t r => XT.acmpNo Y.here X.1 rfl (X.hd d) rfl rfl rfl (by simp [XT.acmp, hc]) r
  · exact X.step (g1 hc) fun T _ Y t r => XT.acmpYes Y.here X.1 rfl rfl (X.hd d) rfl rfl rfl (by simp [XT.acmp, hc]) hp.1 hp.2 r
theorem OwC.acmp_eq {o : Int} {q' : Nat} {x y : Addr} (d : decode bytes pc = .ok (.if_acmp .eq o, 3)) (hp : 0 ≤ (pc : Int) + o ∧ ((pc : Int) + o).toNat = q') (hq : pc + 3 = q) (g1 : x = y → X.G h k n q' Ls st) (g0 : ¬ x = y → X.G h k n q Ls st) : X.G h k n pc Ls (.ref y :: .ref x :: st) := by
  subst hq
  by_cases hc : x = y
  · exact X.step (g1 hc) fun T _ Y t r => XT.acmpYes Y.here X.1 rfl rfl (X.hd d) rfl rfl rfl (by simp [XT.acmp, hc]) hp.1 hp.2 r
  · exact X.step (g0 hc) fun T _ Y t r => XT.acmpNo Y.here X.1 rfl (X.hd d) rfl rfl rfl (by simp [XT.acmp, hc]) r
/-! returns -/
theorem OwC.fin {v : Option Value} (hv : meth.sig.returnType = none → v = none) (w : ∀ T locs, Stand p l e R s m args below meth c T locs k n → ∀ fs, (∀ (f : JFrame) (acts : List Action), f.method = m → f.locked = none → f.entered = [] → (doReturn e (T.setTop f) acts v).1 = T.setFrames fs) → Steps p.tables e below (T.setTop (mkF m pc Ls st)) (T.setFrames fs)) (hk : k ≤ kM) (hn : n ≤ nM) (hΦ : Φ v h) : X.G h k n pc Ls st := fun T locs Y eT N => by
  obtain ⟨fs, hr, hrun, hended, hW, hsame⟩ := Y.leave (v := v) hv X.2.2.2.2.2.2.1
  exact ⟨v, _, locs, w T locs Y fs hr, hrun, hended, ⟨by show Φ v T.heap; rw [eT]; exact hΦ, N⟩, ⟨_, rfl⟩, hW, hsame.mono hk hn⟩
theorem OwC.retV (d : decode bytes pc = .ok (.return_, 1)) (hret : ret = none) (hk : k ≤ kM) (hn : n ≤ nM) (hΦ : Φ none h) : X.G h k n pc Ls [] :=
  X.fin (fun _ => rfl) (fun T _ Y fs hr => Y.returnOut X.1 (X.2.2.2.2.2.1.trans hret) (X.hd d) hr) hk hn hΦ
theorem OwC.retI {z : Int32} (d : decode bytes pc = .ok (.ireturn, 1)) (hret : ret = some .int) (hk : k ≤ kM) (hn : n ≤ nM) (hΦ : Φ (some (.int z)) h) : X.G h k n pc Ls (.int z :: st) :=
  X.fin (fun q => by rw [X.2.2.2.2.2.1, hret] at q; cases q) (fun T _ Y fs hr => retOut Y X.1 (X.2.2.2.2.2.1.trans hret) rfl (Or.inl ⟨rfl, Or.inl rfl, z, rfl⟩) (X.hd d) hr) hk hn hΦ
theorem OwC.retN {z z' : Int32} {t : FieldType} (d : decode bytes pc = .ok (.ireturn, 1)) (hret : ret = some t) (ht : t = .boolean ∨ t = .byte ∨ t = .char ∨ t = .short) (hz : nar t z = z') (hk : k ≤ kM) (hn : n ≤ nM) (hΦ : Φ (some (.int z')) h) : X.G h k n pc Ls (.int z :: st) := by
  subst hz
  exact X.fin (fun q => by rw [X.2.2.2.2.2.1, hret] at q; cases q) (fun T _ Y fs hr => RoadKit.retN Y X.1 (X.2.2.2.2.2.1.trans hret) ht (X.hd d) hr) hk hn hΦ
theorem OwC.retJ {z : Int64} (d : decode bytes pc = .ok (.lreturn, 1)) (hret : ret = some .long) (hk : k ≤ kM) (hn : n ≤ nM) (hΦ : Φ (some (.long z)) h) : X.G h k n pc Ls (.long z :: st) :=
  X.fin (fun q => by rw [X.2.2.2.2.2.1, hret] at q; cases q) (fun T _ Y fs hr => retOut Y X.1 (X.2.2.2.2.2.1.trans hret) rfl (Or.inr (Or.inl ⟨rfl, rfl, z, rfl⟩)) (X.hd d) hr) hk hn hΦ
theorem OwC.retA {v : Value} {t : FieldType} (d : decode bytes pc = .ok (.areturn, 1)) (hret : ret = some t) (ht : t.isReference = true) (hv : v.isRef = true) (hnv : narrow t v = v) (hk : k ≤ kM) (hn : n ≤ nM) (hΦ : Φ (some v) h) : X.G h k n pc Ls (v :: st) :=
  X.fin (fun q => by rw [X.2.2.2.2.2.1, hret] at q; cases q) (fun T _ Y fs hr => retOut Y X.1 (X.2.2.2.2.2.1.trans hret) hnv (Or.inr (Or.inr (Or.inr (Or.inr ⟨rfl, ht, hv⟩)))) (X.hd d) hr) hk hn hΦ
/-! the heap -/
theorem OwC.getF {R0 O fn d0 host : String} {i : Nat} {a : Addr} {v : Value} (w : (Cond.fieldLink own i R0 fn d0).before a0 Z = true ∨ (Cond.fieldLinkNest own i R0 fn d0 host).before a0 Z = true) (via : Via Z R0 O fn d0) (F : Fld Z h a O fn d0 v) (d : decode bytes pc = .ok (.getfield i, 3)) (hq : pc + 3 = q) (g : X.G h k n q Ls (v :: st)) : X.G h k n pc Ls (.ref a :: st) := fun T locs Y eT N => by
  subst hq
  obtain ⟨T', Y', eT', w'⟩ := RoadKit.getF Y X.1 X.2.2.2.2.1 X.2.2.2.1 w via eT F (g := mkF m pc Ls (.ref a :: st)) rfl rfl (X.hd d)
  obtain ⟨v, s₂, L, r1, r⟩ := g T' locs Y' eT' N
  exact ⟨v, s₂, L, w' _ r1, r⟩
theorem OwC.getR {R0 fn d0 : String} {i : Nat} {a : Addr} {v : Value} (w : (Cond.fieldRef own i R0 fn d0).before a0 Z = true) (F : Fld Z h a R0 fn d0 v) (d : decode bytes pc = .ok (.getfield i, 3)) (hq : pc + 3 = q) (g : X.G h k n q Ls (v :: st)) : X.G h k n pc Ls (.ref a :: st) := fun T locs Y eT N => by
  subst hq
  have hT : Z.Warmed39 T.vm := wtrans X.2.2.2.2.1 Y.warmed
  have w' := Cond.fieldRef_warmed39 hT w
  have hcur : (Z.setVm T.vm).vm.findClass own = some m.cls := by rw [State.vm_setVm, Y.warmed.alike.findClass]; exact X.2.2.2.1
  obtain ⟨c1, k1, i1, f1, e1, e2⟩ := Cond.fieldRef_spec hcur w'
  obtain ⟨cell, cf, k, j, f, h1, h2, h3, h4, h5, h6, h7⟩ := F
  obtain ⟨k', q1, -⟩ := State.fieldFound?_setVm (s := Z) hT.alike h2
  cases q1.symm.trans e1
  obtain ⟨v', s₂, L, r1, r⟩ := g T locs Y eT N
  exact ⟨v', s₂, L, (Y.getfieldR X.1 (g := mkF m pc Ls (.ref a :: st)) rfl e2 h3 rfl (by rw [eT]; exact h1) h4 h7 (X.hd d) (Steps.refl _)).trans r1, r⟩
theorem OwC.getS {R0 O fn d0 : String} {i : Nat} {v : Value} (w : (Cond.fieldLink own i R0 fn d0).before a0 Z = true) (via : Via Z R0 O fn d0) (F : Sta Z h O fn d0 v) (d : decode bytes pc = .ok (.getstatic i, 3)) (hq : pc + 3 = q) (g : X.G h k n q Ls (v :: st)) : X.G h k n pc Ls st := fun T locs Y eT N => by
  subst hq
  obtain ⟨T', Y', eT', w'⟩ := RoadKit.getS (host := "") Y X.1 X.2.2.2.2.1 X.2.2.2.1 w via eT F (g := mkF m pc Ls st) rfl (X.hd d)
  obtain ⟨v, s₂, L, r1, r⟩ := g T' locs Y' eT' N
  exact ⟨v, s₂, L, w' _ r1, r⟩
theorem OwC.putF {R0 O fn d0 host C : String} {i kk : Nat} {a : Addr} {v old : Value} {ty : FieldType} (w : (Cond.fieldLink own i R0 fn d0).before a0 Z = true ∨ (Cond.fieldLinkNest own i R0 fn d0 host).before a0 Z = true) (via : Via Z R0 O fn d0) (F : Fld Z h a O fn d0 old) (E : Exa Z h a C)
    (L : (Cond.lays C O fn d0).before a0 Z = true ∨ ((Cond.laysFinal C O fn d0).before a0 Z = true ∧ own = O ∧ nm = "<init>")) (wi : (Cond.instantiable C kk).before a0 Z = true) (hty : parseFieldDescriptor d0 = some ty) (hnv : narrow ty v = v) (hf : fits ty v = true) (ge : n0 ≤ a)
    (d : decode bytes pc = .ok (.putfield i, 3)) (hq : pc + 3 = q) (g : ∀ h', Wr h h' a (RoadKit.slotOf Z O fn d0) v → X.G h' k n q Ls st) : X.G h k n pc Ls (v :: .ref a :: st) := fun T locs Y eT N => by
  subst hq
  obtain ⟨T', h', Y', eT', W, w'⟩ := RoadKit.putF Y X.1 X.2.2.2.2.1 X.2.2.2.1 w via eT F E (L.imp_right fun z => ⟨z.1, z.2.1, X.2.2.2.2.2.2.2.trans z.2.2⟩) wi hty hnv hf (g := mkF m pc Ls (v :: .ref a :: st)) rfl rfl (X.hd d)
  obtain ⟨v, s₂, L, r1, r⟩ := g h' W T' _ Y' eT' (Fr.snoc Y' N ge)
  exact ⟨v, s₂, L, w' _ r1, r⟩
theorem OwC.newO {C : String} {i N k' n' : Nat} (w : (Cond.classLink own i C).before a0 Z = true) (wi : (Cond.instantiable C N).before a0 Z = true) (wz : (Cond.initialized C).before a0 Z = true) (d : decode bytes pc = .ok (.new i, 3)) (hk : k + 1 = k') (hn : n + N = n') (hc : k' ≤ R.cells) (hs : n' ≤ R.slots) (hq : pc + 3 = q)
    (g : ∀ h' a, a = h.size → Ext h h' → Exa Z h' a C → (∀ {O fn d0 : String} {ty : FieldType}, Laid Z a0 C O fn d0 → parseFieldDescriptor d0 = some ty → Fld Z h' a O fn d0 (defaultValue ty)) → X.G h' k' n' q Ls (.ref a :: st)) : X.G h k n pc Ls st := fun T locs Y eT Nf => by
  subst hq hk hn
  obtain ⟨T', h', Y', eT', E, A, D, -, w'⟩ := RoadKit.newO Y X.1 X.2.2.2.2.1 X.2.2.2.1 w wi wz eT (g := mkF m pc Ls st) rfl (X.hd d) hc hs
  obtain ⟨v, s₂, L, r1, r⟩ := g h' h.size rfl E A D T' _ Y' eT' Nf
  exact ⟨v, s₂, L, w' _ r1, r⟩
theorem OwC.initO {i W : Nat} {a : Addr} (w1 : (Cond.methodLink own i Lib.objectInit).before a0 Z = true) (w2 : (Cond.instanceMethod Lib.objectInit).before a0 Z = true) (w3 : (Cond.code Lib.objectInit ⟨#[0xb1]⟩ 1 none).before a0 Z = true) (d : decode bytes pc = .ok (.invokespecial i, 3)) (hsz : Ls.size = mL) (hf : 1 ≤ R.frames) (hW : (st.map fun v => v.category).sum ≤ W) (hl : W + 12 ≤ R.locals) (hq : pc + 3 = q)
    (g : X.G h k n q Ls st) : X.G h k n pc Ls (.ref a :: st) := fun T locs Y eT N => by
  subst hq
  obtain ⟨T', Y', eT', w'⟩ := RoadKit.initO Y X.1 X.2.2.2.2.1 X.2.2.2.1 w1 w2 w3 eT (g := mkF m pc Ls (.ref a :: st)) rfl (hsz.trans X.2.2.1.symm) rfl (X.hd d) hf (W := W) (by show 2 * 0 + _ ≤ _; omega) hl
  obtain ⟨v, s₂, L, r1, r⟩ := g T' locs Y' eT' N
  exact ⟨v, s₂, L, w' _ r1, r⟩
/-! arrays: what stands in one, as a list -/
def OwA (Z : State) (h : Heap) (a : Addr) (ty : FieldType) (vs : List Value) : Prop := ∃ cl : Cell, Arr Z h a cl ty ∧ cl.slots.toList = vs ∧ vs.length < 2 ^ 31
variable {a : Addr} {ty : FieldType} {vs : List Value}
theorem OwA.lt (A : OwA Z h a ty vs) : a < h.size := by obtain ⟨cl, A, -⟩ := A; exact A.lt
theorem OwA.len (A : OwA Z h a ty vs) : vs.length < 2 ^ 31 := by obtain ⟨cl, A, -, r⟩ := A; exact r
theorem OwA.ext {h' : Heap} (A : OwA Z h a ty vs) (E : Ext h h') : OwA Z h' a ty vs := by obtain ⟨cl, A, r⟩ := A; exact ⟨cl, A.ext E, r⟩
theorem OwA.other {h' : Heap} {b : Addr} {sl : Nat} {v : Value} (A : OwA Z h a ty vs) (W : Wr h h' b sl v) (ne : a ≠ b) : OwA Z h' a ty vs := by obtain ⟨cl, A, r⟩ := A; exact ⟨cl, A.other W ne, r⟩
theorem OwA.keep {h' : Heap} {ws : List Addr} (A : OwA Z h a ty vs) (K : Keep h h' ws) (ni : a ∉ ws) : OwA Z h' a ty vs := by obtain ⟨cl, A, r⟩ := A; exact ⟨cl, ⟨K.2.1 a cl A.1 ni, A.2⟩, r⟩
theorem OwA.set {h' : Heap} {j : Nat} {v : Value} (A : OwA Z h a ty vs) (W : Wr h h' a j v) : OwA Z h' a ty (vs.set j v) := by
  obtain ⟨cl, A, r1, r2⟩ := A
  exact ⟨cl.setSlot j v, A.same W, by simp [Cell.setSlot, r1], by simpa using r2⟩
theorem ow_idx {i : Int32} {j : Nat} (hi : i.toInt = (j : Int)) : ¬ i < 0 ∧ i.toNatClampNeg = j := by
  refine ⟨?_, ?_⟩
  · rw [Int32.lt_iff_toInt_lt]; have : (0 : Int32).toInt = 0 := rfl; omega
  · have : i.toNatClampNeg = i.toInt.toNat := rfl
    omega
theorem OwA.inb {cl : Cell} {i : Int32} {j : Nat} (e : cl.slots.toList = vs) (hi : i.toInt = (j : Int)) (hj : j < vs.length) : ¬ (i < 0 ∨ cl.slots.size ≤ i.toNatClampNeg) := by
  obtain ⟨h1, h2⟩ := ow_idx hi
  have : cl.slots.size = vs.length := by rw [← e]; simp
  rintro (q | q)
  · exact h1 q
  · omega
theorem OwA.at {cl : Cell} {i : Int32} {j : Nat} {v : Value} (e : cl.slots.toList = vs) (hi : i.toInt = (j : Int)) (hv : vs[j]? = some v) : cl.slots[i.toNatClampNeg]? = some v := by
  rw [(ow_idx hi).2, ← hv, ← e]; simp
theorem ow_getlt {j : Nat} {v : Value} (hv : vs[j]? = some v) : j < vs.length := (List.getElem?_eq_some_iff.mp hv).1
theorem OwC.newP {aty : ArrayType} {z : Int32} {N k' n' : Nat} (w : (Cond.arrayClass (newarray.typeOf aty)).before a0 Z = true) (d : decode bytes pc = .ok (.newarray aty, 2)) (ht : newarray.typeOf aty = ty) (hz : z.toInt = (N : Int)) {cap : Nat} (hcap : N ≤ cap) (hb : cap * 8 ≤ 536870912) (hk : k + 1 = k') (hn : n + cap = n') (hc : k' ≤ R.cells) (hs : n' ≤ R.slots) (hq : pc + 2 = q)
    (g : ∀ h' a, a = h.size → Ext h h' → OwA Z h' a ty (List.replicate N (defaultValue ty)) → X.G h' k' n' q Ls (.ref a :: st)) : X.G h k n pc Ls (.int z :: st) := fun T locs Y eT Nf => by
  subst hq hk hn ht
  obtain ⟨z1, z2⟩ := ow_idx hz
  obtain ⟨T', h', cA, Y', eT', E, A, w'⟩ := RoadKit.newP Y X.1 X.2.2.2.2.1 w eT (g := mkF m pc Ls (.int z :: st)) rfl (X.hd d) rfl z1 (cap := cap) (by omega) hb hc hs
  obtain ⟨v, s₂, L, r1, r⟩ := g h' h.size rfl E ⟨_, A, by simp [newA, z2], by have := z.toInt_lt; simp; omega⟩ T' _ Y' eT' Nf
  exact ⟨v, s₂, L, w' _ r1, r⟩
theorem OwC.alen {z : Int32} (A : OwA Z h a ty vs) (hz : z.toInt = (vs.length : Int)) (d : decode bytes pc = .ok (.arraylength, 1)) (hq : pc + 1 = q) (g : X.G h k n q Ls (.int z :: st)) : X.G h k n pc Ls (.ref a :: st) := fun T locs Y eT N => by
  subst hq
  obtain ⟨cl, A, e, hl⟩ := A
  obtain ⟨v, s₂, L, r1, r⟩ := g T locs Y eT N
  have hsz : cl.slots.size = vs.length := by rw [← e]; simp
  have ez : cl.slots.size.toInt32 = z := by rw [hsz, ← Int32.toInt_inj, len_toInt hl, hz]
  exact ⟨v, s₂, L, Y.arraylength X.1 (by rw [eT]; exact A.1) (State.isArrayOf_alike X.2.2.2.2.1.alike A.2.1) (g := mkF m pc Ls (.ref a :: st)) rfl rfl (X.hd d) _ (by rw [ez]; exact r1), r⟩
theorem OwC.iaload {i : Int32} {j : Nat} {v : Value} (A : OwA Z h a .int vs) (hi : i.toInt = (j : Int)) (hv : vs[j]? = some v) (d : decode bytes pc = .ok (.iaload, 1)) (hq : pc + 1 = q) (g : X.G h k n q Ls (v :: st)) : X.G h k n pc Ls (.int i :: .ref a :: st) := fun T locs Y eT N => by
  subst hq
  obtain ⟨cl, A, e, -⟩ := A
  obtain ⟨v, s₂, L, r1, r⟩ := g T locs Y eT N
  exact ⟨v, s₂, L, Y.iaload X.1 (by rw [eT]; exact A.1) (State.isArrayOf_alike X.2.2.2.2.1.alike A.2.1) A.2.2 (OwA.inb e hi (ow_getlt hv)) (OwA.at e hi hv) (g := mkF m pc Ls (.int i :: .ref a :: st)) rfl rfl (X.hd d) _ r1, r⟩
theorem OwC.laload {i : Int32} {j : Nat} {v : Value} (A : OwA Z h a .long vs) (hi : i.toInt = (j : Int)) (hv : vs[j]? = some v) (d : decode bytes pc = .ok (.laload, 1)) (hq : pc + 1 = q) (g : X.G h k n q Ls (v :: st)) : X.G h k n pc Ls (.int i :: .ref a :: st) := fun T locs Y eT N => by
  subst hq
  obtain ⟨cl, A, e, -⟩ := A
  obtain ⟨v, s₂, L, r1, r⟩ := g T locs Y eT N
  exact ⟨v, s₂, L, Y.laload X.1 (by rw [eT]; exact A.1) (State.isArrayOf_alike X.2.2.2.2.1.alike A.2.1) A.2.2 (OwA.inb e hi (ow_getlt hv)) (OwA.at e hi hv) (g := mkF m pc Ls (.int i :: .ref a :: st)) rfl rfl (X.hd d) _ r1, r⟩
theorem OwC.baload {i : Int32} {j : Nat} {v : Value} (A : OwA Z h a .byte vs) (hi : i.toInt = (j : Int)) (hv : vs[j]? = some v) (d : decode bytes pc = .ok (.baload, 1)) (hq : pc + 1 = q) (g : X.G h k n q Ls (v :: st)) : X.G h k n pc Ls (.int i :: .ref a :: st) := fun T locs Y eT N => by
  subst hq
  obtain ⟨cl, A, e, -⟩ := A
  obtain ⟨v, s₂, L, r1, r⟩ := g T locs Y eT N
  exact ⟨v, s₂, L, Y.baloadBytes X.1 (by rw [eT]; exact A.1) (State.isArrayOf_alike X.2.2.2.2.1.alike A.2.1) A.2.2 (OwA.inb e hi (ow_getlt hv)) (OwA.at e hi hv) (g := mkF m pc Ls (.int i :: .ref a :: st)) rfl rfl (X.hd d) _ r1, r⟩
theorem OwC.caload {i : Int32} {j : Nat} {v : Value} (A : OwA Z h a .char vs) (hi : i.toInt = (j : Int)) (hv : vs[j]? = some v) (d : decode bytes pc = .ok (.caload, 1)) (hq : pc + 1 = q) (g : X.G h k n q Ls (v :: st)) : X.G h k n pc Ls (.int i :: .ref a :: st) := fun T locs Y eT N => by
  subst hq
  obtain ⟨cl, A, e, -⟩ := A
  obtain ⟨v, s₂, L, r1, r⟩ := g T locs Y eT N
  exact ⟨v, s₂, L, Y.caload X.1 (by rw [eT]; exact A.1) (State.isArrayOf_alike X.2.2.2.2.1.alike A.2.1) A.2.2 (OwA.inb e hi (ow_getlt hv)) (OwA.at e hi hv) (g := mkF m pc Ls (.int i :: .ref a :: st)) rfl rfl (X.hd d) _ r1, r⟩
theorem OwC.iastore {i : Int32} {j : Nat} {x : Int32} (A : OwA Z h a .int vs) (hi : i.toInt = (j : Int)) (hj : j < vs.length) (ge : n0 ≤ a) (d : decode bytes pc = .ok (.iastore, 1)) (hq : pc + 1 = q) (g : ∀ h', Wr h h' a j (.int x) → OwA Z h' a .int (vs.set j (.int x)) → X.G h' k n q Ls st) : X.G h k n pc Ls (.int x :: .int i :: .ref a :: st) := fun T locs Y eT N => by
  subst hq
  obtain ⟨cl, A1, e, hl⟩ := id A
  obtain ⟨T', h', Y', eT', W, w'⟩ := RoadKit.stI Y X.1 X.2.2.2.2.1 eT A1 (OwA.inb e hi hj) (g := mkF m pc Ls (.int x :: .int i :: .ref a :: st)) rfl rfl (X.hd d)
  have N' := Fr.snoc Y' N ge
  rw [(ow_idx hi).2] at W
  obtain ⟨v, s₂, L, r1, r⟩ := g h' W (A.set W) T' _ Y' eT' N'
  exact ⟨v, s₂, L, w' _ r1, r⟩
theorem OwC.lastore {i : Int32} {j : Nat} {x : Int64} (A : OwA Z h a .long vs) (hi : i.toInt = (j : Int)) (hj : j < vs.length) (ge : n0 ≤ a) (d : decode bytes pc = .ok (.lastore, 1)) (hq : pc + 1 = q) (g : ∀ h', Wr h h' a j (.long x) → OwA Z h' a .long (vs.set j (.long x)) → X.G h' k n q Ls st) : X.G h k n pc Ls (.long x :: .int i :: .ref a :: st) := fun T locs Y eT N => by
  subst hq
  obtain ⟨cl, A1, e, hl⟩ := id A
  obtain ⟨T', h', Y', eT', W, w'⟩ := RoadKit.stJ Y X.1 X.2.2.2.2.1 eT A1 (OwA.inb e hi hj) (g := mkF m pc Ls (.long x :: .int i :: .ref a :: st)) rfl rfl (X.hd d)
  have N' := Fr.snoc Y' N ge
  rw [(ow_idx hi).2] at W
  obtain ⟨v, s₂, L, r1, r⟩ := g h' W (A.set W) T' _ Y' eT' N'
  exact ⟨v, s₂, L, w' _ r1, r⟩
theorem OwC.bastore {i : Int32} {j : Nat} {x : Int32} (A : OwA Z h a .byte vs) (hi : i.toInt = (j : Int)) (hj : j < vs.length) (ge : n0 ≤ a) (d : decode bytes pc = .ok (.bastore, 1)) (hq : pc + 1 = q) (g : ∀ h', Wr h h' a j (.int (nar .byte x)) → OwA Z h' a .byte (vs.set j (.int (nar .byte x))) → X.G h' k n q Ls st) : X.G h k n pc Ls (.int x :: .int i :: .ref a :: st) := fun T locs Y eT N => by
  subst hq
  obtain ⟨cl, A1, e, hl⟩ := id A
  obtain ⟨T', h', Y', eT', W, w'⟩ := RoadKit.stB Y X.1 X.2.2.2.2.1 eT A1 (OwA.inb e hi hj) (g := mkF m pc Ls (.int x :: .int i :: .ref a :: st)) rfl rfl (X.hd d)
  have N' := Fr.snoc Y' N ge
  rw [(ow_idx hi).2] at W
  obtain ⟨v, s₂, L, r1, r⟩ := g h' W (A.set W) T' _ Y' eT' N'
  exact ⟨v, s₂, L, w' _ r1, r⟩
theorem OwC.castore {i : Int32} {j : Nat} {x : Int32} (A : OwA Z h a .char vs) (hi : i.toInt = (j : Int)) (hj : j < vs.length) (ge : n0 ≤ a) (d : decode bytes pc = .ok (.castore, 1)) (hq : pc + 1 = q) (g : ∀ h', Wr h h' a j (.int (nar .char x)) → OwA Z h' a .char (vs.set j (.int (nar .char x))) → X.G h' k n q Ls st) : X.G h k n pc Ls (.int x :: .int i :: .ref a :: st) := fun T locs Y eT N => by
  subst hq
  obtain ⟨cl, A1, e, hl⟩ := id A
  obtain ⟨T', h', Y', eT', W, w'⟩ := RoadKit.stC Y X.1 X.2.2.2.2.1 eT A1 (OwA.inb e hi hj) (g := mkF m pc Ls (.int x :: .int i :: .ref a :: st)) rfl rfl (X.hd d)
  have N' := Fr.snoc Y' N ge
  rw [(ow_idx hi).2] at W
  obtain ⟨v, s₂, L, r1, r⟩ := g h' W (A.set W) T' _ Y' eT' N'
  exact ⟨v, s₂, L, w' _ r1, r⟩
theorem OwC.cast {K C : String} {i : Nat} {a : Addr} (w : (Cond.classLink own i K).before a0 Z = true) (wc : (Cond.castable C K).before a0 Z = true) (E : Exa Z h a C) (d : decode bytes pc = .ok (.checkcast i, 3)) (hq : pc + 3 = q) (g : X.G h k n q Ls (.ref a :: st)) : X.G h k n pc Ls (.ref a :: st) := fun T locs Y eT N => by
  subst hq
  obtain ⟨T', Y', eT', w'⟩ := RoadKit.castY Y X.1 X.2.2.2.2.1 X.2.2.2.1 w eT (Ins.of_exa E wc) (g := mkF m pc Ls (.ref a :: st)) rfl rfl (X.hd d)
  obtain ⟨v, s₂, L, r1, r⟩ := g T' locs Y' eT' N
  exact ⟨v, s₂, L, w' _ r1, r⟩
theorem OwC.instY {K C : String} {i : Nat} {a : Addr} (w : (Cond.classLink own i K).before a0 Z = true) (wc : (Cond.castable C K).before a0 Z = true) (E : Exa Z h a C) (d : decode bytes pc = .ok (.instanceof i, 3)) (hq : pc + 3 = q) (g : X.G h k n q Ls (.int 1 :: st)) : X.G h k n pc Ls (.ref a :: st) := fun T locs Y eT N => by
  subst hq
  obtain ⟨T', Y', eT', w'⟩ := RoadKit.instY Y X.1 X.2.2.2.2.1 X.2.2.2.1 w eT (Ins.of_exa E wc) (g := mkF m pc Ls (.ref a :: st)) rfl rfl (X.hd d)
  obtain ⟨v, s₂, L, r1, r⟩ := g T' locs Y' eT' N
  exact ⟨v, s₂, L, w' _ r1, r⟩
theorem OwC.instNo {K C : String} {i : Nat} {a : Addr} (w : (Cond.classLink own i K).before a0 Z = true) (F : ∃ c t, Z.vm.findClass C = some c ∧ Z.vm.findClass K = some t ∧ Z.vm.assignable c t = false) (E : Exa Z h a C) (d : decode bytes pc = .ok (.instanceof i, 3)) (hq : pc + 3 = q) (g : X.G h k n q Ls (.int 0 :: st)) : X.G h k n pc Ls (.ref a :: st) := fun T locs Y eT N => by
  subst hq
  obtain ⟨T', Y', eT', w'⟩ := RoadKit.instNo Y X.1 X.2.2.2.2.1 X.2.2.2.1 w eT E F (g := mkF m pc Ls (.ref a :: st)) rfl rfl (X.hd d)
  obtain ⟨v, s₂, L, r1, r⟩ := g T' locs Y' eT' N
  exact ⟨v, s₂, L, w' _ r1, r⟩
theorem OwC.instNull {i : Nat} (d : decode bytes pc = .ok (.instanceof i, 3)) (hq : pc + 3 = q) (g : X.G h k n q Ls (.int 0 :: st)) : X.G h k n pc Ls (.null :: st) := by
  subst hq; exact X.step g fun T _ Y t r => Y.instanceofNull X.1 (g := mkF m pc Ls (.null :: st)) rfl rfl (X.hd d) t r
theorem ow_noSub {C K : String} {nn : Nat} (w : (Cond.superclass C "java/lang/Object").before a0 Z = true) (wo : (Cond.noSuperclass "java/lang/Object").before a0 Z = true) (wk : (Cond.instantiable K nn).before a0 Z = true) (h1 : C ≠ K) (h2 : "java/lang/Object" ≠ K) : ∃ c t, Z.vm.findClass C = some c ∧ Z.vm.findClass K = some t ∧ Z.vm.assignable c t = false := by
  obtain ⟨t, kt, g0, g2, g5, g7, -, -⟩ := Cond.instantiable_spec wk
  obtain ⟨o, ko, o1, o2, o3, -, -⟩ := Cond.noSuperclass_spec wo
  obtain ⟨c, h0⟩ := found_sup w
  obtain ⟨p, k, kp, e1, e2, e3, e4, e5, -, e7⟩ := Cond.superclass_spec h0 w
  cases o1.symm.trans e1
  have ne1 := ids_ne h0 g0 h1
  have ne2 := ids_ne o1 g0 h2
  have nO : ∀ fuel, Z.vm.isSubclassAux fuel o t = false := fun fuel => by cases fuel with
    | zero => rfl
    | succ f => simp [Vm.isSubclassAux, ne2, o2, o3]
  have nC : ∀ fuel, Z.vm.isSubclassAux fuel c t = false := fun fuel => by cases fuel with
    | zero => rfl
    | succ f => simp [Vm.isSubclassAux, ne1, e2, e4, nO]
  have g8 : kt.isInterface = false := by cases hh : kt.isInterface with
    | false => rfl
    | true => rw [hh] at g7; cases g7
  refine ⟨c, t, h0, g0, ?_⟩
  show Z.vm.assignableAux (255 + 1) c t = false
  simp [Vm.assignableAux, ne1, e2, g2, e5, g5, g8, Vm.isSubclass, nC]
theorem Exa.neOwA {x b : Addr} {C : String} {nn : Nat} (E : Exa Z h x C) (F : OwA Z h b ty vs) (w : (Cond.instantiable C nn).before a0 Z = true) : x ≠ b := fun e => by
  subst e
  obtain ⟨t, kt, g0, g2, g5, -⟩ := Cond.instantiable_spec w
  obtain ⟨c1, k1, e1, f1, g1, -⟩ := E
  obtain ⟨c2, ⟨e2, ⟨-, kk, hk, comp, hkind⟩, -⟩, -⟩ := F
  cases e1.symm.trans e2
  cases f1.symm.trans g0
  cases g2.symm.trans hk
  rw [g5] at hkind; cases hkind
/-! contracts and calls -/
def OwM (l : Launch) (Z : State) (y : MethodName) (bytes : ByteArray) (mL : Nat) (ret : Option FieldType) (rm : Room) (kM nM : Nat) (ws : List Cond) (as : Array Value) (h0 : Heap) (n0 : Nat) (Φ : Option Value → Heap → Prop) : Prop :=
  MetFree l y (head1 (Cond.code y bytes mL ret :: ws) rm) (fun a U => a = as ∧ Z.Warmed39 U.vm ∧ U.heap = h0) (fun _ _ _ _ _ => True) (fun _ U o U' => ∃ v L, o = .returned v ∧ (Φ v U'.heap ∧ Fr n0 L) ∧ FrameEnd U o U' L kM nM)
theorem OwM.of {y : MethodName} {rm : Room} {ws : List Cond} {as : Array Value} {h0 : Heap} (hpn : plainFor y = true) (hef : ∀ m, entryFrame m as mL = mkF m 0 Ls [])
    (body : ∀ p e s m below meth c (X : OwC p l e rm s m as below meth c Z y.cls y.name bytes mL ret n0 kM nM Φ), X.G h0 0 0 0 Ls []) : OwM l Z y bytes mL ret rm kM nM ws as h0 n0 Φ := by
  refine MetFree.of_bodySF hpn hisR ?_
  intro p e s m args below meth c s₁ Bd hml0 hP hK
  obtain ⟨rfl, hZ, hh⟩ := hP
  have X : OwC p l e rm s m args below meth c Z y.cls y.name bytes mL ret n0 kM nM Φ := ⟨Bd.exec, Bd.bytes, hml0, findClass_of_methodNamed Bd.named, hZ, Bd.returns, Bd.notSynchronized, (name_of_methodNamed Bd.named Bd.method).1⟩
  obtain ⟨v, s₂, L, r1, r2, r3, r4, r5⟩ := body p e s m below meth c X s₁ [] (Stand.of_body Bd) (by rw [← hh, Bd.state]; rfl) (Fr.nil n0)
  exact ⟨s₂, _, castTop (hef m) r1, r2, r3, v, L, rfl, r4, r5⟩
theorem OwM.mono {y : MethodName} {rm : Room} {ws : List Cond} {as : Array Value} {Ψ : Option Value → Heap → Prop} (K : OwM l Z y bytes mL ret rm kM nM ws as h n0 Φ) (hi : ∀ v h', Φ v h' → Ψ v h') : OwM l Z y bytes mL ret rm kM nM ws as h n0 Ψ :=
  MetFree.mono K (fun _ _ q => q) (fun _ _ _ _ _ q => q) (fun _ _ _ _ _ ⟨v, L, h1, ⟨h2, h3⟩, h4⟩ => ⟨v, L, h1, ⟨hi _ _ h2, h3⟩, h4⟩)
variable {y : MethodName} {by' : ByteArray} {mL' : Nat} {ret' : Option FieldType} {rm : Room} {as : Array Value} {Ψ : Option Value → Heap → Prop}
theorem OwC.back (X : OwC p l e R s m args below meth c Z own nm bytes mL ret n0 kM nM Φ) {len W : Nat} (K : OwM l Z y by' mL' ret' rm rm.cells rm.slots [] as h n0 Ψ) (wc : (Cond.code y by' mL' ret').before a0 Z = true) (wz : (Cond.initialized y.cls).before a0 Z = true) (hf : rm.frames + 1 ≤ R.frames) (hl : W + (mL' + 11) + rm.locals ≤ R.locals) :
    Back l R p e below s args y len W (fun A a => a = as ∧ A.U.heap = h ∧ A.cells + rm.cells ≤ R.cells ∧ A.slots + rm.slots ≤ R.slots)
      (fun A _ v B => ∃ L, (Ψ v B.U.heap ∧ Fr n0 L) ∧ B.locs = A.locs ++ L ∧ B.cells = A.cells + rm.cells ∧ B.slots = A.slots + rm.slots) :=
  backOf (Q := fun v h L => Ψ v h ∧ Fr n0 L) K X.2.2.2.2.1 wc wz hf hl
theorem OwC.callS {i W k' n' : Nat} {argsL : List Value} {ps : List FieldType} {rt : Option FieldType} (K : OwM l Z y by' mL' ret' rm rm.cells rm.slots [] as h n0 Ψ) (w1 : (Cond.methodLink own i y).before a0 Z = true) (w2 : (Cond.static y).before a0 Z = true) (w3 : (Cond.initialized y.cls).before a0 Z = true) (w4 : (Cond.code y by' mL' ret').before a0 Z = true) (hy : y.cls ≠ "java/lang/invoke/MethodHandle" ∧ y.cls ≠ "java/lang/invoke/VarHandle")
    (pd : parseMethodDescriptor y.desc = some ⟨ps, rt⟩) (hlen : argsL.length = ps.length) (has : argsL.toArray = as) (hst : st = argsL.reverse ++ rest) (hW : (rest.map fun v => v.category).sum ≤ W) (hsz : Ls.size = mL) (hf : rm.frames + 1 ≤ R.frames) (hl : W + (mL' + 11) + rm.locals ≤ R.locals) (hk : k + rm.cells = k') (hn : n + rm.slots = n') (hc : k' ≤ R.cells) (hs : n' ≤ R.slots)
    (d : decode bytes pc = .ok (.invokestatic i, 3)) (hq : pc + 3 = q) (g : ∀ v h', Ψ v h' → X.G h' k' n' q Ls (v.toList ++ rest)) : X.G h k n pc Ls st := fun T locs Y eT N => by
  subst hq hk hn has
  obtain ⟨v, vm1, B, -, Y', ⟨L0, ⟨hΨ, N0⟩, l1, l2, l3⟩, w'⟩ := Jvm.LawKit.callS Y X.1 (y := y) X.2.2.2.1 (mvT X.2.2.2.2.1 w1) (mvT X.2.2.2.2.1 w2) (mvT X.2.2.2.2.1 w3) (mvT X.2.2.2.2.1 w4) hy (X.back K w4 w3 hf hl) (g := mkF m pc Ls st) rfl (hsz.trans X.2.2.1.symm) (argsL := argsL) (rest := rest) (lenOf pd hlen) hst (by show 2 * 0 + _ ≤ _; omega) (X.hd d) (fun _ _ => ⟨rfl, eT, hc, hs⟩)
  obtain ⟨T', L', k', n'⟩ := B
  dsimp only [Pt.U, Pt.locs, Pt.cells, Pt.slots] at Y' l1 l2 l3 w' hΨ
  subst l1 l2 l3
  obtain ⟨v, s₂, L, r1, r⟩ := g v _ hΨ T' _ Y' rfl (N.app N0)
  exact ⟨v, s₂, L, w' _ r1, r⟩
theorem OwC.special {i W k' n' : Nat} {a : Addr} {argsL : List Value} {ps : List FieldType} {rt : Option FieldType} (K : OwM l Z y by' mL' none rm rm.cells rm.slots [] as h n0 Ψ) (hin : y.name = "<init>") (w1 : (Cond.methodLink own i y).before a0 Z = true) (w2 : (Cond.instanceMethod y).before a0 Z = true) (w3 : (Cond.initialized y.cls).before a0 Z = true) (w4 : (Cond.code y by' mL' none).before a0 Z = true) (hy : y.cls ≠ "java/lang/invoke/MethodHandle" ∧ y.cls ≠ "java/lang/invoke/VarHandle")
    (pd : parseMethodDescriptor y.desc = some ⟨ps, rt⟩) (hlen : argsL.length = ps.length) (has : (.ref a :: argsL).toArray = as) (hst : st = argsL.reverse ++ .ref a :: rest) (hW : (rest.map fun v => v.category).sum ≤ W) (hsz : Ls.size = mL) (hf : rm.frames + 1 ≤ R.frames) (hl : W + (mL' + 11) + rm.locals ≤ R.locals) (hk : k + rm.cells = k') (hn : n + rm.slots = n') (hc : k' ≤ R.cells) (hs : n' ≤ R.slots)
    (d : decode bytes pc = .ok (.invokespecial i, 3)) (hq : pc + 3 = q) (g : ∀ v h', Ψ v h' → X.G h' k' n' q Ls (v.toList ++ rest)) : X.G h k n pc Ls st := fun T locs Y eT N => by
  subst hq hk hn has
  obtain ⟨v, vm1, B, -, Y', ⟨L0, ⟨hΨ, N0⟩, l1, l2, l3⟩, w'⟩ := Y.specialBack X.1 (y := y) hin X.2.2.2.1 (mvT X.2.2.2.2.1 w1) (mvT X.2.2.2.2.1 w2) (mvT X.2.2.2.2.1 w4) hy (X.back K w4 w3 hf hl) (g := mkF m pc Ls st) rfl (hsz.trans X.2.2.1.symm) (Steps.refl _) (a := a) (argsL := argsL) (rest := rest) (lenOf pd hlen) hst (by show 2 * 0 + _ ≤ _; omega) (X.hd d) (fun _ _ => ⟨rfl, eT, hc, hs⟩)
  obtain ⟨T', L', k', n'⟩ := B
  dsimp only [Pt.U, Pt.locs, Pt.cells, Pt.slots] at Y' l1 l2 l3 w' hΨ
  subst l1 l2 l3
  obtain ⟨v, s₂, L, r1, r⟩ := g v _ hΨ T' _ Y' rfl (N.app N0)
  exact ⟨v, s₂, L, w'.trans r1, r⟩
theorem OwC.virtual {C : String} {i W k' n' : Nat} {a : Addr} {argsL : List Value} {ps : List FieldType} {rt : Option FieldType} (K : OwM l Z y by' mL' ret' rm rm.cells rm.slots [] as h n0 Ψ) (w1 : (Cond.methodLink own i y).before a0 Z = true) (w2 : (Cond.declares y).before a0 Z = true) (w5 : (Cond.selects C y y).before a0 Z = true) (w6 : (Cond.instanceMethod y).before a0 Z = true) (w3 : (Cond.initialized y.cls).before a0 Z = true) (w4 : (Cond.code y by' mL' ret').before a0 Z = true) (hy : y.cls ≠ "java/lang/invoke/MethodHandle" ∧ y.cls ≠ "java/lang/invoke/VarHandle") (E : Exa Z h a C)
    (pd : parseMethodDescriptor y.desc = some ⟨ps, rt⟩) (hlen : argsL.length = ps.length) (has : (.ref a :: argsL).toArray = as) (hst : st = argsL.reverse ++ .ref a :: rest) (hW : (rest.map fun v => v.category).sum ≤ W) (hsz : Ls.size = mL) (hf : rm.frames + 1 ≤ R.frames) (hl : W + (mL' + 11) + rm.locals ≤ R.locals) (hk : k + rm.cells = k') (hn : n + rm.slots = n') (hc : k' ≤ R.cells) (hs : n' ≤ R.slots)
    (d : decode bytes pc = .ok (.invokevirtual i, 3)) (hq : pc + 3 = q) (g : ∀ v h', Ψ v h' → X.G h' k' n' q Ls (v.toList ++ rest)) : X.G h k n pc Ls st := fun T locs Y eT N => by
  subst hq hk hn has
  obtain ⟨cB, kB, q1, q2, q3⟩ := isOf (T := T) X.2.2.2.2.1 eT E
  obtain ⟨v, vm1, B, -, Y', ⟨L0, ⟨hΨ, N0⟩, l1, l2, l3⟩, w'⟩ := Y.virtualBack X.1 (y := y) (z := y) X.2.2.2.1 (mvT X.2.2.2.2.1 w1) (mvT X.2.2.2.2.1 w2) (notFace_of_selects (args := #[]) (mvT X.2.2.2.2.1 w5)) (mvT X.2.2.2.2.1 w5) (mvT X.2.2.2.2.1 w6) hy (X.back K w4 w3 hf hl) q1 q3 (g := mkF m pc Ls st) rfl (hsz.trans X.2.2.1.symm) (Steps.refl _) (argsL := argsL) (rest := rest) (lenOf pd hlen) hst (by show 2 * 0 + _ ≤ _; omega) (X.hd d) (fun _ _ => ⟨rfl, eT, hc, hs⟩)
  obtain ⟨T', L', k', n'⟩ := B
  dsimp only [Pt.U, Pt.locs, Pt.cells, Pt.slots] at Y' l1 l2 l3 w' hΨ
  subst l1 l2 l3
  obtain ⟨v, s₂, L, r1, r⟩ := g v _ hΨ T' _ Y' rfl (N.app N0)
  exact ⟨v, s₂, L, w'.trans r1, r⟩
theorem OwC.private {C : String} {i W k' n' kk : Nat} {a : Addr} {argsL : List Value} {ps : List FieldType} {rt : Option FieldType} (K : OwM l Z y by' mL' ret' rm rm.cells rm.slots [] as h n0 Ψ) (w1 : (Cond.methodLink own i y).before a0 Z = true) (w6 : (Cond.instanceMethod y).before a0 Z = true) (w7 : (Cond.privateMethod y).before a0 Z = true) (w8 : (Cond.instantiable y.cls kk).before a0 Z = true) (w3 : (Cond.initialized y.cls).before a0 Z = true) (w4 : (Cond.code y by' mL' ret').before a0 Z = true) (hy : y.cls ≠ "java/lang/invoke/MethodHandle" ∧ y.cls ≠ "java/lang/invoke/VarHandle") (E : Exa Z h a C)
    (pd : parseMethodDescriptor y.desc = some ⟨ps, rt⟩) (hlen : argsL.length = ps.length) (has : (.ref a :: argsL).toArray = as) (hst : st = argsL.reverse ++ .ref a :: rest) (hW : (rest.map fun v => v.category).sum ≤ W) (hsz : Ls.size = mL) (hf : rm.frames + 1 ≤ R.frames) (hl : W + (mL' + 11) + rm.locals ≤ R.locals) (hk : k + rm.cells = k') (hn : n + rm.slots = n') (hc : k' ≤ R.cells) (hs : n' ≤ R.slots)
    (d : decode bytes pc = .ok (.invokevirtual i, 3)) (hq : pc + 3 = q) (g : ∀ v h', Ψ v h' → X.G h' k' n' q Ls (v.toList ++ rest)) : X.G h k n pc Ls st := fun T locs Y eT N => by
  subst hq hk hn has
  obtain ⟨cell, e1, e2⟩ := E.cell
  obtain ⟨c8, k8, f1, f2, -, f4, -⟩ := Cond.instantiable_spec (mvT (args := #[]) X.2.2.2.2.1 w8)
  have hni : k8.isInterface = false := by cases hh : k8.isInterface with
    | false => rfl
    | true => rw [hh] at f4; cases f4
  have hpr := Cond.privateMethod_at (mvP X.2.2.2.2.1 w7 (args := #[]))
  obtain ⟨v, vm1, B, -, Y', ⟨L0, ⟨hΨ, N0⟩, l1, l2, l3⟩, w'⟩ := Y.privateBack X.1 (y := y) X.2.2.2.1 (mvT X.2.2.2.2.1 w1) (mvT X.2.2.2.2.1 w6) (Jvm.Stand.selects_self_of_private f1 f2 hni hpr (mvT X.2.2.2.2.1 w6) hy) hpr (mvT X.2.2.2.2.1 w4) hy (X.back K w4 w3 hf hl) (g := mkF m pc Ls st) rfl (hsz.trans X.2.2.1.symm) (Steps.refl _) (a := a) (cell := cell) (by rw [eT]; exact e1) e2 (argsL := argsL) (rest := rest) (lenOf pd hlen) hst (by show 2 * 0 + _ ≤ _; omega) (X.hd d) (fun _ _ => ⟨rfl, eT, hc, hs⟩)
  obtain ⟨T', L', k', n'⟩ := B
  dsimp only [Pt.U, Pt.locs, Pt.cells, Pt.slots] at Y' l1 l2 l3 w' hΨ
  subst l1 l2 l3
  obtain ⟨v, s₂, L, r1, r⟩ := g v _ hΨ T' _ Y' rfl (N.app N0)
  exact ⟨v, s₂, L, w'.trans r1, r⟩
end OwKit
/-! ## the same rules for a body that may load a String constant (OwS): the base s is the true start s0 with later tables -/
def OwK (a0 : Array Value) (s0 s Z : State) (EL : List (String × Nat)) (h : Heap) : Prop := s = s0.setVm s.vm ∧ (∃ k0, s0.Since s.vm k0 ∧ k0 ≤ h.size) ∧ EW Z a0 EL ∧ CHr Z EL s0.vm s0.heap s.vm h
theorem OwK.eq {a0 : Array Value} {s0 s Z : State} {EL : List (String × Nat)} {h : Heap} (K : OwK a0 s0 s Z EL h) : s = s0.setVm s.vm := K.1
theorem OwK.sn {a0 : Array Value} {s0 s Z : State} {EL : List (String × Nat)} {h : Heap} (K : OwK a0 s0 s Z EL h) : ∃ k0, s0.Since s.vm k0 ∧ k0 ≤ h.size := K.2.1
theorem OwK.ew {a0 : Array Value} {s0 s Z : State} {EL : List (String × Nat)} {h : Heap} (K : OwK a0 s0 s Z EL h) : EW Z a0 EL := K.2.2.1
theorem OwK.ch {a0 : Array Value} {s0 s Z : State} {EL : List (String × Nat)} {h : Heap} (K : OwK a0 s0 s Z EL h) : CHr Z EL s0.vm s0.heap s.vm h := K.2.2.2
theorem OwK.ext {a0 : Array Value} {s0 s Z : State} {EL : List (String × Nat)} {h h' : Heap} (K : OwK a0 s0 s Z EL h) (E : Ext h h') : OwK a0 s0 s Z EL h' := by
  obtain ⟨k0, h1, h2⟩ := K.sn
  exact ⟨K.eq, ⟨k0, h1, Nat.le_trans h2 E.1⟩, K.ew, K.ch.trans (CHr.ext E K.ch.1)⟩
theorem OwK.keep {a0 : Array Value} {s0 s Z : State} {EL : List (String × Nat)} {h h' : Heap} {ws : List Addr} (K : OwK a0 s0 s Z EL h) (E : Keep h h' ws) (hs : ∀ x ∈ ws, Safe Z EL s.vm h x) : OwK a0 s0 s Z EL h' := by
  obtain ⟨k0, h1, h2⟩ := K.sn
  exact ⟨K.eq, ⟨k0, h1, Nat.le_trans h2 E.1⟩, K.ew, K.ch.trans (CHr.keep E hs K.ch.1)⟩
theorem OwK.wr {a0 : Array Value} {s0 s Z : State} {EL : List (String × Nat)} {h h' : Heap} {a : Addr} {sl : Nat} {v : Value} (K : OwK a0 s0 s Z EL h) (W : Wr h h' a sl v) (hs : Safe Z EL s.vm h a) : OwK a0 s0 s Z EL h' := by
  obtain ⟨k0, h1, h2⟩ := K.sn
  exact ⟨K.eq, ⟨k0, h1, by rw [Wr.size W]; exact h2⟩, K.ew, K.ch.trans (CHr.wr W hs K.ch.1)⟩
def OwS (p : Program) (l : Launch) (e : Env) (R : Room) (s : State) (m : MethodId) (args : Array Value) (below : List Frame) (meth : Method) (c : Code) (Z : State) (own nm : String) (bytes : ByteArray) (mL : Nat) (ret : Option FieldType) (n0 kM nM : Nat) (Φ : Option Value → Heap → Prop) (_s0 : State) (_EL : List (String × Nat)) : Prop :=
  p.tables.exec = Jvm.exec ∧ c.code = bytes ∧ c.maxLocals = mL ∧ s.vm.findClass own = some m.cls ∧ Z.Warmed39 s.vm ∧ meth.sig.returnType = ret ∧ meth.locks = false ∧ meth.name = nm
section OwSKit
variable {p : Program} {l : Launch} {e : Env} {R : Room} {s : State} {m : MethodId} {args : Array Value} {below : List Frame} {meth : Method} {c : Code} {Z : State} {own nm : String} {bytes : ByteArray} {mL : Nat} {ret : Option FieldType} {n0 kM nM : Nat} {Φ : Option Value → Heap → Prop} {s0 : State} {EL : List (String × Nat)}
variable {a0 : Array Value} {h : Heap} {k n pc q : Nat} {Ls Ls' : Array Slot} {st rest : List Value}
def OwS.G (_X : OwS p l e R s m args below meth c Z own nm bytes mL ret n0 kM nM Φ s0 EL) (h : Heap) (k n pc : Nat) (Ls : Array Slot) (st : List Value) : Prop :=
  ∀ T locs, Stand p l e R s m args below meth c T locs k n → T.heap = h → Fr n0 locs →
    ∃ v s₂ L, Steps p.tables e below (T.setTop (mkF m pc Ls st)) s₂ ∧ s₂.status = .running ∧ Ended s₂ below (.returned v) ∧ (Φ v s₂.heap ∧ Fr n0 L) ∧ CHr Z EL s0.vm s0.heap s₂.vm s₂.heap ∧ ReturnedEndW s0 (.returned v) s₂ L kM nM
variable (X : OwS p l e R s m args below meth c Z own nm bytes mL ret n0 kM nM Φ s0 EL)
theorem OwS.step {pc' : Nat} {st' : List Value} (g : X.G h k n pc' Ls' st') (w : ∀ T locs, Stand p l e R s m args below meth c T locs k n → ∀ t, Steps p.tables e below (T.setTop (mkF m pc' Ls' st')) t → Steps p.tables e below (T.setTop (mkF m pc Ls st)) t) : X.G h k n pc Ls st := fun T locs Y eT N => by
  obtain ⟨v, s₂, L, r1, r⟩ := g T locs Y eT N
  exact ⟨v, s₂, L, w T locs Y _ r1, r⟩
theorem OwS.hd (X : OwS p l e R s m args below meth c Z own nm bytes mL ret n0 kM nM Φ s0 EL) {i : Instr} {len : Nat} (d : decode bytes pc = .ok (i, len)) : decode c.code pc = .ok (i, len) := hb X.2.1 d
theorem OwS.nmI {x : Int32} (g : ∀ v : Int32, v = x → X.G h k n pc Ls (.int v :: st)) : X.G h k n pc Ls (.int x :: st) := g x rfl
theorem OwS.nmJ {x : Int64} (g : ∀ v : Int64, v = x → X.G h k n pc Ls (.long v :: st)) : X.G h k n pc Ls (.long x :: st) := g x rfl
theorem OwS.foldI {x v : Int32} (e : x = v) (g : X.G h k n pc Ls (.int v :: st)) : X.G h k n pc Ls (.int x :: st) := by subst e; exact g
theorem OwS.foldJ {x v : Int64} (e : x = v) (g : X.G h k n pc Ls (.long v :: st)) : X.G h k n pc Ls (.long x :: st) := by subst e; exact g
theorem OwS.iloadN {j : Fin 4} {v : Int32} (d : decode bytes pc = .ok (.iload_n j, 1)) (hl : Ls[j.val]? = some (.val (.int v))) (hq : pc + 1 = q) (g : X.G h k n q Ls (.int v :: st)) : X.G h k n pc Ls st := by
  subst hq; exact X.step g fun T _ Y t r => XS.iloadN Y.here X.1 rfl (X.hd d) hl r
theorem OwS.iload {j : Nat} {v : Int32} (d : decode bytes pc = .ok (.iload j, 2)) (hl : Ls[j]? = some (.val (.int v))) (hq : pc + 2 = q) (g : X.G h k n q Ls (.int v :: st)) : X.G h k n pc Ls st := by
  subst hq; exact X.step g fun T _ Y t r => XS.iload Y.here X.1 rfl (X.hd d) hl r
theorem OwS.lloadN {j : Fin 4} {v : Int64} (d : decode bytes pc = .ok (.lload_n j, 1)) (hl : Ls[j.val]? = some (.val (.long v))) (hq : pc + 1 = q) (g : X.G h k n q Ls (.long v :: st)) : X.G h k n pc Ls st := by
  subst hq; exact X.step g fun T _ Y t r => XT.lloadN Y.here X.1 rfl (X.hd d) hl r
theorem OwS.lload {j : Nat} {v : Int64} (d : decode bytes pc = .ok (.lload j, 2)) (hl : Ls[j]? = some (.val (.long v))) (hq : pc + 2 = q) (g : X.G h k n q Ls (.long v :: st)) : X.G h k n pc Ls st := by
  subst hq; exact X.step g fun T _ Y t r => XT.lload Y.here X.1 rfl (X.hd d) hl r
theorem OwS.aloadN {j : Fin 4} {v : Value} (d : decode bytes pc = .ok (.aload_n j, 1)) (hl : Ls[j.val]? = some (.val v)) (hv : v.isRef = true) (hq : pc + 1 = q) (g : X.G h k n q Ls (v :: st)) : X.G h k n pc Ls st := by
  subst hq; exact X.step g fun T _ Y t r => XS.aloadN Y.here X.1 rfl (X.hd d) hl hv r
theorem OwS.aload {j : Nat} {v : Value} (d : decode bytes pc = .ok (.aload j, 2)) (hl : Ls[j]? = some (.val v)) (hv : v.isRef = true) (hq : pc + 2 = q) (g : X.G h k n q Ls (v :: st)) : X.G h k n pc Ls st := by
  subst hq; exact X.step g fun T _ Y t r => XS.aload Y.here X.1 rfl (X.hd d) hl hv r
theorem OwS.istoreN {j : Fin 4} {x : Int32} (d : decode bytes pc = .ok (.istore_n j, 1)) (hl : storeLocals Ls j.val (.int x) = some Ls') (hq : pc + 1 = q) (g : X.G h k n q Ls' st) : X.G h k n pc Ls (.int x :: st) := by
  subst hq; exact X.step g fun T _ Y t r => XS.istoreN Y.here X.1 rfl (X.hd d) rfl hl r
theorem OwS.istore {j : Nat} {x : Int32} (d : decode bytes pc = .ok (.istore j, 2)) (hl : storeLocals Ls j (.int x) = some Ls') (hq : pc + 2 = q) (g : X.G h k n q Ls' st) : X.G h k n pc Ls (.int x :: st) := by
  subst hq; exact X.step g fun T _ Y t r => XS.istore Y.here X.1 rfl (X.hd d) rfl hl r
theorem OwS.lstoreN {j : Fin 4} {x : Int64} (d : decode bytes pc = .ok (.lstore_n j, 1)) (hl : storeLocals Ls j.val (.long x) = some Ls') (hq : pc + 1 = q) (g : X.G h k n q Ls' st) : X.G h k n pc Ls (.long x :: st) := by
  subst hq; exact X.step g fun T _ Y t r => XT.lstoreN Y.here X.1 rfl (X.hd d) rfl hl r
theorem OwS.lstore {j : Nat} {x : Int64} (d : decode bytes pc = .ok (.lstore j, 2)) (hl : storeLocals Ls j (.long x) = some Ls') (hq : pc + 2 = q) (g : X.G h k n q Ls' st) : X.G h k n pc Ls (.long x :: st) := by
  subst hq; exact X.step g fun T _ Y t r => XT.lstore Y.here X.1 rfl (X.hd d) rfl hl r
theorem OwS.astoreN {j : Fin 4} {x : Value} (d : decode bytes pc = .ok (.astore_n j, 1)) (hv : x.isRef = true) (hl : storeLocals Ls j.val x = some Ls') (hq : pc + 1 = q) (g : X.G h k n q Ls' st) : X.G h k n pc Ls (x :: st) := by
  subst hq; exact X.step g fun T _ Y t r => XS.astoreN Y.here X.1 rfl (X.hd d) rfl hv hl r
theorem OwS.astore {j : Nat} {x : Value} (d : decode bytes pc = .ok (.astore j, 2)) (hv : x.isRef = true) (hl : storeLocals Ls j x = some Ls') (hq : pc + 2 = q) (g : X.G h k n q Ls' st) : X.G h k n pc Ls (x :: st) := by
  subst hq; exact X.step g fun T _ Y t r => XS.astore Y.here X.1 rfl (X.hd d) rfl hv hl r
theorem OwS.iconst {i : Int} (v : Int32) (d : decode bytes pc = .ok (.iconst i, 1)) (hv : Int32.ofInt i = v) (hq : pc + 1 = q) (g : X.G h k n q Ls (.int v :: st)) : X.G h k n pc Ls st := by
  subst hq hv; exact X.step g fun T _ Y t r => XS.iconst Y.here X.1 rfl (X.hd d) r
theorem OwS.bipush {i : Int} (v : Int32) (d : decode bytes pc = .ok (.bipush i, 2)) (hv : (Int8.ofInt i).toInt32 = v) (hq : pc + 2 = q) (g : X.G h k n q Ls (.int v :: st)) : X.G h k n pc Ls st := by
  subst hq hv; exact X.step g fun T _ Y t r => XS.bipush Y.here X.1 rfl (X.hd d) r
theorem OwS.sipush {i : Int} (v : Int32) (d : decode bytes pc = .ok (.sipush i, 3)) (hv : (Int16.ofInt i).toInt32 = v) (hq : pc + 3 = q) (g : X.G h k n q Ls (.int v :: st)) : X.G h k n pc Ls st := by
  subst hq hv; exact X.step g fun T _ Y t r => XS.sipush Y.here X.1 rfl (X.hd d) r
theorem OwS.lconst {j : Fin 2} (v : Int64) (d : decode bytes pc = .ok (.lconst j, 1)) (hv : Int64.ofNat j = v) (hq : pc + 1 = q) (g : X.G h k n q Ls (.long v :: st)) : X.G h k n pc Ls st := by
  subst hq hv; exact X.step g fun T _ Y t r => XT.lconst Y.here X.1 rfl (X.hd d) r
theorem OwS.aconstNull (d : decode bytes pc = .ok (.aconst_null, 1)) (hq : pc + 1 = q) (g : X.G h k n q Ls (.null :: st)) : X.G h k n pc Ls st := by
  subst hq; exact X.step g fun T _ Y t r => XS.aconstNull Y.here X.1 rfl (X.hd d) r
theorem OwS.ldc {i : Nat} {v : Int32} (w : (Cond.constant own i v).before a0 Z = true) (d : decode bytes pc = .ok (.ldc i, 2)) (hq : pc + 2 = q) (g : X.G h k n q Ls (.int v :: st)) : X.G h k n pc Ls st := by
  subst hq; exact X.step g fun T _ Y t r => Y.ldcI X.1 X.2.2.2.1 (mvT X.2.2.2.2.1 w) rfl (X.hd d) r
theorem OwS.ldc_w {i : Nat} {v : Int32} (w : (Cond.constant own i v).before a0 Z = true) (d : decode bytes pc = .ok (.ldc_w i, 3)) (hq : pc + 3 = q) (g : X.G h k n q Ls (.int v :: st)) : X.G h k n pc Ls st := by
  subst hq; exact X.step g fun T _ Y t r => Y.ldcWI X.1 X.2.2.2.1 (mvT X.2.2.2.2.1 w) rfl (X.hd d) r
theorem OwS.ldc2_w {i : Nat} {v : Int64} (w : (Cond.constantLong own i v).before a0 Z = true) (d : decode bytes pc = .ok (.ldc2_w i, 3)) (hq : pc + 3 = q) (g : X.G h k n q Ls (.long v :: st)) : X.G h k n pc Ls st := by
  subst hq; exact X.step g fun T _ Y t r => Y.ldc2J X.1 X.2.2.2.1 (mvT X.2.2.2.2.1 w) rfl (X.hd d) r
theorem OwS.iadd {x y : Int32} (d : decode bytes pc = .ok (.iadd, 1)) (hq : pc + 1 = q) (g : X.G h k n q Ls (.int (x + y) :: st)) : X.G h k n pc Ls (.int y :: .int x :: st) := by
  subst hq; exact X.step g fun T _ Y t r => XS.iadd Y.here X.1 rfl (X.hd d) rfl r
theorem OwS.isub {x y : Int32} (d : decode bytes pc = .ok (.isub, 1)) (hq : pc + 1 = q) (g : X.G h k n q Ls (.int (x - y) :: st)) : X.G h k n pc Ls (.int y :: .int x :: st) := by
  subst hq; exact X.step g fun T _ Y t r => XS.isub Y.here X.1 rfl (X.hd d) rfl r
theorem OwS.imul {x y : Int32} (d : decode bytes pc = .ok (.imul, 1)) (hq : pc + 1 = q) (g : X.G h k n q Ls (.int (x * y) :: st)) : X.G h k n pc Ls (.int y :: .int x :: st) := by
  subst hq; exact X.step g fun T _ Y t r => XS.imul Y.here X.1 rfl (X.hd d) rfl r
theorem OwS.iand {x y : Int32} (d : decode bytes pc = .ok (.iand, 1)) (hq : pc + 1 = q) (g : X.G h k n q Ls (.int (x &&& y) :: st)) : X.G h k n pc Ls (.int y :: .int x :: st) := by
  subst hq; exact X.step g fun T _ Y t r => XS.iand Y.here X.1 rfl (X.hd d) rfl r
theorem OwS.ixor {x y : Int32} (d : decode bytes pc = .ok (.ixor, 1)) (hq : pc + 1 = q) (g : X.G h k n q Ls (.int (x ^^^ y) :: st)) : X.G h k n pc Ls (.int y :: .int x :: st) := by
  subst hq; exact X.step g fun T _ Y t r => XT.ixor Y.here X.1 rfl (X.hd d) rfl r
theorem OwS.ior {x y : Int32} (d : decode bytes pc = .ok (.ior, 1)) (hq : pc + 1 = q) (g : X.G h k n q Ls (.int (x ||| y) :: st)) : X.G h k n pc Ls (.int y :: .int x :: st) := by
  subst hq; exact X.step g fun T _ Y t r => XT.ior Y.here X.1 rfl (X.hd d) rfl r
theorem OwS.ishl {x y : Int32} (d : decode bytes pc = .ok (.ishl, 1)) (hq : pc + 1 = q) (g : X.G h k n q Ls (.int (x <<< (y &&& 31)) :: st)) : X.G h k n pc Ls (.int y :: .int x :: st) := by
  subst hq; exact X.step g fun T _ Y t r => XT.ishl Y.here X.1 rfl (X.hd d) rfl r
theorem OwS.ishr {x y : Int32} (d : decode bytes pc = .ok (.ishr, 1)) (hq : pc + 1 = q) (g : X.G h k n q Ls (.int (x >>> (y &&& 31)) :: st)) : X.G h k n pc Ls (.int y :: .int x :: st) := by
  subst hq; exact X.step g fun T _ Y t r => XT.ishr Y.here X.1 rfl (X.hd d) rfl r
theorem OwS.iushr {x y : Int32} (d : decode bytes pc = .ok (.iushr, 1)) (hq : pc + 1 = q) (g : X.G h k n q Ls (.int (XT.ushr x y) :: st)) : X.G h k n pc Ls (.int y :: .int x :: st) := by
  subst hq; exact X.step g fun T _ Y t r => XT.iushr Y.here X.1 rfl (X.hd d) rfl r
theorem OwS.ladd {x y : Int64} (d : decode bytes pc = .ok (.ladd, 1)) (hq : pc + 1 = q) (g : X.G h k n q Ls (.long (x + y) :: st)) : X.G h k n pc Ls (.long y :: .long x :: st) := by
  subst hq; exact X.step g fun T _ Y t r => XT.ladd Y.here X.1 rfl (X.hd d) rfl r
theorem OwS.lsub {x y : Int64} (d : decode bytes pc = .ok (.lsub, 1)) (hq : pc + 1 = q) (g : X.G h k n q Ls (.long (x - y) :: st)) : X.G h k n pc Ls (.long y :: .long x :: st) := by
  subst hq; exact X.step g fun T _ Y t r => XT.lsub Y.here X.1 rfl (X.hd d) rfl r
theorem OwS.lmul {x y : Int64} (d : decode bytes pc = .ok (.lmul, 1)) (hq : pc + 1 = q) (g : X.G h k n q Ls (.long (x * y) :: st)) : X.G h k n pc Ls (.long y :: .long x :: st) := by
  subst hq; exact X.step g fun T _ Y t r => XT.lmul Y.here X.1 rfl (X.hd d) rfl r
theorem OwS.land {x y : Int64} (d : decode bytes pc = .ok (.land, 1)) (hq : pc + 1 = q) (g : X.G h k n q Ls (.long (x &&& y) :: st)) : X.G h k n pc Ls (.long y :: .long x :: st) := by
  subst hq; exact X.step g fun T _ Y t r => XT.land Y.here X.1 rfl (X.hd d) rfl r
theorem OwS.lxor {x y : Int64} (d : decode bytes pc = .ok (.lxor, 1)) (hq : pc + 1 = q) (g : X.G h k n q Ls (.long (x ^^^ y) :: st)) : X.G h k n pc Ls (.long y :: .long x :: st) := by
  subst hq; exact X.step g fun T _ Y t r => XT.lxor Y.here X.1 rfl (X.hd d) rfl r
theorem OwS.lor {x y : Int64} (d : decode bytes pc = .ok (.lor, 1)) (hq : pc + 1 = q) (g : X.G h k n q Ls (.long (x ||| y) :: st)) : X.G h k n pc Ls (.long y :: .long x :: st) := by
  subst hq; exact X.step g fun T _ Y t r => XT.lor Y.here X.1 rfl (X.hd d) rfl r
theorem OwS.lshl {x : Int64} {y : Int32} (d : decode bytes pc = .ok (.lshl, 1)) (hq : pc + 1 = q) (g : X.G h k n q Ls (.long (x <<< (y.toInt64 &&& 63)) :: st)) : X.G h k n pc Ls (.int y :: .long x :: st) := by
  subst hq; exact X.step g fun T _ Y t r => XT.lshl Y.here X.1 rfl (X.hd d) rfl r
theorem OwS.lshr {x : Int64} {y : Int32} (d : decode bytes pc = .ok (.lshr, 1)) (hq : pc + 1 = q) (g : X.G h k n q Ls (.long (x >>> (y.toInt64 &&& 63)) :: st)) : X.G h k n pc Ls (.int y :: .long x :: st) := by
  subst hq; exact X.step g fun T _ Y t r => XT.lshr Y.here X.1 rfl (X.hd d) rfl r
theorem OwS.lushr {x : Int64} {y : Int32} (d : decode bytes pc = .ok (.lushr, 1)) (hq : pc + 1 = q) (g : X.G h k n q Ls (.long (XT.ushrL x y) :: st)) : X.G h k n pc Ls (.int y :: .long x :: st) := by
  subst hq; exact X.step g fun T _ Y t r => XT.lushr Y.here X.1 rfl (X.hd d) rfl r
theorem OwS.idiv {x y : Int32} (d : decode bytes pc = .ok (.idiv, 1)) (hy : y ≠ 0) (hq : pc + 1 = q) (g : X.G h k n q Ls (.int (x / y) :: st)) : X.G h k n pc Ls (.int y :: .int x :: st) := by
  subst hq; exact X.step g fun T _ Y t r => XS.idiv Y.here X.1 rfl (X.hd d) rfl hy r
theorem OwS.ldiv {x y : Int64} (d : decode bytes pc = .ok (.ldiv, 1)) (hy : y ≠ 0) (hq : pc + 1 = q) (g : X.G h k n q Ls (.long (x / y) :: st)) : X.G h k n pc Ls (.long y :: .long x :: st) := by
  subst hq; exact X.step g fun T _ Y t r => XT.ldiv Y.here X.1 rfl (X.hd d) rfl hy r
theorem OwS.irem {x y : Int32} (d : decode bytes pc = .ok (.irem, 1)) (hy : y ≠ 0) (hq : pc + 1 = q) (g : X.G h k n q Ls (.int (x % y) :: st)) : X.G h k n pc Ls (.int y :: .int x :: st) := by
  subst hq; exact X.step g fun T _ Y t r => iremM Y X.1 rfl (X.hd d) rfl hy r
theorem OwS.lrem {x y : Int64} (d : decode bytes pc = .ok (.lrem, 1)) (hy : y ≠ 0) (hq : pc + 1 = q) (g : X.G h k n q Ls (.long (x % y) :: st)) : X.G h k n pc Ls (.long y :: .long x :: st) := by
  subst hq; exact X.step g fun T _ Y t r => XT.lrem Y.here X.1 rfl (X.hd d) rfl hy (by rw [ow_lrem]; exact r)
theorem OwS.ineg {x : Int32} (d : decode bytes pc = .ok (.ineg, 1)) (hq : pc + 1 = q) (g : X.G h k n q Ls (.int (-x) :: st)) : X.G h k n pc Ls (.int x :: st) := by
  subst hq; exact X.step g fun T _ Y t r => XS.ineg Y.here X.1 rfl (X.hd d) rfl r
theorem OwS.lneg {x : Int64} (d : decode bytes pc = .ok (.lneg, 1)) (hq : pc + 1 = q) (g : X.G h k n q Ls (.long (-x) :: st)) : X.G h k n pc Ls (.long x :: st) := by
  subst hq; exact X.step g fun T _ Y t r => XT.lneg Y.here X.1 rfl (X.hd d) rfl r
theorem OwS.i2l {x : Int32} (d : decode bytes pc = .ok (.i2l, 1)) (hq : pc + 1 = q) (g : X.G h k n q Ls (.long (x.toInt64) :: st)) : X.G h k n pc Ls (.int x :: st) := by
  subst hq; exact X.step g fun T _ Y t r => XT.i2l Y.here X.1 rfl (X.hd d) rfl r
theorem OwS.l2i {x : Int64} (d : decode bytes pc = .ok (.l2i, 1)) (hq : pc + 1 = q) (g : X.G h k n q Ls (.int (x.toInt32) :: st)) : X.G h k n pc Ls (.long x :: st) := by
  subst hq; exact X.step g fun T _ Y t r => XT.l2i Y.here X.1 rfl (X.hd d) rfl r
theorem OwS.i2b {x : Int32} (d : decode bytes pc = .ok (.i2b, 1)) (hq : pc + 1 = q) (g : X.G h k n q Ls (.int (x.toInt8.toInt32) :: st)) : X.G h k n pc Ls (.int x :: st) := by
  subst hq; exact X.step g fun T _ Y t r => XT.i2b Y.here X.1 rfl (X.hd d) rfl r
theorem OwS.i2c {x : Int32} (d : decode bytes pc = .ok (.i2c, 1)) (hq : pc + 1 = q) (g : X.G h k n q Ls (.int (x.toUInt32.toUInt16.toUInt32.toInt32) :: st)) : X.G h k n pc Ls (.int x :: st) := by
  subst hq; exact X.step g fun T _ Y t r => XT.i2c Y.here X.1 rfl (X.hd d) rfl r
theorem OwS.iinc {j : Nat} {cst : Int} {x : Int32} (v : Int32) (d : decode bytes pc = .ok (.iinc j cst, 3)) (hv : Int32.ofInt cst = v) (hl : Ls[j]? = some (.val (.int x))) (hl' : storeLocals Ls j (.int (x + v)) = some Ls') (hq : pc + 3 = q) (g : X.G h k n q Ls' st) : X.G h k n pc Ls st := by
  subst hq hv; exact X.step g fun T _ Y t r => XS.iinc Y.here X.1 rfl (X.hd d) hl hl' r
theorem OwS.dup {x : Value} (d : decode bytes pc = .ok (.dup, 1)) (hc : x.category = 1) (hq : pc + 1 = q) (g : X.G h k n q Ls (x :: x :: st)) : X.G h k n pc Ls (x :: st) := by
  subst hq; exact X.step g fun T _ Y t r => XS.dup Y.here X.1 rfl (X.hd d) rfl hc r
theorem OwS.pop {x : Value} (d : decode bytes pc = .ok (.pop, 1)) (hc : x.category = 1) (hq : pc + 1 = q) (g : X.G h k n q Ls st) : X.G h k n pc Ls (x :: st) := by
  subst hq; exact X.step g fun T _ Y t r => XT.pop Y.here X.1 rfl (X.hd d) rfl hc r
theorem OwS.dup_x1 {x y : Value} (d : decode bytes pc = .ok (.dup_x1, 1)) (hc : x.category = 1) (hc' : y.category = 1) (hq : pc + 1 = q) (g : X.G h k n q Ls (x :: y :: x :: st)) : X.G h k n pc Ls (x :: y :: st) := by
  subst hq; exact X.step g fun T _ Y t r => XT.dupX1 Y.here X.1 rfl (X.hd d) rfl hc hc' r
theorem OwS.dup2 {x y : Value} (d : decode bytes pc = .ok (.dup2, 1)) (hc : x.category = 1) (hc' : y.category = 1) (hq : pc + 1 = q) (g : X.G h k n q Ls (x :: y :: x :: y :: st)) : X.G h k n pc Ls (x :: y :: st) := by
  subst hq; exact X.step g fun T _ Y t r => XT.dup2 Y.here X.1 rfl (X.hd d) rfl hc hc' r
theorem OwS.dup2L {x : Int64} (d : decode bytes pc = .ok (.dup2, 1)) (hq : pc + 1 = q) (g : X.G h k n q Ls (.long x :: .long x :: st)) : X.G h k n pc Ls (.long x :: st) := by
  subst hq; exact X.step g fun T _ Y t r => XT.dup2L Y.here X.1 rfl (X.hd d) rfl r
theorem OwS.goto {o : Int} {q' : Nat} (d : decode bytes pc = .ok (.goto o, 3)) (hp : 0 ≤ (pc : Int) + o ∧ ((pc : Int) + o).toNat = q') (g : X.G h k n q' Ls st) : X.G h k n pc Ls st :=
  X.step g fun T _ Y t r => XS.goto Y.here X.1 rfl rfl (X.hd d) hp.1 hp.2 r
theorem OwS.icmpB {cd : ClassFile.Cond} {o : Int} {q' : Nat} {x y : Int32} (d : decode bytes pc = .ok (.if_icmp cd o, 3)) (hp : 0 ≤ (pc : Int) + o ∧ ((pc : Int) + o).toNat = q') (hq : pc + 3 = q) (g1 : if_icmp.holds cd x y = true → X.G h k n q' Ls st) (g0 : if_icmp.holds cd x y = false → X.G h k n q Ls st) : X.G h k n pc Ls (.int y :: .int x :: st) := by
  subst hq
  cases hc : if_icmp.holds cd x y with
  | true => exact X.step (g1 hc) fun T _ Y t r => XS.icmpYes Y.here X.1 rfl rfl (X.hd d) rfl hc hp.1 hp.2 r
  | false => exact X.step (g0 hc) fun T _ Y t r => XS.icmpNo Y.here X.1 rfl (X.hd d) rfl hc r
theorem OwS.ifB {cd : ClassFile.Cond} {o : Int} {q' : Nat} {x : Int32} (d : decode bytes pc = .ok (.ifCond cd o, 3)) (hp : 0 ≤ (pc : Int) + o ∧ ((pc : Int) + o).toNat = q') (hq : pc + 3 = q) (g1 : ifCond.holds cd x = true → X.G h k n q' Ls st) (g0 : ifCond.holds cd x = false → X.G h k n q Ls st) : X.G h k n pc Ls (.int x :: st) := by
  subst hq
  cases hc : ifCond.holds cd x with
  | true => exact X.step (g1 hc) fun T _ Y t r => XS.ifYes Y.here X.1 rfl rfl (X.hd d) rfl hc hp.1 hp.2 r
  | false => exact X.step (g0 hc) fun T _ Y t r => XS.ifNo Y.here X.1 rfl (X.hd d) rfl hc r
theorem OwS.icmp_eq {o : Int} {q' : Nat} {x y : Int32} {a b : Int} (d : decode bytes pc = .ok (.if_icmp .eq o, 3)) (hx : x.toInt = a) (hy : y.toInt = b) (hp : 0 ≤ (pc : Int) + o ∧ ((pc : Int) + o).toNat = q') (hq : pc + 3 = q) (g1 : a = b → X.G h k n q' Ls st) (g0 : ¬ a = b → X.G h k n q Ls st) : X.G h k n pc Ls (.int y :: .int x :: st) := by
  subst hx hy; exact X.icmpB d hp hq (fun hc => g1 ((ow_icmp _ _ _).mp hc)) (fun hc => g0 (by have := ow_icmpF hc; simp only [owCd] at this; omega))
theorem OwS.if_eq {o : Int} {q' : Nat} {x : Int32} {a : Int} (d : decode bytes pc = .ok (.ifCond .eq o, 3)) (hx : x.toInt = a) (hp : 0 ≤ (pc : Int) + o ∧ ((pc : Int) + o).toNat = q') (hq : pc + 3 = q) (g1 : a = 0 → X.G h k n q' Ls st) (g0 : ¬ a = 0 → X.G h k n q Ls st) : X.G h k n pc Ls (.int x :: st) := by
  subst hx; exact X.ifB d hp hq (fun hc => g1 ((ow_if _ _).mp hc)) (fun hc => g0 (by have := ow_ifF hc; simp only [owCd] at this; omega))
theorem OwS.lcmp_eq {o : Int} {q1 q' : Nat} {x y : Int64} {a b : Int} (d1 : decode bytes pc = .ok (.lcmp, 1)) (hq1 : pc + 1 = q1) (d : decode bytes q1 = .ok (.ifCond .eq o, 3)) (hx : x.toInt = a) (hy : y.toInt = b) (hp : 0 ≤ (q1 : Int) + o ∧ ((q1 : Int) + o).toNat = q') (hq : q1 + 3 = q) (g1 : a = b → X.G h k n q' Ls st) (g0 : ¬ a = b → X.G h k n q Ls st) : X.G h k n pc Ls (.long y :: .long x :: st) := by
  subst hx hy hq1; refine X.step (X.ifB d hp hq (fun hc => g1 ((ow_lc _ _ _).mp ((ow_if _ _).mp hc))) (fun hc => g0 (by have := mt (ow_lc _ _ _).mpr (ow_ifF hc); simp only [owCd] at this; omega))) fun T _ Y t r => XT.lcmp Y.here X.1 rfl (X.hd d1) rfl r
theorem OwS.icmp_ne {o : Int} {q' : Nat} {x y : Int32} {a b : Int} (d : decode bytes pc = .ok (.if_icmp .ne o, 3)) (hx : x.toInt = a) (hy : y.toInt = b) (hp : 0 ≤ (pc : Int) + o ∧ ((pc : Int) + o).toNat = q') (hq : pc + 3 = q) (g1 : ¬ a = b → X.G h k n q' Ls st) (g0 : a = b → X.G h k n q Ls st) : X.G h k n pc Ls (.int y :: .int x :: st) := by
  subst hx hy; exact X.icmpB d hp hq (fun hc => g1 ((ow_icmp _ _ _).mp hc)) (fun hc => g0 (by have := ow_icmpF hc; simp only [owCd] at this; omega))
theorem OwS.if_ne {o : Int} {q' : Nat} {x : Int32} {a : Int} (d : decode bytes pc = .ok (.ifCond .ne o, 3)) (hx : x.toInt = a) (hp : 0 ≤ (pc : Int) + o ∧ ((pc : Int) + o).toNat = q') (hq : pc + 3 = q) (g1 : ¬ a = 0 → X.G h k n q' Ls st) (g0 : a = 0 → X.G h k n q Ls st) : X.G h k n pc Ls (.int x :: st) := by
  subst hx; exact X.ifB d hp hq (fun hc => g1 ((ow_if _ _).mp hc)) (fun hc => g0 (by have := ow_ifF hc; simp only [owCd] at this; omega))
theorem OwS.lcmp_ne {o : Int} {q1 q' : Nat} {x y : Int64} {a b : Int} (d1 : decode bytes pc = .ok (.lcmp, 1)) (hq1 : pc + 1 = q1) (d : decode bytes q1 = .ok (.ifCond .ne o, 3)) (hx : x.toInt = a) (hy : y.toInt = b) (hp : 0 ≤ (q1 : Int) + o ∧ ((q1 : Int) + o).toNat = q') (hq : q1 + 3 = q) (g1 : ¬ a = b → X.G h k n q' Ls st) (g0 : a = b → X.G h k n q Ls st) : X.G h k n pc Ls (.long y :: .long x :: st) := by
  subst hx hy hq1; refine X.step (X.ifB d hp hq (fun hc => g1 ((ow_lc _ _ _).mp ((ow_if _ _).mp hc))) (fun hc => g0 (by have := mt (ow_lc _ _ _).mpr (ow_ifF hc); simp only [owCd] at this; omega))) fun T _ Y t r => XT.lcmp Y.here X.1 rfl (X.hd d1) rfl r
theorem OwS.icmp_lt {o : Int} {q' : Nat} {x y : Int32} {a b : Int} (d : decode bytes pc = .ok (.if_icmp .lt o, 3)) (hx : x.toInt = a) (hy : y.toInt = b) (hp : 0 ≤ (pc : Int) + o ∧ ((pc : Int) + o).toNat = q') (hq : pc + 3 = q) (g1 : a < b → X.G h k n q' Ls st) (g0 : b ≤ a → X.G h k n q Ls st) : X.G h k n pc Ls (.int y :: .int x :: st) := by
  subst hx hy; exact X.icmpB d hp hq (fun hc => g1 ((ow_icmp _ _ _).mp hc)) (fun hc => g0 (by have := ow_icmpF hc; simp only [owCd] at this; omega))
theorem OwS.if_lt {o : Int} {q' : Nat} {x : Int32} {a : Int} (d : decode bytes pc = .ok (.ifCond .lt o, 3)) (hx : x.toInt = a) (hp : 0 ≤ (pc : Int) + o ∧ ((pc : Int) + o).toNat = q') (hq : pc + 3 = q) (g1 : a < 0 → X.G h k n q' Ls st) (g0 : 0 ≤ a → X.G h k n q Ls st) : X.G h k n pc Ls (.int x :: st) := by
  subst hx; exact X.ifB d hp hq (fun hc => g1 ((ow_if _ _).mp hc)) (fun hc => g0 (by have := ow_ifF hc; simp only [owCd] at this; omega))
theorem OwS.lcmp_lt {o : Int} {q1 q' : Nat} {x y : Int64} {a b : Int} (d1 : decode bytes pc = .ok (.lcmp, 1)) (hq1 : pc + 1 = q1) (d : decode bytes q1 = .ok (.ifCond .lt o, 3)) (hx : x.toInt = a) (hy : y.toInt = b) (hp : 0 ≤ (q1 : Int) + o ∧ ((q1 : Int) + o).toNat = q') (hq : q1 + 3 = q) (g1 : a < b → X.G h k n q' Ls st) (g0 : b ≤ a → X.G h k n q Ls st) : X.G h k n pc Ls (.long y :: .long x :: st) := by
  subst hx hy hq1; refine X.step (X.ifB d hp hq (fun hc => g1 ((ow_lc _ _ _).mp ((ow_if _ _).mp hc))) (fun hc => g0 (by have := mt (ow_lc _ _ _).mpr (ow_ifF hc); simp only [owCd] at this; omega))) fun T _ Y t r => XT.lcmp Y.here X.1 rfl (X.hd d1) rfl r
theorem OwS.icmp_ge {o : Int} {q' : Nat} {x y : Int32} {a b : Int} (d : decode bytes pc = .ok (.if_icmp .ge o, 3)) (hx : x.toInt = a) (hy : y.toInt = b) (hp : 0 ≤ (pc : Int) + o ∧ ((pc : Int) + o).toNat = q') (hq : pc + 3 = q) (g1 : b ≤ a → X.G h k n q' Ls st) (g0 : a < b → X.G h k n q Ls st) : X.G h k n pc Ls (.int y :: .int x :: st) := by
  subst hx hy; exact X.icmpB d hp hq (fun hc => g1 ((ow_icmp _ _ _).mp hc)) (fun hc => g0 (by have := ow_icmpF hc; simp only [owCd] at this; omega))
theorem OwS.if_ge {o : Int} {q' : Nat} {x : Int32} {a : Int} (d : decode bytes pc = .ok (.ifCond .ge o, 3)) (hx : x.toInt = a) (hp : 0 ≤ (pc : Int) + o ∧ ((pc : Int) + o).toNat = q') (hq : pc + 3 = q) (g1 : 0 ≤ a → X.G h k n q' Ls st) (g0 : a < 0 → X.G h k n q Ls st) : X.G h k n pc Ls (.int x :: st) := by
  subst hx; exact X.ifB d hp hq (fun hc => g1 ((ow_if _ _).mp hc)) (fun hc => g0 (by have := ow_ifF hc; simp only [owCd] at this; omega))
theorem OwS.lcmp_ge {o : Int} {q1 q' : Nat} {x y : Int64} {a b : Int} (d1 : decode bytes pc = .ok (.lcmp, 1)) (hq1 : pc + 1 = q1) (d : decode bytes q1 = .ok (.ifCond .ge o, 3)) (hx : x.toInt = a) (hy : y.toInt = b) (hp : 0 ≤ (q1 : Int) + o ∧ ((q1 : Int) + o).toNat = q') (hq : q1 + 3 = q) (g1 : b ≤ a → X.G h k n q' Ls st) (g0 : a < b → X.G h k n q Ls st) : X.G h k n pc Ls (.long y :: .long x :: st) := by
  subst hx hy hq1; refine X.step (X.ifB d hp hq (fun hc => g1 ((ow_lc _ _ _).mp ((ow_if _ _).mp hc))) (fun hc => g0 (by have := mt (ow_lc _ _ _).mpr (ow_ifF hc); simp only [owCd] at this; omega))) fun T _ Y t r => XT.lcmp Y.here X.1 rfl (X.hd d1) rfl r
theorem OwS.icmp_gt {o : Int} {q' : Nat} {x y : Int32} {a b : Int} (d : decode bytes pc = .ok (.if_icmp .gt o, 3)) (hx : x.toInt = a) (hy : y.toInt = b) (hp : 0 ≤ (pc : Int) + o ∧ ((pc : Int) + o).toNat = q') (hq : pc + 3 = q) (g1 : b < a → X.G h k n q' Ls st) (g0 : a ≤ b → X.G h k n q Ls st) : X.G h k n pc Ls (.int y :: .int x :: st) := by
  subst hx hy; exact X.icmpB d hp hq (fun hc => g1 ((ow_icmp _ _ _).mp hc)) (fun hc => g0 (by have := ow_icmpF hc; simp only [owCd] at this; omega))
theorem OwS.if_gt {o : Int} {q' : Nat} {x : Int32} {a : Int} (d : decode bytes pc = .ok (.ifCond .gt o, 3)) (hx : x.toInt = a) (hp : 0 ≤ (pc : Int) + o ∧ ((pc : Int) + o).toNat = q') (hq : pc + 3 = q) (g1 : 0 < a → X.G h k n q' Ls st) (g0 : a ≤ 0 → X.G h k n q Ls st) : X.G h k n pc Ls (.int x :: st) := by
  subst hx; exact X.ifB d hp hq (fun hc => g1 ((ow_if _ _).mp hc)) (fun hc => g0 (by have := ow_ifF hc; simp only [owCd] at this; omega))
theorem OwS.lcmp_gt {o : Int} {q1 q' : Nat} {x y : Int64} {a b : Int} (d1 : decode bytes pc = .ok (.lcmp, 1)) (hq1 : pc + 1 = q1) (d : decode bytes q1 = .ok (.ifCond .gt o, 3)) (hx : x.toInt = a) (hy : y.toInt = b) (hp : 0 ≤ (q1 : Int) + o ∧ ((q1 : Int) + o).toNat = q') (hq : q1 + 3 = q) (g1 : b < a → X.G h k n q' Ls st) (g0 : a ≤ b → X.G h k n q Ls st) : X.G h k n pc Ls (.long y :: .long x :: st) := by
  subst hx hy hq1; refine X.step (X.ifB d hp hq (fun hc => g1 ((ow_lc _ _ _).mp ((ow_if _ _).mp hc))) (fun hc => g0 (by have := mt (ow_lc _ _ _).mpr (ow_ifF hc); simp only [owCd] at this; omega))) fun T _ Y t r => XT.lcmp Y.here X.1 rfl (X.hd d1) rfl r
theorem OwS.icmp_le {o : Int} {q' : Nat} {x y : Int32} {a b : Int} (d : decode bytes pc = .ok (.if_icmp .le o, 3)) (hx : x.toInt = a) (hy : y.toInt = b) (hp : 0 ≤ (pc : Int) + o ∧ ((pc : Int) + o).toNat = q') (hq : pc + 3 = q) (g1 : a ≤ b → X.G h k n q' Ls st) (g0 : b < a → X.G h k n q Ls st) : X.G h k n pc Ls (.int y :: .int x :: st) := by
  subst hx hy; exact X.icmpB d hp hq (fun hc => g1 ((ow_icmp _ _ _).mp hc)) (fun hc => g0 (by have := ow_icmpF hc; simp only [owCd] at this; omega))
theorem OwS.if_le {o : Int} {q' : Nat} {x : Int32} {a : Int} (d : decode bytes pc = .ok (.ifCond .le o, 3)) (hx : x.toInt = a) (hp : 0 ≤ (pc : Int) + o ∧ ((pc : Int) + o).toNat = q') (hq : pc + 3 = q) (g1 : a ≤ 0 → X.G h k n q' Ls st) (g0 : 0 < a → X.G h k n q Ls st) : X.G h k n pc Ls (.int x :: st) := by
  subst hx; exact X.ifB d hp hq (fun hc => g1 ((ow_if _ _).mp hc)) (fun hc => g0 (by have := ow_ifF hc; simp only [owCd] at this; omega))
theorem OwS.lcmp_le {o : Int} {q1 q' : Nat} {x y : Int64} {a b : Int} (d1 : decode bytes pc = .ok (.lcmp, 1)) (hq1 : pc + 1 = q1) (d : decode bytes q1 = .ok (.ifCond .le o, 3)) (hx : x.toInt = a) (hy : y.toInt = b) (hp : 0 ≤ (q1 : Int) + o ∧ ((q1 : Int) + o).toNat = q') (hq : q1 + 3 = q) (g1 : a ≤ b → X.G h k n q' Ls st) (g0 : b < a → X.G h k n q Ls st) : X.G h k n pc Ls (.long y :: .long x :: st) := by
  subst hx hy hq1; refine X.step (X.ifB d hp hq (fun hc => g1 ((ow_lc _ _ _).mp ((ow_if _ _).mp hc))) (fun hc => g0 (by have := mt (ow_lc _ _ _).mpr (ow_ifF hc); simp only [owCd] at this; omega))) fun T _ Y t r => XT.lcmp Y.here X.1 rfl (X.hd d1) rfl r
theorem OwS.ifnullT {o : Int} {q' : Nat} (d : decode bytes pc = .ok (.ifnull o, 3)) (hp : 0 ≤ (pc : Int) + o ∧ ((pc : Int) + o).toNat = q') (g : X.G h k n q' Ls st) : X.G h k n pc Ls (.null :: st) :=
  X.step g fun T _ Y t r => XS.ifnullYes Y.here X.1 rfl rfl (X.hd d) rfl hp.1 hp.2 r
theorem OwS.ifnullF {o : Int} {b : Addr} (d : decode bytes pc = .ok (.ifnull o, 3)) (hq : pc + 3 = q) (g : X.G h k n q Ls st) : X.G h k n pc Ls (.ref b :: st) := by
  subst hq; exact X.step g fun T _ Y t r => XS.ifnullNo Y.here X.1 rfl (X.hd d) rfl r
theorem OwS.ifnonnullT {o : Int} {q' : Nat} {b : Addr} (d : decode bytes pc = .ok (.ifnonnull o, 3)) (hp : 0 ≤ (pc : Int) + o ∧ ((pc : Int) + o).toNat = q') (g : X.G h k n q' Ls st) : X.G h k n pc Ls (.ref b :: st) :=
  X.step g fun T _ Y t r => XT.ifnonnullYes Y.here X.1 rfl rfl (X.hd d) rfl hp.1 hp.2 r
theorem OwS.ifnonnullF {o : Int} (d : decode bytes pc = .ok (.ifnonnull o, 3)) (hq : pc + 3 = q) (g : X.G h k n q Ls st) : X.G h k n pc Ls (.null :: st) := by
  subst hq; exact X.step g fun T _ Y t r => XT.ifnonnullNo Y.here X.1 rfl (X.hd d) rfl r
theorem OwS.acmp_ne {o : Int} {q' : Nat} {x y : Addr} (d : decode bytes pc = .ok (.if_acmp .ne o, 3)) (hp : 0 ≤ (pc : Int) + o ∧ ((pc : Int) + o).toNat = q') (hq : pc + 3 = q) (g1 : ¬ x = y → X.G h k n q' Ls st) (g0 : x = y → X.G h k n q Ls st) : X.G h k n pc Ls (.ref y :: .ref x :: st) := by
  subst hq
  by_cases hc : x = y
  · exact X.step (g0 hc) fun T _ Y t r => XT.acmpNo Y.here X.1 rfl (X.hd d) rfl rfl rfl (by simp [XT.acmp, hc]) r
  · exact X.step (g1 hc) fun T _ Y t r => XT.acmpYes Y.here X.1 rfl rfl (X.hd d) rfl rfl rfl (by simp [XT.acmp, hc]) hp.1 hp.2 r
theorem OwS.acmp_eq {o : Int} {q' : Nat} {x y : Addr} (d : decode bytes pc = .ok (.if_acmp .eq o, 3)) (hp : 0 ≤ (pc : Int) + o ∧ ((pc : Int) + o).toNat = q') (hq : pc + 3 = q) (g1 : x = y → X.G h k n q' Ls st) (g0 : ¬ x = y → X.G h k n q Ls st) : X.G h k n pc Ls (.ref y :: .ref x :: st) := by
  subst hq
  by_cases hc : x = y
  · exact X.step (g1 hc) fun T _ Y t r => XT.acmpYes Y.here X.1 rfl rfl (X.hd d) rfl rfl rfl (by simp [XT.acmp, hc]) hp.1 hp.2 r
  · exact X.step (g0 hc) fun T _ Y t r => XT.acmpNo Y.here X.1 rfl (X.hd d) rfl rfl rfl (by simp [XT.acmp, hc]) r
theorem OwS.getF {R0 O fn d0 host : String} {i : Nat} {a : Addr} {v : Value} (w : (Cond.fieldLink own i R0 fn d0).before a0 Z = true ∨ (Cond.fieldLinkNest own i R0 fn d0 host).before a0 Z = true) (via : Via Z R0 O fn d0) (F : Fld Z h a O fn d0 v) (d : decode bytes pc = .ok (.getfield i, 3)) (hq : pc + 3 = q) (g : X.G h k n q Ls (v :: st)) : X.G h k n pc Ls (.ref a :: st) := fun T locs Y eT N => by
  subst hq
  obtain ⟨T', Y', eT', w'⟩ := RoadKit.getF Y X.1 X.2.2.2.2.1 X.2.2.2.1 w via eT F (g := mkF m pc Ls (.ref a :: st)) rfl rfl (X.hd d)
  obtain ⟨v, s₂, L, r1, r⟩ := g T' locs Y' eT' N
  exact ⟨v, s₂, L, w' _ r1, r⟩
theorem OwS.getR {R0 fn d0 : String} {i : Nat} {a : Addr} {v : Value} (w : (Cond.fieldRef own i R0 fn d0).before a0 Z = true) (F : Fld Z h a R0 fn d0 v) (d : decode bytes pc = .ok (.getfield i, 3)) (hq : pc + 3 = q) (g : X.G h k n q Ls (v :: st)) : X.G h k n pc Ls (.ref a :: st) := fun T locs Y eT N => by
  subst hq
  have hT : Z.Warmed39 T.vm := wtrans X.2.2.2.2.1 Y.warmed
  have w' := Cond.fieldRef_warmed39 hT w
  have hcur : (Z.setVm T.vm).vm.findClass own = some m.cls := by rw [State.vm_setVm, Y.warmed.alike.findClass]; exact X.2.2.2.1
  obtain ⟨c1, k1, i1, f1, e1, e2⟩ := Cond.fieldRef_spec hcur w'
  obtain ⟨cell, cf, k, j, f, h1, h2, h3, h4, h5, h6, h7⟩ := F
  obtain ⟨k', q1, -⟩ := State.fieldFound?_setVm (s := Z) hT.alike h2
  cases q1.symm.trans e1
  obtain ⟨v', s₂, L, r1, r⟩ := g T locs Y eT N
  exact ⟨v', s₂, L, (Y.getfieldR X.1 (g := mkF m pc Ls (.ref a :: st)) rfl e2 h3 rfl (by rw [eT]; exact h1) h4 h7 (X.hd d) (Steps.refl _)).trans r1, r⟩
theorem OwS.getS {R0 O fn d0 : String} {i : Nat} {v : Value} (w : (Cond.fieldLink own i R0 fn d0).before a0 Z = true) (via : Via Z R0 O fn d0) (F : Sta Z h O fn d0 v) (d : decode bytes pc = .ok (.getstatic i, 3)) (hq : pc + 3 = q) (g : X.G h k n q Ls (v :: st)) : X.G h k n pc Ls st := fun T locs Y eT N => by
  subst hq
  obtain ⟨T', Y', eT', w'⟩ := RoadKit.getS (host := "") Y X.1 X.2.2.2.2.1 X.2.2.2.1 w via eT F (g := mkF m pc Ls st) rfl (X.hd d)
  obtain ⟨v, s₂, L, r1, r⟩ := g T' locs Y' eT' N
  exact ⟨v, s₂, L, w' _ r1, r⟩
theorem OwS.putF {R0 O fn d0 host C : String} {i kk : Nat} {a : Addr} {v old : Value} {ty : FieldType} (w : (Cond.fieldLink own i R0 fn d0).before a0 Z = true ∨ (Cond.fieldLinkNest own i R0 fn d0 host).before a0 Z = true) (via : Via Z R0 O fn d0) (F : Fld Z h a O fn d0 old) (E : Exa Z h a C)
    (L : (Cond.lays C O fn d0).before a0 Z = true ∨ ((Cond.laysFinal C O fn d0).before a0 Z = true ∧ own = O ∧ nm = "<init>")) (wi : (Cond.instantiable C kk).before a0 Z = true) (hty : parseFieldDescriptor d0 = some ty) (hnv : narrow ty v = v) (hf : fits ty v = true) (ge : n0 ≤ a)
    (d : decode bytes pc = .ok (.putfield i, 3)) (hq : pc + 3 = q) (g : ∀ h', Wr h h' a (RoadKit.slotOf Z O fn d0) v → X.G h' k n q Ls st) : X.G h k n pc Ls (v :: .ref a :: st) := fun T locs Y eT N => by
  subst hq
  obtain ⟨T', h', Y', eT', W, w'⟩ := RoadKit.putF Y X.1 X.2.2.2.2.1 X.2.2.2.1 w via eT F E (L.imp_right fun z => ⟨z.1, z.2.1, X.2.2.2.2.2.2.2.trans z.2.2⟩) wi hty hnv hf (g := mkF m pc Ls (v :: .ref a :: st)) rfl rfl (X.hd d)
  obtain ⟨v, s₂, L, r1, r⟩ := g h' W T' _ Y' eT' (Fr.snoc Y' N ge)
  exact ⟨v, s₂, L, w' _ r1, r⟩
theorem OwS.newO {C : String} {i N k' n' : Nat} (w : (Cond.classLink own i C).before a0 Z = true) (wi : (Cond.instantiable C N).before a0 Z = true) (wz : (Cond.initialized C).before a0 Z = true) (d : decode bytes pc = .ok (.new i, 3)) (hk : k + 1 = k') (hn : n + N = n') (hc : k' ≤ R.cells) (hs : n' ≤ R.slots) (hq : pc + 3 = q)
    (g : ∀ h' a, a = h.size → Ext h h' → Exa Z h' a C → (∀ {O fn d0 : String} {ty : FieldType}, Laid Z a0 C O fn d0 → parseFieldDescriptor d0 = some ty → Fld Z h' a O fn d0 (defaultValue ty)) → X.G h' k' n' q Ls (.ref a :: st)) : X.G h k n pc Ls st := fun T locs Y eT Nf => by
  subst hq hk hn
  obtain ⟨T', h', Y', eT', E, A, D, -, w'⟩ := RoadKit.newO Y X.1 X.2.2.2.2.1 X.2.2.2.1 w wi wz eT (g := mkF m pc Ls st) rfl (X.hd d) hc hs
  obtain ⟨v, s₂, L, r1, r⟩ := g h' h.size rfl E A D T' _ Y' eT' Nf
  exact ⟨v, s₂, L, w' _ r1, r⟩
theorem OwS.initO {i W : Nat} {a : Addr} (w1 : (Cond.methodLink own i Lib.objectInit).before a0 Z = true) (w2 : (Cond.instanceMethod Lib.objectInit).before a0 Z = true) (w3 : (Cond.code Lib.objectInit ⟨#[0xb1]⟩ 1 none).before a0 Z = true) (d : decode bytes pc = .ok (.invokespecial i, 3)) (hsz : Ls.size = mL) (hf : 1 ≤ R.frames) (hW : (st.map fun v => v.category).sum ≤ W) (hl : W + 12 ≤ R.locals) (hq : pc + 3 = q)
    (g : X.G h k n q Ls st) : X.G h k n pc Ls (.ref a :: st) := fun T locs Y eT N => by
  subst hq
  obtain ⟨T', Y', eT', w'⟩ := RoadKit.initO Y X.1 X.2.2.2.2.1 X.2.2.2.1 w1 w2 w3 eT (g := mkF m pc Ls (.ref a :: st)) rfl (hsz.trans X.2.2.1.symm) rfl (X.hd d) hf (W := W) (by show 2 * 0 + _ ≤ _; omega) hl
  obtain ⟨v, s₂, L, r1, r⟩ := g T' locs Y' eT' N
  exact ⟨v, s₂, L, w' _ r1, r⟩
variable {a : Addr} {ty : FieldType} {vs : List Value}
theorem OwS.newP {aty : ArrayType} {z : Int32} {N k' n' : Nat} (w : (Cond.arrayClass (newarray.typeOf aty)).before a0 Z = true) (d : decode bytes pc = .ok (.newarray aty, 2)) (ht : newarray.typeOf aty = ty) (hz : z.toInt = (N : Int)) {cap : Nat} (hcap : N ≤ cap) (hb : cap * 8 ≤ 536870912) (hk : k + 1 = k') (hn : n + cap = n') (hc : k' ≤ R.cells) (hs : n' ≤ R.slots) (hq : pc + 2 = q)
    (g : ∀ h' a, a = h.size → Ext h h' → OwA Z h' a ty (List.replicate N (defaultValue ty)) → X.G h' k' n' q Ls (.ref a :: st)) : X.G h k n pc Ls (.int z :: st) := fun T locs Y eT Nf => by
  subst hq hk hn ht
  obtain ⟨z1, z2⟩ := ow_idx hz
  obtain ⟨T', h', cA, Y', eT', E, A, w'⟩ := RoadKit.newP Y X.1 X.2.2.2.2.1 w eT (g := mkF m pc Ls (.int z :: st)) rfl (X.hd d) rfl z1 (cap := cap) (by omega) hb hc hs
  obtain ⟨v, s₂, L, r1, r⟩ := g h' h.size rfl E ⟨_, A, by simp [newA, z2], by have := z.toInt_lt; simp; omega⟩ T' _ Y' eT' Nf
  exact ⟨v, s₂, L, w' _ r1, r⟩
theorem OwS.alen {z : Int32} (A : OwA Z h a ty vs) (hz : z.toInt = (vs.length : Int)) (d : decode bytes pc = .ok (.arraylength, 1)) (hq : pc + 1 = q) (g : X.G h k n q Ls (.int z :: st)) : X.G h k n pc Ls (.ref a :: st) := fun T locs Y eT N => by
  subst hq
  obtain ⟨cl, A, e, hl⟩ := A
  obtain ⟨v, s₂, L, r1, r⟩ := g T locs Y eT N
  have hsz : cl.slots.size = vs.length := by rw [← e]; simp
  have ez : cl.slots.size.toInt32 = z := by rw [hsz, ← Int32.toInt_inj, len_toInt hl, hz]
  exact ⟨v, s₂, L, Y.arraylength X.1 (by rw [eT]; exact A.1) (State.isArrayOf_alike X.2.2.2.2.1.alike A.2.1) (g := mkF m pc Ls (.ref a :: st)) rfl rfl (X.hd d) _ (by rw [ez]; exact r1), r⟩
theorem OwS.iaload {i : Int32} {j : Nat} {v : Value} (A : OwA Z h a .int vs) (hi : i.toInt = (j : Int)) (hv : vs[j]? = some v) (d : decode bytes pc = .ok (.iaload, 1)) (hq : pc + 1 = q) (g : X.G h k n q Ls (v :: st)) : X.G h k n pc Ls (.int i :: .ref a :: st) := fun T locs Y eT N => by
  subst hq
  obtain ⟨cl, A, e, -⟩ := A
  obtain ⟨v, s₂, L, r1, r⟩ := g T locs Y eT N
  exact ⟨v, s₂, L, Y.iaload X.1 (by rw [eT]; exact A.1) (State.isArrayOf_alike X.2.2.2.2.1.alike A.2.1) A.2.2 (OwA.inb e hi (ow_getlt hv)) (OwA.at e hi hv) (g := mkF m pc Ls (.int i :: .ref a :: st)) rfl rfl (X.hd d) _ r1, r⟩
theorem OwS.laload {i : Int32} {j : Nat} {v : Value} (A : OwA Z h a .long vs) (hi : i.toInt = (j : Int)) (hv : vs[j]? = some v) (d : decode bytes pc = .ok (.laload, 1)) (hq : pc + 1 = q) (g : X.G h k n q Ls (v :: st)) : X.G h k n pc Ls (.int i :: .ref a :: st) := fun T locs Y eT N => by
  subst hq
  obtain ⟨cl, A, e, -⟩ := A
  obtain ⟨v, s₂, L, r1, r⟩ := g T locs Y eT N
  exact ⟨v, s₂, L, Y.laload X.1 (by rw [eT]; exact A.1) (State.isArrayOf_alike X.2.2.2.2.1.alike A.2.1) A.2.2 (OwA.inb e hi (ow_getlt hv)) (OwA.at e hi hv) (g := mkF m pc Ls (.int i :: .ref a :: st)) rfl rfl (X.hd d) _ r1, r⟩
theorem OwS.baload {i : Int32} {j : Nat} {v : Value} (A : OwA Z h a .byte vs) (hi : i.toInt = (j : Int)) (hv : vs[j]? = some v) (d : decode bytes pc = .ok (.baload, 1)) (hq : pc + 1 = q) (g : X.G h k n q Ls (v :: st)) : X.G h k n pc Ls (.int i :: .ref a :: st) := fun T locs Y eT N => by
  subst hq
  obtain ⟨cl, A, e, -⟩ := A
  obtain ⟨v, s₂, L, r1, r⟩ := g T locs Y eT N
  exact ⟨v, s₂, L, Y.baloadBytes X.1 (by rw [eT]; exact A.1) (State.isArrayOf_alike X.2.2.2.2.1.alike A.2.1) A.2.2 (OwA.inb e hi (ow_getlt hv)) (OwA.at e hi hv) (g := mkF m pc Ls (.int i :: .ref a :: st)) rfl rfl (X.hd d) _ r1, r⟩
theorem OwS.caload {i : Int32} {j : Nat} {v : Value} (A : OwA Z h a .char vs) (hi : i.toInt = (j : Int)) (hv : vs[j]? = some v) (d : decode bytes pc = .ok (.caload, 1)) (hq : pc + 1 = q) (g : X.G h k n q Ls (v :: st)) : X.G h k n pc Ls (.int i :: .ref a :: st) := fun T locs Y eT N => by
  subst hq
  obtain ⟨cl, A, e, -⟩ := A
  obtain ⟨v, s₂, L, r1, r⟩ := g T locs Y eT N
  exact ⟨v, s₂, L, Y.caload X.1 (by rw [eT]; exact A.1) (State.isArrayOf_alike X.2.2.2.2.1.alike A.2.1) A.2.2 (OwA.inb e hi (ow_getlt hv)) (OwA.at e hi hv) (g := mkF m pc Ls (.int i :: .ref a :: st)) rfl rfl (X.hd d) _ r1, r⟩
theorem OwS.iastore {i : Int32} {j : Nat} {x : Int32} (A : OwA Z h a .int vs) (hi : i.toInt = (j : Int)) (hj : j < vs.length) (ge : n0 ≤ a) (d : decode bytes pc = .ok (.iastore, 1)) (hq : pc + 1 = q) (g : ∀ h', Wr h h' a j (.int x) → OwA Z h' a .int (vs.set j (.int x)) → X.G h' k n q Ls st) : X.G h k n pc Ls (.int x :: .int i :: .ref a :: st) := fun T locs Y eT N => by
  subst hq
  obtain ⟨cl, A1, e, hl⟩ := id A
  obtain ⟨T', h', Y', eT', W, w'⟩ := RoadKit.stI Y X.1 X.2.2.2.2.1 eT A1 (OwA.inb e hi hj) (g := mkF m pc Ls (.int x :: .int i :: .ref a :: st)) rfl rfl (X.hd d)
  have N' := Fr.snoc Y' N ge
  rw [(ow_idx hi).2] at W
  obtain ⟨v, s₂, L, r1, r⟩ := g h' W (A.set W) T' _ Y' eT' N'
  exact ⟨v, s₂, L, w' _ r1, r⟩
theorem OwS.lastore {i : Int32} {j : Nat} {x : Int64} (A : OwA Z h a .long vs) (hi : i.toInt = (j : Int)) (hj : j < vs.length) (ge : n0 ≤ a) (d : decode bytes pc = .ok (.lastore, 1)) (hq : pc + 1 = q) (g : ∀ h', Wr h h' a j (.long x) → OwA Z h' a .long (vs.set j (.long x)) → X.G h' k n q Ls st) : X.G h k n pc Ls (.long x :: .int i :: .ref a :: st) := fun T locs Y eT N => by
  subst hq
  obtain ⟨cl, A1, e, hl⟩ := id A
  obtain ⟨T', h', Y', eT', W, w'⟩ := RoadKit.stJ Y X.1 X.2.2.2.2.1 eT A1 (OwA.inb e hi hj) (g := mkF m pc Ls (.long x :: .int i :: .ref a :: st)) rfl rfl (X.hd d)
  have N' := Fr.snoc Y' N ge
  rw [(ow_idx hi).2] at W
  obtain ⟨v, s₂, L, r1, r⟩ := g h' W (A.set W) T' _ Y' eT' N'
  exact ⟨v, s₂, L, w' _ r1, r⟩
theorem OwS.bastore {i : Int32} {j : Nat} {x : Int32} (A : OwA Z h a .byte vs) (hi : i.toInt = (j : Int)) (hj : j < vs.length) (ge : n0 ≤ a) (d : decode bytes pc = .ok (.bastore, 1)) (hq : pc + 1 = q) (g : ∀ h', Wr h h' a j (.int (nar .byte x)) → OwA Z h' a .byte (vs.set j (.int (nar .byte x))) → X.G h' k n q Ls st) : X.G h k n pc Ls (.int x :: .int i :: .ref a :: st) := fun T locs Y eT N => by
  subst hq
  obtain ⟨cl, A1, e, hl⟩ := id A
  obtain ⟨T', h', Y', eT', W, w'⟩ := RoadKit.stB Y X.1 X.2.2.2.2.1 eT A1 (OwA.inb e hi hj) (g := mkF m pc Ls (.int x :: .int i :: .ref a :: st)) rfl rfl (X.hd d)
  have N' := Fr.snoc Y' N ge
  rw [(ow_idx hi).2] at W
  obtain ⟨v, s₂, L, r1, r⟩ := g h' W (A.set W) T' _ Y' eT' N'
  exact ⟨v, s₂, L, w' _ r1, r⟩
theorem OwS.castore {i : Int32} {j : Nat} {x : Int32} (A : OwA Z h a .char vs) (hi : i.toInt = (j : Int)) (hj : j < vs.length) (ge : n0 ≤ a) (d : decode bytes pc = .ok (.castore, 1)) (hq : pc + 1 = q) (g : ∀ h', Wr h h' a j (.int (nar .char x)) → OwA Z h' a .char (vs.set j (.int (nar .char x))) → X.G h' k n q Ls st) : X.G h k n pc Ls (.int x :: .int i :: .ref a :: st) := fun T locs Y eT N => by
  subst hq
  obtain ⟨cl, A1, e, hl⟩ := id A
  obtain ⟨T', h', Y', eT', W, w'⟩ := RoadKit.stC Y X.1 X.2.2.2.2.1 eT A1 (OwA.inb e hi hj) (g := mkF m pc Ls (.int x :: .int i :: .ref a :: st)) rfl rfl (X.hd d)
  have N' := Fr.snoc Y' N ge
  rw [(ow_idx hi).2] at W
  obtain ⟨v, s₂, L, r1, r⟩ := g h' W (A.set W) T' _ Y' eT' N'
  exact ⟨v, s₂, L, w' _ r1, r⟩
theorem OwS.cast {K C : String} {i : Nat} {a : Addr} (w : (Cond.classLink own i K).before a0 Z = true) (wc : (Cond.castable C K).before a0 Z = true) (E : Exa Z h a C) (d : decode bytes pc = .ok (.checkcast i, 3)) (hq : pc + 3 = q) (g : X.G h k n q Ls (.ref a :: st)) : X.G h k n pc Ls (.ref a :: st) := fun T locs Y eT N => by
  subst hq
  obtain ⟨T', Y', eT', w'⟩ := RoadKit.castY Y X.1 X.2.2.2.2.1 X.2.2.2.1 w eT (Ins.of_exa E wc) (g := mkF m pc Ls (.ref a :: st)) rfl rfl (X.hd d)
  obtain ⟨v, s₂, L, r1, r⟩ := g T' locs Y' eT' N
  exact ⟨v, s₂, L, w' _ r1, r⟩
theorem OwS.instY {K C : String} {i : Nat} {a : Addr} (w : (Cond.classLink own i K).before a0 Z = true) (wc : (Cond.castable C K).before a0 Z = true) (E : Exa Z h a C) (d : decode bytes pc = .ok (.instanceof i, 3)) (hq : pc + 3 = q) (g : X.G h k n q Ls (.int 1 :: st)) : X.G h k n pc Ls (.ref a :: st) := fun T locs Y eT N => by
  subst hq
  obtain ⟨T', Y', eT', w'⟩ := RoadKit.instY Y X.1 X.2.2.2.2.1 X.2.2.2.1 w eT (Ins.of_exa E wc) (g := mkF m pc Ls (.ref a :: st)) rfl rfl (X.hd d)
  obtain ⟨v, s₂, L, r1, r⟩ := g T' locs Y' eT' N
  exact ⟨v, s₂, L, w' _ r1, r⟩
theorem OwS.instNo {K C : String} {i : Nat} {a : Addr} (w : (Cond.classLink own i K).before a0 Z = true) (F : ∃ c t, Z.vm.findClass C = some c ∧ Z.vm.findClass K = some t ∧ Z.vm.assignable c t = false) (E : Exa Z h a C) (d : decode bytes pc = .ok (.instanceof i, 3)) (hq : pc + 3 = q) (g : X.G h k n q Ls (.int 0 :: st)) : X.G h k n pc Ls (.ref a :: st) := fun T locs Y eT N => by
  subst hq
  obtain ⟨T', Y', eT', w'⟩ := RoadKit.instNo Y X.1 X.2.2.2.2.1 X.2.2.2.1 w eT E F (g := mkF m pc Ls (.ref a :: st)) rfl rfl (X.hd d)
  obtain ⟨v, s₂, L, r1, r⟩ := g T' locs Y' eT' N
  exact ⟨v, s₂, L, w' _ r1, r⟩
theorem OwS.instNull {i : Nat} (d : decode bytes pc = .ok (.instanceof i, 3)) (hq : pc + 3 = q) (g : X.G h k n q Ls (.int 0 :: st)) : X.G h k n pc Ls (.null :: st) := by
  subst hq; exact X.step g fun T _ Y t r => Y.instanceofNull X.1 (g := mkF m pc Ls (.null :: st)) rfl rfl (X.hd d) t r
variable {y : MethodName} {by' : ByteArray} {mL' : Nat} {ret' : Option FieldType} {rm : Room} {as : Array Value} {Ψ : Option Value → Heap → Prop}
theorem OwS.back (X : OwS p l e R s m args below meth c Z own nm bytes mL ret n0 kM nM Φ s0 EL) {len W : Nat} (K : OwM l Z y by' mL' ret' rm rm.cells rm.slots [] as h n0 Ψ) (wc : (Cond.code y by' mL' ret').before a0 Z = true) (wz : (Cond.initialized y.cls).before a0 Z = true) (hf : rm.frames + 1 ≤ R.frames) (hl : W + (mL' + 11) + rm.locals ≤ R.locals) :
    Back l R p e below s args y len W (fun A a => a = as ∧ A.U.heap = h ∧ A.cells + rm.cells ≤ R.cells ∧ A.slots + rm.slots ≤ R.slots)
      (fun A _ v B => ∃ L, (Ψ v B.U.heap ∧ Fr n0 L) ∧ B.locs = A.locs ++ L ∧ B.cells = A.cells + rm.cells ∧ B.slots = A.slots + rm.slots) :=
  backOf (Q := fun v h L => Ψ v h ∧ Fr n0 L) K X.2.2.2.2.1 wc wz hf hl
theorem OwS.callS {i W k' n' : Nat} {argsL : List Value} {ps : List FieldType} {rt : Option FieldType} (K : OwM l Z y by' mL' ret' rm rm.cells rm.slots [] as h n0 Ψ) (w1 : (Cond.methodLink own i y).before a0 Z = true) (w2 : (Cond.static y).before a0 Z = true) (w3 : (Cond.initialized y.cls).before a0 Z = true) (w4 : (Cond.code y by' mL' ret').before a0 Z = true) (hy : y.cls ≠ "java/lang/invoke/MethodHandle" ∧ y.cls ≠ "java/lang/invoke/VarHandle")
    (pd : parseMethodDescriptor y.desc = some ⟨ps, rt⟩) (hlen : argsL.length = ps.length) (has : argsL.toArray = as) (hst : st = argsL.reverse ++ rest) (hW : (rest.map fun v => v.category).sum ≤ W) (hsz : Ls.size = mL) (hf : rm.frames + 1 ≤ R.frames) (hl : W + (mL' + 11) + rm.locals ≤ R.locals) (hk : k + rm.cells = k') (hn : n + rm.slots = n') (hc : k' ≤ R.cells) (hs : n' ≤ R.slots)
    (d : decode bytes pc = .ok (.invokestatic i, 3)) (hq : pc + 3 = q) (g : ∀ v h', Ψ v h' → X.G h' k' n' q Ls (v.toList ++ rest)) : X.G h k n pc Ls st := fun T locs Y eT N => by
  subst hq hk hn has
  obtain ⟨v, vm1, B, -, Y', ⟨L0, ⟨hΨ, N0⟩, l1, l2, l3⟩, w'⟩ := Jvm.LawKit.callS Y X.1 (y := y) X.2.2.2.1 (mvT X.2.2.2.2.1 w1) (mvT X.2.2.2.2.1 w2) (mvT X.2.2.2.2.1 w3) (mvT X.2.2.2.2.1 w4) hy (X.back K w4 w3 hf hl) (g := mkF m pc Ls st) rfl (hsz.trans X.2.2.1.symm) (argsL := argsL) (rest := rest) (lenOf pd hlen) hst (by show 2 * 0 + _ ≤ _; omega) (X.hd d) (fun _ _ => ⟨rfl, eT, hc, hs⟩)
  obtain ⟨T', L', k', n'⟩ := B
  dsimp only [Pt.U, Pt.locs, Pt.cells, Pt.slots] at Y' l1 l2 l3 w' hΨ
  subst l1 l2 l3
  obtain ⟨v, s₂, L, r1, r⟩ := g v _ hΨ T' _ Y' rfl (N.app N0)
  exact ⟨v, s₂, L, w' _ r1, r⟩
theorem OwS.special {i W k' n' : Nat} {a : Addr} {argsL : List Value} {ps : List FieldType} {rt : Option FieldType} (K : OwM l Z y by' mL' none rm rm.cells rm.slots [] as h n0 Ψ) (hin : y.name = "<init>") (w1 : (Cond.methodLink own i y).before a0 Z = true) (w2 : (Cond.instanceMethod y).before a0 Z = true) (w3 : (Cond.initialized y.cls).before a0 Z = true) (w4 : (Cond.code y by' mL' none).before a0 Z = true) (hy : y.cls ≠ "java/lang/invoke/MethodHandle" ∧ y.cls ≠ "java/lang/invoke/VarHandle")
    (pd : parseMethodDescriptor y.desc = some ⟨ps, rt⟩) (hlen : argsL.length = ps.length) (has : (.ref a :: argsL).toArray = as) (hst : st = argsL.reverse ++ .ref a :: rest) (hW : (rest.map fun v => v.category).sum ≤ W) (hsz : Ls.size = mL) (hf : rm.frames + 1 ≤ R.frames) (hl : W + (mL' + 11) + rm.locals ≤ R.locals) (hk : k + rm.cells = k') (hn : n + rm.slots = n') (hc : k' ≤ R.cells) (hs : n' ≤ R.slots)
    (d : decode bytes pc = .ok (.invokespecial i, 3)) (hq : pc + 3 = q) (g : ∀ v h', Ψ v h' → X.G h' k' n' q Ls (v.toList ++ rest)) : X.G h k n pc Ls st := fun T locs Y eT N => by
  subst hq hk hn has
  obtain ⟨v, vm1, B, -, Y', ⟨L0, ⟨hΨ, N0⟩, l1, l2, l3⟩, w'⟩ := Y.specialBack X.1 (y := y) hin X.2.2.2.1 (mvT X.2.2.2.2.1 w1) (mvT X.2.2.2.2.1 w2) (mvT X.2.2.2.2.1 w4) hy (X.back K w4 w3 hf hl) (g := mkF m pc Ls st) rfl (hsz.trans X.2.2.1.symm) (Steps.refl _) (a := a) (argsL := argsL) (rest := rest) (lenOf pd hlen) hst (by show 2 * 0 + _ ≤ _; omega) (X.hd d) (fun _ _ => ⟨rfl, eT, hc, hs⟩)
  obtain ⟨T', L', k', n'⟩ := B
  dsimp only [Pt.U, Pt.locs, Pt.cells, Pt.slots] at Y' l1 l2 l3 w' hΨ
  subst l1 l2 l3
  obtain ⟨v, s₂, L, r1, r⟩ := g v _ hΨ T' _ Y' rfl (N.app N0)
  exact ⟨v, s₂, L, w'.trans r1, r⟩
theorem OwS.virtual {C : String} {i W k' n' : Nat} {a : Addr} {argsL : List Value} {ps : List FieldType} {rt : Option FieldType} (K : OwM l Z y by' mL' ret' rm rm.cells rm.slots [] as h n0 Ψ) (w1 : (Cond.methodLink own i y).before a0 Z = true) (w2 : (Cond.declares y).before a0 Z = true) (w5 : (Cond.selects C y y).before a0 Z = true) (w6 : (Cond.instanceMethod y).before a0 Z = true) (w3 : (Cond.initialized y.cls).before a0 Z = true) (w4 : (Cond.code y by' mL' ret').before a0 Z = true) (hy : y.cls ≠ "java/lang/invoke/MethodHandle" ∧ y.cls ≠ "java/lang/invoke/VarHandle") (E : Exa Z h a C)
    (pd : parseMethodDescriptor y.desc = some ⟨ps, rt⟩) (hlen : argsL.length = ps.length) (has : (.ref a :: argsL).toArray = as) (hst : st = argsL.reverse ++ .ref a :: rest) (hW : (rest.map fun v => v.category).sum ≤ W) (hsz : Ls.size = mL) (hf : rm.frames + 1 ≤ R.frames) (hl : W + (mL' + 11) + rm.locals ≤ R.locals) (hk : k + rm.cells = k') (hn : n + rm.slots = n') (hc : k' ≤ R.cells) (hs : n' ≤ R.slots)
    (d : decode bytes pc = .ok (.invokevirtual i, 3)) (hq : pc + 3 = q) (g : ∀ v h', Ψ v h' → X.G h' k' n' q Ls (v.toList ++ rest)) : X.G h k n pc Ls st := fun T locs Y eT N => by
  subst hq hk hn has
  obtain ⟨cB, kB, q1, q2, q3⟩ := isOf (T := T) X.2.2.2.2.1 eT E
  obtain ⟨v, vm1, B, -, Y', ⟨L0, ⟨hΨ, N0⟩, l1, l2, l3⟩, w'⟩ := Y.virtualBack X.1 (y := y) (z := y) X.2.2.2.1 (mvT X.2.2.2.2.1 w1) (mvT X.2.2.2.2.1 w2) (notFace_of_selects (args := #[]) (mvT X.2.2.2.2.1 w5)) (mvT X.2.2.2.2.1 w5) (mvT X.2.2.2.2.1 w6) hy (X.back K w4 w3 hf hl) q1 q3 (g := mkF m pc Ls st) rfl (hsz.trans X.2.2.1.symm) (Steps.refl _) (argsL := argsL) (rest := rest) (lenOf pd hlen) hst (by show 2 * 0 + _ ≤ _; omega) (X.hd d) (fun _ _ => ⟨rfl, eT, hc, hs⟩)
  obtain ⟨T', L', k', n'⟩ := B
  dsimp only [Pt.U, Pt.locs, Pt.cells, Pt.slots] at Y' l1 l2 l3 w' hΨ
  subst l1 l2 l3
  obtain ⟨v, s₂, L, r1, r⟩ := g v _ hΨ T' _ Y' rfl (N.app N0)
  exact ⟨v, s₂, L, w'.trans r1, r⟩
theorem OwS.private {C : String} {i W k' n' kk : Nat} {a : Addr} {argsL : List Value} {ps : List FieldType} {rt : Option FieldType} (K : OwM l Z y by' mL' ret' rm rm.cells rm.slots [] as h n0 Ψ) (w1 : (Cond.methodLink own i y).before a0 Z = true) (w6 : (Cond.instanceMethod y).before a0 Z = true) (w7 : (Cond.privateMethod y).before a0 Z = true) (w8 : (Cond.instantiable y.cls kk).before a0 Z = true) (w3 : (Cond.initialized y.cls).before a0 Z = true) (w4 : (Cond.code y by' mL' ret').before a0 Z = true) (hy : y.cls ≠ "java/lang/invoke/MethodHandle" ∧ y.cls ≠ "java/lang/invoke/VarHandle") (E : Exa Z h a C)
    (pd : parseMethodDescriptor y.desc = some ⟨ps, rt⟩) (hlen : argsL.length = ps.length) (has : (.ref a :: argsL).toArray = as) (hst : st = argsL.reverse ++ .ref a :: rest) (hW : (rest.map fun v => v.category).sum ≤ W) (hsz : Ls.size = mL) (hf : rm.frames + 1 ≤ R.frames) (hl : W + (mL' + 11) + rm.locals ≤ R.locals) (hk : k + rm.cells = k') (hn : n + rm.slots = n') (hc : k' ≤ R.cells) (hs : n' ≤ R.slots)
    (d : decode bytes pc = .ok (.invokevirtual i, 3)) (hq : pc + 3 = q) (g : ∀ v h', Ψ v h' → X.G h' k' n' q Ls (v.toList ++ rest)) : X.G h k n pc Ls st := fun T locs Y eT N => by
  subst hq hk hn has
  obtain ⟨cell, e1, e2⟩ := E.cell
  obtain ⟨c8, k8, f1, f2, -, f4, -⟩ := Cond.instantiable_spec (mvT (args := #[]) X.2.2.2.2.1 w8)
  have hni : k8.isInterface = false := by cases hh : k8.isInterface with
    | false => rfl
    | true => rw [hh] at f4; cases f4
  have hpr := Cond.privateMethod_at (mvP X.2.2.2.2.1 w7 (args := #[]))
  obtain ⟨v, vm1, B, -, Y', ⟨L0, ⟨hΨ, N0⟩, l1, l2, l3⟩, w'⟩ := Y.privateBack X.1 (y := y) X.2.2.2.1 (mvT X.2.2.2.2.1 w1) (mvT X.2.2.2.2.1 w6) (Jvm.Stand.selects_self_of_private f1 f2 hni hpr (mvT X.2.2.2.2.1 w6) hy) hpr (mvT X.2.2.2.2.1 w4) hy (X.back K w4 w3 hf hl) (g := mkF m pc Ls st) rfl (hsz.trans X.2.2.1.symm) (Steps.refl _) (a := a) (cell := cell) (by rw [eT]; exact e1) e2 (argsL := argsL) (rest := rest) (lenOf pd hlen) hst (by show 2 * 0 + _ ≤ _; omega) (X.hd d) (fun _ _ => ⟨rfl, eT, hc, hs⟩)
  obtain ⟨T', L', k', n'⟩ := B
  dsimp only [Pt.U, Pt.locs, Pt.cells, Pt.slots] at Y' l1 l2 l3 w' hΨ
  subst l1 l2 l3
  obtain ⟨v, s₂, L, r1, r⟩ := g v _ hΨ T' _ Y' rfl (N.app N0)
  exact ⟨v, s₂, L, w'.trans r1, r⟩
theorem OwS.fin {v : Option Value} (HK : OwK a0 s0 s Z EL h) (hv : meth.sig.returnType = none → v = none) (w : ∀ T locs, Stand p l e R s m args below meth c T locs k n → ∀ fs, (∀ (f : JFrame) (acts : List Action), f.method = m → f.locked = none → f.entered = [] → (doReturn e (T.setTop f) acts v).1 = T.setFrames fs) → Steps p.tables e below (T.setTop (mkF m pc Ls st)) (T.setFrames fs)) (hk : k ≤ kM) (hn : n ≤ nM) (hΦ : Φ v h) : X.G h k n pc Ls st := fun T locs Y eT N => by
  obtain ⟨vm0, hvm⟩ : ∃ vm0, s = s0.setVm vm0 := ⟨_, HK.eq⟩
  subst hvm
  obtain ⟨k0, hS, hk0⟩ := HK.sn
  obtain ⟨fs, hr, hrun, hended, hRE⟩ := (Y.mono hk hn).leaveW (vm₁ := vm0) hS (by rw [eT]; exact hk0) (v := v) hv X.2.2.2.2.2.2.1
  refine ⟨v, _, locs, w T locs Y fs hr, hrun, hended, ⟨by show Φ v T.heap; rw [eT]; exact hΦ, N⟩, ?_, hRE⟩
  have A := HK.ch.trans (CHv.at Y X.2.2.2.2.1 HK.ew HK.ch.1)
  show CHr Z EL s0.vm s0.heap T.vm T.heap
  rw [eT]; exact A
theorem OwS.retV (HK : OwK a0 s0 s Z EL h) (d : decode bytes pc = .ok (.return_, 1)) (hret : ret = none) (hk : k ≤ kM) (hn : n ≤ nM) (hΦ : Φ none h) : X.G h k n pc Ls [] :=
  X.fin HK (fun _ => rfl) (fun T _ Y fs hr => Y.returnOut X.1 (X.2.2.2.2.2.1.trans hret) (X.hd d) hr) hk hn hΦ
theorem OwS.retI {z : Int32} (HK : OwK a0 s0 s Z EL h) (d : decode bytes pc = .ok (.ireturn, 1)) (hret : ret = some .int) (hk : k ≤ kM) (hn : n ≤ nM) (hΦ : Φ (some (.int z)) h) : X.G h k n pc Ls (.int z :: st) :=
  X.fin HK (fun q => by rw [X.2.2.2.2.2.1, hret] at q; cases q) (fun T _ Y fs hr => retOut Y X.1 (X.2.2.2.2.2.1.trans hret) rfl (Or.inl ⟨rfl, Or.inl rfl, z, rfl⟩) (X.hd d) hr) hk hn hΦ
theorem OwS.retN {z z' : Int32} {t : FieldType} (HK : OwK a0 s0 s Z EL h) (d : decode bytes pc = .ok (.ireturn, 1)) (hret : ret = some t) (ht : t = .boolean ∨ t = .byte ∨ t = .char ∨ t = .short) (hz : nar t z = z') (hk : k ≤ kM) (hn : n ≤ nM) (hΦ : Φ (some (.int z')) h) : X.G h k n pc Ls (.int z :: st) := by
  subst hz
  exact X.fin HK (fun q => by rw [X.2.2.2.2.2.1, hret] at q; cases q) (fun T _ Y fs hr => RoadKit.retN Y X.1 (X.2.2.2.2.2.1.trans hret) ht (X.hd d) hr) hk hn hΦ
theorem OwS.retJ {z : Int64} (HK : OwK a0 s0 s Z EL h) (d : decode bytes pc = .ok (.lreturn, 1)) (hret : ret = some .long) (hk : k ≤ kM) (hn : n ≤ nM) (hΦ : Φ (some (.long z)) h) : X.G h k n pc Ls (.long z :: st) :=
  X.fin HK (fun q => by rw [X.2.2.2.2.2.1, hret] at q; cases q) (fun T _ Y fs hr => retOut Y X.1 (X.2.2.2.2.2.1.trans hret) rfl (Or.inr (Or.inl ⟨rfl, rfl, z, rfl⟩)) (X.hd d) hr) hk hn hΦ
theorem OwS.retA {v : Value} {t : FieldType} (HK : OwK a0 s0 s Z EL h) (d : decode bytes pc = .ok (.areturn, 1)) (hret : ret = some t) (ht : t.isReference = true) (hv : v.isRef = true) (hnv : narrow t v = v) (hk : k ≤ kM) (hn : n ≤ nM) (hΦ : Φ (some v) h) : X.G h k n pc Ls (v :: st) :=
  X.fin HK (fun q => by rw [X.2.2.2.2.2.1, hret] at q; cases q) (fun T _ Y fs hr => retOut Y X.1 (X.2.2.2.2.2.1.trans hret) hnv (Or.inr (Or.inr (Or.inr (Or.inr ⟨rfl, ht, hv⟩)))) (X.hd d) hr) hk hn hΦ
/-! String constants, and calls of bodies that may load them -/
theorem OwA.ofArv {b : Addr} {kc : ClassId} {z : Int32} {vs : List Value} {d : Value} {ty : FieldType} (F : Arv Z h b kc ty z vs d) (hl : z.toNatClampNeg = vs.length) : OwA Z h b ty vs := by
  obtain ⟨cl, A, -, hsz, -, H, -⟩ := F
  refine ⟨cl, A, ?_, ?_⟩
  · apply List.ext_getElem?
    intro j
    rw [Array.getElem?_toList]
    by_cases hj : j < cl.slots.size
    · rw [H j hj, List.getElem?_eq_getElem (by omega)]; simp [List.getElem?_eq_getElem (show j < vs.length by omega)]
    · rw [Array.getElem?_eq_none (by omega), List.getElem?_eq_none (by omega)]
  · have h1 : z.toNatClampNeg = z.toInt.toNat := rfl
    have := z.toInt_lt; omega
theorem OwS.ldcS {i nb k' n' : Nat} {text : String} {vs : List Value} (HK : OwK a0 s0 s Z EL h) (w : (Cond.stringLink own i text).before a0 Z = true) (wS : ∀ a ∈ Bundle.stringAtoms, a.before a0 Z = true) (hmem : (own, i) ∈ EL) (ht : (∀ c ∈ text.toList, c.toNat < 256) ∧ text.toList.map (fun c => Value.int (Jvm.Lit.byteI c.toNat.toUInt16)) = vs)
    (d : decode bytes pc = .ok (.ldc i, 2)) (hnb : 4 * text.toList.length ≤ nb) (hbig : nb ≤ 536870912) (hk : k + 2 = k') (hn : n + (nb + 4) = n') (hc : k' ≤ R.cells) (hs : n' ≤ R.slots) (hq : pc + 2 = q)
    (g : ∀ s' (X' : OwS p l e R s' m args below meth c Z own nm bytes mL ret n0 kM nM Φ s0 EL) h' a b, Ext h h' → OwK a0 s0 s' Z EL h' → Exa Z h' a "java/lang/String" → Fld Z h' a "java/lang/String" "coder" "B" (.int 0) → Fld Z h' a "java/lang/String" "value" "[B" (.ref b) → OwA Z h' b .byte vs → (∀ x, Safe Z EL s.vm h x → x < h.size → x ≠ a ∧ x ≠ b) → X'.G h' k' n' q Ls (.ref a :: st)) : X.G h k n pc Ls st := fun T locs Y eT N => by
  subst hq hk hn
  obtain ⟨vm0, hvm⟩ : ∃ vm0, s = s0.setVm vm0 := ⟨_, HK.eq⟩
  subst hvm
  obtain ⟨k0, hS, hk0⟩ := HK.sn
  have hlen : vs.length = text.toList.length := by rw [← ht.2, List.length_map]
  have hzi : (Int32.ofNat vs.length).toInt = (vs.length : Int) := Int32.toInt_ofNat_of_lt (by omega)
  obtain ⟨z1, z2⟩ := ow_idx hzi
  obtain ⟨a, T', h', k1, b, kc, Y', e', E, hS', hk1, hW', hown', F1, F2, F3, F4, -, -, hC, -, hne, w'⟩ := ldcCH (z := Int32.ofNat vs.length) Y X.1 X.2.2.2.2.1 X.2.2.2.1 w wS eT hS hk0 HK.ew hmem HK.ch.1 ht z1 z2 (g := mkF m pc Ls st) rfl (X.hd d) hnb hbig hc hs
  have X' : OwS p l e R (s0.setVm T'.vm) m args below meth c Z own nm bytes mL ret n0 kM nM Φ s0 EL := ⟨X.1, X.2.1, X.2.2.1, hown', hW', X.2.2.2.2.2⟩
  obtain ⟨v, s₂, L, r1, r⟩ := g (s0.setVm T'.vm) X' h' a b E ⟨rfl, ⟨k1, hS', hk1⟩, HK.ew, HK.ch.trans hC⟩ F1 F2 F3 (OwA.ofArv F4 z2) (fun x Sx hx => hne x (hC.safe hx Sx)) T' _ Y' e' N
  exact ⟨v, s₂, L, w' _ r1, r⟩
def OwN (l : Launch) (Z : State) (EL : List (String × Nat)) (y : MethodName) (bytes : ByteArray) (mL : Nat) (ret : Option FieldType) (rm : Room) (kM nM : Nat) (ws : List Cond) (as : Array Value) (h0 : Heap) (n0 : Nat) (Φ : Option Value → Heap → Prop) : Prop :=
  MetFree l y (head1 (Cond.code y bytes mL ret :: ws) rm) (fun a U => a = as ∧ Z.Warmed39 U.vm ∧ U.heap = h0 ∧ CHv Z EL U.vm h0) (fun _ _ _ _ _ => True) (fun _ U o U' => ∃ v L, o = .returned v ∧ (Φ v U'.heap ∧ Fr n0 L) ∧ CHr Z EL U.vm U.heap U'.vm U'.heap ∧ ReturnedEndW U o U' L kM nM)
theorem OwN.of {y : MethodName} {rm : Room} {ws : List Cond} {as : Array Value} {h0 : Heap} (hEW : EW Z a0 EL) (hpn : plainFor y = true) (hef : ∀ m, entryFrame m as mL = mkF m 0 Ls [])
    (body : ∀ p e s m below meth c (X : OwS p l e rm s m as below meth c Z y.cls y.name bytes mL ret n0 kM nM Φ s EL), OwK a0 s s Z EL h0 → X.G h0 0 0 0 Ls []) : OwN l Z EL y bytes mL ret rm kM nM ws as h0 n0 Φ := by
  refine MetFree.of_bodySF hpn hisR ?_
  intro p e s m args below meth c s₁ Bd hml0 hP hK
  obtain ⟨rfl, hZ, hh, hCH⟩ := hP
  have X : OwS p l e rm s m args below meth c Z y.cls y.name bytes mL ret n0 kM nM Φ s EL := ⟨Bd.exec, Bd.bytes, hml0, findClass_of_methodNamed Bd.named, hZ, Bd.returns, Bd.notSynchronized, (name_of_methodNamed Bd.named Bd.method).1⟩
  have HK : OwK a0 s s Z EL h0 := ⟨rfl, ⟨h0.size, (State.WarmedH.refl s).since _, Nat.le_refl _⟩, hEW, by rw [hh]; exact CHr.refl hCH⟩
  obtain ⟨v, s₂, L, r1, r2, r3, r4, r5⟩ := body p e s m below meth c X HK s₁ [] (Stand.of_body Bd) (by rw [← hh, Bd.state]; rfl) (Fr.nil n0)
  exact ⟨s₂, _, castTop (hef m) r1, r2, r3, v, L, rfl, r4, r5⟩
theorem OwS.callN {i W k' n' : Nat} {argsL : List Value} {ps : List FieldType} {rt : Option FieldType} (HK : OwK a0 s0 s Z EL h) (K : OwN l Z EL y by' mL' ret' rm rm.cells rm.slots [] as h n0 Ψ) (w1 : (Cond.methodLink own i y).before a0 Z = true) (w2 : (Cond.static y).before a0 Z = true) (w3 : (Cond.initialized y.cls).before a0 Z = true) (w4 : (Cond.code y by' mL' ret').before a0 Z = true) (hy : y.cls ≠ "java/lang/invoke/MethodHandle" ∧ y.cls ≠ "java/lang/invoke/VarHandle")
    (pd : parseMethodDescriptor y.desc = some ⟨ps, rt⟩) (hlen : argsL.length = ps.length) (has : argsL.toArray = as) (hst : st = argsL.reverse ++ rest) (hW : (rest.map fun v => v.category).sum ≤ W) (hsz : Ls.size = mL) (hf : rm.frames + 1 ≤ R.frames) (hl : W + (mL' + 11) + rm.locals ≤ R.locals) (hk : k + rm.cells = k') (hn : n + rm.slots = n') (hc : k' ≤ R.cells) (hs : n' ≤ R.slots)
    (d : decode bytes pc = .ok (.invokestatic i, 3)) (hq : pc + 3 = q) (g : ∀ s' (X' : OwS p l e R s' m args below meth c Z own nm bytes mL ret n0 kM nM Φ s0 EL) v h', h.size ≤ h'.size → OwK a0 s0 s' Z EL h' → (∀ x, Safe Z EL s.vm h x → x < h.size → Safe Z EL s'.vm h' x) → Ψ v h' → X'.G h' k' n' q Ls (v.toList ++ rest)) : X.G h k n pc Ls st := fun T locs Y eT N => by
  subst hq hk hn has
  obtain ⟨vm0, hvm⟩ : ∃ vm0, s = s0.setVm vm0 := ⟨_, HK.eq⟩
  subst hvm
  obtain ⟨k0, hS, hk0⟩ := HK.sn
  have B := backOfSH (s := s0) (p := p) (e := e) (R := R) (below := below) (args := args) (W := W) (len := 3) (Q := fun v h L => Ψ v h ∧ Fr n0 L) K X.2.2.2.2.1 w4 w3 hf hl HK.ew HK.ch.1
  obtain ⟨v, vm1, B, -, Y', hS2, hgr, ⟨L0, ⟨hΨ, N0⟩, l1, l2, l3, hC⟩, w'⟩ := Jvm.RoadKit.callSS Y X.1 (y := y) X.2.2.2.1 (mvT X.2.2.2.2.1 w1) (mvT X.2.2.2.2.1 w2) (mvT X.2.2.2.2.1 w3) (mvT X.2.2.2.2.1 w4) hy B (g := mkF m pc Ls st) rfl (hsz.trans X.2.2.1.symm) (argsL := argsL) (rest := rest) (lenOf pd hlen) hst (by show 2 * 0 + _ ≤ _; omega) (X.hd d) (fun _ _ => ⟨rfl, eT, hc, hs⟩)
  obtain ⟨T', L', k', n'⟩ := B
  dsimp only [Pt.U, Pt.locs, Pt.cells, Pt.slots] at Y' l1 l2 l3 w' hΨ hS2 hgr hC
  subst l1 l2 l3
  obtain ⟨Y2, hS3, hW3, hown3⟩ := rebS hS (by rw [eT]; exact hk0) Y' hS2 hgr X.2.2.2.2.1 X.2.2.2.1
  have X' : OwS p l e R (s0.setVm T'.vm) m args below meth c Z own nm bytes mL ret n0 kM nM Φ s0 EL := ⟨X.1, X.2.1, X.2.2.1, hown3, hW3, X.2.2.2.2.2⟩
  obtain ⟨v, s₂, L, r1, r⟩ := g (s0.setVm T'.vm) X' v _ (by rw [← eT]; exact hgr) ⟨rfl, ⟨_, hS3, Nat.le_refl _⟩, HK.ew, HK.ch.trans hC⟩ (fun x Sx hx => hC.safe hx Sx) hΨ T' _ Y2 rfl (N.app N0)
  exact ⟨v, s₂, L, w'.trans r1, r⟩
theorem OwS.specialN {i W k' n' : Nat} {a : Addr} {argsL : List Value} {ps : List FieldType} {rt : Option FieldType} (HK : OwK a0 s0 s Z EL h) (K : OwN l Z EL y by' mL' none rm rm.cells rm.slots [] as h n0 Ψ) (hin : y.name = "<init>") (w1 : (Cond.methodLink own i y).before a0 Z = true) (w2 : (Cond.instanceMethod y).before a0 Z = true) (w3 : (Cond.initialized y.cls).before a0 Z = true) (w4 : (Cond.code y by' mL' none).before a0 Z = true) (hy : y.cls ≠ "java/lang/invoke/MethodHandle" ∧ y.cls ≠ "java/lang/invoke/VarHandle")
    (pd : parseMethodDescriptor y.desc = some ⟨ps, rt⟩) (hlen : argsL.length = ps.length) (has : (.ref a :: argsL).toArray = as) (hst : st = argsL.reverse ++ .ref a :: rest) (hW : (rest.map fun v => v.category).sum ≤ W) (hsz : Ls.size = mL) (hf : rm.frames + 1 ≤ R.frames) (hl : W + (mL' + 11) + rm.locals ≤ R.locals) (hk : k + rm.cells = k') (hn : n + rm.slots = n') (hc : k' ≤ R.cells) (hs : n' ≤ R.slots)
    (d : decode bytes pc = .ok (.invokespecial i, 3)) (hq : pc + 3 = q) (g : ∀ s' (X' : OwS p l e R s' m args below meth c Z own nm bytes mL ret n0 kM nM Φ s0 EL) v h', h.size ≤ h'.size → OwK a0 s0 s' Z EL h' → (∀ x, Safe Z EL s.vm h x → x < h.size → Safe Z EL s'.vm h' x) → Ψ v h' → X'.G h' k' n' q Ls (v.toList ++ rest)) : X.G h k n pc Ls st := fun T locs Y eT N => by
  subst hq hk hn has
  obtain ⟨vm0, hvm⟩ : ∃ vm0, s = s0.setVm vm0 := ⟨_, HK.eq⟩
  subst hvm
  obtain ⟨k0, hS, hk0⟩ := HK.sn
  have B := backOfSH (s := s0) (p := p) (e := e) (R := R) (below := below) (args := args) (W := W) (len := 3) (Q := fun v h L => Ψ v h ∧ Fr n0 L) K X.2.2.2.2.1 w4 w3 hf hl HK.ew HK.ch.1
  obtain ⟨v, vm1, B, -, Y', hS2, hgr, ⟨L0, ⟨hΨ, N0⟩, l1, l2, l3, hC⟩, w'⟩ := Y.specialBackS X.1 (y := y) hin X.2.2.2.1 (mvT X.2.2.2.2.1 w1) (mvT X.2.2.2.2.1 w2) (mvT X.2.2.2.2.1 w4) hy B (g := mkF m pc Ls st) rfl (hsz.trans X.2.2.1.symm) (Steps.refl _) (a := a) (argsL := argsL) (rest := rest) (lenOf pd hlen) hst (by show 2 * 0 + _ ≤ _; omega) (X.hd d) (fun _ _ => ⟨rfl, eT, hc, hs⟩)
  obtain ⟨T', L', k', n'⟩ := B
  dsimp only [Pt.U, Pt.locs, Pt.cells, Pt.slots] at Y' l1 l2 l3 w' hΨ hS2 hgr hC
  subst l1 l2 l3
  obtain ⟨Y2, hS3, hW3, hown3⟩ := rebS hS (by rw [eT]; exact hk0) Y' hS2 hgr X.2.2.2.2.1 X.2.2.2.1
  have X' : OwS p l e R (s0.setVm T'.vm) m args below meth c Z own nm bytes mL ret n0 kM nM Φ s0 EL := ⟨X.1, X.2.1, X.2.2.1, hown3, hW3, X.2.2.2.2.2⟩
  obtain ⟨v, s₂, L, r1, r⟩ := g (s0.setVm T'.vm) X' v _ (by rw [← eT]; exact hgr) ⟨rfl, ⟨_, hS3, Nat.le_refl _⟩, HK.ew, HK.ch.trans hC⟩ (fun x Sx hx => hC.safe hx Sx) hΨ T' _ Y2 rfl (N.app N0)
  exact ⟨v, s₂, L, w'.trans r1, r⟩
end OwSKit
theorem own_wS {Z : State} {a0 : Array Value} (hw : ∀ d ∈ tables_1, d.before a0 Z = true) : ∀ a ∈ Bundle.stringAtoms, a.before a0 Z = true := by
  intro a ha
  simp only [Bundle.stringAtoms, List.mem_cons, List.not_mem_nil, or_false] at ha
  rcases ha with rfl | rfl | rfl | rfl | rfl | rfl | rfl
  · exact (hw _ (List.mem_of_getElem? (i := 13) rfl))
  · exact (hw _ (List.mem_of_getElem? (i := 21) rfl))
  · exact (hw _ (List.mem_of_getElem? (i := 25) rfl))
  · exact (hw _ (List.mem_of_getElem? (i := 34) rfl))
  · exact (hw _ (List.mem_of_getElem? (i := 36) rfl))
  · exact (hw _ (List.mem_of_getElem? (i := 45) rfl))
  · exact (hw _ (List.mem_of_getElem? (i := 46) rfl))
theorem own_EW {Z : State} {a0 : Array Value} (hw : ∀ d ∈ tables_1, d.before a0 Z = true) : EW Z a0 consts_1 :=
  EW.cons (text := "url is null") (hw _ (List.mem_of_getElem? (i := 44) rfl)) (by decide +kernel) (EW.cons (text := "title is null") (hw _ (List.mem_of_getElem? (i := 54) rfl)) (by decide +kernel) (EW.cons (text := "path is null") (hw _ (List.mem_of_getElem? (i := 57) rfl)) (by decide +kernel) (EW.cons (text := "commitTag is null") (hw _ (List.mem_of_getElem? (i := 62) rfl)) (by decide +kernel) (EW.cons (text := "") (hw _ (List.mem_of_getElem? (i := 83) rfl)) (by decide +kernel) (EW.nil)))))
/-! numbers -/
theorem own_ofNat {c : Int32} (h1 : 0 ≤ c.toInt) (h2 : c.toInt < 2147483648) : c = Int32.ofNat c.toInt.toNat := by
  rw [← Int32.toInt_inj, Int32.toInt_ofNat_small (by omega)]; omega
theorem own_natInt (x : Int32) : x.toInt = if x.toBitVec.toNat < 2147483648 then (x.toBitVec.toNat : Int) else (x.toBitVec.toNat : Int) - 4294967296 := by
  show x.toBitVec.toInt = _
  rw [BitVec.toInt_eq_toNat_cond]
  split <;> split <;> omega
theorem own_c16 (x : Int32) : x.toUInt32.toUInt16.toUInt32.toInt32.toInt = x.toInt % 65536 := by
  have e : x.toUInt32.toUInt16.toUInt32.toInt32.toBitVec.toNat = x.toBitVec.toNat % 65536 := rfl
  have h1 := own_natInt x.toUInt32.toUInt16.toUInt32.toInt32
  have h2 := own_natInt x
  have h3 := x.toBitVec.isLt
  rw [e] at h1
  split at h1 <;> split at h2 <;> omega

theorem own_sub {x y : Int32} {b : Int} (hy : y.toInt = b) (h1 : -2147483648 ≤ x.toInt - b) (h2 : x.toInt - b < 2147483648) : (x - y).toInt = x.toInt - b := by
  subst hy; rw [Int32.toInt_sub]; exact Int.bmod_eq_of_le (by omega) (by omega)
theorem own_add {x y : Int32} {b : Int} (hy : y.toInt = b) (h1 : -2147483648 ≤ x.toInt + b) (h2 : x.toInt + b < 2147483648) : (x + y).toInt = x.toInt + b := by
  subst hy; rw [Int32.toInt_add]; exact Int.bmod_eq_of_le (by omega) (by omega)
theorem own_nor32 (n : Nat) : n ||| 32 = n + 32 * (1 - n / 32 % 2) := by
  have h1 : (n ||| 32) / 64 = n / 64 := by
    have := Nat.or_div_two_pow (a := n) (b := 32) (n := 6)
    simpa using this
  have h2 : (n ||| 32) % 64 = (n % 64) ||| 32 := by
    have := Nat.or_mod_two_pow (a := n) (b := 32) (n := 6)
    simpa using this
  have key : ∀ k : Fin 64, k.val ||| 32 = k.val + 32 * (1 - k.val / 32 % 2) := by decide
  have h3 := key ⟨n % 64, Nat.mod_lt _ (by omega)⟩
  simp only at h3
  rw [h3] at h2
  omega
theorem own_or32 (c : Int32) (h0 : 0 ≤ c.toInt) : (c ||| 32).toInt = c.toInt + 32 * (1 - c.toInt / 32 % 2) := by
  have e : (c ||| 32).toBitVec.toNat = c.toBitVec.toNat ||| 32 := rfl
  have h1 := own_natInt (c ||| 32)
  have h2 := own_natInt c
  have h3 := c.toBitVec.isLt
  rw [e, own_nor32] at h1
  split at h1 <;> split at h2 <;> omega

theorem ow_staKeep {Z : State} {h h' : Heap} {ws : List Addr} {C n d : String} {w : Value} (F : Sta Z h C n d w) (K : Keep h h' ws) (q : ∀ x ∈ ws, ∃ D, Exa Z h x D) : Sta Z h' C n d w := by
  obtain ⟨cf, i, k, f, st, cell, h1, h2, h3, h4, h5, h6, r⟩ := F
  refine ⟨cf, i, k, f, st, cell, h1, h2, h3, h4, K.2.1 st cell h5 (fun hm => ?_), h6, r⟩
  obtain ⟨D, cl, kk, e1, -, -, e4, -⟩ := q st hm
  cases h5.symm.trans e1; rw [h6] at e4; cases e4
/-- the bytes of the text of u: none (u < 0), or one char of 0 to 255 -/
def own_by (u : Int) : List Value := if u < 0 then [] else [.int (Int32.ofInt u).toInt8.toInt32]
def OwT (Z : State) (h : Heap) (a : Addr) (u : Int) : Prop := ∃ b, Exa Z h a "java/lang/String" ∧ Fld Z h a "java/lang/String" "coder" "B" (.int 0) ∧ Fld Z h a "java/lang/String" "value" "[B" (.ref b) ∧ OwA Z h b .byte (own_by u)
theorem OwT.exa {Z : State} {h : Heap} {a : Addr} {u : Int} (T : OwT Z h a u) : Exa Z h a "java/lang/String" := by obtain ⟨b, r, -⟩ := T; exact r
theorem OwT.lt {Z : State} {h : Heap} {a : Addr} {u : Int} (T : OwT Z h a u) : a < h.size := T.exa.lt
theorem OwT.ext {Z : State} {h h' : Heap} {a : Addr} {u : Int} (E : Ext h h') (T : OwT Z h a u) : OwT Z h' a u := by obtain ⟨b, r1, r2, r3, r4⟩ := T; exact ⟨b, Exa.ext E r1, Fld.ext E r2, Fld.ext E r3, OwA.ext r4 E⟩
theorem OwT.keep {Z : State} {h h' : Heap} {a x : Addr} {u : Int} {C : String} {nn : Nat} {a0 : Array Value} (T : OwT Z h a u) (K : Keep h h' [x]) (E : Exa Z h x C) (w : (Cond.instantiable C nn).before a0 Z = true) (hC : C ≠ "java/lang/String") : OwT Z h' a u := by
  obtain ⟨b, r1, r2, r3, r4⟩ := T
  have n1 : a ∉ [x] := fun hm => Exa.ne E r1 hC (List.mem_singleton.mp hm).symm
  have n2 : b ∉ [x] := fun hm => Exa.neOwA E r4 w (List.mem_singleton.mp hm).symm
  exact ⟨b, Exa.keep r1 K, Fld.keep r2 K n1, Fld.keep r3 K n1, OwA.keep r4 K n2⟩
theorem own_b8 (u : Int) (h0 : 0 ≤ u) (h1 : u ≤ 255) : ((Int32.ofInt u).toInt8.toInt32).toInt = u.bmod 256 := by
  rw [Int8.toInt_toInt32, Int32.toInt_toInt8, Int32.toInt_ofInt_of_le (by omega) (by omega)]
theorem own_b8i {u v : Int} (h0 : 0 ≤ u) (h1 : u ≤ 255) (h2 : 0 ≤ v) (h3 : v ≤ 255) : ((Int32.ofInt u).toInt8.toInt32).toInt = ((Int32.ofInt v).toInt8.toInt32).toInt ↔ u = v := by
  rw [own_b8 u h0 h1, own_b8 v h2 h3]
  have q1 := Int.bmod_def u 256
  have q2 := Int.bmod_def v 256
  split at q1 <;> split at q2 <;> omega
theorem own_nn (z : Int32) : nar .byte z.toInt8.toInt32 = z.toInt8.toInt32 := by
  show z.toInt8.toInt32.toInt8.toInt32 = _
  simp
def own_norm (u : Int) : Int := if 256 ≤ u then -1 else u
theorem own_m256 (x : Int32) (h0 : 0 ≤ x.toInt) (h1 : x.toInt ≤ 511) : (x &&& 256).toInt = if 256 ≤ x.toInt then 256 else 0 := by
  have key : ∀ k : Fin 512, (Int32.ofNat k.val &&& 256).toInt = if 256 ≤ (Int32.ofNat k.val).toInt then 256 else 0 := by decide +kernel
  have := key ⟨x.toInt.toNat, by omega⟩
  rw [← own_ofNat h0 (by omega)] at this
  exact this
theorem own_ext0 {h h' : Heap} (K : Keep h h' []) : Ext h h' := ⟨K.1, fun x c q => K.2.1 x c q (by simp)⟩
theorem own_d_jdk_43_method_3_0 : decode jdk_43_method_3_code 0 = .ok (.iload_n 0, 1) := by decide +kernel
theorem own_d_jdk_43_method_3_1 : decode jdk_43_method_3_code 1 = .ok (.sipush 255, 3) := by decide +kernel
theorem own_d_jdk_43_method_3_4 : decode jdk_43_method_3_code 4 = .ok (.if_icmp .gt 7, 3) := by decide +kernel
theorem own_d_jdk_43_method_3_7 : decode jdk_43_method_3_code 7 = .ok (.iconst 1, 1) := by decide +kernel
theorem own_d_jdk_43_method_3_8 : decode jdk_43_method_3_code 8 = .ok (.goto 4, 3) := by decide +kernel
theorem own_d_jdk_43_method_3_12 : decode jdk_43_method_3_code 12 = .ok (.ireturn, 1) := by decide +kernel
def own_rm_own_can : Room := ({ frames := 0, cells := 0, slots := 0, locals := 0 } : Room)
set_option maxRecDepth 65536 in
set_option maxHeartbeats 40000000 in
theorem own_can (l : Launch) (Z : State) (a0 : Array Value) (hw : ∀ d ∈ tables_1, d.before a0 Z = true) (h : Heap) (n0 : Nat) (c : Int32) (hc : 0 ≤ c.toInt ∧ c.toInt ≤ 255)  :
    OwM l Z (⟨"java/lang/StringLatin1", "canEncode", "(C)Z"⟩ : MethodName) jdk_43_method_3_code 1 (some .boolean) own_rm_own_can 0 0 [] #[(.int c)] h n0 (fun r h' => r = some (.int 1) ∧ h = h') := by
  refine OwM.of (Ls := #[.val (.int c)]) (by decide +kernel) (fun m => by first | (simp [entryFrame, mkF, argsToLocals, Value.category]; done) | rfl) ?_
  intro _ _ _ _ _ _ _ X
  have e255 : (255 : Int32).toInt = 255 := rfl
  refine X.iloadN (q := 1) own_d_jdk_43_method_3_0 rfl rfl ?_
  refine X.sipush (q := 4) (255 : Int32) own_d_jdk_43_method_3_1 (by decide) rfl ?_
  refine X.icmp_gt (b := 255) (q' := 11) (q := 7) own_d_jdk_43_method_3_4 rfl rfl (by decide) rfl (fun c4 => ?_) (fun c4 => ?_)
  · omega
  · refine X.iconst (q := 8) (1 : Int32) own_d_jdk_43_method_3_7 (by decide) rfl ?_
    refine X.goto (q' := 12) own_d_jdk_43_method_3_8 (by decide) ?_
    refine X.retN (t := .boolean) (z' := (1 : Int32)) own_d_jdk_43_method_3_12 rfl (by simp) (by decide) (by decide) (by decide) ?_
    exact ⟨rfl, rfl⟩
theorem own_d_jdk_43_method_46_0 : decode jdk_43_method_46_code 0 = .ok (.iconst 1, 1) := by decide +kernel
theorem own_d_jdk_43_method_46_1 : decode jdk_43_method_46_code 1 = .ok (.newarray .byte, 2) := by decide +kernel
theorem own_d_jdk_43_method_46_3 : decode jdk_43_method_46_code 3 = .ok (.dup, 1) := by decide +kernel
theorem own_d_jdk_43_method_46_4 : decode jdk_43_method_46_code 4 = .ok (.iconst 0, 1) := by decide +kernel
theorem own_d_jdk_43_method_46_5 : decode jdk_43_method_46_code 5 = .ok (.iload_n 0, 1) := by decide +kernel
theorem own_d_jdk_43_method_46_6 : decode jdk_43_method_46_code 6 = .ok (.i2b, 1) := by decide +kernel
theorem own_d_jdk_43_method_46_7 : decode jdk_43_method_46_code 7 = .ok (.bastore, 1) := by decide +kernel
theorem own_d_jdk_43_method_46_8 : decode jdk_43_method_46_code 8 = .ok (.areturn, 1) := by decide +kernel
def own_rm_own_tob : Room := ({ frames := 0, cells := 1, slots := 1, locals := 0 } : Room)
set_option maxRecDepth 65536 in
set_option maxHeartbeats 40000000 in
theorem own_tob (l : Launch) (Z : State) (a0 : Array Value) (hw : ∀ d ∈ tables_1, d.before a0 Z = true) (h : Heap) (n0 : Nat) (c : Int32)  (hn0 : n0 ≤ h.size) :
    OwM l Z (⟨"java/lang/StringLatin1", "toBytes", "(C)[B"⟩ : MethodName) jdk_43_method_46_code 1 (some (.array .byte)) own_rm_own_tob 1 1 [] #[(.int c)] h n0 (fun r h' => ∃ b, r = some (.ref b) ∧ OwA Z h' b .byte [.int c.toInt8.toInt32] ∧ Keep h h' [] ∧ h.size ≤ b) := by
  refine OwM.of (Ls := #[.val (.int c)]) (by decide +kernel) (fun m => by first | (simp [entryFrame, mkF, argsToLocals, Value.category]; done) | rfl) ?_
  intro _ _ _ _ _ _ _ X
  have K0 : Keep h h [] := Keep.refl _ _
  refine X.iconst (q := 1) (1 : Int32) own_d_jdk_43_method_46_0 (by decide) rfl ?_
  refine X.newP (q := 3) (ty := .byte) (N := 1) (cap := 1) (k' := 1) (n' := 1) (hw _ (List.mem_of_getElem? (i := 25) rfl)) own_d_jdk_43_method_46_1 rfl rfl (Nat.le_refl _) (by decide) rfl rfl (by decide) (by decide) rfl (fun h1 a2 ga2 Eh1 Aa2 => ?_)
  have gea2 : n0 ≤ a2 := by rw [ga2]; exact hn0
  have hsh1 : n0 ≤ h1.size := Nat.le_trans hn0 Eh1.1
  have fra2 : h.size ≤ a2 := by rw [ga2]; exact K0.1
  have Kh1 : Keep h h1 [] := Keep.ext K0 Eh1
  have Aa2 : OwA Z h1 a2 .byte [(.int (0 : Int32))] := Aa2
  refine X.dup (q := 4) own_d_jdk_43_method_46_3 rfl rfl ?_
  refine X.iconst (q := 5) (0 : Int32) own_d_jdk_43_method_46_4 (by decide) rfl ?_
  refine X.iloadN (q := 6) own_d_jdk_43_method_46_5 rfl rfl ?_
  refine X.i2b (q := 7) own_d_jdk_43_method_46_6 rfl ?_
  refine X.bastore (q := 8) (j := 0) Aa2 rfl (by simp) gea2 own_d_jdk_43_method_46_7 rfl (fun h3 Wh3 Ah3 => ?_)
  have hsh3 : n0 ≤ h3.size := by rw [Wr.size Wh3]; exact hsh1
  have Kh3 : Keep h h3 [] := Keep.wr Kh1 Wh3 (Or.inr fra2)
  have Ah3_ : OwA Z h3 a2 .byte [(.int (nar .byte c.toInt8.toInt32))] := Ah3
  refine X.retA (t := (.array .byte)) own_d_jdk_43_method_46_8 rfl rfl rfl rfl (by decide) (by decide) ?_
  exact ⟨_, rfl, by have := Ah3_; rw [own_nn] at this; exact this, Kh3, fra2⟩
theorem own_d_jdk_42_method_151_0 : decode jdk_42_method_151_code 0 = .ok (.aload_n 0, 1) := by decide +kernel
theorem own_d_jdk_42_method_151_1 : decode jdk_42_method_151_code 1 = .ok (.invokespecial 1, 3) := by decide +kernel
theorem own_d_jdk_42_method_151_4 : decode jdk_42_method_151_code 4 = .ok (.aload_n 0, 1) := by decide +kernel
theorem own_d_jdk_42_method_151_5 : decode jdk_42_method_151_code 5 = .ok (.aload_n 1, 1) := by decide +kernel
theorem own_d_jdk_42_method_151_6 : decode jdk_42_method_151_code 6 = .ok (.putfield 9, 3) := by decide +kernel
theorem own_d_jdk_42_method_151_9 : decode jdk_42_method_151_code 9 = .ok (.aload_n 0, 1) := by decide +kernel
theorem own_d_jdk_42_method_151_10 : decode jdk_42_method_151_code 10 = .ok (.iload_n 2, 1) := by decide +kernel
theorem own_d_jdk_42_method_151_11 : decode jdk_42_method_151_code 11 = .ok (.putfield 15, 3) := by decide +kernel
theorem own_d_jdk_42_method_151_14 : decode jdk_42_method_151_code 14 = .ok (.return_, 1) := by decide +kernel
def own_rm_own_si : Room := ({ frames := 1, cells := 0, slots := 0, locals := 20 } : Room)
set_option maxRecDepth 65536 in
set_option maxHeartbeats 40000000 in
theorem own_si (l : Launch) (Z : State) (a0 : Array Value) (hw : ∀ d ∈ tables_1, d.before a0 Z = true) (h : Heap) (n0 : Nat) (a b : Addr)  (hn0 : n0 ≤ h.size) (Xa : Exa Z h a "java/lang/String") (Fv : Fld Z h a "java/lang/String" "value" "[B" .null) (Fc : Fld Z h a "java/lang/String" "coder" "B" (.int (0 : Int32))) (gea : n0 ≤ a) :
    OwM l Z (⟨"java/lang/String", "<init>", "([BB)V"⟩ : MethodName) jdk_42_method_151_code 3 none own_rm_own_si 0 0 [] #[(.ref a), (.ref b), (.int (0 : Int32))] h n0 (fun r h' => r = none ∧ Keep h h' [a] ∧ Fld Z h' a "java/lang/String" "value" "[B" (.ref b) ∧ Fld Z h' a "java/lang/String" "coder" "B" (.int 0)) := by
  refine OwM.of (Ls := #[.val (.ref a), .val (.ref b), .val (.int (0 : Int32))]) (by decide +kernel) (fun m => by first | (simp [entryFrame, mkF, argsToLocals, Value.category]; done) | rfl) ?_
  intro _ _ _ _ _ _ _ X
  have K0 : Keep h h [a] := Keep.refl _ _
  refine X.aloadN (q := 1) own_d_jdk_42_method_151_0 rfl rfl rfl ?_
  refine X.initO (q := 4) (W := 0) (hw _ (List.mem_of_getElem? (i := 30) rfl)) (hw _ (List.mem_of_getElem? (i := 31) rfl)) (hw _ (List.mem_of_getElem? (i := 32) rfl)) own_d_jdk_42_method_151_1 rfl (by decide) (Nat.le_of_eq rfl) (by decide) rfl ?_
  refine X.aloadN (q := 5) own_d_jdk_42_method_151_4 rfl rfl rfl ?_
  refine X.aloadN (q := 6) own_d_jdk_42_method_151_5 rfl rfl rfl ?_
  refine X.putF (q := 9) (host := "") (Or.inl (hw _ (List.mem_of_getElem? (i := 33) rfl))) Via.refl Fv Xa (Or.inr ⟨(hw _ (List.mem_of_getElem? (i := 34) rfl)), rfl, rfl⟩) (hw _ (List.mem_of_getElem? (i := 21) rfl)) (ty := (.array .byte)) (by decide) rfl rfl gea own_d_jdk_42_method_151_6 rfl (fun h1 Wh1 => ?_)
  have Xa'h1 : Exa Z h1 a "java/lang/String" := Exa.wr Wh1 Xa
  have Fv'h1 : Fld Z h1 a "java/lang/String" "value" "[B" (.ref b) := Fld.same Wh1 Fv
  have Fc'h1 : Fld Z h1 a "java/lang/String" "coder" "B" (.int (0 : Int32)) := Fld.other Wh1 Fc (Or.inr (slot_ne (Or.inr (hw _ (List.mem_of_getElem? (i := 36) rfl))) (Or.inr (hw _ (List.mem_of_getElem? (i := 34) rfl))) (by decide) (ht := (by decide : _ = some .byte)) (ht' := (by decide : _ = some (.array .byte)))))
  have hsh1 : n0 ≤ h1.size := by rw [Wr.size Wh1]; exact hn0
  have Kh1 : Keep h h1 [a] := Keep.wr K0 Wh1 (Or.inl (List.mem_of_getElem? (i := 0) rfl))
  refine X.aloadN (q := 10) own_d_jdk_42_method_151_9 rfl rfl rfl ?_
  refine X.iloadN (q := 11) own_d_jdk_42_method_151_10 rfl rfl ?_
  refine X.putF (q := 14) (host := "") (Or.inl (hw _ (List.mem_of_getElem? (i := 35) rfl))) Via.refl Fc'h1 Xa'h1 (Or.inr ⟨(hw _ (List.mem_of_getElem? (i := 36) rfl)), rfl, rfl⟩) (hw _ (List.mem_of_getElem? (i := 21) rfl)) (ty := .byte) (by decide) rfl rfl gea own_d_jdk_42_method_151_11 rfl (fun h2 Wh2 => ?_)
  have Xa'h2 : Exa Z h2 a "java/lang/String" := Exa.wr Wh2 Xa'h1
  have Fv'h2 : Fld Z h2 a "java/lang/String" "value" "[B" (.ref b) := Fld.other Wh2 Fv'h1 (Or.inr (slot_ne (Or.inr (hw _ (List.mem_of_getElem? (i := 34) rfl))) (Or.inr (hw _ (List.mem_of_getElem? (i := 36) rfl))) (by decide) (ht := (by decide : _ = some (.array .byte))) (ht' := (by decide : _ = some .byte))))
  have Fc'h2 : Fld Z h2 a "java/lang/String" "coder" "B" (.int (0 : Int32)) := Fld.same Wh2 Fc'h1
  have hsh2 : n0 ≤ h2.size := by rw [Wr.size Wh2]; exact hsh1
  have Kh2 : Keep h h2 [a] := Keep.wr Kh1 Wh2 (Or.inl (List.mem_of_getElem? (i := 0) rfl))
  refine X.retV own_d_jdk_42_method_151_14 rfl (by decide) (by decide) ?_
  exact ⟨rfl, Kh2, Fv'h2, Fc'h2⟩
theorem own_d_jdk_42_method_139_0 : decode jdk_42_method_139_code 0 = .ok (.getstatic 38, 3) := by decide +kernel
theorem own_d_jdk_42_method_139_3 : decode jdk_42_method_139_code 3 = .ok (.ifCond .eq 23, 3) := by decide +kernel
theorem own_d_jdk_42_method_139_6 : decode jdk_42_method_139_code 6 = .ok (.iload_n 0, 1) := by decide +kernel
theorem own_d_jdk_42_method_139_7 : decode jdk_42_method_139_code 7 = .ok (.invokestatic 1015, 3) := by decide +kernel
theorem own_pd0 : parseMethodDescriptor "(C)Z" = some ⟨[.char], some .boolean⟩ := by decide +kernel
theorem own_d_jdk_42_method_139_10 : decode jdk_42_method_139_code 10 = .ok (.ifCond .eq 16, 3) := by decide +kernel
theorem own_d_jdk_42_method_139_13 : decode jdk_42_method_139_code 13 = .ok (.new 10, 3) := by decide +kernel
theorem own_d_jdk_42_method_139_16 : decode jdk_42_method_139_code 16 = .ok (.dup, 1) := by decide +kernel
theorem own_d_jdk_42_method_139_17 : decode jdk_42_method_139_code 17 = .ok (.iload_n 0, 1) := by decide +kernel
theorem own_d_jdk_42_method_139_18 : decode jdk_42_method_139_code 18 = .ok (.invokestatic 1018, 3) := by decide +kernel
theorem own_pd1 : parseMethodDescriptor "(C)[B" = some ⟨[.char], some (.array .byte)⟩ := by decide +kernel
theorem own_d_jdk_42_method_139_21 : decode jdk_42_method_139_code 21 = .ok (.iconst 0, 1) := by decide +kernel
theorem own_d_jdk_42_method_139_22 : decode jdk_42_method_139_code 22 = .ok (.invokespecial 209, 3) := by decide +kernel
theorem own_pd2 : parseMethodDescriptor "([BB)V" = some ⟨[(.array .byte), .byte], none⟩ := by decide +kernel
theorem own_d_jdk_42_method_139_25 : decode jdk_42_method_139_code 25 = .ok (.areturn, 1) := by decide +kernel
def own_rm_own_vo : Room := ({ frames := 2, cells := 2, slots := 5, locals := 40 } : Room)
set_option maxRecDepth 65536 in
set_option maxHeartbeats 40000000 in
theorem own_vo (l : Launch) (Z : State) (a0 : Array Value) (hw : ∀ d ∈ tables_1, d.before a0 Z = true) (h : Heap) (n0 : Nat) (c cs : Int32) (hcs : cs.toInt ≠ 0) (hc : 0 ≤ c.toInt ∧ c.toInt ≤ 255)  (hn0 : n0 ≤ h.size) (Sc : Sta Z h "java/lang/String" "COMPACT_STRINGS" "Z" (.int cs)) :
    OwM l Z (⟨"java/lang/String", "valueOf", "(C)Ljava/lang/String;"⟩ : MethodName) jdk_42_method_139_code 1 (some (.object "java/lang/String")) own_rm_own_vo 2 5 [] #[(.int c)] h n0 (fun r h' => ∃ a, r = some (.ref a) ∧ OwT Z h' a c.toInt ∧ Ext h h') := by
  refine OwM.of (Ls := #[.val (.int c)]) (by decide +kernel) (fun m => by first | (simp [entryFrame, mkF, argsToLocals, Value.category]; done) | rfl) ?_
  intro _ _ _ _ _ _ _ X
  have K0 : Keep h h [] := Keep.refl _ _
  have e0 : (0 : Int32).toInt = 0 := rfl
  have e1 : (1 : Int32).toInt = 1 := rfl
  refine X.getS (q := 3) (hw _ (List.mem_of_getElem? (i := 15) rfl)) Via.refl Sc own_d_jdk_42_method_139_0 rfl ?_
  refine X.if_eq (q' := 26) (q := 6) own_d_jdk_42_method_139_3 rfl (by decide) rfl (fun c3 => ?_) (fun c3 => ?_)
  · omega
  · refine X.iloadN (q := 7) own_d_jdk_42_method_139_6 rfl rfl ?_
    refine X.callS (own_can l Z a0 hw h n0 c hc) (hw _ (List.mem_of_getElem? (i := 16) rfl)) (hw _ (List.mem_of_getElem? (i := 17) rfl)) (hw _ (List.mem_of_getElem? (i := 18) rfl)) (hw _ (List.mem_of_getElem? (i := 19) rfl)) (by decide) own_pd0 (argsL := [(.int c)]) (rest := []) rfl rfl rfl (W := 0) (Nat.le_of_eq rfl) rfl (by decide) (by decide) (k' := 0) (n' := 0) rfl rfl (by decide) (by decide) own_d_jdk_42_method_139_7 (q := 10) rfl ?_
    rintro _ _ ⟨rfl, rfl⟩
    show X.G h 0 0 10 #[.val (.int c)] [(.int (1 : Int32))]
    refine X.if_eq (a := 1) (q' := 26) (q := 13) own_d_jdk_42_method_139_10 rfl (by decide) rfl (fun c10 => ?_) (fun c10 => ?_)
    · omega
    · refine X.newO (q := 16) (k' := 1) (n' := 4) (hw _ (List.mem_of_getElem? (i := 20) rfl)) (hw _ (List.mem_of_getElem? (i := 21) rfl)) (hw _ (List.mem_of_getElem? (i := 13) rfl)) own_d_jdk_42_method_139_13 rfl rfl (by decide) (by decide) rfl (fun h1 a2 ga2 Eh1 Ba2 Da2 => ?_)
      have gea2 : n0 ≤ a2 := by rw [ga2]; exact hn0
      have hsh1 : n0 ≤ h1.size := Nat.le_trans hn0 Eh1.1
      have fra2 : h.size ≤ a2 := by rw [ga2]; exact K0.1
      have Kh1 : Keep h h1 [] := Keep.ext K0 Eh1
      have Fa2_value : Fld Z h1 a2 "java/lang/String" "value" "[B" .null := Da2 (Or.inr (hw _ (List.mem_of_getElem? (i := 34) rfl))) (ty := (.array .byte)) (by decide)
      have Fa2_coder : Fld Z h1 a2 "java/lang/String" "coder" "B" (.int (0 : Int32)) := Da2 (Or.inr (hw _ (List.mem_of_getElem? (i := 36) rfl))) (ty := .byte) (by decide)
      refine X.dup (q := 17) own_d_jdk_42_method_139_16 rfl rfl ?_
      refine X.iloadN (q := 18) own_d_jdk_42_method_139_17 rfl rfl ?_
      refine X.callS (own_tob l Z a0 hw h1 n0 c hsh1) (hw _ (List.mem_of_getElem? (i := 22) rfl)) (hw _ (List.mem_of_getElem? (i := 23) rfl)) (hw _ (List.mem_of_getElem? (i := 18) rfl)) (hw _ (List.mem_of_getElem? (i := 24) rfl)) (by decide) own_pd1 (argsL := [(.int c)]) (rest := [(.ref a2), (.ref a2)]) rfl rfl rfl (W := 2) (Nat.le_of_eq rfl) rfl (by decide) (by decide) (k' := 2) (n' := 5) rfl rfl (by decide) (by decide) own_d_jdk_42_method_139_18 (q := 21) rfl ?_
      rintro _ h3 ⟨b1, rfl, Ab1, Kh3c, hb1⟩
      have Ba2'h3 : Exa Z h3 a2 "java/lang/String" := Exa.keep Ba2 Kh3c
      have Fa2_value'h3 : Fld Z h3 a2 "java/lang/String" "value" "[B" .null := Fld.keep Fa2_value Kh3c nin0
      have Fa2_coder'h3 : Fld Z h3 a2 "java/lang/String" "coder" "B" (.int (0 : Int32)) := Fld.keep Fa2_coder Kh3c nin0
      have hsh3 : n0 ≤ h3.size := Nat.le_trans hsh1 Kh3c.1
      have Kh3 : Keep h h3 [] := Keep.trans Kh1 Kh3c all0
      show X.G h3 2 5 21 #[.val (.int c)] [(.ref b1), (.ref a2), (.ref a2)]
      have lab : a2 < b1 := Nat.lt_of_lt_of_le Ba2.lt hb1
      have frb1 : h.size ≤ b1 := Nat.le_trans Kh1.1 hb1
      refine X.iconst (q := 22) (0 : Int32) own_d_jdk_42_method_139_21 (by decide) rfl ?_
      refine X.special (a := a2) (own_si l Z a0 hw h3 n0 a2 b1 hsh3 Ba2'h3 Fa2_value'h3 Fa2_coder'h3 gea2) rfl (hw _ (List.mem_of_getElem? (i := 26) rfl)) (hw _ (List.mem_of_getElem? (i := 27) rfl)) (hw _ (List.mem_of_getElem? (i := 13) rfl)) (hw _ (List.mem_of_getElem? (i := 29) rfl)) (by decide) own_pd2 (argsL := [(.ref b1), (.int (0 : Int32))]) (rest := [(.ref a2)]) rfl rfl rfl (W := 1) (Nat.le_of_eq rfl) rfl (by decide) (by decide) (k' := 2) (n' := 5) rfl rfl (by decide) (by decide) own_d_jdk_42_method_139_22 (q := 25) rfl ?_
      rintro _ h4 ⟨rfl, Kh4c, Vh4, Ch4⟩
      have Ba2'h4 : Exa Z h4 a2 "java/lang/String" := Exa.keep Ba2'h3 Kh4c
      have Ab1'h4 : OwA Z h4 b1 .byte [.int c.toInt8.toInt32] := OwA.keep Ab1 Kh4c (ninS (Nat.ne_of_gt lab) nin0)
      have hsh4 : n0 ≤ h4.size := Nat.le_trans hsh3 Kh4c.1
      have Kh4 : Keep h h4 [] := Keep.trans Kh3 Kh4c (allS (Or.inr fra2) all0)
      show X.G h4 2 5 25 #[.val (.int c)] [(.ref a2)]
      refine X.retA (t := (.object "java/lang/String")) own_d_jdk_42_method_139_25 rfl rfl rfl rfl (by decide) (by decide) ?_
      exact ⟨_, rfl, ⟨_, Ba2'h4, Ch4, Vh4, by rw [own_by, if_neg (by omega), Int32.ofInt_toInt]; exact Ab1'h4⟩, own_ext0 Kh4⟩
theorem own_d_method_3_0 : decode method_3_code 0 = .ok (.iload_n 0, 1) := by decide +kernel
theorem own_d_method_3_1 : decode method_3_code 1 = .ok (.sipush 256, 3) := by decide +kernel
theorem own_d_method_3_4 : decode method_3_code 4 = .ok (.iand, 1) := by decide +kernel
theorem own_d_method_3_5 : decode method_3_code 5 = .ok (.ifCond .eq 6, 3) := by decide +kernel
theorem own_d_method_3_11 : decode method_3_code 11 = .ok (.iload_n 0, 1) := by decide +kernel
theorem own_d_method_3_12 : decode method_3_code 12 = .ok (.sipush 255, 3) := by decide +kernel
theorem own_d_method_3_15 : decode method_3_code 15 = .ok (.iand, 1) := by decide +kernel
theorem own_d_method_3_16 : decode method_3_code 16 = .ok (.i2c, 1) := by decide +kernel
theorem own_d_method_3_17 : decode method_3_code 17 = .ok (.invokestatic 11, 3) := by decide +kernel
theorem own_pd3 : parseMethodDescriptor "(C)Ljava/lang/String;" = some ⟨[.char], some (.object "java/lang/String")⟩ := by decide +kernel
theorem own_d_method_3_20 : decode method_3_code 20 = .ok (.areturn, 1) := by decide +kernel
theorem own_d_method_3_8 : decode method_3_code 8 = .ok (.ldc 9, 2) := by decide +kernel
theorem own_text0 : (∀ c ∈ ("" : String).toList, c.toNat < 256) ∧ ("" : String).toList.map (fun c => Value.int (Jvm.Lit.byteI c.toNat.toUInt16)) = [] := by decide +kernel
theorem own_d_method_3_10 : decode method_3_code 10 = .ok (.areturn, 1) := by decide +kernel
def own_rm_own_tx : Room := ({ frames := 3, cells := 2, slots := 5, locals := 70 } : Room)
set_option maxRecDepth 65536 in
set_option maxHeartbeats 40000000 in
theorem own_tx (l : Launch) (Z : State) (a0 : Array Value) (hw : ∀ d ∈ tables_1, d.before a0 Z = true) (h : Heap) (n0 : Nat) (c cs : Int32) (hcs : cs.toInt ≠ 0) (hc : 0 ≤ c.toInt ∧ c.toInt ≤ 511)  (hn0 : n0 ≤ h.size) (Sc : Sta Z h "java/lang/String" "COMPACT_STRINGS" "Z" (.int cs)) :
    OwN l Z consts_1 (⟨"com/example/utando/utando/archive/PageMetaEqualsPinLaw", "text", "(I)Ljava/lang/String;"⟩ : MethodName) method_3_code 1 (some (.object "java/lang/String")) own_rm_own_tx 2 5 [] #[(.int c)] h n0 (fun r h' => ∃ a, r = some (.ref a) ∧ OwT Z h' a (own_norm c.toInt) ∧ Ext h h') := by
  refine OwN.of (own_EW hw) (Ls := #[.val (.int c)]) (by decide +kernel) (fun m => by first | (simp [entryFrame, mkF, argsToLocals, Value.category]; done) | rfl) ?_
  intro _ _ _ _ _ _ _ X HK
  have e0 : (0 : Int32).toInt = 0 := rfl
  have e1 : (1 : Int32).toInt = 1 := rfl
  refine X.iloadN (q := 1) own_d_method_3_0 rfl rfl ?_
  refine X.sipush (q := 4) (256 : Int32) own_d_method_3_1 (by decide) rfl ?_
  refine X.iand (q := 5) own_d_method_3_4 rfl ?_
  refine X.nmI (fun t ht => ?_)
  have ht_ : t.toInt = if 256 ≤ c.toInt then 256 else 0 := by rw [ht]; exact own_m256 c hc.1 hc.2
  have ht0 : t.toInt = 0 ↔ c.toInt < 256 := by split at ht_ <;> omega
  refine X.if_eq (q' := 11) (q := 8) own_d_method_3_5 rfl (by decide) rfl (fun c5 => ?_) (fun c5 => ?_)
  · refine X.iloadN (q := 12) own_d_method_3_11 rfl rfl ?_
    refine X.sipush (q := 15) (255 : Int32) own_d_method_3_12 (by decide) rfl ?_
    refine X.iand (q := 16) own_d_method_3_15 rfl ?_
    refine X.i2c (q := 17) own_d_method_3_16 rfl ?_
    refine X.nmI (fun cv hcv => ?_)
    have hcv : cv.toInt = c.toInt := by rw [hcv, own_c16, Jvm.Kit.i32_mask (k := 8) _ _ (by decide) (by decide)]; omega
    refine X.callS (own_vo l Z a0 hw h n0 cv cs hcs (by omega) hn0 Sc) (hw _ (List.mem_of_getElem? (i := 11) rfl)) (hw _ (List.mem_of_getElem? (i := 12) rfl)) (hw _ (List.mem_of_getElem? (i := 13) rfl)) (hw _ (List.mem_of_getElem? (i := 14) rfl)) (by decide) own_pd3 (argsL := [(.int cv)]) (rest := []) rfl rfl rfl (W := 0) (Nat.le_of_eq rfl) rfl (by decide) (by decide) (k' := 2) (n' := 5) rfl rfl (by decide) (by decide) own_d_method_3_17 (q := 20) rfl ?_
    rintro _ h2 ⟨av, rfl, Tv, Ev⟩
    have HK2 := OwK.ext HK Ev
    show X.G h2 2 5 20 #[.val (.int c)] [(.ref av)]
    refine X.retA (t := (.object "java/lang/String")) HK2 own_d_method_3_20 rfl rfl rfl rfl (by decide) (by decide) ?_
    exact ⟨_, rfl, by rw [own_norm, if_neg (by omega), ← hcv]; exact Tv, Ev⟩
  · refine X.ldcS (q := 10) (vs := []) (nb := 0) (k' := 2) (n' := 4) HK (hw _ (List.mem_of_getElem? (i := 83) rfl)) (own_wS hw) (List.mem_of_getElem? (i := 4) rfl) own_text0 own_d_method_3_8 (by decide) (by decide) rfl rfl (by decide) (by decide) rfl (fun _ X h1 a2 b3 Eh1 HKh1 Ba2 Ca2 Va2 Ab3 nea2 => ?_)
    have Sc'h1 : Sta Z h1 "java/lang/String" "COMPACT_STRINGS" "Z" (.int cs) := Sta.ext Eh1 Sc
    have hsh1 : n0 ≤ h1.size := Nat.le_trans hn0 Eh1.1
    refine X.retA (t := (.object "java/lang/String")) HKh1 own_d_method_3_10 rfl rfl rfl rfl (by decide) (by decide) ?_
    exact ⟨_, rfl, ⟨_, Ba2, Ca2, Va2, by rw [own_norm, if_pos (by omega)]; exact Ab3⟩, Eh1⟩
theorem own_d_jdk_31_method_11_0 : decode jdk_31_method_11_code 0 = .ok (.aload_n 0, 1) := by decide +kernel
theorem own_d_jdk_31_method_11_1 : decode jdk_31_method_11_code 1 = .ok (.ifnonnull 12, 3) := by decide +kernel
theorem own_d_jdk_31_method_11_13 : decode jdk_31_method_11_code 13 = .ok (.aload_n 0, 1) := by decide +kernel
theorem own_d_jdk_31_method_11_14 : decode jdk_31_method_11_code 14 = .ok (.areturn, 1) := by decide +kernel
def own_rm_own_rnn : Room := ({ frames := 0, cells := 0, slots := 0, locals := 0 } : Room)
set_option maxRecDepth 65536 in
set_option maxHeartbeats 40000000 in
theorem own_rnn (l : Launch) (Z : State) (a0 : Array Value) (hw : ∀ d ∈ tables_1, d.before a0 Z = true) (h : Heap) (n0 : Nat) (a b : Addr)  :
    OwM l Z (⟨"java/util/Objects", "requireNonNull", "(Ljava/lang/Object;Ljava/lang/String;)Ljava/lang/Object;"⟩ : MethodName) jdk_31_method_11_code 2 (some (.object "java/lang/Object")) own_rm_own_rnn 0 0 [] #[(.ref a), (.ref b)] h n0 (fun r h' => r = some (.ref a) ∧ h = h') := by
  refine OwM.of (Ls := #[.val (.ref a), .val (.ref b)]) (by decide +kernel) (fun m => by first | (simp [entryFrame, mkF, argsToLocals, Value.category]; done) | rfl) ?_
  intro _ _ _ _ _ _ _ X
  refine X.aloadN (q := 1) own_d_jdk_31_method_11_0 rfl rfl rfl ?_
  refine X.ifnonnullT (q' := 13) own_d_jdk_31_method_11_1 (by decide) ?_
  refine X.aloadN (q := 14) own_d_jdk_31_method_11_13 rfl rfl rfl ?_
  refine X.retA (t := (.object "java/lang/Object")) own_d_jdk_31_method_11_14 rfl rfl rfl rfl (by decide) (by decide) ?_
  exact ⟨rfl, rfl⟩
theorem own_d_prog_6_method_1_0 : decode prog_6_method_1_code 0 = .ok (.aload_n 0, 1) := by decide +kernel
theorem own_d_prog_6_method_1_1 : decode prog_6_method_1_code 1 = .ok (.invokespecial 1, 3) := by decide +kernel
theorem own_d_prog_6_method_1_4 : decode prog_6_method_1_code 4 = .ok (.aload_n 0, 1) := by decide +kernel
theorem own_d_prog_6_method_1_5 : decode prog_6_method_1_code 5 = .ok (.aload_n 1, 1) := by decide +kernel
theorem own_d_prog_6_method_1_6 : decode prog_6_method_1_code 6 = .ok (.ldc 7, 2) := by decide +kernel
theorem own_text1 : (∀ c ∈ ("url is null" : String).toList, c.toNat < 256) ∧ ("url is null" : String).toList.map (fun c => Value.int (Jvm.Lit.byteI c.toNat.toUInt16)) = [(.int (117 : Int32)), (.int (114 : Int32)), (.int (108 : Int32)), (.int (32 : Int32)), (.int (105 : Int32)), (.int (115 : Int32)), (.int (32 : Int32)), (.int (110 : Int32)), (.int (117 : Int32)), (.int (108 : Int32)), (.int (108 : Int32))] := by decide +kernel
theorem own_d_prog_6_method_1_8 : decode prog_6_method_1_code 8 = .ok (.invokestatic 9, 3) := by decide +kernel
theorem own_pd4 : parseMethodDescriptor "(Ljava/lang/Object;Ljava/lang/String;)Ljava/lang/Object;" = some ⟨[(.object "java/lang/Object"), (.object "java/lang/String")], some (.object "java/lang/Object")⟩ := by decide +kernel
theorem own_d_prog_6_method_1_11 : decode prog_6_method_1_code 11 = .ok (.checkcast 15, 3) := by decide +kernel
theorem own_d_prog_6_method_1_14 : decode prog_6_method_1_code 14 = .ok (.putfield 17, 3) := by decide +kernel
theorem own_d_prog_6_method_1_17 : decode prog_6_method_1_code 17 = .ok (.aload_n 0, 1) := by decide +kernel
theorem own_d_prog_6_method_1_18 : decode prog_6_method_1_code 18 = .ok (.aload_n 2, 1) := by decide +kernel
theorem own_d_prog_6_method_1_19 : decode prog_6_method_1_code 19 = .ok (.ldc 23, 2) := by decide +kernel
theorem own_text2 : (∀ c ∈ ("title is null" : String).toList, c.toNat < 256) ∧ ("title is null" : String).toList.map (fun c => Value.int (Jvm.Lit.byteI c.toNat.toUInt16)) = [(.int (116 : Int32)), (.int (105 : Int32)), (.int (116 : Int32)), (.int (108 : Int32)), (.int (101 : Int32)), (.int (32 : Int32)), (.int (105 : Int32)), (.int (115 : Int32)), (.int (32 : Int32)), (.int (110 : Int32)), (.int (117 : Int32)), (.int (108 : Int32)), (.int (108 : Int32))] := by decide +kernel
theorem own_d_prog_6_method_1_21 : decode prog_6_method_1_code 21 = .ok (.invokestatic 9, 3) := by decide +kernel
theorem own_d_prog_6_method_1_24 : decode prog_6_method_1_code 24 = .ok (.checkcast 15, 3) := by decide +kernel
theorem own_d_prog_6_method_1_27 : decode prog_6_method_1_code 27 = .ok (.putfield 25, 3) := by decide +kernel
theorem own_d_prog_6_method_1_30 : decode prog_6_method_1_code 30 = .ok (.aload_n 0, 1) := by decide +kernel
theorem own_d_prog_6_method_1_31 : decode prog_6_method_1_code 31 = .ok (.aload_n 3, 1) := by decide +kernel
theorem own_d_prog_6_method_1_32 : decode prog_6_method_1_code 32 = .ok (.ldc 28, 2) := by decide +kernel
theorem own_text3 : (∀ c ∈ ("path is null" : String).toList, c.toNat < 256) ∧ ("path is null" : String).toList.map (fun c => Value.int (Jvm.Lit.byteI c.toNat.toUInt16)) = [(.int (112 : Int32)), (.int (97 : Int32)), (.int (116 : Int32)), (.int (104 : Int32)), (.int (32 : Int32)), (.int (105 : Int32)), (.int (115 : Int32)), (.int (32 : Int32)), (.int (110 : Int32)), (.int (117 : Int32)), (.int (108 : Int32)), (.int (108 : Int32))] := by decide +kernel
theorem own_d_prog_6_method_1_34 : decode prog_6_method_1_code 34 = .ok (.invokestatic 9, 3) := by decide +kernel
theorem own_d_prog_6_method_1_37 : decode prog_6_method_1_code 37 = .ok (.checkcast 15, 3) := by decide +kernel
theorem own_d_prog_6_method_1_40 : decode prog_6_method_1_code 40 = .ok (.putfield 30, 3) := by decide +kernel
theorem own_d_prog_6_method_1_43 : decode prog_6_method_1_code 43 = .ok (.aload_n 0, 1) := by decide +kernel
theorem own_d_prog_6_method_1_44 : decode prog_6_method_1_code 44 = .ok (.lload 4, 2) := by decide +kernel
theorem own_d_prog_6_method_1_46 : decode prog_6_method_1_code 46 = .ok (.putfield 33, 3) := by decide +kernel
theorem own_d_prog_6_method_1_49 : decode prog_6_method_1_code 49 = .ok (.aload_n 0, 1) := by decide +kernel
theorem own_d_prog_6_method_1_50 : decode prog_6_method_1_code 50 = .ok (.aload 6, 2) := by decide +kernel
theorem own_d_prog_6_method_1_52 : decode prog_6_method_1_code 52 = .ok (.ldc 37, 2) := by decide +kernel
theorem own_text4 : (∀ c ∈ ("commitTag is null" : String).toList, c.toNat < 256) ∧ ("commitTag is null" : String).toList.map (fun c => Value.int (Jvm.Lit.byteI c.toNat.toUInt16)) = [(.int (99 : Int32)), (.int (111 : Int32)), (.int (109 : Int32)), (.int (109 : Int32)), (.int (105 : Int32)), (.int (116 : Int32)), (.int (84 : Int32)), (.int (97 : Int32)), (.int (103 : Int32)), (.int (32 : Int32)), (.int (105 : Int32)), (.int (115 : Int32)), (.int (32 : Int32)), (.int (110 : Int32)), (.int (117 : Int32)), (.int (108 : Int32)), (.int (108 : Int32))] := by decide +kernel
theorem own_d_prog_6_method_1_54 : decode prog_6_method_1_code 54 = .ok (.invokestatic 9, 3) := by decide +kernel
theorem own_d_prog_6_method_1_57 : decode prog_6_method_1_code 57 = .ok (.checkcast 15, 3) := by decide +kernel
theorem own_d_prog_6_method_1_60 : decode prog_6_method_1_code 60 = .ok (.putfield 39, 3) := by decide +kernel
theorem own_d_prog_6_method_1_63 : decode prog_6_method_1_code 63 = .ok (.return_, 1) := by decide +kernel
def own_rm_own_ct : Room := ({ frames := 1, cells := 8, slots := 228, locals := 40 } : Room)
set_option maxRecDepth 65536 in
set_option maxHeartbeats 40000000 in
theorem own_ct (l : Launch) (Z : State) (a0 : Array Value) (hw : ∀ d ∈ tables_1, d.before a0 Z = true) (h : Heap) (n0 : Nat) (a s1 s2 s3 s4 : Addr) (t : Int64)  (hn0 : n0 ≤ h.size) (FX : Exa Z h a "com/example/utando/utando/archive/PageMeta") (Furl : Fld Z h a "com/example/utando/utando/archive/PageMeta" "url" "Ljava/lang/String;" .null) (Ftitle : Fld Z h a "com/example/utando/utando/archive/PageMeta" "title" "Ljava/lang/String;" .null) (Fpath : Fld Z h a "com/example/utando/utando/archive/PageMeta" "path" "Ljava/lang/String;" .null) (FcrawlTime : Fld Z h a "com/example/utando/utando/archive/PageMeta" "crawlTime" "J" (.long (0 : Int64))) (FcommitTag : Fld Z h a "com/example/utando/utando/archive/PageMeta" "commitTag" "Ljava/lang/String;" .null) (X1 : Exa Z h s1 "java/lang/String") (X2 : Exa Z h s2 "java/lang/String") (X3 : Exa Z h s3 "java/lang/String") (X4 : Exa Z h s4 "java/lang/String") (gea : n0 ≤ a) :
    OwN l Z consts_1 (⟨"com/example/utando/utando/archive/PageMeta", "<init>", "(Ljava/lang/String;Ljava/lang/String;Ljava/lang/String;JLjava/lang/String;)V"⟩ : MethodName) prog_6_method_1_code 7 none own_rm_own_ct 8 228 [] #[(.ref a), (.ref s1), (.ref s2), (.ref s3), (.long t), (.ref s4)] h n0 (fun r h' => r = none ∧ Keep h h' [a] ∧ Exa Z h' a "com/example/utando/utando/archive/PageMeta" ∧ Fld Z h' a "com/example/utando/utando/archive/PageMeta" "url" "Ljava/lang/String;" (.ref s1) ∧ Fld Z h' a "com/example/utando/utando/archive/PageMeta" "title" "Ljava/lang/String;" (.ref s2) ∧ Fld Z h' a "com/example/utando/utando/archive/PageMeta" "path" "Ljava/lang/String;" (.ref s3) ∧ Fld Z h' a "com/example/utando/utando/archive/PageMeta" "crawlTime" "J" (.long t) ∧ Fld Z h' a "com/example/utando/utando/archive/PageMeta" "commitTag" "Ljava/lang/String;" (.ref s4)) := by
  refine OwN.of (own_EW hw) (Ls := #[.val (.ref a), .val (.ref s1), .val (.ref s2), .val (.ref s3), .val (.long t), .second, .val (.ref s4)]) (by decide +kernel) (fun m => by first | (simp [entryFrame, mkF, argsToLocals, Value.category]; done) | rfl) ?_
  intro _ _ _ _ _ _ _ X HK
  have K0 : Keep h h [a] := Keep.refl _ _
  refine X.aloadN (q := 1) own_d_prog_6_method_1_0 rfl rfl rfl ?_
  refine X.initO (q := 4) (W := 0) (hw _ (List.mem_of_getElem? (i := 43) rfl)) (hw _ (List.mem_of_getElem? (i := 31) rfl)) (hw _ (List.mem_of_getElem? (i := 32) rfl)) own_d_prog_6_method_1_1 rfl (by decide) (Nat.le_of_eq rfl) (by decide) rfl ?_
  refine X.aloadN (q := 5) own_d_prog_6_method_1_4 rfl rfl rfl ?_
  refine X.aloadN (q := 6) own_d_prog_6_method_1_5 rfl rfl rfl ?_
  refine X.ldcS (q := 8) (vs := [(.int (117 : Int32)), (.int (114 : Int32)), (.int (108 : Int32)), (.int (32 : Int32)), (.int (105 : Int32)), (.int (115 : Int32)), (.int (32 : Int32)), (.int (110 : Int32)), (.int (117 : Int32)), (.int (108 : Int32)), (.int (108 : Int32))]) (nb := 44) (k' := 2) (n' := 48) HK (hw _ (List.mem_of_getElem? (i := 44) rfl)) (own_wS hw) (List.mem_of_getElem? (i := 0) rfl) own_text1 own_d_prog_6_method_1_6 (by decide) (by decide) rfl rfl (by decide) (by decide) rfl (fun _ X h1 a2 b3 Eh1 HKh1 Ba2 Ca2 Va2 Ab3 nea2 => ?_)
  have FX'h1 : Exa Z h1 a "com/example/utando/utando/archive/PageMeta" := Exa.ext Eh1 FX
  have Furl'h1 : Fld Z h1 a "com/example/utando/utando/archive/PageMeta" "url" "Ljava/lang/String;" .null := Fld.ext Eh1 Furl
  have Ftitle'h1 : Fld Z h1 a "com/example/utando/utando/archive/PageMeta" "title" "Ljava/lang/String;" .null := Fld.ext Eh1 Ftitle
  have Fpath'h1 : Fld Z h1 a "com/example/utando/utando/archive/PageMeta" "path" "Ljava/lang/String;" .null := Fld.ext Eh1 Fpath
  have FcrawlTime'h1 : Fld Z h1 a "com/example/utando/utando/archive/PageMeta" "crawlTime" "J" (.long (0 : Int64)) := Fld.ext Eh1 FcrawlTime
  have FcommitTag'h1 : Fld Z h1 a "com/example/utando/utando/archive/PageMeta" "commitTag" "Ljava/lang/String;" .null := Fld.ext Eh1 FcommitTag
  have X1'h1 : Exa Z h1 s1 "java/lang/String" := Exa.ext Eh1 X1
  have X2'h1 : Exa Z h1 s2 "java/lang/String" := Exa.ext Eh1 X2
  have X3'h1 : Exa Z h1 s3 "java/lang/String" := Exa.ext Eh1 X3
  have X4'h1 : Exa Z h1 s4 "java/lang/String" := Exa.ext Eh1 X4
  have hsh1 : n0 ≤ h1.size := Nat.le_trans hn0 Eh1.1
  have Kh1 : Keep h h1 [a] := Keep.ext K0 Eh1
  refine X.callS (own_rnn l Z a0 hw h1 n0 s1 a2) (hw _ (List.mem_of_getElem? (i := 47) rfl)) (hw _ (List.mem_of_getElem? (i := 48) rfl)) (hw _ (List.mem_of_getElem? (i := 49) rfl)) (hw _ (List.mem_of_getElem? (i := 50) rfl)) (by decide) own_pd4 (argsL := [(.ref s1), (.ref a2)]) (rest := [(.ref a)]) rfl rfl rfl (W := 1) (Nat.le_of_eq rfl) rfl (by decide) (by decide) (k' := 2) (n' := 48) rfl rfl (by decide) (by decide) own_d_prog_6_method_1_8 (q := 11) rfl ?_
  rintro _ _ ⟨rfl, rfl⟩
  show X.G h1 2 48 11 #[.val (.ref a), .val (.ref s1), .val (.ref s2), .val (.ref s3), .val (.long t), .second, .val (.ref s4)] [(.ref s1), (.ref a)]
  refine X.cast (q := 14) (hw _ (List.mem_of_getElem? (i := 51) rfl)) (hw _ (List.mem_of_getElem? (i := 28) rfl)) X1'h1 own_d_prog_6_method_1_11 rfl ?_
  refine X.putF (q := 17) (host := "") (Or.inl (hw _ (List.mem_of_getElem? (i := 52) rfl))) Via.refl Furl'h1 FX'h1 (Or.inr ⟨(hw _ (List.mem_of_getElem? (i := 53) rfl)), rfl, rfl⟩) (hw _ (List.mem_of_getElem? (i := 38) rfl)) (ty := (.object "java/lang/String")) (by decide) rfl rfl gea own_d_prog_6_method_1_14 rfl (fun h4 Wh4 => ?_)
  have FX'h4 : Exa Z h4 a "com/example/utando/utando/archive/PageMeta" := Exa.wr Wh4 FX'h1
  have Furl'h4 : Fld Z h4 a "com/example/utando/utando/archive/PageMeta" "url" "Ljava/lang/String;" (.ref s1) := Fld.same Wh4 Furl'h1
  have Ftitle'h4 : Fld Z h4 a "com/example/utando/utando/archive/PageMeta" "title" "Ljava/lang/String;" .null := Fld.other Wh4 Ftitle'h1 (Or.inr (slot_ne (Or.inr (hw _ (List.mem_of_getElem? (i := 56) rfl))) (Or.inr (hw _ (List.mem_of_getElem? (i := 53) rfl))) (by decide) (ht := (by decide : _ = some (.object "java/lang/String"))) (ht' := (by decide : _ = some (.object "java/lang/String")))))
  have Fpath'h4 : Fld Z h4 a "com/example/utando/utando/archive/PageMeta" "path" "Ljava/lang/String;" .null := Fld.other Wh4 Fpath'h1 (Or.inr (slot_ne (Or.inr (hw _ (List.mem_of_getElem? (i := 59) rfl))) (Or.inr (hw _ (List.mem_of_getElem? (i := 53) rfl))) (by decide) (ht := (by decide : _ = some (.object "java/lang/String"))) (ht' := (by decide : _ = some (.object "java/lang/String")))))
  have FcrawlTime'h4 : Fld Z h4 a "com/example/utando/utando/archive/PageMeta" "crawlTime" "J" (.long (0 : Int64)) := Fld.other Wh4 FcrawlTime'h1 (Or.inr (slot_ne (Or.inr (hw _ (List.mem_of_getElem? (i := 61) rfl))) (Or.inr (hw _ (List.mem_of_getElem? (i := 53) rfl))) (by decide) (ht := (by decide : _ = some .long)) (ht' := (by decide : _ = some (.object "java/lang/String")))))
  have FcommitTag'h4 : Fld Z h4 a "com/example/utando/utando/archive/PageMeta" "commitTag" "Ljava/lang/String;" .null := Fld.other Wh4 FcommitTag'h1 (Or.inr (slot_ne (Or.inr (hw _ (List.mem_of_getElem? (i := 64) rfl))) (Or.inr (hw _ (List.mem_of_getElem? (i := 53) rfl))) (by decide) (ht := (by decide : _ = some (.object "java/lang/String"))) (ht' := (by decide : _ = some (.object "java/lang/String")))))
  have X1'h4 : Exa Z h4 s1 "java/lang/String" := Exa.wr Wh4 X1'h1
  have X2'h4 : Exa Z h4 s2 "java/lang/String" := Exa.wr Wh4 X2'h1
  have X3'h4 : Exa Z h4 s3 "java/lang/String" := Exa.wr Wh4 X3'h1
  have X4'h4 : Exa Z h4 s4 "java/lang/String" := Exa.wr Wh4 X4'h1
  have hsh4 : n0 ≤ h4.size := by rw [Wr.size Wh4]; exact hsh1
  have HKh4 := OwK.wr HKh1 Wh4 (Safe.exa X.2.2.2.2.1.alike FX'h1 (by decide) (by decide))
  have Kh4 : Keep h h4 [a] := Keep.wr Kh1 Wh4 (Or.inl (List.mem_of_getElem? (i := 0) rfl))
  refine X.aloadN (q := 18) own_d_prog_6_method_1_17 rfl rfl rfl ?_
  refine X.aloadN (q := 19) own_d_prog_6_method_1_18 rfl rfl rfl ?_
  refine X.ldcS (q := 21) (vs := [(.int (116 : Int32)), (.int (105 : Int32)), (.int (116 : Int32)), (.int (108 : Int32)), (.int (101 : Int32)), (.int (32 : Int32)), (.int (105 : Int32)), (.int (115 : Int32)), (.int (32 : Int32)), (.int (110 : Int32)), (.int (117 : Int32)), (.int (108 : Int32)), (.int (108 : Int32))]) (nb := 52) (k' := 4) (n' := 104) HKh4 (hw _ (List.mem_of_getElem? (i := 54) rfl)) (own_wS hw) (List.mem_of_getElem? (i := 1) rfl) own_text2 own_d_prog_6_method_1_19 (by decide) (by decide) rfl rfl (by decide) (by decide) rfl (fun _ X h5 a6 b7 Eh5 HKh5 Ba6 Ca6 Va6 Ab7 nea6 => ?_)
  have FX'h5 : Exa Z h5 a "com/example/utando/utando/archive/PageMeta" := Exa.ext Eh5 FX'h4
  have Furl'h5 : Fld Z h5 a "com/example/utando/utando/archive/PageMeta" "url" "Ljava/lang/String;" (.ref s1) := Fld.ext Eh5 Furl'h4
  have Ftitle'h5 : Fld Z h5 a "com/example/utando/utando/archive/PageMeta" "title" "Ljava/lang/String;" .null := Fld.ext Eh5 Ftitle'h4
  have Fpath'h5 : Fld Z h5 a "com/example/utando/utando/archive/PageMeta" "path" "Ljava/lang/String;" .null := Fld.ext Eh5 Fpath'h4
  have FcrawlTime'h5 : Fld Z h5 a "com/example/utando/utando/archive/PageMeta" "crawlTime" "J" (.long (0 : Int64)) := Fld.ext Eh5 FcrawlTime'h4
  have FcommitTag'h5 : Fld Z h5 a "com/example/utando/utando/archive/PageMeta" "commitTag" "Ljava/lang/String;" .null := Fld.ext Eh5 FcommitTag'h4
  have X1'h5 : Exa Z h5 s1 "java/lang/String" := Exa.ext Eh5 X1'h4
  have X2'h5 : Exa Z h5 s2 "java/lang/String" := Exa.ext Eh5 X2'h4
  have X3'h5 : Exa Z h5 s3 "java/lang/String" := Exa.ext Eh5 X3'h4
  have X4'h5 : Exa Z h5 s4 "java/lang/String" := Exa.ext Eh5 X4'h4
  have hsh5 : n0 ≤ h5.size := Nat.le_trans hsh4 Eh5.1
  have Kh5 : Keep h h5 [a] := Keep.ext Kh4 Eh5
  refine X.callS (own_rnn l Z a0 hw h5 n0 s2 a6) (hw _ (List.mem_of_getElem? (i := 47) rfl)) (hw _ (List.mem_of_getElem? (i := 48) rfl)) (hw _ (List.mem_of_getElem? (i := 49) rfl)) (hw _ (List.mem_of_getElem? (i := 50) rfl)) (by decide) own_pd4 (argsL := [(.ref s2), (.ref a6)]) (rest := [(.ref a)]) rfl rfl rfl (W := 1) (Nat.le_of_eq rfl) rfl (by decide) (by decide) (k' := 4) (n' := 104) rfl rfl (by decide) (by decide) own_d_prog_6_method_1_21 (q := 24) rfl ?_
  rintro _ _ ⟨rfl, rfl⟩
  show X.G h5 4 104 24 #[.val (.ref a), .val (.ref s1), .val (.ref s2), .val (.ref s3), .val (.long t), .second, .val (.ref s4)] [(.ref s2), (.ref a)]
  refine X.cast (q := 27) (hw _ (List.mem_of_getElem? (i := 51) rfl)) (hw _ (List.mem_of_getElem? (i := 28) rfl)) X2'h5 own_d_prog_6_method_1_24 rfl ?_
  refine X.putF (q := 30) (host := "") (Or.inl (hw _ (List.mem_of_getElem? (i := 55) rfl))) Via.refl Ftitle'h5 FX'h5 (Or.inr ⟨(hw _ (List.mem_of_getElem? (i := 56) rfl)), rfl, rfl⟩) (hw _ (List.mem_of_getElem? (i := 38) rfl)) (ty := (.object "java/lang/String")) (by decide) rfl rfl gea own_d_prog_6_method_1_27 rfl (fun h8 Wh8 => ?_)
  have FX'h8 : Exa Z h8 a "com/example/utando/utando/archive/PageMeta" := Exa.wr Wh8 FX'h5
  have Furl'h8 : Fld Z h8 a "com/example/utando/utando/archive/PageMeta" "url" "Ljava/lang/String;" (.ref s1) := Fld.other Wh8 Furl'h5 (Or.inr (slot_ne (Or.inr (hw _ (List.mem_of_getElem? (i := 53) rfl))) (Or.inr (hw _ (List.mem_of_getElem? (i := 56) rfl))) (by decide) (ht := (by decide : _ = some (.object "java/lang/String"))) (ht' := (by decide : _ = some (.object "java/lang/String")))))
  have Ftitle'h8 : Fld Z h8 a "com/example/utando/utando/archive/PageMeta" "title" "Ljava/lang/String;" (.ref s2) := Fld.same Wh8 Ftitle'h5
  have Fpath'h8 : Fld Z h8 a "com/example/utando/utando/archive/PageMeta" "path" "Ljava/lang/String;" .null := Fld.other Wh8 Fpath'h5 (Or.inr (slot_ne (Or.inr (hw _ (List.mem_of_getElem? (i := 59) rfl))) (Or.inr (hw _ (List.mem_of_getElem? (i := 56) rfl))) (by decide) (ht := (by decide : _ = some (.object "java/lang/String"))) (ht' := (by decide : _ = some (.object "java/lang/String")))))
  have FcrawlTime'h8 : Fld Z h8 a "com/example/utando/utando/archive/PageMeta" "crawlTime" "J" (.long (0 : Int64)) := Fld.other Wh8 FcrawlTime'h5 (Or.inr (slot_ne (Or.inr (hw _ (List.mem_of_getElem? (i := 61) rfl))) (Or.inr (hw _ (List.mem_of_getElem? (i := 56) rfl))) (by decide) (ht := (by decide : _ = some .long)) (ht' := (by decide : _ = some (.object "java/lang/String")))))
  have FcommitTag'h8 : Fld Z h8 a "com/example/utando/utando/archive/PageMeta" "commitTag" "Ljava/lang/String;" .null := Fld.other Wh8 FcommitTag'h5 (Or.inr (slot_ne (Or.inr (hw _ (List.mem_of_getElem? (i := 64) rfl))) (Or.inr (hw _ (List.mem_of_getElem? (i := 56) rfl))) (by decide) (ht := (by decide : _ = some (.object "java/lang/String"))) (ht' := (by decide : _ = some (.object "java/lang/String")))))
  have X1'h8 : Exa Z h8 s1 "java/lang/String" := Exa.wr Wh8 X1'h5
  have X2'h8 : Exa Z h8 s2 "java/lang/String" := Exa.wr Wh8 X2'h5
  have X3'h8 : Exa Z h8 s3 "java/lang/String" := Exa.wr Wh8 X3'h5
  have X4'h8 : Exa Z h8 s4 "java/lang/String" := Exa.wr Wh8 X4'h5
  have hsh8 : n0 ≤ h8.size := by rw [Wr.size Wh8]; exact hsh5
  have HKh8 := OwK.wr HKh5 Wh8 (Safe.exa X.2.2.2.2.1.alike FX'h5 (by decide) (by decide))
  have Kh8 : Keep h h8 [a] := Keep.wr Kh5 Wh8 (Or.inl (List.mem_of_getElem? (i := 0) rfl))
  refine X.aloadN (q := 31) own_d_prog_6_method_1_30 rfl rfl rfl ?_
  refine X.aloadN (q := 32) own_d_prog_6_method_1_31 rfl rfl rfl ?_
  refine X.ldcS (q := 34) (vs := [(.int (112 : Int32)), (.int (97 : Int32)), (.int (116 : Int32)), (.int (104 : Int32)), (.int (32 : Int32)), (.int (105 : Int32)), (.int (115 : Int32)), (.int (32 : Int32)), (.int (110 : Int32)), (.int (117 : Int32)), (.int (108 : Int32)), (.int (108 : Int32))]) (nb := 48) (k' := 6) (n' := 156) HKh8 (hw _ (List.mem_of_getElem? (i := 57) rfl)) (own_wS hw) (List.mem_of_getElem? (i := 2) rfl) own_text3 own_d_prog_6_method_1_32 (by decide) (by decide) rfl rfl (by decide) (by decide) rfl (fun _ X h9 a10 b11 Eh9 HKh9 Ba10 Ca10 Va10 Ab11 nea10 => ?_)
  have FX'h9 : Exa Z h9 a "com/example/utando/utando/archive/PageMeta" := Exa.ext Eh9 FX'h8
  have Furl'h9 : Fld Z h9 a "com/example/utando/utando/archive/PageMeta" "url" "Ljava/lang/String;" (.ref s1) := Fld.ext Eh9 Furl'h8
  have Ftitle'h9 : Fld Z h9 a "com/example/utando/utando/archive/PageMeta" "title" "Ljava/lang/String;" (.ref s2) := Fld.ext Eh9 Ftitle'h8
  have Fpath'h9 : Fld Z h9 a "com/example/utando/utando/archive/PageMeta" "path" "Ljava/lang/String;" .null := Fld.ext Eh9 Fpath'h8
  have FcrawlTime'h9 : Fld Z h9 a "com/example/utando/utando/archive/PageMeta" "crawlTime" "J" (.long (0 : Int64)) := Fld.ext Eh9 FcrawlTime'h8
  have FcommitTag'h9 : Fld Z h9 a "com/example/utando/utando/archive/PageMeta" "commitTag" "Ljava/lang/String;" .null := Fld.ext Eh9 FcommitTag'h8
  have X1'h9 : Exa Z h9 s1 "java/lang/String" := Exa.ext Eh9 X1'h8
  have X2'h9 : Exa Z h9 s2 "java/lang/String" := Exa.ext Eh9 X2'h8
  have X3'h9 : Exa Z h9 s3 "java/lang/String" := Exa.ext Eh9 X3'h8
  have X4'h9 : Exa Z h9 s4 "java/lang/String" := Exa.ext Eh9 X4'h8
  have hsh9 : n0 ≤ h9.size := Nat.le_trans hsh8 Eh9.1
  have Kh9 : Keep h h9 [a] := Keep.ext Kh8 Eh9
  refine X.callS (own_rnn l Z a0 hw h9 n0 s3 a10) (hw _ (List.mem_of_getElem? (i := 47) rfl)) (hw _ (List.mem_of_getElem? (i := 48) rfl)) (hw _ (List.mem_of_getElem? (i := 49) rfl)) (hw _ (List.mem_of_getElem? (i := 50) rfl)) (by decide) own_pd4 (argsL := [(.ref s3), (.ref a10)]) (rest := [(.ref a)]) rfl rfl rfl (W := 1) (Nat.le_of_eq rfl) rfl (by decide) (by decide) (k' := 6) (n' := 156) rfl rfl (by decide) (by decide) own_d_prog_6_method_1_34 (q := 37) rfl ?_
  rintro _ _ ⟨rfl, rfl⟩
  show X.G h9 6 156 37 #[.val (.ref a), .val (.ref s1), .val (.ref s2), .val (.ref s3), .val (.long t), .second, .val (.ref s4)] [(.ref s3), (.ref a)]
  refine X.cast (q := 40) (hw _ (List.mem_of_getElem? (i := 51) rfl)) (hw _ (List.mem_of_getElem? (i := 28) rfl)) X3'h9 own_d_prog_6_method_1_37 rfl ?_
  refine X.putF (q := 43) (host := "") (Or.inl (hw _ (List.mem_of_getElem? (i := 58) rfl))) Via.refl Fpath'h9 FX'h9 (Or.inr ⟨(hw _ (List.mem_of_getElem? (i := 59) rfl)), rfl, rfl⟩) (hw _ (List.mem_of_getElem? (i := 38) rfl)) (ty := (.object "java/lang/String")) (by decide) rfl rfl gea own_d_prog_6_method_1_40 rfl (fun h12 Wh12 => ?_)
  have FX'h12 : Exa Z h12 a "com/example/utando/utando/archive/PageMeta" := Exa.wr Wh12 FX'h9
  have Furl'h12 : Fld Z h12 a "com/example/utando/utando/archive/PageMeta" "url" "Ljava/lang/String;" (.ref s1) := Fld.other Wh12 Furl'h9 (Or.inr (slot_ne (Or.inr (hw _ (List.mem_of_getElem? (i := 53) rfl))) (Or.inr (hw _ (List.mem_of_getElem? (i := 59) rfl))) (by decide) (ht := (by decide : _ = some (.object "java/lang/String"))) (ht' := (by decide : _ = some (.object "java/lang/String")))))
  have Ftitle'h12 : Fld Z h12 a "com/example/utando/utando/archive/PageMeta" "title" "Ljava/lang/String;" (.ref s2) := Fld.other Wh12 Ftitle'h9 (Or.inr (slot_ne (Or.inr (hw _ (List.mem_of_getElem? (i := 56) rfl))) (Or.inr (hw _ (List.mem_of_getElem? (i := 59) rfl))) (by decide) (ht := (by decide : _ = some (.object "java/lang/String"))) (ht' := (by decide : _ = some (.object "java/lang/String")))))
  have Fpath'h12 : Fld Z h12 a "com/example/utando/utando/archive/PageMeta" "path" "Ljava/lang/String;" (.ref s3) := Fld.same Wh12 Fpath'h9
  have FcrawlTime'h12 : Fld Z h12 a "com/example/utando/utando/archive/PageMeta" "crawlTime" "J" (.long (0 : Int64)) := Fld.other Wh12 FcrawlTime'h9 (Or.inr (slot_ne (Or.inr (hw _ (List.mem_of_getElem? (i := 61) rfl))) (Or.inr (hw _ (List.mem_of_getElem? (i := 59) rfl))) (by decide) (ht := (by decide : _ = some .long)) (ht' := (by decide : _ = some (.object "java/lang/String")))))
  have FcommitTag'h12 : Fld Z h12 a "com/example/utando/utando/archive/PageMeta" "commitTag" "Ljava/lang/String;" .null := Fld.other Wh12 FcommitTag'h9 (Or.inr (slot_ne (Or.inr (hw _ (List.mem_of_getElem? (i := 64) rfl))) (Or.inr (hw _ (List.mem_of_getElem? (i := 59) rfl))) (by decide) (ht := (by decide : _ = some (.object "java/lang/String"))) (ht' := (by decide : _ = some (.object "java/lang/String")))))
  have X1'h12 : Exa Z h12 s1 "java/lang/String" := Exa.wr Wh12 X1'h9
  have X2'h12 : Exa Z h12 s2 "java/lang/String" := Exa.wr Wh12 X2'h9
  have X3'h12 : Exa Z h12 s3 "java/lang/String" := Exa.wr Wh12 X3'h9
  have X4'h12 : Exa Z h12 s4 "java/lang/String" := Exa.wr Wh12 X4'h9
  have hsh12 : n0 ≤ h12.size := by rw [Wr.size Wh12]; exact hsh9
  have HKh12 := OwK.wr HKh9 Wh12 (Safe.exa X.2.2.2.2.1.alike FX'h9 (by decide) (by decide))
  have Kh12 : Keep h h12 [a] := Keep.wr Kh9 Wh12 (Or.inl (List.mem_of_getElem? (i := 0) rfl))
  refine X.aloadN (q := 44) own_d_prog_6_method_1_43 rfl rfl rfl ?_
  refine X.lload (q := 46) own_d_prog_6_method_1_44 rfl rfl ?_
  refine X.putF (q := 49) (host := "") (Or.inl (hw _ (List.mem_of_getElem? (i := 60) rfl))) Via.refl FcrawlTime'h12 FX'h12 (Or.inr ⟨(hw _ (List.mem_of_getElem? (i := 61) rfl)), rfl, rfl⟩) (hw _ (List.mem_of_getElem? (i := 38) rfl)) (ty := .long) (by decide) rfl rfl gea own_d_prog_6_method_1_46 rfl (fun h13 Wh13 => ?_)
  have FX'h13 : Exa Z h13 a "com/example/utando/utando/archive/PageMeta" := Exa.wr Wh13 FX'h12
  have Furl'h13 : Fld Z h13 a "com/example/utando/utando/archive/PageMeta" "url" "Ljava/lang/String;" (.ref s1) := Fld.other Wh13 Furl'h12 (Or.inr (slot_ne (Or.inr (hw _ (List.mem_of_getElem? (i := 53) rfl))) (Or.inr (hw _ (List.mem_of_getElem? (i := 61) rfl))) (by decide) (ht := (by decide : _ = some (.object "java/lang/String"))) (ht' := (by decide : _ = some .long))))
  have Ftitle'h13 : Fld Z h13 a "com/example/utando/utando/archive/PageMeta" "title" "Ljava/lang/String;" (.ref s2) := Fld.other Wh13 Ftitle'h12 (Or.inr (slot_ne (Or.inr (hw _ (List.mem_of_getElem? (i := 56) rfl))) (Or.inr (hw _ (List.mem_of_getElem? (i := 61) rfl))) (by decide) (ht := (by decide : _ = some (.object "java/lang/String"))) (ht' := (by decide : _ = some .long))))
  have Fpath'h13 : Fld Z h13 a "com/example/utando/utando/archive/PageMeta" "path" "Ljava/lang/String;" (.ref s3) := Fld.other Wh13 Fpath'h12 (Or.inr (slot_ne (Or.inr (hw _ (List.mem_of_getElem? (i := 59) rfl))) (Or.inr (hw _ (List.mem_of_getElem? (i := 61) rfl))) (by decide) (ht := (by decide : _ = some (.object "java/lang/String"))) (ht' := (by decide : _ = some .long))))
  have FcrawlTime'h13 : Fld Z h13 a "com/example/utando/utando/archive/PageMeta" "crawlTime" "J" (.long t) := Fld.same Wh13 FcrawlTime'h12
  have FcommitTag'h13 : Fld Z h13 a "com/example/utando/utando/archive/PageMeta" "commitTag" "Ljava/lang/String;" .null := Fld.other Wh13 FcommitTag'h12 (Or.inr (slot_ne (Or.inr (hw _ (List.mem_of_getElem? (i := 64) rfl))) (Or.inr (hw _ (List.mem_of_getElem? (i := 61) rfl))) (by decide) (ht := (by decide : _ = some (.object "java/lang/String"))) (ht' := (by decide : _ = some .long))))
  have X1'h13 : Exa Z h13 s1 "java/lang/String" := Exa.wr Wh13 X1'h12
  have X2'h13 : Exa Z h13 s2 "java/lang/String" := Exa.wr Wh13 X2'h12
  have X3'h13 : Exa Z h13 s3 "java/lang/String" := Exa.wr Wh13 X3'h12
  have X4'h13 : Exa Z h13 s4 "java/lang/String" := Exa.wr Wh13 X4'h12
  have hsh13 : n0 ≤ h13.size := by rw [Wr.size Wh13]; exact hsh12
  have HKh13 := OwK.wr HKh12 Wh13 (Safe.exa X.2.2.2.2.1.alike FX'h12 (by decide) (by decide))
  have Kh13 : Keep h h13 [a] := Keep.wr Kh12 Wh13 (Or.inl (List.mem_of_getElem? (i := 0) rfl))
  refine X.aloadN (q := 50) own_d_prog_6_method_1_49 rfl rfl rfl ?_
  refine X.aload (q := 52) own_d_prog_6_method_1_50 rfl rfl rfl ?_
  refine X.ldcS (q := 54) (vs := [(.int (99 : Int32)), (.int (111 : Int32)), (.int (109 : Int32)), (.int (109 : Int32)), (.int (105 : Int32)), (.int (116 : Int32)), (.int (84 : Int32)), (.int (97 : Int32)), (.int (103 : Int32)), (.int (32 : Int32)), (.int (105 : Int32)), (.int (115 : Int32)), (.int (32 : Int32)), (.int (110 : Int32)), (.int (117 : Int32)), (.int (108 : Int32)), (.int (108 : Int32))]) (nb := 68) (k' := 8) (n' := 228) HKh13 (hw _ (List.mem_of_getElem? (i := 62) rfl)) (own_wS hw) (List.mem_of_getElem? (i := 3) rfl) own_text4 own_d_prog_6_method_1_52 (by decide) (by decide) rfl rfl (by decide) (by decide) rfl (fun _ X h14 a15 b16 Eh14 HKh14 Ba15 Ca15 Va15 Ab16 nea15 => ?_)
  have FX'h14 : Exa Z h14 a "com/example/utando/utando/archive/PageMeta" := Exa.ext Eh14 FX'h13
  have Furl'h14 : Fld Z h14 a "com/example/utando/utando/archive/PageMeta" "url" "Ljava/lang/String;" (.ref s1) := Fld.ext Eh14 Furl'h13
  have Ftitle'h14 : Fld Z h14 a "com/example/utando/utando/archive/PageMeta" "title" "Ljava/lang/String;" (.ref s2) := Fld.ext Eh14 Ftitle'h13
  have Fpath'h14 : Fld Z h14 a "com/example/utando/utando/archive/PageMeta" "path" "Ljava/lang/String;" (.ref s3) := Fld.ext Eh14 Fpath'h13
  have FcrawlTime'h14 : Fld Z h14 a "com/example/utando/utando/archive/PageMeta" "crawlTime" "J" (.long t) := Fld.ext Eh14 FcrawlTime'h13
  have FcommitTag'h14 : Fld Z h14 a "com/example/utando/utando/archive/PageMeta" "commitTag" "Ljava/lang/String;" .null := Fld.ext Eh14 FcommitTag'h13
  have X1'h14 : Exa Z h14 s1 "java/lang/String" := Exa.ext Eh14 X1'h13
  have X2'h14 : Exa Z h14 s2 "java/lang/String" := Exa.ext Eh14 X2'h13
  have X3'h14 : Exa Z h14 s3 "java/lang/String" := Exa.ext Eh14 X3'h13
  have X4'h14 : Exa Z h14 s4 "java/lang/String" := Exa.ext Eh14 X4'h13
  have hsh14 : n0 ≤ h14.size := Nat.le_trans hsh13 Eh14.1
  have Kh14 : Keep h h14 [a] := Keep.ext Kh13 Eh14
  refine X.callS (own_rnn l Z a0 hw h14 n0 s4 a15) (hw _ (List.mem_of_getElem? (i := 47) rfl)) (hw _ (List.mem_of_getElem? (i := 48) rfl)) (hw _ (List.mem_of_getElem? (i := 49) rfl)) (hw _ (List.mem_of_getElem? (i := 50) rfl)) (by decide) own_pd4 (argsL := [(.ref s4), (.ref a15)]) (rest := [(.ref a)]) rfl rfl rfl (W := 1) (Nat.le_of_eq rfl) rfl (by decide) (by decide) (k' := 8) (n' := 228) rfl rfl (by decide) (by decide) own_d_prog_6_method_1_54 (q := 57) rfl ?_
  rintro _ _ ⟨rfl, rfl⟩
  show X.G h14 8 228 57 #[.val (.ref a), .val (.ref s1), .val (.ref s2), .val (.ref s3), .val (.long t), .second, .val (.ref s4)] [(.ref s4), (.ref a)]
  refine X.cast (q := 60) (hw _ (List.mem_of_getElem? (i := 51) rfl)) (hw _ (List.mem_of_getElem? (i := 28) rfl)) X4'h14 own_d_prog_6_method_1_57 rfl ?_
  refine X.putF (q := 63) (host := "") (Or.inl (hw _ (List.mem_of_getElem? (i := 63) rfl))) Via.refl FcommitTag'h14 FX'h14 (Or.inr ⟨(hw _ (List.mem_of_getElem? (i := 64) rfl)), rfl, rfl⟩) (hw _ (List.mem_of_getElem? (i := 38) rfl)) (ty := (.object "java/lang/String")) (by decide) rfl rfl gea own_d_prog_6_method_1_60 rfl (fun h17 Wh17 => ?_)
  have FX'h17 : Exa Z h17 a "com/example/utando/utando/archive/PageMeta" := Exa.wr Wh17 FX'h14
  have Furl'h17 : Fld Z h17 a "com/example/utando/utando/archive/PageMeta" "url" "Ljava/lang/String;" (.ref s1) := Fld.other Wh17 Furl'h14 (Or.inr (slot_ne (Or.inr (hw _ (List.mem_of_getElem? (i := 53) rfl))) (Or.inr (hw _ (List.mem_of_getElem? (i := 64) rfl))) (by decide) (ht := (by decide : _ = some (.object "java/lang/String"))) (ht' := (by decide : _ = some (.object "java/lang/String")))))
  have Ftitle'h17 : Fld Z h17 a "com/example/utando/utando/archive/PageMeta" "title" "Ljava/lang/String;" (.ref s2) := Fld.other Wh17 Ftitle'h14 (Or.inr (slot_ne (Or.inr (hw _ (List.mem_of_getElem? (i := 56) rfl))) (Or.inr (hw _ (List.mem_of_getElem? (i := 64) rfl))) (by decide) (ht := (by decide : _ = some (.object "java/lang/String"))) (ht' := (by decide : _ = some (.object "java/lang/String")))))
  have Fpath'h17 : Fld Z h17 a "com/example/utando/utando/archive/PageMeta" "path" "Ljava/lang/String;" (.ref s3) := Fld.other Wh17 Fpath'h14 (Or.inr (slot_ne (Or.inr (hw _ (List.mem_of_getElem? (i := 59) rfl))) (Or.inr (hw _ (List.mem_of_getElem? (i := 64) rfl))) (by decide) (ht := (by decide : _ = some (.object "java/lang/String"))) (ht' := (by decide : _ = some (.object "java/lang/String")))))
  have FcrawlTime'h17 : Fld Z h17 a "com/example/utando/utando/archive/PageMeta" "crawlTime" "J" (.long t) := Fld.other Wh17 FcrawlTime'h14 (Or.inr (slot_ne (Or.inr (hw _ (List.mem_of_getElem? (i := 61) rfl))) (Or.inr (hw _ (List.mem_of_getElem? (i := 64) rfl))) (by decide) (ht := (by decide : _ = some .long)) (ht' := (by decide : _ = some (.object "java/lang/String")))))
  have FcommitTag'h17 : Fld Z h17 a "com/example/utando/utando/archive/PageMeta" "commitTag" "Ljava/lang/String;" (.ref s4) := Fld.same Wh17 FcommitTag'h14
  have X1'h17 : Exa Z h17 s1 "java/lang/String" := Exa.wr Wh17 X1'h14
  have X2'h17 : Exa Z h17 s2 "java/lang/String" := Exa.wr Wh17 X2'h14
  have X3'h17 : Exa Z h17 s3 "java/lang/String" := Exa.wr Wh17 X3'h14
  have X4'h17 : Exa Z h17 s4 "java/lang/String" := Exa.wr Wh17 X4'h14
  have hsh17 : n0 ≤ h17.size := by rw [Wr.size Wh17]; exact hsh14
  have HKh17 := OwK.wr HKh14 Wh17 (Safe.exa X.2.2.2.2.1.alike FX'h14 (by decide) (by decide))
  have Kh17 : Keep h h17 [a] := Keep.wr Kh14 Wh17 (Or.inl (List.mem_of_getElem? (i := 0) rfl))
  refine X.retV HKh17 own_d_prog_6_method_1_63 rfl (by decide) (by decide) ?_
  exact ⟨rfl, Kh17, FX'h17, Furl'h17, Ftitle'h17, Fpath'h17, FcrawlTime'h17, FcommitTag'h17⟩
theorem Fld.uniq {Z : State} {h : Heap} {a : Addr} {C n d : String} {v w : Value} (F : Fld Z h a C n d v) (G : Fld Z h a C n d w) : v = w := by
  obtain ⟨cell, cf, k, j, f, h1, h2, h3, h4, h5, h6, h7⟩ := F
  obtain ⟨cell', cf', k', j', f', g1, g2, g3, g4, g5, g6, g7⟩ := G
  cases h1.symm.trans g1
  cases h2.symm.trans g2
  exact Option.some.inj (h7.symm.trans g7)
theorem OwA.uniq {Z : State} {h : Heap} {b : Addr} {ty ty' : FieldType} {vs ws : List Value} (F : OwA Z h b ty vs) (G : OwA Z h b ty' ws) : vs = ws := by
  obtain ⟨c1, A1, e1, -⟩ := F
  obtain ⟨c2, A2, e2, -⟩ := G
  cases A1.1.symm.trans A2.1
  exact e1.symm.trans e2
theorem own_d_jdk_43_method_13_0 : decode jdk_43_method_13_code 0 = .ok (.aload_n 0, 1) := by decide +kernel
theorem own_d_jdk_43_method_13_1 : decode jdk_43_method_13_code 1 = .ok (.arraylength, 1) := by decide +kernel
theorem own_d_jdk_43_method_13_2 : decode jdk_43_method_13_code 2 = .ok (.aload_n 1, 1) := by decide +kernel
theorem own_d_jdk_43_method_13_3 : decode jdk_43_method_13_code 3 = .ok (.arraylength, 1) := by decide +kernel
theorem own_d_jdk_43_method_13_4 : decode jdk_43_method_13_code 4 = .ok (.if_icmp .ne 30, 3) := by decide +kernel
theorem own_d_jdk_43_method_13_7 : decode jdk_43_method_13_code 7 = .ok (.iconst 0, 1) := by decide +kernel
theorem own_d_jdk_43_method_13_8 : decode jdk_43_method_13_code 8 = .ok (.istore_n 2, 1) := by decide +kernel
theorem own_d_jdk_43_method_13_9 : decode jdk_43_method_13_code 9 = .ok (.iload_n 2, 1) := by decide +kernel
theorem own_d_jdk_43_method_13_10 : decode jdk_43_method_13_code 10 = .ok (.aload_n 0, 1) := by decide +kernel
theorem own_d_jdk_43_method_13_11 : decode jdk_43_method_13_code 11 = .ok (.arraylength, 1) := by decide +kernel
theorem own_d_jdk_43_method_13_12 : decode jdk_43_method_13_code 12 = .ok (.if_icmp .ge 20, 3) := by decide +kernel
theorem own_d_jdk_43_method_13_32 : decode jdk_43_method_13_code 32 = .ok (.iconst 1, 1) := by decide +kernel
theorem own_d_jdk_43_method_13_33 : decode jdk_43_method_13_code 33 = .ok (.ireturn, 1) := by decide +kernel
def own_rm_own_leq00 : Room := ({ frames := 0, cells := 0, slots := 0, locals := 0 } : Room)
set_option maxRecDepth 65536 in
set_option maxHeartbeats 40000000 in
theorem own_leq00 (l : Launch) (Z : State) (a0 : Array Value) (hw : ∀ d ∈ tables_1, d.before a0 Z = true) (h : Heap) (n0 : Nat) (b1 b2 : Addr)   (hn0 : n0 ≤ h.size) (A1 : OwA Z h b1 .byte []) (A2 : OwA Z h b2 .byte []) :
    OwM l Z (⟨"java/lang/StringLatin1", "equals", "([B[B)Z"⟩ : MethodName) jdk_43_method_13_code 3 (some .boolean) own_rm_own_leq00 0 0 [] #[(.ref b1), (.ref b2)] h n0 (fun r h' => ∃ z : Int32, r = some (.int z) ∧ ((z.toInt = 1 ∧ (True)) ∨ (z.toInt = 0 ∧ ¬ (True))) ∧ h = h') := by
  refine OwM.of (Ls := #[.val (.ref b1), .val (.ref b2), .unset]) (by decide +kernel) (fun m => by first | (simp [entryFrame, mkF, argsToLocals, Value.category]; done) | rfl) ?_
  intro _ _ _ _ _ _ _ X
  have e0 : (0 : Int32).toInt = 0 := rfl
  have e1 : (1 : Int32).toInt = 1 := rfl
  refine X.aloadN (q := 1) own_d_jdk_43_method_13_0 rfl rfl rfl ?_
  refine X.alen (q := 2) (z := (0 : Int32)) A1 rfl own_d_jdk_43_method_13_1 rfl ?_
  refine X.aloadN (q := 3) own_d_jdk_43_method_13_2 rfl rfl rfl ?_
  refine X.alen (q := 4) (z := (0 : Int32)) A2 rfl own_d_jdk_43_method_13_3 rfl ?_
  refine X.icmp_ne (a := 0) (b := 0) (q' := 34) (q := 7) own_d_jdk_43_method_13_4 rfl rfl (by decide) rfl (fun c4 => ?_) (fun c4 => ?_)
  · omega
  · refine X.iconst (q := 8) (0 : Int32) own_d_jdk_43_method_13_7 (by decide) rfl ?_
    refine X.istoreN (q := 9) (Ls' := #[.val (.ref b1), .val (.ref b2), .val (.int (0 : Int32))]) own_d_jdk_43_method_13_8 rfl rfl ?_
    refine X.iloadN (q := 10) own_d_jdk_43_method_13_9 rfl rfl ?_
    refine X.aloadN (q := 11) own_d_jdk_43_method_13_10 rfl rfl rfl ?_
    refine X.alen (q := 12) (z := (0 : Int32)) A1 rfl own_d_jdk_43_method_13_11 rfl ?_
    refine X.icmp_ge (a := 0) (b := 0) (q' := 32) (q := 15) own_d_jdk_43_method_13_12 rfl rfl (by decide) rfl (fun c12 => ?_) (fun c12 => ?_)
    · refine X.iconst (q := 33) (1 : Int32) own_d_jdk_43_method_13_32 (by decide) rfl ?_
      refine X.retN (t := .boolean) (z' := (1 : Int32)) own_d_jdk_43_method_13_33 rfl (by simp) (by decide) (by decide) (by decide) ?_
      exact ⟨_, rfl, by simp [e0, e1], rfl⟩
    · omega
theorem own_d_jdk_42_method_66_0 : decode jdk_42_method_66_code 0 = .ok (.aload_n 0, 1) := by decide +kernel
theorem own_d_jdk_42_method_66_1 : decode jdk_42_method_66_code 1 = .ok (.aload_n 1, 1) := by decide +kernel
theorem own_d_jdk_42_method_66_2 : decode jdk_42_method_66_code 2 = .ok (.if_acmp .ne 5, 3) := by decide +kernel
theorem own_d_jdk_42_method_66_7 : decode jdk_42_method_66_code 7 = .ok (.aload_n 1, 1) := by decide +kernel
theorem own_d_jdk_42_method_66_8 : decode jdk_42_method_66_code 8 = .ok (.instanceof 10, 3) := by decide +kernel
theorem own_d_jdk_42_method_66_11 : decode jdk_42_method_66_code 11 = .ok (.ifCond .eq 43, 3) := by decide +kernel
theorem own_d_jdk_42_method_66_14 : decode jdk_42_method_66_code 14 = .ok (.aload_n 1, 1) := by decide +kernel
theorem own_d_jdk_42_method_66_15 : decode jdk_42_method_66_code 15 = .ok (.checkcast 10, 3) := by decide +kernel
theorem own_d_jdk_42_method_66_18 : decode jdk_42_method_66_code 18 = .ok (.astore_n 2, 1) := by decide +kernel
theorem own_d_jdk_42_method_66_19 : decode jdk_42_method_66_code 19 = .ok (.getstatic 38, 3) := by decide +kernel
theorem own_d_jdk_42_method_66_22 : decode jdk_42_method_66_code 22 = .ok (.ifCond .eq 14, 3) := by decide +kernel
theorem own_d_jdk_42_method_66_25 : decode jdk_42_method_66_code 25 = .ok (.aload_n 0, 1) := by decide +kernel
theorem own_d_jdk_42_method_66_26 : decode jdk_42_method_66_code 26 = .ok (.getfield 15, 3) := by decide +kernel
theorem own_d_jdk_42_method_66_29 : decode jdk_42_method_66_code 29 = .ok (.aload_n 2, 1) := by decide +kernel
theorem own_d_jdk_42_method_66_30 : decode jdk_42_method_66_code 30 = .ok (.getfield 15, 3) := by decide +kernel
theorem own_d_jdk_42_method_66_33 : decode jdk_42_method_66_code 33 = .ok (.if_icmp .ne 21, 3) := by decide +kernel
theorem own_d_jdk_42_method_66_36 : decode jdk_42_method_66_code 36 = .ok (.aload_n 0, 1) := by decide +kernel
theorem own_d_jdk_42_method_66_37 : decode jdk_42_method_66_code 37 = .ok (.getfield 9, 3) := by decide +kernel
theorem own_d_jdk_42_method_66_40 : decode jdk_42_method_66_code 40 = .ok (.aload_n 2, 1) := by decide +kernel
theorem own_d_jdk_42_method_66_41 : decode jdk_42_method_66_code 41 = .ok (.getfield 9, 3) := by decide +kernel
theorem own_d_jdk_42_method_66_44 : decode jdk_42_method_66_code 44 = .ok (.invokestatic 541, 3) := by decide +kernel
theorem own_pd5 : parseMethodDescriptor "([B[B)Z" = some ⟨[(.array .byte), (.array .byte)], some .boolean⟩ := by decide +kernel
theorem own_d_jdk_42_method_66_47 : decode jdk_42_method_66_code 47 = .ok (.ifCond .eq 7, 3) := by decide +kernel
theorem own_d_jdk_42_method_66_54 : decode jdk_42_method_66_code 54 = .ok (.iconst 0, 1) := by decide +kernel
theorem own_d_jdk_42_method_66_55 : decode jdk_42_method_66_code 55 = .ok (.ireturn, 1) := by decide +kernel
theorem own_d_jdk_42_method_66_50 : decode jdk_42_method_66_code 50 = .ok (.iconst 1, 1) := by decide +kernel
theorem own_d_jdk_42_method_66_51 : decode jdk_42_method_66_code 51 = .ok (.goto 4, 3) := by decide +kernel
theorem own_d_jdk_42_method_66_5 : decode jdk_42_method_66_code 5 = .ok (.iconst 1, 1) := by decide +kernel
theorem own_d_jdk_42_method_66_6 : decode jdk_42_method_66_code 6 = .ok (.ireturn, 1) := by decide +kernel
def own_rm_own_seq00 : Room := ({ frames := 1, cells := 0, slots := 0, locals := 40 } : Room)
set_option maxRecDepth 65536 in
set_option maxHeartbeats 40000000 in
theorem own_seq00 (l : Launch) (Z : State) (a0 : Array Value) (hw : ∀ d ∈ tables_1, d.before a0 Z = true) (h : Heap) (n0 : Nat) (a1 a2 b1 b2 : Addr) (cs : Int32) (hcs : cs.toInt ≠ 0)   (hab : a1 = a2 → True) (hn0 : n0 ≤ h.size) (Sc : Sta Z h "java/lang/String" "COMPACT_STRINGS" "Z" (.int cs)) (X1 : Exa Z h a1 "java/lang/String") (C1 : Fld Z h a1 "java/lang/String" "coder" "B" (.int (0 : Int32))) (V1 : Fld Z h a1 "java/lang/String" "value" "[B" (.ref b1)) (X2 : Exa Z h a2 "java/lang/String") (C2 : Fld Z h a2 "java/lang/String" "coder" "B" (.int (0 : Int32))) (V2 : Fld Z h a2 "java/lang/String" "value" "[B" (.ref b2)) (A1 : OwA Z h b1 .byte []) (A2 : OwA Z h b2 .byte []) :
    OwM l Z (⟨"java/lang/String", "equals", "(Ljava/lang/Object;)Z"⟩ : MethodName) jdk_42_method_66_code 3 (some .boolean) own_rm_own_seq00 0 0 [] #[(.ref a1), (.ref a2)] h n0 (fun r h' => ∃ z : Int32, r = some (.int z) ∧ ((z.toInt = 1 ∧ (True)) ∨ (z.toInt = 0 ∧ ¬ (True))) ∧ h = h') := by
  refine OwM.of (Ls := #[.val (.ref a1), .val (.ref a2), .unset]) (by decide +kernel) (fun m => by first | (simp [entryFrame, mkF, argsToLocals, Value.category]; done) | rfl) ?_
  intro _ _ _ _ _ _ _ X
  have e0 : (0 : Int32).toInt = 0 := rfl
  have e1 : (1 : Int32).toInt = 1 := rfl
  refine X.aloadN (q := 1) own_d_jdk_42_method_66_0 rfl rfl rfl ?_
  refine X.aloadN (q := 2) own_d_jdk_42_method_66_1 rfl rfl rfl ?_
  refine X.acmp_ne (q' := 7) (q := 5) own_d_jdk_42_method_66_2 (by decide) rfl (fun c2 => ?_) (fun c2 => ?_)
  · refine X.aloadN (q := 8) own_d_jdk_42_method_66_7 rfl rfl rfl ?_
    refine X.instY (q := 11) (hw _ (List.mem_of_getElem? (i := 20) rfl)) (hw _ (List.mem_of_getElem? (i := 28) rfl)) X2 own_d_jdk_42_method_66_8 rfl ?_
    refine X.if_eq (a := 1) (q' := 54) (q := 14) own_d_jdk_42_method_66_11 rfl (by decide) rfl (fun c11 => ?_) (fun c11 => ?_)
    · omega
    · refine X.aloadN (q := 15) own_d_jdk_42_method_66_14 rfl rfl rfl ?_
      refine X.cast (q := 18) (hw _ (List.mem_of_getElem? (i := 20) rfl)) (hw _ (List.mem_of_getElem? (i := 28) rfl)) X2 own_d_jdk_42_method_66_15 rfl ?_
      refine X.astoreN (q := 19) (Ls' := #[.val (.ref a1), .val (.ref a2), .val (.ref a2)]) own_d_jdk_42_method_66_18 rfl rfl rfl ?_
      refine X.getS (q := 22) (hw _ (List.mem_of_getElem? (i := 15) rfl)) Via.refl Sc own_d_jdk_42_method_66_19 rfl ?_
      refine X.if_eq (q' := 36) (q := 25) own_d_jdk_42_method_66_22 rfl (by decide) rfl (fun c22 => ?_) (fun c22 => ?_)
      · omega
      · refine X.aloadN (q := 26) own_d_jdk_42_method_66_25 rfl rfl rfl ?_
        refine X.getF (q := 29) (host := "") (Or.inl (hw _ (List.mem_of_getElem? (i := 35) rfl))) Via.refl C1 own_d_jdk_42_method_66_26 rfl ?_
        refine X.aloadN (q := 30) own_d_jdk_42_method_66_29 rfl rfl rfl ?_
        refine X.getF (q := 33) (host := "") (Or.inl (hw _ (List.mem_of_getElem? (i := 35) rfl))) Via.refl C2 own_d_jdk_42_method_66_30 rfl ?_
        refine X.icmp_ne (a := 0) (b := 0) (q' := 54) (q := 36) own_d_jdk_42_method_66_33 rfl rfl (by decide) rfl (fun c33 => ?_) (fun c33 => ?_)
        · omega
        · refine X.aloadN (q := 37) own_d_jdk_42_method_66_36 rfl rfl rfl ?_
          refine X.getF (q := 40) (host := "") (Or.inl (hw _ (List.mem_of_getElem? (i := 33) rfl))) Via.refl V1 own_d_jdk_42_method_66_37 rfl ?_
          refine X.aloadN (q := 41) own_d_jdk_42_method_66_40 rfl rfl rfl ?_
          refine X.getF (q := 44) (host := "") (Or.inl (hw _ (List.mem_of_getElem? (i := 33) rfl))) Via.refl V2 own_d_jdk_42_method_66_41 rfl ?_
          refine X.callS (own_leq00 l Z a0 hw h n0 b1 b2  hn0 A1 A2) (hw _ (List.mem_of_getElem? (i := 80) rfl)) (hw _ (List.mem_of_getElem? (i := 81) rfl)) (hw _ (List.mem_of_getElem? (i := 18) rfl)) (hw _ (List.mem_of_getElem? (i := 82) rfl)) (by decide) own_pd5 (argsL := [(.ref b1), (.ref b2)]) (rest := []) rfl rfl rfl (W := 0) (Nat.le_of_eq rfl) rfl (by decide) (by decide) (k' := 0) (n' := 0) rfl rfl (by decide) (by decide) own_d_jdk_42_method_66_44 (q := 47) rfl ?_
          rintro _ _ ⟨z, rfl, hz, rfl⟩
          show X.G h 0 0 47 #[.val (.ref a1), .val (.ref a2), .val (.ref a2)] [(.int z)]
          refine X.if_eq (q' := 54) (q := 50) own_d_jdk_42_method_66_47 rfl (by decide) rfl (fun c47 => ?_) (fun c47 => ?_)
          · refine X.iconst (q := 55) (0 : Int32) own_d_jdk_42_method_66_54 (by decide) rfl ?_
            refine X.retN (t := .boolean) (z' := (0 : Int32)) own_d_jdk_42_method_66_55 rfl (by simp) (by decide) (by decide) (by decide) ?_
            exact ⟨_, rfl, by first | omega | (simp [e0, e1]; done) | simp_all [e0, e1], rfl⟩
          · refine X.iconst (q := 51) (1 : Int32) own_d_jdk_42_method_66_50 (by decide) rfl ?_
            refine X.goto (q' := 55) own_d_jdk_42_method_66_51 (by decide) ?_
            refine X.retN (t := .boolean) (z' := (1 : Int32)) own_d_jdk_42_method_66_55 rfl (by simp) (by decide) (by decide) (by decide) ?_
            exact ⟨_, rfl, by first | omega | (simp [e0, e1]; done) | simp_all [e0, e1], rfl⟩
  · refine X.iconst (q := 6) (1 : Int32) own_d_jdk_42_method_66_5 (by decide) rfl ?_
    refine X.retN (t := .boolean) (z' := (1 : Int32)) own_d_jdk_42_method_66_6 rfl (by simp) (by decide) (by decide) (by decide) ?_
    have q := hab c2
    exact ⟨_, rfl, by first | omega | (simp [e0, e1]; done) | simp_all [e0, e1], rfl⟩
theorem own_d_jdk_43_method_13_34 : decode jdk_43_method_13_code 34 = .ok (.iconst 0, 1) := by decide +kernel
theorem own_d_jdk_43_method_13_35 : decode jdk_43_method_13_code 35 = .ok (.ireturn, 1) := by decide +kernel
def own_rm_own_leq01 : Room := ({ frames := 0, cells := 0, slots := 0, locals := 0 } : Room)
set_option maxRecDepth 65536 in
set_option maxHeartbeats 40000000 in
theorem own_leq01 (l : Launch) (Z : State) (a0 : Array Value) (hw : ∀ d ∈ tables_1, d.before a0 Z = true) (h : Heap) (n0 : Nat) (b1 b2 : Addr) (v2 : Int32)  (hn0 : n0 ≤ h.size) (A1 : OwA Z h b1 .byte []) (A2 : OwA Z h b2 .byte [(.int v2)]) :
    OwM l Z (⟨"java/lang/StringLatin1", "equals", "([B[B)Z"⟩ : MethodName) jdk_43_method_13_code 3 (some .boolean) own_rm_own_leq01 0 0 [] #[(.ref b1), (.ref b2)] h n0 (fun r h' => ∃ z : Int32, r = some (.int z) ∧ ((z.toInt = 1 ∧ (False)) ∨ (z.toInt = 0 ∧ ¬ (False))) ∧ h = h') := by
  refine OwM.of (Ls := #[.val (.ref b1), .val (.ref b2), .unset]) (by decide +kernel) (fun m => by first | (simp [entryFrame, mkF, argsToLocals, Value.category]; done) | rfl) ?_
  intro _ _ _ _ _ _ _ X
  have e0 : (0 : Int32).toInt = 0 := rfl
  have e1 : (1 : Int32).toInt = 1 := rfl
  refine X.aloadN (q := 1) own_d_jdk_43_method_13_0 rfl rfl rfl ?_
  refine X.alen (q := 2) (z := (0 : Int32)) A1 rfl own_d_jdk_43_method_13_1 rfl ?_
  refine X.aloadN (q := 3) own_d_jdk_43_method_13_2 rfl rfl rfl ?_
  refine X.alen (q := 4) (z := (1 : Int32)) A2 rfl own_d_jdk_43_method_13_3 rfl ?_
  refine X.icmp_ne (a := 0) (b := 1) (q' := 34) (q := 7) own_d_jdk_43_method_13_4 rfl rfl (by decide) rfl (fun c4 => ?_) (fun c4 => ?_)
  · refine X.iconst (q := 35) (0 : Int32) own_d_jdk_43_method_13_34 (by decide) rfl ?_
    refine X.retN (t := .boolean) (z' := (0 : Int32)) own_d_jdk_43_method_13_35 rfl (by simp) (by decide) (by decide) (by decide) ?_
    exact ⟨_, rfl, by simp [e0, e1], rfl⟩
  · omega
def own_rm_own_seq01 : Room := ({ frames := 1, cells := 0, slots := 0, locals := 40 } : Room)
set_option maxRecDepth 65536 in
set_option maxHeartbeats 40000000 in
theorem own_seq01 (l : Launch) (Z : State) (a0 : Array Value) (hw : ∀ d ∈ tables_1, d.before a0 Z = true) (h : Heap) (n0 : Nat) (a1 a2 b1 b2 : Addr) (cs : Int32) (hcs : cs.toInt ≠ 0) (v2 : Int32)  (hab : a1 = a2 → False) (hn0 : n0 ≤ h.size) (Sc : Sta Z h "java/lang/String" "COMPACT_STRINGS" "Z" (.int cs)) (X1 : Exa Z h a1 "java/lang/String") (C1 : Fld Z h a1 "java/lang/String" "coder" "B" (.int (0 : Int32))) (V1 : Fld Z h a1 "java/lang/String" "value" "[B" (.ref b1)) (X2 : Exa Z h a2 "java/lang/String") (C2 : Fld Z h a2 "java/lang/String" "coder" "B" (.int (0 : Int32))) (V2 : Fld Z h a2 "java/lang/String" "value" "[B" (.ref b2)) (A1 : OwA Z h b1 .byte []) (A2 : OwA Z h b2 .byte [(.int v2)]) :
    OwM l Z (⟨"java/lang/String", "equals", "(Ljava/lang/Object;)Z"⟩ : MethodName) jdk_42_method_66_code 3 (some .boolean) own_rm_own_seq01 0 0 [] #[(.ref a1), (.ref a2)] h n0 (fun r h' => ∃ z : Int32, r = some (.int z) ∧ ((z.toInt = 1 ∧ (False)) ∨ (z.toInt = 0 ∧ ¬ (False))) ∧ h = h') := by
  refine OwM.of (Ls := #[.val (.ref a1), .val (.ref a2), .unset]) (by decide +kernel) (fun m => by first | (simp [entryFrame, mkF, argsToLocals, Value.category]; done) | rfl) ?_
  intro _ _ _ _ _ _ _ X
  have e0 : (0 : Int32).toInt = 0 := rfl
  have e1 : (1 : Int32).toInt = 1 := rfl
  refine X.aloadN (q := 1) own_d_jdk_42_method_66_0 rfl rfl rfl ?_
  refine X.aloadN (q := 2) own_d_jdk_42_method_66_1 rfl rfl rfl ?_
  refine X.acmp_ne (q' := 7) (q := 5) own_d_jdk_42_method_66_2 (by decide) rfl (fun c2 => ?_) (fun c2 => ?_)
  · refine X.aloadN (q := 8) own_d_jdk_42_method_66_7 rfl rfl rfl ?_
    refine X.instY (q := 11) (hw _ (List.mem_of_getElem? (i := 20) rfl)) (hw _ (List.mem_of_getElem? (i := 28) rfl)) X2 own_d_jdk_42_method_66_8 rfl ?_
    refine X.if_eq (a := 1) (q' := 54) (q := 14) own_d_jdk_42_method_66_11 rfl (by decide) rfl (fun c11 => ?_) (fun c11 => ?_)
    · omega
    · refine X.aloadN (q := 15) own_d_jdk_42_method_66_14 rfl rfl rfl ?_
      refine X.cast (q := 18) (hw _ (List.mem_of_getElem? (i := 20) rfl)) (hw _ (List.mem_of_getElem? (i := 28) rfl)) X2 own_d_jdk_42_method_66_15 rfl ?_
      refine X.astoreN (q := 19) (Ls' := #[.val (.ref a1), .val (.ref a2), .val (.ref a2)]) own_d_jdk_42_method_66_18 rfl rfl rfl ?_
      refine X.getS (q := 22) (hw _ (List.mem_of_getElem? (i := 15) rfl)) Via.refl Sc own_d_jdk_42_method_66_19 rfl ?_
      refine X.if_eq (q' := 36) (q := 25) own_d_jdk_42_method_66_22 rfl (by decide) rfl (fun c22 => ?_) (fun c22 => ?_)
      · omega
      · refine X.aloadN (q := 26) own_d_jdk_42_method_66_25 rfl rfl rfl ?_
        refine X.getF (q := 29) (host := "") (Or.inl (hw _ (List.mem_of_getElem? (i := 35) rfl))) Via.refl C1 own_d_jdk_42_method_66_26 rfl ?_
        refine X.aloadN (q := 30) own_d_jdk_42_method_66_29 rfl rfl rfl ?_
        refine X.getF (q := 33) (host := "") (Or.inl (hw _ (List.mem_of_getElem? (i := 35) rfl))) Via.refl C2 own_d_jdk_42_method_66_30 rfl ?_
        refine X.icmp_ne (a := 0) (b := 0) (q' := 54) (q := 36) own_d_jdk_42_method_66_33 rfl rfl (by decide) rfl (fun c33 => ?_) (fun c33 => ?_)
        · omega
        · refine X.aloadN (q := 37) own_d_jdk_42_method_66_36 rfl rfl rfl ?_
          refine X.getF (q := 40) (host := "") (Or.inl (hw _ (List.mem_of_getElem? (i := 33) rfl))) Via.refl V1 own_d_jdk_42_method_66_37 rfl ?_
          refine X.aloadN (q := 41) own_d_jdk_42_method_66_40 rfl rfl rfl ?_
          refine X.getF (q := 44) (host := "") (Or.inl (hw _ (List.mem_of_getElem? (i := 33) rfl))) Via.refl V2 own_d_jdk_42_method_66_41 rfl ?_
          refine X.callS (own_leq01 l Z a0 hw h n0 b1 b2 v2 hn0 A1 A2) (hw _ (List.mem_of_getElem? (i := 80) rfl)) (hw _ (List.mem_of_getElem? (i := 81) rfl)) (hw _ (List.mem_of_getElem? (i := 18) rfl)) (hw _ (List.mem_of_getElem? (i := 82) rfl)) (by decide) own_pd5 (argsL := [(.ref b1), (.ref b2)]) (rest := []) rfl rfl rfl (W := 0) (Nat.le_of_eq rfl) rfl (by decide) (by decide) (k' := 0) (n' := 0) rfl rfl (by decide) (by decide) own_d_jdk_42_method_66_44 (q := 47) rfl ?_
          rintro _ _ ⟨z, rfl, hz, rfl⟩
          show X.G h 0 0 47 #[.val (.ref a1), .val (.ref a2), .val (.ref a2)] [(.int z)]
          refine X.if_eq (q' := 54) (q := 50) own_d_jdk_42_method_66_47 rfl (by decide) rfl (fun c47 => ?_) (fun c47 => ?_)
          · refine X.iconst (q := 55) (0 : Int32) own_d_jdk_42_method_66_54 (by decide) rfl ?_
            refine X.retN (t := .boolean) (z' := (0 : Int32)) own_d_jdk_42_method_66_55 rfl (by simp) (by decide) (by decide) (by decide) ?_
            exact ⟨_, rfl, by first | omega | (simp [e0, e1]; done) | simp_all [e0, e1], rfl⟩
          · refine X.iconst (q := 51) (1 : Int32) own_d_jdk_42_method_66_50 (by decide) rfl ?_
            refine X.goto (q' := 55) own_d_jdk_42_method_66_51 (by decide) ?_
            refine X.retN (t := .boolean) (z' := (1 : Int32)) own_d_jdk_42_method_66_55 rfl (by simp) (by decide) (by decide) (by decide) ?_
            exact ⟨_, rfl, by first | omega | (simp [e0, e1]; done) | simp_all [e0, e1], rfl⟩
  · refine X.iconst (q := 6) (1 : Int32) own_d_jdk_42_method_66_5 (by decide) rfl ?_
    refine X.retN (t := .boolean) (z' := (1 : Int32)) own_d_jdk_42_method_66_6 rfl (by simp) (by decide) (by decide) (by decide) ?_
    have q := hab c2
    exact ⟨_, rfl, by first | omega | (simp [e0, e1]; done) | simp_all [e0, e1], rfl⟩
def own_rm_own_leq10 : Room := ({ frames := 0, cells := 0, slots := 0, locals := 0 } : Room)
set_option maxRecDepth 65536 in
set_option maxHeartbeats 40000000 in
theorem own_leq10 (l : Launch) (Z : State) (a0 : Array Value) (hw : ∀ d ∈ tables_1, d.before a0 Z = true) (h : Heap) (n0 : Nat) (b1 b2 : Addr) (v1 : Int32)  (hn0 : n0 ≤ h.size) (A1 : OwA Z h b1 .byte [(.int v1)]) (A2 : OwA Z h b2 .byte []) :
    OwM l Z (⟨"java/lang/StringLatin1", "equals", "([B[B)Z"⟩ : MethodName) jdk_43_method_13_code 3 (some .boolean) own_rm_own_leq10 0 0 [] #[(.ref b1), (.ref b2)] h n0 (fun r h' => ∃ z : Int32, r = some (.int z) ∧ ((z.toInt = 1 ∧ (False)) ∨ (z.toInt = 0 ∧ ¬ (False))) ∧ h = h') := by
  refine OwM.of (Ls := #[.val (.ref b1), .val (.ref b2), .unset]) (by decide +kernel) (fun m => by first | (simp [entryFrame, mkF, argsToLocals, Value.category]; done) | rfl) ?_
  intro _ _ _ _ _ _ _ X
  have e0 : (0 : Int32).toInt = 0 := rfl
  have e1 : (1 : Int32).toInt = 1 := rfl
  refine X.aloadN (q := 1) own_d_jdk_43_method_13_0 rfl rfl rfl ?_
  refine X.alen (q := 2) (z := (1 : Int32)) A1 rfl own_d_jdk_43_method_13_1 rfl ?_
  refine X.aloadN (q := 3) own_d_jdk_43_method_13_2 rfl rfl rfl ?_
  refine X.alen (q := 4) (z := (0 : Int32)) A2 rfl own_d_jdk_43_method_13_3 rfl ?_
  refine X.icmp_ne (a := 1) (b := 0) (q' := 34) (q := 7) own_d_jdk_43_method_13_4 rfl rfl (by decide) rfl (fun c4 => ?_) (fun c4 => ?_)
  · refine X.iconst (q := 35) (0 : Int32) own_d_jdk_43_method_13_34 (by decide) rfl ?_
    refine X.retN (t := .boolean) (z' := (0 : Int32)) own_d_jdk_43_method_13_35 rfl (by simp) (by decide) (by decide) (by decide) ?_
    exact ⟨_, rfl, by simp [e0, e1], rfl⟩
  · omega
def own_rm_own_seq10 : Room := ({ frames := 1, cells := 0, slots := 0, locals := 40 } : Room)
set_option maxRecDepth 65536 in
set_option maxHeartbeats 40000000 in
theorem own_seq10 (l : Launch) (Z : State) (a0 : Array Value) (hw : ∀ d ∈ tables_1, d.before a0 Z = true) (h : Heap) (n0 : Nat) (a1 a2 b1 b2 : Addr) (cs : Int32) (hcs : cs.toInt ≠ 0) (v1 : Int32)  (hab : a1 = a2 → False) (hn0 : n0 ≤ h.size) (Sc : Sta Z h "java/lang/String" "COMPACT_STRINGS" "Z" (.int cs)) (X1 : Exa Z h a1 "java/lang/String") (C1 : Fld Z h a1 "java/lang/String" "coder" "B" (.int (0 : Int32))) (V1 : Fld Z h a1 "java/lang/String" "value" "[B" (.ref b1)) (X2 : Exa Z h a2 "java/lang/String") (C2 : Fld Z h a2 "java/lang/String" "coder" "B" (.int (0 : Int32))) (V2 : Fld Z h a2 "java/lang/String" "value" "[B" (.ref b2)) (A1 : OwA Z h b1 .byte [(.int v1)]) (A2 : OwA Z h b2 .byte []) :
    OwM l Z (⟨"java/lang/String", "equals", "(Ljava/lang/Object;)Z"⟩ : MethodName) jdk_42_method_66_code 3 (some .boolean) own_rm_own_seq10 0 0 [] #[(.ref a1), (.ref a2)] h n0 (fun r h' => ∃ z : Int32, r = some (.int z) ∧ ((z.toInt = 1 ∧ (False)) ∨ (z.toInt = 0 ∧ ¬ (False))) ∧ h = h') := by
  refine OwM.of (Ls := #[.val (.ref a1), .val (.ref a2), .unset]) (by decide +kernel) (fun m => by first | (simp [entryFrame, mkF, argsToLocals, Value.category]; done) | rfl) ?_
  intro _ _ _ _ _ _ _ X
  have e0 : (0 : Int32).toInt = 0 := rfl
  have e1 : (1 : Int32).toInt = 1 := rfl
  refine X.aloadN (q := 1) own_d_jdk_42_method_66_0 rfl rfl rfl ?_
  refine X.aloadN (q := 2) own_d_jdk_42_method_66_1 rfl rfl rfl ?_
  refine X.acmp_ne (q' := 7) (q := 5) own_d_jdk_42_method_66_2 (by decide) rfl (fun c2 => ?_) (fun c2 => ?_)
  · refine X.aloadN (q := 8) own_d_jdk_42_method_66_7 rfl rfl rfl ?_
    refine X.instY (q := 11) (hw _ (List.mem_of_getElem? (i := 20) rfl)) (hw _ (List.mem_of_getElem? (i := 28) rfl)) X2 own_d_jdk_42_method_66_8 rfl ?_
    refine X.if_eq (a := 1) (q' := 54) (q := 14) own_d_jdk_42_method_66_11 rfl (by decide) rfl (fun c11 => ?_) (fun c11 => ?_)
    · omega
    · refine X.aloadN (q := 15) own_d_jdk_42_method_66_14 rfl rfl rfl ?_
      refine X.cast (q := 18) (hw _ (List.mem_of_getElem? (i := 20) rfl)) (hw _ (List.mem_of_getElem? (i := 28) rfl)) X2 own_d_jdk_42_method_66_15 rfl ?_
      refine X.astoreN (q := 19) (Ls' := #[.val (.ref a1), .val (.ref a2), .val (.ref a2)]) own_d_jdk_42_method_66_18 rfl rfl rfl ?_
      refine X.getS (q := 22) (hw _ (List.mem_of_getElem? (i := 15) rfl)) Via.refl Sc own_d_jdk_42_method_66_19 rfl ?_
      refine X.if_eq (q' := 36) (q := 25) own_d_jdk_42_method_66_22 rfl (by decide) rfl (fun c22 => ?_) (fun c22 => ?_)
      · omega
      · refine X.aloadN (q := 26) own_d_jdk_42_method_66_25 rfl rfl rfl ?_
        refine X.getF (q := 29) (host := "") (Or.inl (hw _ (List.mem_of_getElem? (i := 35) rfl))) Via.refl C1 own_d_jdk_42_method_66_26 rfl ?_
        refine X.aloadN (q := 30) own_d_jdk_42_method_66_29 rfl rfl rfl ?_
        refine X.getF (q := 33) (host := "") (Or.inl (hw _ (List.mem_of_getElem? (i := 35) rfl))) Via.refl C2 own_d_jdk_42_method_66_30 rfl ?_
        refine X.icmp_ne (a := 0) (b := 0) (q' := 54) (q := 36) own_d_jdk_42_method_66_33 rfl rfl (by decide) rfl (fun c33 => ?_) (fun c33 => ?_)
        · omega
        · refine X.aloadN (q := 37) own_d_jdk_42_method_66_36 rfl rfl rfl ?_
          refine X.getF (q := 40) (host := "") (Or.inl (hw _ (List.mem_of_getElem? (i := 33) rfl))) Via.refl V1 own_d_jdk_42_method_66_37 rfl ?_
          refine X.aloadN (q := 41) own_d_jdk_42_method_66_40 rfl rfl rfl ?_
          refine X.getF (q := 44) (host := "") (Or.inl (hw _ (List.mem_of_getElem? (i := 33) rfl))) Via.refl V2 own_d_jdk_42_method_66_41 rfl ?_
          refine X.callS (own_leq10 l Z a0 hw h n0 b1 b2 v1 hn0 A1 A2) (hw _ (List.mem_of_getElem? (i := 80) rfl)) (hw _ (List.mem_of_getElem? (i := 81) rfl)) (hw _ (List.mem_of_getElem? (i := 18) rfl)) (hw _ (List.mem_of_getElem? (i := 82) rfl)) (by decide) own_pd5 (argsL := [(.ref b1), (.ref b2)]) (rest := []) rfl rfl rfl (W := 0) (Nat.le_of_eq rfl) rfl (by decide) (by decide) (k' := 0) (n' := 0) rfl rfl (by decide) (by decide) own_d_jdk_42_method_66_44 (q := 47) rfl ?_
          rintro _ _ ⟨z, rfl, hz, rfl⟩
          show X.G h 0 0 47 #[.val (.ref a1), .val (.ref a2), .val (.ref a2)] [(.int z)]
          refine X.if_eq (q' := 54) (q := 50) own_d_jdk_42_method_66_47 rfl (by decide) rfl (fun c47 => ?_) (fun c47 => ?_)
          · refine X.iconst (q := 55) (0 : Int32) own_d_jdk_42_method_66_54 (by decide) rfl ?_
            refine X.retN (t := .boolean) (z' := (0 : Int32)) own_d_jdk_42_method_66_55 rfl (by simp) (by decide) (by decide) (by decide) ?_
            exact ⟨_, rfl, by first | omega | (simp [e0, e1]; done) | simp_all [e0, e1], rfl⟩
          · refine X.iconst (q := 51) (1 : Int32) own_d_jdk_42_method_66_50 (by decide) rfl ?_
            refine X.goto (q' := 55) own_d_jdk_42_method_66_51 (by decide) ?_
            refine X.retN (t := .boolean) (z' := (1 : Int32)) own_d_jdk_42_method_66_55 rfl (by simp) (by decide) (by decide) (by decide) ?_
            exact ⟨_, rfl, by first | omega | (simp [e0, e1]; done) | simp_all [e0, e1], rfl⟩
  · refine X.iconst (q := 6) (1 : Int32) own_d_jdk_42_method_66_5 (by decide) rfl ?_
    refine X.retN (t := .boolean) (z' := (1 : Int32)) own_d_jdk_42_method_66_6 rfl (by simp) (by decide) (by decide) (by decide) ?_
    have q := hab c2
    exact ⟨_, rfl, by first | omega | (simp [e0, e1]; done) | simp_all [e0, e1], rfl⟩
theorem own_d_jdk_43_method_13_15 : decode jdk_43_method_13_code 15 = .ok (.aload_n 0, 1) := by decide +kernel
theorem own_d_jdk_43_method_13_16 : decode jdk_43_method_13_code 16 = .ok (.iload_n 2, 1) := by decide +kernel
theorem own_d_jdk_43_method_13_17 : decode jdk_43_method_13_code 17 = .ok (.baload, 1) := by decide +kernel
theorem own_d_jdk_43_method_13_18 : decode jdk_43_method_13_code 18 = .ok (.aload_n 1, 1) := by decide +kernel
theorem own_d_jdk_43_method_13_19 : decode jdk_43_method_13_code 19 = .ok (.iload_n 2, 1) := by decide +kernel
theorem own_d_jdk_43_method_13_20 : decode jdk_43_method_13_code 20 = .ok (.baload, 1) := by decide +kernel
theorem own_d_jdk_43_method_13_21 : decode jdk_43_method_13_code 21 = .ok (.if_icmp .eq 5, 3) := by decide +kernel
theorem own_d_jdk_43_method_13_26 : decode jdk_43_method_13_code 26 = .ok (.iinc 2 1, 3) := by decide +kernel
theorem own_d_jdk_43_method_13_29 : decode jdk_43_method_13_code 29 = .ok (.goto (-20), 3) := by decide +kernel
theorem own_d_jdk_43_method_13_24 : decode jdk_43_method_13_code 24 = .ok (.iconst 0, 1) := by decide +kernel
theorem own_d_jdk_43_method_13_25 : decode jdk_43_method_13_code 25 = .ok (.ireturn, 1) := by decide +kernel
def own_rm_own_leq11 : Room := ({ frames := 0, cells := 0, slots := 0, locals := 0 } : Room)
set_option maxRecDepth 65536 in
set_option maxHeartbeats 40000000 in
theorem own_leq11 (l : Launch) (Z : State) (a0 : Array Value) (hw : ∀ d ∈ tables_1, d.before a0 Z = true) (h : Heap) (n0 : Nat) (b1 b2 : Addr) (v1 : Int32) (v2 : Int32)  (hn0 : n0 ≤ h.size) (A1 : OwA Z h b1 .byte [(.int v1)]) (A2 : OwA Z h b2 .byte [(.int v2)]) :
    OwM l Z (⟨"java/lang/StringLatin1", "equals", "([B[B)Z"⟩ : MethodName) jdk_43_method_13_code 3 (some .boolean) own_rm_own_leq11 0 0 [] #[(.ref b1), (.ref b2)] h n0 (fun r h' => ∃ z : Int32, r = some (.int z) ∧ ((z.toInt = 1 ∧ (v1.toInt = v2.toInt)) ∨ (z.toInt = 0 ∧ ¬ (v1.toInt = v2.toInt))) ∧ h = h') := by
  refine OwM.of (Ls := #[.val (.ref b1), .val (.ref b2), .unset]) (by decide +kernel) (fun m => by first | (simp [entryFrame, mkF, argsToLocals, Value.category]; done) | rfl) ?_
  intro _ _ _ _ _ _ _ X
  have e0 : (0 : Int32).toInt = 0 := rfl
  have e1 : (1 : Int32).toInt = 1 := rfl
  refine X.aloadN (q := 1) own_d_jdk_43_method_13_0 rfl rfl rfl ?_
  refine X.alen (q := 2) (z := (1 : Int32)) A1 rfl own_d_jdk_43_method_13_1 rfl ?_
  refine X.aloadN (q := 3) own_d_jdk_43_method_13_2 rfl rfl rfl ?_
  refine X.alen (q := 4) (z := (1 : Int32)) A2 rfl own_d_jdk_43_method_13_3 rfl ?_
  refine X.icmp_ne (a := 1) (b := 1) (q' := 34) (q := 7) own_d_jdk_43_method_13_4 rfl rfl (by decide) rfl (fun c4 => ?_) (fun c4 => ?_)
  · omega
  · refine X.iconst (q := 8) (0 : Int32) own_d_jdk_43_method_13_7 (by decide) rfl ?_
    refine X.istoreN (q := 9) (Ls' := #[.val (.ref b1), .val (.ref b2), .val (.int (0 : Int32))]) own_d_jdk_43_method_13_8 rfl rfl ?_
    refine X.iloadN (q := 10) own_d_jdk_43_method_13_9 rfl rfl ?_
    refine X.aloadN (q := 11) own_d_jdk_43_method_13_10 rfl rfl rfl ?_
    refine X.alen (q := 12) (z := (1 : Int32)) A1 rfl own_d_jdk_43_method_13_11 rfl ?_
    refine X.icmp_ge (a := 0) (b := 1) (q' := 32) (q := 15) own_d_jdk_43_method_13_12 rfl rfl (by decide) rfl (fun c12 => ?_) (fun c12 => ?_)
    · omega
    · refine X.aloadN (q := 16) own_d_jdk_43_method_13_15 rfl rfl rfl ?_
      refine X.iloadN (q := 17) own_d_jdk_43_method_13_16 rfl rfl ?_
      refine X.baload (q := 18) (j := 0) (v := (.int v1)) A1 rfl rfl own_d_jdk_43_method_13_17 rfl ?_
      refine X.aloadN (q := 19) own_d_jdk_43_method_13_18 rfl rfl rfl ?_
      refine X.iloadN (q := 20) own_d_jdk_43_method_13_19 rfl rfl ?_
      refine X.baload (q := 21) (j := 0) (v := (.int v2)) A2 rfl rfl own_d_jdk_43_method_13_20 rfl ?_
      refine X.icmp_eq (q' := 26) (q := 24) own_d_jdk_43_method_13_21 rfl rfl (by decide) rfl (fun c21 => ?_) (fun c21 => ?_)
      · refine X.iinc (q := 29) (Ls' := #[.val (.ref b1), .val (.ref b2), .val (.int (1 : Int32))]) (1 : Int32) own_d_jdk_43_method_13_26 (by decide) rfl rfl rfl ?_
        refine X.goto (q' := 9) own_d_jdk_43_method_13_29 (by decide) ?_
        refine X.iloadN (q := 10) own_d_jdk_43_method_13_9 rfl rfl ?_
        refine X.aloadN (q := 11) own_d_jdk_43_method_13_10 rfl rfl rfl ?_
        refine X.alen (q := 12) (z := (1 : Int32)) A1 rfl own_d_jdk_43_method_13_11 rfl ?_
        refine X.icmp_ge (a := 1) (b := 1) (q' := 32) (q := 15) own_d_jdk_43_method_13_12 rfl rfl (by decide) rfl (fun c12 => ?_) (fun c12 => ?_)
        · refine X.iconst (q := 33) (1 : Int32) own_d_jdk_43_method_13_32 (by decide) rfl ?_
          refine X.retN (t := .boolean) (z' := (1 : Int32)) own_d_jdk_43_method_13_33 rfl (by simp) (by decide) (by decide) (by decide) ?_
          exact ⟨_, rfl, by omega, rfl⟩
        · omega
      · refine X.iconst (q := 25) (0 : Int32) own_d_jdk_43_method_13_24 (by decide) rfl ?_
        refine X.retN (t := .boolean) (z' := (0 : Int32)) own_d_jdk_43_method_13_25 rfl (by simp) (by decide) (by decide) (by decide) ?_
        exact ⟨_, rfl, by omega, rfl⟩
def own_rm_own_seq11 : Room := ({ frames := 1, cells := 0, slots := 0, locals := 40 } : Room)
set_option maxRecDepth 65536 in
set_option maxHeartbeats 40000000 in
theorem own_seq11 (l : Launch) (Z : State) (a0 : Array Value) (hw : ∀ d ∈ tables_1, d.before a0 Z = true) (h : Heap) (n0 : Nat) (a1 a2 b1 b2 : Addr) (cs : Int32) (hcs : cs.toInt ≠ 0) (v1 : Int32) (v2 : Int32)  (hab : a1 = a2 → v1.toInt = v2.toInt) (hn0 : n0 ≤ h.size) (Sc : Sta Z h "java/lang/String" "COMPACT_STRINGS" "Z" (.int cs)) (X1 : Exa Z h a1 "java/lang/String") (C1 : Fld Z h a1 "java/lang/String" "coder" "B" (.int (0 : Int32))) (V1 : Fld Z h a1 "java/lang/String" "value" "[B" (.ref b1)) (X2 : Exa Z h a2 "java/lang/String") (C2 : Fld Z h a2 "java/lang/String" "coder" "B" (.int (0 : Int32))) (V2 : Fld Z h a2 "java/lang/String" "value" "[B" (.ref b2)) (A1 : OwA Z h b1 .byte [(.int v1)]) (A2 : OwA Z h b2 .byte [(.int v2)]) :
    OwM l Z (⟨"java/lang/String", "equals", "(Ljava/lang/Object;)Z"⟩ : MethodName) jdk_42_method_66_code 3 (some .boolean) own_rm_own_seq11 0 0 [] #[(.ref a1), (.ref a2)] h n0 (fun r h' => ∃ z : Int32, r = some (.int z) ∧ ((z.toInt = 1 ∧ (v1.toInt = v2.toInt)) ∨ (z.toInt = 0 ∧ ¬ (v1.toInt = v2.toInt))) ∧ h = h') := by
  refine OwM.of (Ls := #[.val (.ref a1), .val (.ref a2), .unset]) (by decide +kernel) (fun m => by first | (simp [entryFrame, mkF, argsToLocals, Value.category]; done) | rfl) ?_
  intro _ _ _ _ _ _ _ X
  have e0 : (0 : Int32).toInt = 0 := rfl
  have e1 : (1 : Int32).toInt = 1 := rfl
  refine X.aloadN (q := 1) own_d_jdk_42_method_66_0 rfl rfl rfl ?_
  refine X.aloadN (q := 2) own_d_jdk_42_method_66_1 rfl rfl rfl ?_
  refine X.acmp_ne (q' := 7) (q := 5) own_d_jdk_42_method_66_2 (by decide) rfl (fun c2 => ?_) (fun c2 => ?_)
  · refine X.aloadN (q := 8) own_d_jdk_42_method_66_7 rfl rfl rfl ?_
    refine X.instY (q := 11) (hw _ (List.mem_of_getElem? (i := 20) rfl)) (hw _ (List.mem_of_getElem? (i := 28) rfl)) X2 own_d_jdk_42_method_66_8 rfl ?_
    refine X.if_eq (a := 1) (q' := 54) (q := 14) own_d_jdk_42_method_66_11 rfl (by decide) rfl (fun c11 => ?_) (fun c11 => ?_)
    · omega
    · refine X.aloadN (q := 15) own_d_jdk_42_method_66_14 rfl rfl rfl ?_
      refine X.cast (q := 18) (hw _ (List.mem_of_getElem? (i := 20) rfl)) (hw _ (List.mem_of_getElem? (i := 28) rfl)) X2 own_d_jdk_42_method_66_15 rfl ?_
      refine X.astoreN (q := 19) (Ls' := #[.val (.ref a1), .val (.ref a2), .val (.ref a2)]) own_d_jdk_42_method_66_18 rfl rfl rfl ?_
      refine X.getS (q := 22) (hw _ (List.mem_of_getElem? (i := 15) rfl)) Via.refl Sc own_d_jdk_42_method_66_19 rfl ?_
      refine X.if_eq (q' := 36) (q := 25) own_d_jdk_42_method_66_22 rfl (by decide) rfl (fun c22 => ?_) (fun c22 => ?_)
      · omega
      · refine X.aloadN (q := 26) own_d_jdk_42_method_66_25 rfl rfl rfl ?_
        refine X.getF (q := 29) (host := "") (Or.inl (hw _ (List.mem_of_getElem? (i := 35) rfl))) Via.refl C1 own_d_jdk_42_method_66_26 rfl ?_
        refine X.aloadN (q := 30) own_d_jdk_42_method_66_29 rfl rfl rfl ?_
        refine X.getF (q := 33) (host := "") (Or.inl (hw _ (List.mem_of_getElem? (i := 35) rfl))) Via.refl C2 own_d_jdk_42_method_66_30 rfl ?_
        refine X.icmp_ne (a := 0) (b := 0) (q' := 54) (q := 36) own_d_jdk_42_method_66_33 rfl rfl (by decide) rfl (fun c33 => ?_) (fun c33 => ?_)
        · omega
        · refine X.aloadN (q := 37) own_d_jdk_42_method_66_36 rfl rfl rfl ?_
          refine X.getF (q := 40) (host := "") (Or.inl (hw _ (List.mem_of_getElem? (i := 33) rfl))) Via.refl V1 own_d_jdk_42_method_66_37 rfl ?_
          refine X.aloadN (q := 41) own_d_jdk_42_method_66_40 rfl rfl rfl ?_
          refine X.getF (q := 44) (host := "") (Or.inl (hw _ (List.mem_of_getElem? (i := 33) rfl))) Via.refl V2 own_d_jdk_42_method_66_41 rfl ?_
          refine X.callS (own_leq11 l Z a0 hw h n0 b1 b2 v1 v2 hn0 A1 A2) (hw _ (List.mem_of_getElem? (i := 80) rfl)) (hw _ (List.mem_of_getElem? (i := 81) rfl)) (hw _ (List.mem_of_getElem? (i := 18) rfl)) (hw _ (List.mem_of_getElem? (i := 82) rfl)) (by decide) own_pd5 (argsL := [(.ref b1), (.ref b2)]) (rest := []) rfl rfl rfl (W := 0) (Nat.le_of_eq rfl) rfl (by decide) (by decide) (k' := 0) (n' := 0) rfl rfl (by decide) (by decide) own_d_jdk_42_method_66_44 (q := 47) rfl ?_
          rintro _ _ ⟨z, rfl, hz, rfl⟩
          show X.G h 0 0 47 #[.val (.ref a1), .val (.ref a2), .val (.ref a2)] [(.int z)]
          refine X.if_eq (q' := 54) (q := 50) own_d_jdk_42_method_66_47 rfl (by decide) rfl (fun c47 => ?_) (fun c47 => ?_)
          · refine X.iconst (q := 55) (0 : Int32) own_d_jdk_42_method_66_54 (by decide) rfl ?_
            refine X.retN (t := .boolean) (z' := (0 : Int32)) own_d_jdk_42_method_66_55 rfl (by simp) (by decide) (by decide) (by decide) ?_
            exact ⟨_, rfl, by omega, rfl⟩
          · refine X.iconst (q := 51) (1 : Int32) own_d_jdk_42_method_66_50 (by decide) rfl ?_
            refine X.goto (q' := 55) own_d_jdk_42_method_66_51 (by decide) ?_
            refine X.retN (t := .boolean) (z' := (1 : Int32)) own_d_jdk_42_method_66_55 rfl (by simp) (by decide) (by decide) (by decide) ?_
            exact ⟨_, rfl, by omega, rfl⟩
  · refine X.iconst (q := 6) (1 : Int32) own_d_jdk_42_method_66_5 (by decide) rfl ?_
    refine X.retN (t := .boolean) (z' := (1 : Int32)) own_d_jdk_42_method_66_6 rfl (by simp) (by decide) (by decide) (by decide) ?_
    have q := hab c2
    exact ⟨_, rfl, by omega, rfl⟩
def own_rm_own_seq : Room := ({ frames := 1, cells := 0, slots := 0, locals := 40 } : Room)
theorem own_seq (l : Launch) (Z : State) (a0 : Array Value) (hw : ∀ d ∈ tables_1, d.before a0 Z = true) (h : Heap) (n0 : Nat) (a1 a2 : Addr) (u w : Int) (cs : Int32) (hcs : cs.toInt ≠ 0) (hu : -1 ≤ u ∧ u ≤ 255) (hu2 : -1 ≤ w ∧ w ≤ 255) (hn0 : n0 ≤ h.size) (Sc : Sta Z h "java/lang/String" "COMPACT_STRINGS" "Z" (.int cs)) (T : OwT Z h a1 u) (T2 : OwT Z h a2 w) :
    OwM l Z (⟨"java/lang/String", "equals", "(Ljava/lang/Object;)Z"⟩ : MethodName) jdk_42_method_66_code 3 (some .boolean) own_rm_own_seq 0 0 [] #[(.ref a1), (.ref a2)] h n0 (fun r h' => ∃ z : Int32, r = some (.int z) ∧ ((z.toInt = 1 ∧ (u = w)) ∨ (z.toInt = 0 ∧ ¬ (u = w))) ∧ h = h') := by
  obtain ⟨b1, X1, C1, V1, A1⟩ := T
  obtain ⟨b2, X2, C2, V2, A2⟩ := T2
  have hsame : a1 = a2 → own_by u = own_by w := fun e => by
    subst e
    have := Fld.uniq V1 V2
    cases this
    exact OwA.uniq A1 A2
  by_cases q1 : u < 0 <;> by_cases q2 : w < 0
  · rw [own_by, if_pos q1] at A1; rw [own_by, if_pos q2] at A2
    refine OwM.mono (own_seq00 l Z a0 hw h n0 a1 a2 b1 b2 cs hcs (fun _ => trivial) hn0 Sc X1 C1 V1 X2 C2 V2 A1 A2) ?_
    rintro r h' ⟨z, rfl, hz, rfl⟩
    exact ⟨z, rfl, by rcases hz with ⟨q, -⟩ | ⟨-, q⟩; exact Or.inl ⟨q, by omega⟩; exact absurd trivial q, rfl⟩
  · rw [own_by, own_by, if_pos q1, if_neg q2] at hsame
    rw [own_by, if_pos q1] at A1; rw [own_by, if_neg q2] at A2
    refine OwM.mono (own_seq01 l Z a0 hw h n0 a1 a2 b1 b2 cs hcs _ (fun e => by have := hsame e; cases this) hn0 Sc X1 C1 V1 X2 C2 V2 A1 A2) ?_
    rintro r h' ⟨z, rfl, hz, rfl⟩
    exact ⟨z, rfl, by rcases hz with ⟨-, q⟩ | ⟨q, -⟩; exact absurd q id; exact Or.inr ⟨q, by omega⟩, rfl⟩
  · rw [own_by, own_by, if_neg q1, if_pos q2] at hsame
    rw [own_by, if_neg q1] at A1; rw [own_by, if_pos q2] at A2
    refine OwM.mono (own_seq10 l Z a0 hw h n0 a1 a2 b1 b2 cs hcs _ (fun e => by have := hsame e; cases this) hn0 Sc X1 C1 V1 X2 C2 V2 A1 A2) ?_
    rintro r h' ⟨z, rfl, hz, rfl⟩
    exact ⟨z, rfl, by rcases hz with ⟨-, q⟩ | ⟨q, -⟩; exact absurd q id; exact Or.inr ⟨q, by omega⟩, rfl⟩
  · rw [own_by, own_by, if_neg q1, if_neg q2] at hsame
    rw [own_by, if_neg q1] at A1; rw [own_by, if_neg q2] at A2
    refine OwM.mono (own_seq11 l Z a0 hw h n0 a1 a2 b1 b2 cs hcs _ _ (fun e => by have := hsame e; injection this with this _; injection this with this; rw [this]) hn0 Sc X1 C1 V1 X2 C2 V2 A1 A2) ?_
    rintro r h' ⟨z, rfl, hz, rfl⟩
    rw [own_b8i (by omega) (by omega) (by omega) (by omega)] at hz
    exact ⟨z, rfl, hz, rfl⟩
theorem own_d_prog_6_method_7_0 : decode prog_6_method_7_code 0 = .ok (.aload_n 1, 1) := by decide +kernel
theorem own_d_prog_6_method_7_1 : decode prog_6_method_7_code 1 = .ok (.instanceof 18, 3) := by decide +kernel
theorem own_d_prog_6_method_7_4 : decode prog_6_method_7_code 4 = .ok (.ifCond .ne 5, 3) := by decide +kernel
theorem own_d_prog_6_method_7_7 : decode prog_6_method_7_code 7 = .ok (.iconst 0, 1) := by decide +kernel
theorem own_d_prog_6_method_7_8 : decode prog_6_method_7_code 8 = .ok (.ireturn, 1) := by decide +kernel
def own_rm_own_p0 : Room := ({ frames := 0, cells := 0, slots := 0, locals := 0 } : Room)
set_option maxRecDepth 65536 in
set_option maxHeartbeats 40000000 in
theorem own_p0 (l : Launch) (Z : State) (a0 : Array Value) (hw : ∀ d ∈ tables_1, d.before a0 Z = true) (h : Heap) (n0 : Nat) (x : Addr)  :
    OwM l Z (⟨"com/example/utando/utando/archive/PageMeta", "equals", "(Ljava/lang/Object;)Z"⟩ : MethodName) prog_6_method_7_code 3 (some .boolean) own_rm_own_p0 0 0 [] #[(.ref x), .null] h n0 (fun r h' => r = some (.int 0) ∧ h = h') := by
  refine OwM.of (Ls := #[.val (.ref x), .val .null, .unset]) (by decide +kernel) (fun m => by first | (simp [entryFrame, mkF, argsToLocals, Value.category]; done) | rfl) ?_
  intro _ _ _ _ _ _ _ X
  have e0 : (0 : Int32).toInt = 0 := rfl
  have e1 : (1 : Int32).toInt = 1 := rfl
  refine X.aloadN (q := 1) own_d_prog_6_method_7_0 rfl rfl rfl ?_
  refine X.instNull (q := 4) own_d_prog_6_method_7_1 rfl ?_
  refine X.if_ne (a := 0) (q' := 9) (q := 7) own_d_prog_6_method_7_4 rfl (by decide) rfl (fun c4 => ?_) (fun c4 => ?_)
  · omega
  · refine X.iconst (q := 8) (0 : Int32) own_d_prog_6_method_7_7 (by decide) rfl ?_
    refine X.retN (t := .boolean) (z' := (0 : Int32)) own_d_prog_6_method_7_8 rfl (by simp) (by decide) (by decide) (by decide) ?_
    exact ⟨rfl, rfl⟩
def own_rm_own_ps : Room := ({ frames := 0, cells := 0, slots := 0, locals := 0 } : Room)
set_option maxRecDepth 65536 in
set_option maxHeartbeats 40000000 in
theorem own_ps (l : Launch) (Z : State) (a0 : Array Value) (hw : ∀ d ∈ tables_1, d.before a0 Z = true) (h : Heap) (n0 : Nat) (x y : Addr)  (hn0 : n0 ≤ h.size) (Xy : Exa Z h y "java/lang/String") :
    OwM l Z (⟨"com/example/utando/utando/archive/PageMeta", "equals", "(Ljava/lang/Object;)Z"⟩ : MethodName) prog_6_method_7_code 3 (some .boolean) own_rm_own_ps 0 0 [] #[(.ref x), (.ref y)] h n0 (fun r h' => r = some (.int 0) ∧ h = h') := by
  refine OwM.of (Ls := #[.val (.ref x), .val (.ref y), .unset]) (by decide +kernel) (fun m => by first | (simp [entryFrame, mkF, argsToLocals, Value.category]; done) | rfl) ?_
  intro _ _ _ _ _ _ _ X
  have e0 : (0 : Int32).toInt = 0 := rfl
  have e1 : (1 : Int32).toInt = 1 := rfl
  refine X.aloadN (q := 1) own_d_prog_6_method_7_0 rfl rfl rfl ?_
  refine X.instNo (q := 4) (hw _ (List.mem_of_getElem? (i := 73) rfl)) (ow_noSub (hw _ (List.mem_of_getElem? (i := 84) rfl)) (hw _ (List.mem_of_getElem? (i := 85) rfl)) (hw _ (List.mem_of_getElem? (i := 38) rfl)) (by decide) (by decide)) Xy own_d_prog_6_method_7_1 rfl ?_
  refine X.if_ne (a := 0) (q' := 9) (q := 7) own_d_prog_6_method_7_4 rfl (by decide) rfl (fun c4 => ?_) (fun c4 => ?_)
  · omega
  · refine X.iconst (q := 8) (0 : Int32) own_d_prog_6_method_7_7 (by decide) rfl ?_
    refine X.retN (t := .boolean) (z' := (0 : Int32)) own_d_prog_6_method_7_8 rfl (by simp) (by decide) (by decide) (by decide) ?_
    exact ⟨rfl, rfl⟩
theorem own_d_prog_6_method_7_9 : decode prog_6_method_7_code 9 = .ok (.aload_n 1, 1) := by decide +kernel
theorem own_d_prog_6_method_7_10 : decode prog_6_method_7_code 10 = .ok (.checkcast 18, 3) := by decide +kernel
theorem own_d_prog_6_method_7_13 : decode prog_6_method_7_code 13 = .ok (.astore_n 2, 1) := by decide +kernel
theorem own_d_prog_6_method_7_14 : decode prog_6_method_7_code 14 = .ok (.aload_n 0, 1) := by decide +kernel
theorem own_d_prog_6_method_7_15 : decode prog_6_method_7_code 15 = .ok (.getfield 17, 3) := by decide +kernel
theorem own_d_prog_6_method_7_18 : decode prog_6_method_7_code 18 = .ok (.aload_n 2, 1) := by decide +kernel
theorem own_d_prog_6_method_7_19 : decode prog_6_method_7_code 19 = .ok (.getfield 17, 3) := by decide +kernel
theorem own_d_prog_6_method_7_22 : decode prog_6_method_7_code 22 = .ok (.invokevirtual 42, 3) := by decide +kernel
theorem own_pd6 : parseMethodDescriptor "(Ljava/lang/Object;)Z" = some ⟨[(.object "java/lang/Object")], some .boolean⟩ := by decide +kernel
theorem own_d_prog_6_method_7_25 : decode prog_6_method_7_code 25 = .ok (.ifCond .eq 61, 3) := by decide +kernel
theorem own_d_prog_6_method_7_86 : decode prog_6_method_7_code 86 = .ok (.iconst 0, 1) := by decide +kernel
theorem own_d_prog_6_method_7_87 : decode prog_6_method_7_code 87 = .ok (.ireturn, 1) := by decide +kernel
theorem own_d_prog_6_method_7_28 : decode prog_6_method_7_code 28 = .ok (.aload_n 0, 1) := by decide +kernel
theorem own_d_prog_6_method_7_29 : decode prog_6_method_7_code 29 = .ok (.getfield 25, 3) := by decide +kernel
theorem own_d_prog_6_method_7_32 : decode prog_6_method_7_code 32 = .ok (.aload_n 2, 1) := by decide +kernel
theorem own_d_prog_6_method_7_33 : decode prog_6_method_7_code 33 = .ok (.getfield 25, 3) := by decide +kernel
theorem own_d_prog_6_method_7_36 : decode prog_6_method_7_code 36 = .ok (.invokevirtual 42, 3) := by decide +kernel
theorem own_d_prog_6_method_7_39 : decode prog_6_method_7_code 39 = .ok (.ifCond .eq 47, 3) := by decide +kernel
theorem own_d_prog_6_method_7_42 : decode prog_6_method_7_code 42 = .ok (.aload_n 0, 1) := by decide +kernel
theorem own_d_prog_6_method_7_43 : decode prog_6_method_7_code 43 = .ok (.getfield 30, 3) := by decide +kernel
theorem own_d_prog_6_method_7_46 : decode prog_6_method_7_code 46 = .ok (.aload_n 2, 1) := by decide +kernel
theorem own_d_prog_6_method_7_47 : decode prog_6_method_7_code 47 = .ok (.getfield 30, 3) := by decide +kernel
theorem own_d_prog_6_method_7_50 : decode prog_6_method_7_code 50 = .ok (.invokevirtual 42, 3) := by decide +kernel
theorem own_d_prog_6_method_7_53 : decode prog_6_method_7_code 53 = .ok (.ifCond .eq 33, 3) := by decide +kernel
theorem own_d_prog_6_method_7_56 : decode prog_6_method_7_code 56 = .ok (.aload_n 0, 1) := by decide +kernel
theorem own_d_prog_6_method_7_57 : decode prog_6_method_7_code 57 = .ok (.getfield 33, 3) := by decide +kernel
theorem own_d_prog_6_method_7_60 : decode prog_6_method_7_code 60 = .ok (.aload_n 2, 1) := by decide +kernel
theorem own_d_prog_6_method_7_61 : decode prog_6_method_7_code 61 = .ok (.getfield 33, 3) := by decide +kernel
theorem own_d_prog_6_method_7_64 : decode prog_6_method_7_code 64 = .ok (.lcmp, 1) := by decide +kernel
theorem own_d_prog_6_method_7_65 : decode prog_6_method_7_code 65 = .ok (.ifCond .ne 21, 3) := by decide +kernel
theorem own_d_prog_6_method_7_68 : decode prog_6_method_7_code 68 = .ok (.aload_n 0, 1) := by decide +kernel
theorem own_d_prog_6_method_7_69 : decode prog_6_method_7_code 69 = .ok (.getfield 39, 3) := by decide +kernel
theorem own_d_prog_6_method_7_72 : decode prog_6_method_7_code 72 = .ok (.aload_n 2, 1) := by decide +kernel
theorem own_d_prog_6_method_7_73 : decode prog_6_method_7_code 73 = .ok (.getfield 39, 3) := by decide +kernel
theorem own_d_prog_6_method_7_76 : decode prog_6_method_7_code 76 = .ok (.invokevirtual 42, 3) := by decide +kernel
theorem own_d_prog_6_method_7_79 : decode prog_6_method_7_code 79 = .ok (.ifCond .eq 7, 3) := by decide +kernel
theorem own_d_prog_6_method_7_82 : decode prog_6_method_7_code 82 = .ok (.iconst 1, 1) := by decide +kernel
theorem own_d_prog_6_method_7_83 : decode prog_6_method_7_code 83 = .ok (.goto 4, 3) := by decide +kernel
def own_rm_own_pq : Room := ({ frames := 2, cells := 0, slots := 0, locals := 80 } : Room)
set_option maxRecDepth 65536 in
set_option maxHeartbeats 40000000 in
theorem own_pq (l : Launch) (Z : State) (a0 : Array Value) (hw : ∀ d ∈ tables_1, d.before a0 Z = true) (h : Heap) (n0 : Nat) (x y s1 s2 s3 s4 r1 r2 r3 r4 : Addr) (t t2 : Int64) (u1 u2 u3 u4 w1 w2 w3 w4 : Int) (cs : Int32) (hcs : cs.toInt ≠ 0) (hu1 : -1 ≤ u1 ∧ u1 ≤ 255) (hw1 : -1 ≤ w1 ∧ w1 ≤ 255) (hu2 : -1 ≤ u2 ∧ u2 ≤ 255) (hw2 : -1 ≤ w2 ∧ w2 ≤ 255) (hu3 : -1 ≤ u3 ∧ u3 ≤ 255) (hw3 : -1 ≤ w3 ∧ w3 ≤ 255) (hu4 : -1 ≤ u4 ∧ u4 ≤ 255) (hw4 : -1 ≤ w4 ∧ w4 ≤ 255) (T1 : OwT Z h s1 u1) (R1 : OwT Z h r1 w1) (T2 : OwT Z h s2 u2) (R2 : OwT Z h r2 w2) (T3 : OwT Z h s3 u3) (R3 : OwT Z h r3 w3) (T4 : OwT Z h s4 u4) (R4 : OwT Z h r4 w4) (hn0 : n0 ≤ h.size) (Sc : Sta Z h "java/lang/String" "COMPACT_STRINGS" "Z" (.int cs)) (PX : Exa Z h x "com/example/utando/utando/archive/PageMeta") (Purl : Fld Z h x "com/example/utando/utando/archive/PageMeta" "url" "Ljava/lang/String;" (.ref s1)) (Ptitle : Fld Z h x "com/example/utando/utando/archive/PageMeta" "title" "Ljava/lang/String;" (.ref s2)) (Ppath : Fld Z h x "com/example/utando/utando/archive/PageMeta" "path" "Ljava/lang/String;" (.ref s3)) (PcrawlTime : Fld Z h x "com/example/utando/utando/archive/PageMeta" "crawlTime" "J" (.long t)) (PcommitTag : Fld Z h x "com/example/utando/utando/archive/PageMeta" "commitTag" "Ljava/lang/String;" (.ref s4)) (QX : Exa Z h y "com/example/utando/utando/archive/PageMeta") (Qurl : Fld Z h y "com/example/utando/utando/archive/PageMeta" "url" "Ljava/lang/String;" (.ref r1)) (Qtitle : Fld Z h y "com/example/utando/utando/archive/PageMeta" "title" "Ljava/lang/String;" (.ref r2)) (Qpath : Fld Z h y "com/example/utando/utando/archive/PageMeta" "path" "Ljava/lang/String;" (.ref r3)) (QcrawlTime : Fld Z h y "com/example/utando/utando/archive/PageMeta" "crawlTime" "J" (.long t2)) (QcommitTag : Fld Z h y "com/example/utando/utando/archive/PageMeta" "commitTag" "Ljava/lang/String;" (.ref r4)) (X1 : Exa Z h s1 "java/lang/String") (X2 : Exa Z h s2 "java/lang/String") (X3 : Exa Z h s3 "java/lang/String") (X4 : Exa Z h s4 "java/lang/String") :
    OwM l Z (⟨"com/example/utando/utando/archive/PageMeta", "equals", "(Ljava/lang/Object;)Z"⟩ : MethodName) prog_6_method_7_code 3 (some .boolean) own_rm_own_pq 0 0 [] #[(.ref x), (.ref y)] h n0 (fun r h' => ∃ z : Int32, r = some (.int z) ∧ ((z.toInt = 1 ∧ (u1 = w1 ∧ u2 = w2 ∧ u3 = w3 ∧ t.toInt = t2.toInt ∧ u4 = w4)) ∨ (z.toInt = 0 ∧ ¬ (u1 = w1 ∧ u2 = w2 ∧ u3 = w3 ∧ t.toInt = t2.toInt ∧ u4 = w4))) ∧ h = h') := by
  refine OwM.of (Ls := #[.val (.ref x), .val (.ref y), .unset]) (by decide +kernel) (fun m => by first | (simp [entryFrame, mkF, argsToLocals, Value.category]; done) | rfl) ?_
  intro _ _ _ _ _ _ _ X
  have e0 : (0 : Int32).toInt = 0 := rfl
  have e1 : (1 : Int32).toInt = 1 := rfl
  refine X.aloadN (q := 1) own_d_prog_6_method_7_0 rfl rfl rfl ?_
  refine X.instY (q := 4) (hw _ (List.mem_of_getElem? (i := 73) rfl)) (hw _ (List.mem_of_getElem? (i := 74) rfl)) QX own_d_prog_6_method_7_1 rfl ?_
  refine X.if_ne (a := 1) (q' := 9) (q := 7) own_d_prog_6_method_7_4 rfl (by decide) rfl (fun c4 => ?_) (fun c4 => ?_)
  · refine X.aloadN (q := 10) own_d_prog_6_method_7_9 rfl rfl rfl ?_
    refine X.cast (q := 13) (hw _ (List.mem_of_getElem? (i := 73) rfl)) (hw _ (List.mem_of_getElem? (i := 74) rfl)) QX own_d_prog_6_method_7_10 rfl ?_
    refine X.astoreN (q := 14) (Ls' := #[.val (.ref x), .val (.ref y), .val (.ref y)]) own_d_prog_6_method_7_13 rfl rfl rfl ?_
    refine X.aloadN (q := 15) own_d_prog_6_method_7_14 rfl rfl rfl ?_
    refine X.getF (q := 18) (host := "") (Or.inl (hw _ (List.mem_of_getElem? (i := 52) rfl))) Via.refl Purl own_d_prog_6_method_7_15 rfl ?_
    refine X.aloadN (q := 19) own_d_prog_6_method_7_18 rfl rfl rfl ?_
    refine X.getF (q := 22) (host := "") (Or.inl (hw _ (List.mem_of_getElem? (i := 52) rfl))) Via.refl Qurl own_d_prog_6_method_7_19 rfl ?_
    refine X.virtual (a := s1) (own_seq l Z a0 hw h n0 s1 r1 u1 w1 cs hcs hu1 hw1 hn0 Sc T1 R1) (hw _ (List.mem_of_getElem? (i := 75) rfl)) (hw _ (List.mem_of_getElem? (i := 76) rfl)) (hw _ (List.mem_of_getElem? (i := 78) rfl)) (hw _ (List.mem_of_getElem? (i := 77) rfl)) (hw _ (List.mem_of_getElem? (i := 13) rfl)) (hw _ (List.mem_of_getElem? (i := 79) rfl)) (by decide) X1 own_pd6 (argsL := [(.ref r1)]) (rest := []) rfl rfl rfl (W := 0) (Nat.le_of_eq rfl) rfl (by decide) (by decide) (k' := 0) (n' := 0) rfl rfl (by decide) (by decide) own_d_prog_6_method_7_22 (q := 25) rfl ?_
    rintro _ _ ⟨z1, rfl, hz1, rfl⟩
    show X.G h 0 0 25 #[.val (.ref x), .val (.ref y), .val (.ref y)] [(.int z1)]
    refine X.if_eq (q' := 86) (q := 28) own_d_prog_6_method_7_25 rfl (by decide) rfl (fun c25 => ?_) (fun c25 => ?_)
    · refine X.iconst (q := 87) (0 : Int32) own_d_prog_6_method_7_86 (by decide) rfl ?_
      refine X.retN (t := .boolean) (z' := (0 : Int32)) own_d_prog_6_method_7_87 rfl (by simp) (by decide) (by decide) (by decide) ?_
      exact ⟨_, rfl, by omega, rfl⟩
    · refine X.aloadN (q := 29) own_d_prog_6_method_7_28 rfl rfl rfl ?_
      refine X.getF (q := 32) (host := "") (Or.inl (hw _ (List.mem_of_getElem? (i := 55) rfl))) Via.refl Ptitle own_d_prog_6_method_7_29 rfl ?_
      refine X.aloadN (q := 33) own_d_prog_6_method_7_32 rfl rfl rfl ?_
      refine X.getF (q := 36) (host := "") (Or.inl (hw _ (List.mem_of_getElem? (i := 55) rfl))) Via.refl Qtitle own_d_prog_6_method_7_33 rfl ?_
      refine X.virtual (a := s2) (own_seq l Z a0 hw h n0 s2 r2 u2 w2 cs hcs hu2 hw2 hn0 Sc T2 R2) (hw _ (List.mem_of_getElem? (i := 75) rfl)) (hw _ (List.mem_of_getElem? (i := 76) rfl)) (hw _ (List.mem_of_getElem? (i := 78) rfl)) (hw _ (List.mem_of_getElem? (i := 77) rfl)) (hw _ (List.mem_of_getElem? (i := 13) rfl)) (hw _ (List.mem_of_getElem? (i := 79) rfl)) (by decide) X2 own_pd6 (argsL := [(.ref r2)]) (rest := []) rfl rfl rfl (W := 0) (Nat.le_of_eq rfl) rfl (by decide) (by decide) (k' := 0) (n' := 0) rfl rfl (by decide) (by decide) own_d_prog_6_method_7_36 (q := 39) rfl ?_
      rintro _ _ ⟨z2, rfl, hz2, rfl⟩
      show X.G h 0 0 39 #[.val (.ref x), .val (.ref y), .val (.ref y)] [(.int z2)]
      refine X.if_eq (q' := 86) (q := 42) own_d_prog_6_method_7_39 rfl (by decide) rfl (fun c39 => ?_) (fun c39 => ?_)
      · refine X.iconst (q := 87) (0 : Int32) own_d_prog_6_method_7_86 (by decide) rfl ?_
        refine X.retN (t := .boolean) (z' := (0 : Int32)) own_d_prog_6_method_7_87 rfl (by simp) (by decide) (by decide) (by decide) ?_
        exact ⟨_, rfl, by omega, rfl⟩
      · refine X.aloadN (q := 43) own_d_prog_6_method_7_42 rfl rfl rfl ?_
        refine X.getF (q := 46) (host := "") (Or.inl (hw _ (List.mem_of_getElem? (i := 58) rfl))) Via.refl Ppath own_d_prog_6_method_7_43 rfl ?_
        refine X.aloadN (q := 47) own_d_prog_6_method_7_46 rfl rfl rfl ?_
        refine X.getF (q := 50) (host := "") (Or.inl (hw _ (List.mem_of_getElem? (i := 58) rfl))) Via.refl Qpath own_d_prog_6_method_7_47 rfl ?_
        refine X.virtual (a := s3) (own_seq l Z a0 hw h n0 s3 r3 u3 w3 cs hcs hu3 hw3 hn0 Sc T3 R3) (hw _ (List.mem_of_getElem? (i := 75) rfl)) (hw _ (List.mem_of_getElem? (i := 76) rfl)) (hw _ (List.mem_of_getElem? (i := 78) rfl)) (hw _ (List.mem_of_getElem? (i := 77) rfl)) (hw _ (List.mem_of_getElem? (i := 13) rfl)) (hw _ (List.mem_of_getElem? (i := 79) rfl)) (by decide) X3 own_pd6 (argsL := [(.ref r3)]) (rest := []) rfl rfl rfl (W := 0) (Nat.le_of_eq rfl) rfl (by decide) (by decide) (k' := 0) (n' := 0) rfl rfl (by decide) (by decide) own_d_prog_6_method_7_50 (q := 53) rfl ?_
        rintro _ _ ⟨z3, rfl, hz3, rfl⟩
        show X.G h 0 0 53 #[.val (.ref x), .val (.ref y), .val (.ref y)] [(.int z3)]
        refine X.if_eq (q' := 86) (q := 56) own_d_prog_6_method_7_53 rfl (by decide) rfl (fun c53 => ?_) (fun c53 => ?_)
        · refine X.iconst (q := 87) (0 : Int32) own_d_prog_6_method_7_86 (by decide) rfl ?_
          refine X.retN (t := .boolean) (z' := (0 : Int32)) own_d_prog_6_method_7_87 rfl (by simp) (by decide) (by decide) (by decide) ?_
          exact ⟨_, rfl, by omega, rfl⟩
        · refine X.aloadN (q := 57) own_d_prog_6_method_7_56 rfl rfl rfl ?_
          refine X.getF (q := 60) (host := "") (Or.inl (hw _ (List.mem_of_getElem? (i := 60) rfl))) Via.refl PcrawlTime own_d_prog_6_method_7_57 rfl ?_
          refine X.aloadN (q := 61) own_d_prog_6_method_7_60 rfl rfl rfl ?_
          refine X.getF (q := 64) (host := "") (Or.inl (hw _ (List.mem_of_getElem? (i := 60) rfl))) Via.refl QcrawlTime own_d_prog_6_method_7_61 rfl ?_
          refine X.lcmp_ne (q1 := 65) (q' := 86) (q := 68) own_d_prog_6_method_7_64 rfl own_d_prog_6_method_7_65 rfl rfl (by decide) rfl (fun c64 => ?_) (fun c64 => ?_)
          · refine X.iconst (q := 87) (0 : Int32) own_d_prog_6_method_7_86 (by decide) rfl ?_
            refine X.retN (t := .boolean) (z' := (0 : Int32)) own_d_prog_6_method_7_87 rfl (by simp) (by decide) (by decide) (by decide) ?_
            exact ⟨_, rfl, by omega, rfl⟩
          · refine X.aloadN (q := 69) own_d_prog_6_method_7_68 rfl rfl rfl ?_
            refine X.getF (q := 72) (host := "") (Or.inl (hw _ (List.mem_of_getElem? (i := 63) rfl))) Via.refl PcommitTag own_d_prog_6_method_7_69 rfl ?_
            refine X.aloadN (q := 73) own_d_prog_6_method_7_72 rfl rfl rfl ?_
            refine X.getF (q := 76) (host := "") (Or.inl (hw _ (List.mem_of_getElem? (i := 63) rfl))) Via.refl QcommitTag own_d_prog_6_method_7_73 rfl ?_
            refine X.virtual (a := s4) (own_seq l Z a0 hw h n0 s4 r4 u4 w4 cs hcs hu4 hw4 hn0 Sc T4 R4) (hw _ (List.mem_of_getElem? (i := 75) rfl)) (hw _ (List.mem_of_getElem? (i := 76) rfl)) (hw _ (List.mem_of_getElem? (i := 78) rfl)) (hw _ (List.mem_of_getElem? (i := 77) rfl)) (hw _ (List.mem_of_getElem? (i := 13) rfl)) (hw _ (List.mem_of_getElem? (i := 79) rfl)) (by decide) X4 own_pd6 (argsL := [(.ref r4)]) (rest := []) rfl rfl rfl (W := 0) (Nat.le_of_eq rfl) rfl (by decide) (by decide) (k' := 0) (n' := 0) rfl rfl (by decide) (by decide) own_d_prog_6_method_7_76 (q := 79) rfl ?_
            rintro _ _ ⟨z4, rfl, hz4, rfl⟩
            show X.G h 0 0 79 #[.val (.ref x), .val (.ref y), .val (.ref y)] [(.int z4)]
            refine X.if_eq (q' := 86) (q := 82) own_d_prog_6_method_7_79 rfl (by decide) rfl (fun c79 => ?_) (fun c79 => ?_)
            · refine X.iconst (q := 87) (0 : Int32) own_d_prog_6_method_7_86 (by decide) rfl ?_
              refine X.retN (t := .boolean) (z' := (0 : Int32)) own_d_prog_6_method_7_87 rfl (by simp) (by decide) (by decide) (by decide) ?_
              exact ⟨_, rfl, by omega, rfl⟩
            · refine X.iconst (q := 83) (1 : Int32) own_d_prog_6_method_7_82 (by decide) rfl ?_
              refine X.goto (q' := 87) own_d_prog_6_method_7_83 (by decide) ?_
              refine X.retN (t := .boolean) (z' := (1 : Int32)) own_d_prog_6_method_7_87 rfl (by simp) (by decide) (by decide) (by decide) ?_
              exact ⟨_, rfl, by omega, rfl⟩
  · omega
theorem own_d_method_2_0 : decode method_2_code 0 = .ok (.lload_n 0, 1) := by decide +kernel
theorem own_d_method_2_1 : decode method_2_code 1 = .ok (.bipush 9, 2) := by decide +kernel
theorem own_d_method_2_3 : decode method_2_code 3 = .ok (.iload_n 2, 1) := by decide +kernel
theorem own_d_method_2_4 : decode method_2_code 4 = .ok (.imul, 1) := by decide +kernel
theorem own_d_method_2_5 : decode method_2_code 5 = .ok (.lushr, 1) := by decide +kernel
theorem own_d_method_2_6 : decode method_2_code 6 = .ok (.ldc2_w 7, 3) := by decide +kernel
theorem own_d_method_2_9 : decode method_2_code 9 = .ok (.land, 1) := by decide +kernel
theorem own_d_method_2_10 : decode method_2_code 10 = .ok (.l2i, 1) := by decide +kernel
theorem own_d_method_2_11 : decode method_2_code 11 = .ok (.ireturn, 1) := by decide +kernel
def own_rm_own_fi : Room := ({ frames := 0, cells := 0, slots := 0, locals := 0 } : Room)
set_option maxRecDepth 65536 in
set_option maxHeartbeats 40000000 in
theorem own_fi (l : Launch) (Z : State) (a0 : Array Value) (hw : ∀ d ∈ tables_1, d.before a0 Z = true) (h : Heap) (n0 : Nat) (p : Int64) (i : Int32)  :
    OwM l Z (⟨"com/example/utando/utando/archive/PageMetaEqualsPinLaw", "field", "(JI)I"⟩ : MethodName) method_2_code 3 (some .int) own_rm_own_fi 0 0 [] #[(.long p), (.int i)] h n0 (fun r h' => ∃ z : Int32, r = some (.int z) ∧ (0 ≤ z.toInt ∧ z.toInt ≤ 511) ∧ h = h') := by
  refine OwM.of (Ls := #[.val (.long p), .second, .val (.int i)]) (by decide +kernel) (fun m => by first | (simp [entryFrame, mkF, argsToLocals, Value.category]; done) | rfl) ?_
  intro _ _ _ _ _ _ _ X
  refine X.lloadN (q := 1) own_d_method_2_0 rfl rfl ?_
  refine X.bipush (q := 3) (9 : Int32) own_d_method_2_1 (by decide) rfl ?_
  refine X.iloadN (q := 4) own_d_method_2_3 rfl rfl ?_
  refine X.imul (q := 5) own_d_method_2_4 rfl ?_
  refine X.lushr (q := 6) own_d_method_2_5 rfl ?_
  refine X.ldc2_w (q := 9) (v := (511 : Int64)) (hw _ (List.mem_of_getElem? (i := 4) rfl)) own_d_method_2_6 rfl ?_
  refine X.land (q := 10) own_d_method_2_9 rfl ?_
  refine X.nmJ (fun f hf => ?_)
  have hf_ : 0 ≤ f.toInt ∧ f.toInt ≤ 511 := by rw [hf, Jvm.Kit.i64_mask (k := 9) _ _ (by decide) (by decide)]; omega
  refine X.l2i (q := 11) own_d_method_2_10 rfl ?_
  refine X.nmI (fun g hg => ?_)
  have hg_ : g.toInt = f.toInt := by rw [hg, Int64.toInt_toInt32]; exact Int.bmod_eq_of_le (by omega) (by omega)
  refine X.retI own_d_method_2_11 rfl (by decide) (by decide) ?_
  exact ⟨_, rfl, by omega, rfl⟩
theorem own_d_method_5_0 : decode method_5_code 0 = .ok (.iload 4, 2) := by decide +kernel
theorem own_d_method_5_2 : decode method_5_code 2 = .ok (.iload 5, 2) := by decide +kernel
theorem own_d_method_5_4 : decode method_5_code 4 = .ok (.iushr, 1) := by decide +kernel
theorem own_d_method_5_5 : decode method_5_code 5 = .ok (.iconst 1, 1) := by decide +kernel
theorem own_d_method_5_6 : decode method_5_code 6 = .ok (.iand, 1) := by decide +kernel
theorem own_d_method_5_7 : decode method_5_code 7 = .ok (.ifCond .eq 10, 3) := by decide +kernel
theorem own_d_method_5_17 : decode method_5_code 17 = .ok (.lload_n 0, 1) := by decide +kernel
theorem own_d_method_5_18 : decode method_5_code 18 = .ok (.iload 5, 2) := by decide +kernel
theorem own_d_method_5_20 : decode method_5_code 20 = .ok (.invokestatic 17, 3) := by decide +kernel
theorem own_pd7 : parseMethodDescriptor "(JI)I" = some ⟨[.long, .int], some .int⟩ := by decide +kernel
theorem own_d_method_5_23 : decode method_5_code 23 = .ok (.ireturn, 1) := by decide +kernel
theorem own_d_method_5_10 : decode method_5_code 10 = .ok (.lload_n 2, 1) := by decide +kernel
theorem own_d_method_5_11 : decode method_5_code 11 = .ok (.iload 5, 2) := by decide +kernel
theorem own_d_method_5_13 : decode method_5_code 13 = .ok (.invokestatic 17, 3) := by decide +kernel
theorem own_d_method_5_16 : decode method_5_code 16 = .ok (.ireturn, 1) := by decide +kernel
def own_rm_own_pi : Room := ({ frames := 1, cells := 0, slots := 0, locals := 20 } : Room)
set_option maxRecDepth 65536 in
set_option maxHeartbeats 40000000 in
theorem own_pi (l : Launch) (Z : State) (a0 : Array Value) (hw : ∀ d ∈ tables_1, d.before a0 Z = true) (h : Heap) (n0 : Nat) (p q : Int64) (md i : Int32)  :
    OwM l Z (⟨"com/example/utando/utando/archive/PageMetaEqualsPinLaw", "pick", "(JJII)I"⟩ : MethodName) method_5_code 6 (some .int) own_rm_own_pi 0 0 [] #[(.long p), (.long q), (.int md), (.int i)] h n0 (fun r h' => ∃ z : Int32, r = some (.int z) ∧ (0 ≤ z.toInt ∧ z.toInt ≤ 511) ∧ h = h') := by
  refine OwM.of (Ls := #[.val (.long p), .second, .val (.long q), .second, .val (.int md), .val (.int i)]) (by decide +kernel) (fun m => by first | (simp [entryFrame, mkF, argsToLocals, Value.category]; done) | rfl) ?_
  intro _ _ _ _ _ _ _ X
  refine X.iload (q := 2) own_d_method_5_0 rfl rfl ?_
  refine X.iload (q := 4) own_d_method_5_2 rfl rfl ?_
  refine X.iushr (q := 5) own_d_method_5_4 rfl ?_
  refine X.iconst (q := 6) (1 : Int32) own_d_method_5_5 (by decide) rfl ?_
  refine X.iand (q := 7) own_d_method_5_6 rfl ?_
  refine X.if_eq (q' := 17) (q := 10) own_d_method_5_7 rfl (by decide) rfl (fun c7 => ?_) (fun c7 => ?_)
  · refine X.lloadN (q := 18) own_d_method_5_17 rfl rfl ?_
    refine X.iload (q := 20) own_d_method_5_18 rfl rfl ?_
    refine X.callS (own_fi l Z a0 hw h n0 p i) (hw _ (List.mem_of_getElem? (i := 0) rfl)) (hw _ (List.mem_of_getElem? (i := 1) rfl)) (hw _ (List.mem_of_getElem? (i := 2) rfl)) (hw _ (List.mem_of_getElem? (i := 3) rfl)) (by decide) own_pd7 (argsL := [(.long p), (.int i)]) (rest := []) rfl rfl rfl (W := 0) (Nat.le_of_eq rfl) rfl (by decide) (by decide) (k' := 0) (n' := 0) rfl rfl (by decide) (by decide) own_d_method_5_20 (q := 23) rfl ?_
    rintro _ _ ⟨z, rfl, hz, rfl⟩
    show X.G h 0 0 23 #[.val (.long p), .second, .val (.long q), .second, .val (.int md), .val (.int i)] [(.int z)]
    refine X.retI own_d_method_5_23 rfl (by decide) (by decide) ?_
    exact ⟨_, rfl, hz, rfl⟩
  · refine X.lloadN (q := 11) own_d_method_5_10 rfl rfl ?_
    refine X.iload (q := 13) own_d_method_5_11 rfl rfl ?_
    refine X.callS (own_fi l Z a0 hw h n0 q i) (hw _ (List.mem_of_getElem? (i := 0) rfl)) (hw _ (List.mem_of_getElem? (i := 1) rfl)) (hw _ (List.mem_of_getElem? (i := 2) rfl)) (hw _ (List.mem_of_getElem? (i := 3) rfl)) (by decide) own_pd7 (argsL := [(.long q), (.int i)]) (rest := []) rfl rfl rfl (W := 0) (Nat.le_of_eq rfl) rfl (by decide) (by decide) (k' := 0) (n' := 0) rfl rfl (by decide) (by decide) own_d_method_5_13 (q := 16) rfl ?_
    rintro _ _ ⟨z, rfl, hz, rfl⟩
    show X.G h 0 0 16 #[.val (.long p), .second, .val (.long q), .second, .val (.int md), .val (.int i)] [(.int z)]
    refine X.retI own_d_method_5_16 rfl (by decide) (by decide) ?_
    exact ⟨_, rfl, hz, rfl⟩
theorem own_d_method_4_0 : decode method_4_code 0 = .ok (.iload_n 0, 1) := by decide +kernel
theorem own_d_method_4_1 : decode method_4_code 1 = .ok (.sipush 256, 3) := by decide +kernel
theorem own_d_method_4_4 : decode method_4_code 4 = .ok (.iand, 1) := by decide +kernel
theorem own_d_method_4_5 : decode method_4_code 5 = .ok (.ifCond .eq 5, 3) := by decide +kernel
theorem own_d_method_4_10 : decode method_4_code 10 = .ok (.iload_n 0, 1) := by decide +kernel
theorem own_d_method_4_11 : decode method_4_code 11 = .ok (.sipush 255, 3) := by decide +kernel
theorem own_d_method_4_14 : decode method_4_code 14 = .ok (.iand, 1) := by decide +kernel
theorem own_d_method_4_15 : decode method_4_code 15 = .ok (.ireturn, 1) := by decide +kernel
theorem own_d_method_4_8 : decode method_4_code 8 = .ok (.iconst (-1), 1) := by decide +kernel
theorem own_d_method_4_9 : decode method_4_code 9 = .ok (.ireturn, 1) := by decide +kernel
def own_rm_own_no : Room := ({ frames := 0, cells := 0, slots := 0, locals := 0 } : Room)
set_option maxRecDepth 65536 in
set_option maxHeartbeats 40000000 in
theorem own_no (l : Launch) (Z : State) (a0 : Array Value) (hw : ∀ d ∈ tables_1, d.before a0 Z = true) (h : Heap) (n0 : Nat) (c : Int32) (hc : 0 ≤ c.toInt ∧ c.toInt ≤ 511)  :
    OwM l Z (⟨"com/example/utando/utando/archive/PageMetaEqualsPinLaw", "norm", "(I)I"⟩ : MethodName) method_4_code 1 (some .int) own_rm_own_no 0 0 [] #[(.int c)] h n0 (fun r h' => ∃ z : Int32, r = some (.int z) ∧ z.toInt = own_norm c.toInt ∧ h = h') := by
  refine OwM.of (Ls := #[.val (.int c)]) (by decide +kernel) (fun m => by first | (simp [entryFrame, mkF, argsToLocals, Value.category]; done) | rfl) ?_
  intro _ _ _ _ _ _ _ X
  have e0 : (0 : Int32).toInt = 0 := rfl
  have em1 : (-1 : Int32).toInt = -1 := rfl
  refine X.iloadN (q := 1) own_d_method_4_0 rfl rfl ?_
  refine X.sipush (q := 4) (256 : Int32) own_d_method_4_1 (by decide) rfl ?_
  refine X.iand (q := 5) own_d_method_4_4 rfl ?_
  refine X.nmI (fun t ht => ?_)
  have ht_ : t.toInt = if 256 ≤ c.toInt then 256 else 0 := by rw [ht]; exact own_m256 c hc.1 hc.2
  have ht0 : t.toInt = 0 ↔ c.toInt < 256 := by split at ht_ <;> omega
  refine X.if_eq (q' := 10) (q := 8) own_d_method_4_5 rfl (by decide) rfl (fun c5 => ?_) (fun c5 => ?_)
  · refine X.iloadN (q := 11) own_d_method_4_10 rfl rfl ?_
    refine X.sipush (q := 14) (255 : Int32) own_d_method_4_11 (by decide) rfl ?_
    refine X.iand (q := 15) own_d_method_4_14 rfl ?_
    refine X.retI own_d_method_4_15 rfl (by decide) (by decide) ?_
    exact ⟨_, rfl, by rw [own_norm, if_neg (by omega), Jvm.Kit.i32_mask (k := 8) _ _ (by decide) (by decide)]; omega, rfl⟩
  · refine X.iconst (q := 9) (-1 : Int32) own_d_method_4_8 (by decide) rfl ?_
    refine X.retI own_d_method_4_9 rfl (by decide) (by decide) ?_
    exact ⟨_, rfl, by rw [own_norm, if_pos (by omega)]; rfl, rfl⟩
theorem own_nr {u : Int} (h : 0 ≤ u ∧ u ≤ 511) : -1 ≤ own_norm u ∧ own_norm u ≤ 255 := by unfold own_norm; split <;> omega
theorem own_pd8 : parseMethodDescriptor "(JJII)I" = some ⟨[.long, .long, .int, .int], some .int⟩ := by decide +kernel
theorem own_pd9 : parseMethodDescriptor "(I)Ljava/lang/String;" = some ⟨[.int], some (.object "java/lang/String")⟩ := by decide +kernel
theorem own_pd10 : parseMethodDescriptor "(Ljava/lang/String;Ljava/lang/String;Ljava/lang/String;JLjava/lang/String;)V" = some ⟨[(.object "java/lang/String"), (.object "java/lang/String"), (.object "java/lang/String"), .long, (.object "java/lang/String")], none⟩ := by decide +kernel
theorem own_pd11 : parseMethodDescriptor "(I)I" = some ⟨[.int], some .int⟩ := by decide +kernel
set_option maxRecDepth 65536 in
set_option maxHeartbeats 40000000 in
theorem own_law (l : Launch) (Z : State) (a0 : Array Value) (hw : ∀ d ∈ tables_1, d.before a0 Z = true) (h : Heap) (n0 : Nat) (hn0 : n0 ≤ h.size) (p q t1 t2 : Int64) (md cs : Int32) (hcs : cs.toInt ≠ 0)  (Sc : Sta Z h "java/lang/String" "COMPACT_STRINGS" "Z" (.int cs)) :
    OwN l Z consts_1 (⟨"com/example/utando/utando/archive/PageMetaEqualsPinLaw", "law", "(JJJJI)Z"⟩ : MethodName) code 24 (some .boolean) room_1 64 5376 tables_1 #[(.long p), (.long q), (.long t1), (.long t2), (.int md)] h n0 (fun r h' => r = some (.int 1)) := by
  refine OwN.of (own_EW hw) (Ls := #[.val (.long p), .second, .val (.long q), .second, .val (.long t1), .second, .val (.long t2), .second, .val (.int md), .unset, .unset, .unset, .unset, .unset, .unset, .unset, .unset, .unset, .unset, .unset, .unset, .unset, .unset, .unset]) (by decide +kernel) (fun m => by first | (simp [entryFrame, mkF, argsToLocals, Value.category]; done) | rfl) ?_
  intro _ _ _ _ _ _ _ X HK
  have e0 : (0 : Int32).toInt = 0 := rfl
  have e1 : (1 : Int32).toInt = 1 := rfl
  have e2 : (2 : Int32).toInt = 2 := rfl
  refine X.lloadN (q := 1) at_0 rfl rfl ?_
  refine X.iconst (q := 2) (0 : Int32) at_1 (by decide) rfl ?_
  refine X.callS (own_fi l Z a0 hw h n0 p (0 : Int32)) (hw _ (List.mem_of_getElem? (i := 0) rfl)) (hw _ (List.mem_of_getElem? (i := 1) rfl)) (hw _ (List.mem_of_getElem? (i := 2) rfl)) (hw _ (List.mem_of_getElem? (i := 3) rfl)) (by decide) own_pd7 (argsL := [(.long p), (.int (0 : Int32))]) (rest := []) rfl rfl rfl (W := 0) (Nat.le_of_eq rfl) rfl (by decide) (by decide) (k' := 0) (n' := 0) rfl rfl (by decide) (by decide) at_2 (q := 5) rfl ?_
  rintro _ _ ⟨u1, rfl, hu1, rfl⟩
  show X.G h 0 0 5 #[.val (.long p), .second, .val (.long q), .second, .val (.long t1), .second, .val (.long t2), .second, .val (.int md), .unset, .unset, .unset, .unset, .unset, .unset, .unset, .unset, .unset, .unset, .unset, .unset, .unset, .unset, .unset] [(.int u1)]
  refine X.istore (q := 7) (Ls' := #[.val (.long p), .second, .val (.long q), .second, .val (.long t1), .second, .val (.long t2), .second, .val (.int md), .val (.int u1), .unset, .unset, .unset, .unset, .unset, .unset, .unset, .unset, .unset, .unset, .unset, .unset, .unset, .unset]) at_5 rfl rfl ?_
  refine X.lloadN (q := 8) at_7 rfl rfl ?_
  refine X.iconst (q := 9) (1 : Int32) at_8 (by decide) rfl ?_
  refine X.callS (own_fi l Z a0 hw h n0 p (1 : Int32)) (hw _ (List.mem_of_getElem? (i := 0) rfl)) (hw _ (List.mem_of_getElem? (i := 1) rfl)) (hw _ (List.mem_of_getElem? (i := 2) rfl)) (hw _ (List.mem_of_getElem? (i := 3) rfl)) (by decide) own_pd7 (argsL := [(.long p), (.int (1 : Int32))]) (rest := []) rfl rfl rfl (W := 0) (Nat.le_of_eq rfl) rfl (by decide) (by decide) (k' := 0) (n' := 0) rfl rfl (by decide) (by decide) at_9 (q := 12) rfl ?_
  rintro _ _ ⟨u2, rfl, hu2, rfl⟩
  show X.G h 0 0 12 #[.val (.long p), .second, .val (.long q), .second, .val (.long t1), .second, .val (.long t2), .second, .val (.int md), .val (.int u1), .unset, .unset, .unset, .unset, .unset, .unset, .unset, .unset, .unset, .unset, .unset, .unset, .unset, .unset] [(.int u2)]
  refine X.istore (q := 14) (Ls' := #[.val (.long p), .second, .val (.long q), .second, .val (.long t1), .second, .val (.long t2), .second, .val (.int md), .val (.int u1), .val (.int u2), .unset, .unset, .unset, .unset, .unset, .unset, .unset, .unset, .unset, .unset, .unset, .unset, .unset]) at_12 rfl rfl ?_
  refine X.lloadN (q := 15) at_14 rfl rfl ?_
  refine X.iconst (q := 16) (2 : Int32) at_15 (by decide) rfl ?_
  refine X.callS (own_fi l Z a0 hw h n0 p (2 : Int32)) (hw _ (List.mem_of_getElem? (i := 0) rfl)) (hw _ (List.mem_of_getElem? (i := 1) rfl)) (hw _ (List.mem_of_getElem? (i := 2) rfl)) (hw _ (List.mem_of_getElem? (i := 3) rfl)) (by decide) own_pd7 (argsL := [(.long p), (.int (2 : Int32))]) (rest := []) rfl rfl rfl (W := 0) (Nat.le_of_eq rfl) rfl (by decide) (by decide) (k' := 0) (n' := 0) rfl rfl (by decide) (by decide) at_16 (q := 19) rfl ?_
  rintro _ _ ⟨u3, rfl, hu3, rfl⟩
  show X.G h 0 0 19 #[.val (.long p), .second, .val (.long q), .second, .val (.long t1), .second, .val (.long t2), .second, .val (.int md), .val (.int u1), .val (.int u2), .unset, .unset, .unset, .unset, .unset, .unset, .unset, .unset, .unset, .unset, .unset, .unset, .unset] [(.int u3)]
  refine X.istore (q := 21) (Ls' := #[.val (.long p), .second, .val (.long q), .second, .val (.long t1), .second, .val (.long t2), .second, .val (.int md), .val (.int u1), .val (.int u2), .val (.int u3), .unset, .unset, .unset, .unset, .unset, .unset, .unset, .unset, .unset, .unset, .unset, .unset]) at_19 rfl rfl ?_
  refine X.lloadN (q := 22) at_21 rfl rfl ?_
  refine X.iconst (q := 23) (3 : Int32) at_22 (by decide) rfl ?_
  refine X.callS (own_fi l Z a0 hw h n0 p (3 : Int32)) (hw _ (List.mem_of_getElem? (i := 0) rfl)) (hw _ (List.mem_of_getElem? (i := 1) rfl)) (hw _ (List.mem_of_getElem? (i := 2) rfl)) (hw _ (List.mem_of_getElem? (i := 3) rfl)) (by decide) own_pd7 (argsL := [(.long p), (.int (3 : Int32))]) (rest := []) rfl rfl rfl (W := 0) (Nat.le_of_eq rfl) rfl (by decide) (by decide) (k' := 0) (n' := 0) rfl rfl (by decide) (by decide) at_23 (q := 26) rfl ?_
  rintro _ _ ⟨u4, rfl, hu4, rfl⟩
  show X.G h 0 0 26 #[.val (.long p), .second, .val (.long q), .second, .val (.long t1), .second, .val (.long t2), .second, .val (.int md), .val (.int u1), .val (.int u2), .val (.int u3), .unset, .unset, .unset, .unset, .unset, .unset, .unset, .unset, .unset, .unset, .unset, .unset] [(.int u4)]
  refine X.istore (q := 28) (Ls' := #[.val (.long p), .second, .val (.long q), .second, .val (.long t1), .second, .val (.long t2), .second, .val (.int md), .val (.int u1), .val (.int u2), .val (.int u3), .val (.int u4), .unset, .unset, .unset, .unset, .unset, .unset, .unset, .unset, .unset, .unset, .unset]) at_26 rfl rfl ?_
  refine X.lloadN (q := 29) at_28 rfl rfl ?_
  refine X.lloadN (q := 30) at_29 rfl rfl ?_
  refine X.iload (q := 32) at_30 rfl rfl ?_
  refine X.iconst (q := 33) (0 : Int32) at_32 (by decide) rfl ?_
  refine X.callS (own_pi l Z a0 hw h n0 p q md (0 : Int32)) (hw _ (List.mem_of_getElem? (i := 5) rfl)) (hw _ (List.mem_of_getElem? (i := 6) rfl)) (hw _ (List.mem_of_getElem? (i := 2) rfl)) (hw _ (List.mem_of_getElem? (i := 7) rfl)) (by decide) own_pd8 (argsL := [(.long p), (.long q), (.int md), (.int (0 : Int32))]) (rest := []) rfl rfl rfl (W := 0) (Nat.le_of_eq rfl) rfl (by decide) (by decide) (k' := 0) (n' := 0) rfl rfl (by decide) (by decide) at_33 (q := 36) rfl ?_
  rintro _ _ ⟨w1, rfl, hw1, rfl⟩
  show X.G h 0 0 36 #[.val (.long p), .second, .val (.long q), .second, .val (.long t1), .second, .val (.long t2), .second, .val (.int md), .val (.int u1), .val (.int u2), .val (.int u3), .val (.int u4), .unset, .unset, .unset, .unset, .unset, .unset, .unset, .unset, .unset, .unset, .unset] [(.int w1)]
  refine X.istore (q := 38) (Ls' := #[.val (.long p), .second, .val (.long q), .second, .val (.long t1), .second, .val (.long t2), .second, .val (.int md), .val (.int u1), .val (.int u2), .val (.int u3), .val (.int u4), .val (.int w1), .unset, .unset, .unset, .unset, .unset, .unset, .unset, .unset, .unset, .unset]) at_36 rfl rfl ?_
  refine X.lloadN (q := 39) at_38 rfl rfl ?_
  refine X.lloadN (q := 40) at_39 rfl rfl ?_
  refine X.iload (q := 42) at_40 rfl rfl ?_
  refine X.iconst (q := 43) (1 : Int32) at_42 (by decide) rfl ?_
  refine X.callS (own_pi l Z a0 hw h n0 p q md (1 : Int32)) (hw _ (List.mem_of_getElem? (i := 5) rfl)) (hw _ (List.mem_of_getElem? (i := 6) rfl)) (hw _ (List.mem_of_getElem? (i := 2) rfl)) (hw _ (List.mem_of_getElem? (i := 7) rfl)) (by decide) own_pd8 (argsL := [(.long p), (.long q), (.int md), (.int (1 : Int32))]) (rest := []) rfl rfl rfl (W := 0) (Nat.le_of_eq rfl) rfl (by decide) (by decide) (k' := 0) (n' := 0) rfl rfl (by decide) (by decide) at_43 (q := 46) rfl ?_
  rintro _ _ ⟨w2, rfl, hw2, rfl⟩
  show X.G h 0 0 46 #[.val (.long p), .second, .val (.long q), .second, .val (.long t1), .second, .val (.long t2), .second, .val (.int md), .val (.int u1), .val (.int u2), .val (.int u3), .val (.int u4), .val (.int w1), .unset, .unset, .unset, .unset, .unset, .unset, .unset, .unset, .unset, .unset] [(.int w2)]
  refine X.istore (q := 48) (Ls' := #[.val (.long p), .second, .val (.long q), .second, .val (.long t1), .second, .val (.long t2), .second, .val (.int md), .val (.int u1), .val (.int u2), .val (.int u3), .val (.int u4), .val (.int w1), .val (.int w2), .unset, .unset, .unset, .unset, .unset, .unset, .unset, .unset, .unset]) at_46 rfl rfl ?_
  refine X.lloadN (q := 49) at_48 rfl rfl ?_
  refine X.lloadN (q := 50) at_49 rfl rfl ?_
  refine X.iload (q := 52) at_50 rfl rfl ?_
  refine X.iconst (q := 53) (2 : Int32) at_52 (by decide) rfl ?_
  refine X.callS (own_pi l Z a0 hw h n0 p q md (2 : Int32)) (hw _ (List.mem_of_getElem? (i := 5) rfl)) (hw _ (List.mem_of_getElem? (i := 6) rfl)) (hw _ (List.mem_of_getElem? (i := 2) rfl)) (hw _ (List.mem_of_getElem? (i := 7) rfl)) (by decide) own_pd8 (argsL := [(.long p), (.long q), (.int md), (.int (2 : Int32))]) (rest := []) rfl rfl rfl (W := 0) (Nat.le_of_eq rfl) rfl (by decide) (by decide) (k' := 0) (n' := 0) rfl rfl (by decide) (by decide) at_53 (q := 56) rfl ?_
  rintro _ _ ⟨w3, rfl, hw3, rfl⟩
  show X.G h 0 0 56 #[.val (.long p), .second, .val (.long q), .second, .val (.long t1), .second, .val (.long t2), .second, .val (.int md), .val (.int u1), .val (.int u2), .val (.int u3), .val (.int u4), .val (.int w1), .val (.int w2), .unset, .unset, .unset, .unset, .unset, .unset, .unset, .unset, .unset] [(.int w3)]
  refine X.istore (q := 58) (Ls' := #[.val (.long p), .second, .val (.long q), .second, .val (.long t1), .second, .val (.long t2), .second, .val (.int md), .val (.int u1), .val (.int u2), .val (.int u3), .val (.int u4), .val (.int w1), .val (.int w2), .val (.int w3), .unset, .unset, .unset, .unset, .unset, .unset, .unset, .unset]) at_56 rfl rfl ?_
  refine X.lloadN (q := 59) at_58 rfl rfl ?_
  refine X.lloadN (q := 60) at_59 rfl rfl ?_
  refine X.iload (q := 62) at_60 rfl rfl ?_
  refine X.iconst (q := 63) (3 : Int32) at_62 (by decide) rfl ?_
  refine X.callS (own_pi l Z a0 hw h n0 p q md (3 : Int32)) (hw _ (List.mem_of_getElem? (i := 5) rfl)) (hw _ (List.mem_of_getElem? (i := 6) rfl)) (hw _ (List.mem_of_getElem? (i := 2) rfl)) (hw _ (List.mem_of_getElem? (i := 7) rfl)) (by decide) own_pd8 (argsL := [(.long p), (.long q), (.int md), (.int (3 : Int32))]) (rest := []) rfl rfl rfl (W := 0) (Nat.le_of_eq rfl) rfl (by decide) (by decide) (k' := 0) (n' := 0) rfl rfl (by decide) (by decide) at_63 (q := 66) rfl ?_
  rintro _ _ ⟨w4, rfl, hw4, rfl⟩
  show X.G h 0 0 66 #[.val (.long p), .second, .val (.long q), .second, .val (.long t1), .second, .val (.long t2), .second, .val (.int md), .val (.int u1), .val (.int u2), .val (.int u3), .val (.int u4), .val (.int w1), .val (.int w2), .val (.int w3), .unset, .unset, .unset, .unset, .unset, .unset, .unset, .unset] [(.int w4)]
  refine X.istore (q := 68) (Ls' := #[.val (.long p), .second, .val (.long q), .second, .val (.long t1), .second, .val (.long t2), .second, .val (.int md), .val (.int u1), .val (.int u2), .val (.int u3), .val (.int u4), .val (.int w1), .val (.int w2), .val (.int w3), .val (.int w4), .unset, .unset, .unset, .unset, .unset, .unset, .unset]) at_66 rfl rfl ?_
  have J84 : ∀ (tm : Int64),  X.G h 0 0 84 #[.val (.long p), .second, .val (.long q), .second, .val (.long t1), .second, .val (.long t2), .second, .val (.int md), .val (.int u1), .val (.int u2), .val (.int u3), .val (.int u4), .val (.int w1), .val (.int w2), .val (.int w3), .val (.int w4), .unset, .unset, .unset, .unset, .unset, .unset, .unset] [(.long tm)] := by
    intro tm
    refine X.lstore (q := 86) (Ls' := #[.val (.long p), .second, .val (.long q), .second, .val (.long t1), .second, .val (.long t2), .second, .val (.int md), .val (.int u1), .val (.int u2), .val (.int u3), .val (.int u4), .val (.int w1), .val (.int w2), .val (.int w3), .val (.int w4), .val (.long tm), .second, .unset, .unset, .unset, .unset, .unset]) at_84 rfl rfl ?_
    refine X.iload (q := 88) at_86 rfl rfl ?_
    refine X.iconst (q := 89) (5 : Int32) at_88 (by decide) rfl ?_
    refine X.iushr (q := 90) at_89 rfl ?_
    refine X.iconst (q := 91) (3 : Int32) at_90 (by decide) rfl ?_
    refine X.iand (q := 92) at_91 rfl ?_
    refine X.nmI (fun kd hkd => ?_)
    refine X.istore (q := 94) (Ls' := #[.val (.long p), .second, .val (.long q), .second, .val (.long t1), .second, .val (.long t2), .second, .val (.int md), .val (.int u1), .val (.int u2), .val (.int u3), .val (.int u4), .val (.int w1), .val (.int w2), .val (.int w3), .val (.int w4), .val (.long tm), .second, .val (.int kd), .unset, .unset, .unset, .unset]) at_92 rfl rfl ?_
    refine X.iload (q := 96) at_94 rfl rfl ?_
    refine X.callN HK (own_tx l Z a0 hw h n0 u1 cs hcs hu1 hn0 Sc) (hw _ (List.mem_of_getElem? (i := 8) rfl)) (hw _ (List.mem_of_getElem? (i := 9) rfl)) (hw _ (List.mem_of_getElem? (i := 2) rfl)) (hw _ (List.mem_of_getElem? (i := 10) rfl)) (by decide) own_pd9 (argsL := [(.int u1)]) (rest := []) rfl rfl rfl (W := 0) (Nat.le_of_eq rfl) rfl (by decide) (by decide) (k' := 2) (n' := 5) rfl rfl (by decide) (by decide) at_96 (q := 99) rfl ?_
    rintro _ X _ h1 - HKh1 - ⟨g0, rfl, Tg0, Eh1⟩
    have Sc'h1 : Sta Z h1 "java/lang/String" "COMPACT_STRINGS" "Z" (.int cs) := Sta.ext Eh1 Sc
    have hsh1 : n0 ≤ h1.size := Nat.le_trans hn0 Eh1.1
    show X.G h1 2 5 99 #[.val (.long p), .second, .val (.long q), .second, .val (.long t1), .second, .val (.long t2), .second, .val (.int md), .val (.int u1), .val (.int u2), .val (.int u3), .val (.int u4), .val (.int w1), .val (.int w2), .val (.int w3), .val (.int w4), .val (.long tm), .second, .val (.int kd), .unset, .unset, .unset, .unset] [(.ref g0)]
    refine X.astore (q := 101) (Ls' := #[.val (.long p), .second, .val (.long q), .second, .val (.long t1), .second, .val (.long t2), .second, .val (.int md), .val (.int u1), .val (.int u2), .val (.int u3), .val (.int u4), .val (.int w1), .val (.int w2), .val (.int w3), .val (.int w4), .val (.long tm), .second, .val (.int kd), .val (.ref g0), .unset, .unset, .unset]) at_99 rfl rfl rfl ?_
    refine X.newO (q := 104) (k' := 3) (n' := 10) (hw _ (List.mem_of_getElem? (i := 37) rfl)) (hw _ (List.mem_of_getElem? (i := 38) rfl)) (hw _ (List.mem_of_getElem? (i := 39) rfl)) at_101 rfl rfl (by decide) (by decide) rfl (fun h2 a3 ga3 Eh2 Ba3 Da3 => ?_)
    have lg0_a3 : g0 < a3 := by have := Tg0.lt; rw [← ga3] at this; exact this
    have Sc'h2 : Sta Z h2 "java/lang/String" "COMPACT_STRINGS" "Z" (.int cs) := Sta.ext Eh2 Sc'h1
    have Tg0'h2 : OwT Z h2 g0 (own_norm u1.toInt) := OwT.ext Eh2 Tg0
    have gea3 : n0 ≤ a3 := by rw [ga3]; exact hsh1
    have hsh2 : n0 ≤ h2.size := Nat.le_trans hsh1 Eh2.1
    have HKh2 := OwK.ext HKh1 Eh2
    have Fa3_url : Fld Z h2 a3 "com/example/utando/utando/archive/PageMeta" "url" "Ljava/lang/String;" .null := Da3 (Or.inr (hw _ (List.mem_of_getElem? (i := 53) rfl))) (ty := (.object "java/lang/String")) (by decide)
    have Fa3_title : Fld Z h2 a3 "com/example/utando/utando/archive/PageMeta" "title" "Ljava/lang/String;" .null := Da3 (Or.inr (hw _ (List.mem_of_getElem? (i := 56) rfl))) (ty := (.object "java/lang/String")) (by decide)
    have Fa3_path : Fld Z h2 a3 "com/example/utando/utando/archive/PageMeta" "path" "Ljava/lang/String;" .null := Da3 (Or.inr (hw _ (List.mem_of_getElem? (i := 59) rfl))) (ty := (.object "java/lang/String")) (by decide)
    have Fa3_crawlTime : Fld Z h2 a3 "com/example/utando/utando/archive/PageMeta" "crawlTime" "J" (.long (0 : Int64)) := Da3 (Or.inr (hw _ (List.mem_of_getElem? (i := 61) rfl))) (ty := .long) (by decide)
    have Fa3_commitTag : Fld Z h2 a3 "com/example/utando/utando/archive/PageMeta" "commitTag" "Ljava/lang/String;" .null := Da3 (Or.inr (hw _ (List.mem_of_getElem? (i := 64) rfl))) (ty := (.object "java/lang/String")) (by decide)
    refine X.dup (q := 105) at_104 rfl rfl ?_
    refine X.iload (q := 107) at_105 rfl rfl ?_
    refine X.callN HKh2 (own_tx l Z a0 hw h2 n0 u1 cs hcs hu1 hsh2 Sc'h2) (hw _ (List.mem_of_getElem? (i := 8) rfl)) (hw _ (List.mem_of_getElem? (i := 9) rfl)) (hw _ (List.mem_of_getElem? (i := 2) rfl)) (hw _ (List.mem_of_getElem? (i := 10) rfl)) (by decide) own_pd9 (argsL := [(.int u1)]) (rest := [(.ref a3), (.ref a3)]) rfl rfl rfl (W := 2) (Nat.le_of_eq rfl) rfl (by decide) (by decide) (k' := 5) (n' := 15) rfl rfl (by decide) (by decide) at_107 (q := 110) rfl ?_
    rintro _ X _ h4 - HKh4 - ⟨g1, rfl, Tg1, Eh4⟩
    have Sc'h4 : Sta Z h4 "java/lang/String" "COMPACT_STRINGS" "Z" (.int cs) := Sta.ext Eh4 Sc'h2
    have Tg0'h4 : OwT Z h4 g0 (own_norm u1.toInt) := OwT.ext Eh4 Tg0'h2
    have Ba3'h4 : Exa Z h4 a3 "com/example/utando/utando/archive/PageMeta" := Exa.ext Eh4 Ba3
    have Fa3_url'h4 : Fld Z h4 a3 "com/example/utando/utando/archive/PageMeta" "url" "Ljava/lang/String;" .null := Fld.ext Eh4 Fa3_url
    have Fa3_title'h4 : Fld Z h4 a3 "com/example/utando/utando/archive/PageMeta" "title" "Ljava/lang/String;" .null := Fld.ext Eh4 Fa3_title
    have Fa3_path'h4 : Fld Z h4 a3 "com/example/utando/utando/archive/PageMeta" "path" "Ljava/lang/String;" .null := Fld.ext Eh4 Fa3_path
    have Fa3_crawlTime'h4 : Fld Z h4 a3 "com/example/utando/utando/archive/PageMeta" "crawlTime" "J" (.long (0 : Int64)) := Fld.ext Eh4 Fa3_crawlTime
    have Fa3_commitTag'h4 : Fld Z h4 a3 "com/example/utando/utando/archive/PageMeta" "commitTag" "Ljava/lang/String;" .null := Fld.ext Eh4 Fa3_commitTag
    have hsh4 : n0 ≤ h4.size := Nat.le_trans hsh2 Eh4.1
    show X.G h4 5 15 110 #[.val (.long p), .second, .val (.long q), .second, .val (.long t1), .second, .val (.long t2), .second, .val (.int md), .val (.int u1), .val (.int u2), .val (.int u3), .val (.int u4), .val (.int w1), .val (.int w2), .val (.int w3), .val (.int w4), .val (.long tm), .second, .val (.int kd), .val (.ref g0), .unset, .unset, .unset] [(.ref g1), (.ref a3), (.ref a3)]
    refine X.iload (q := 112) at_110 rfl rfl ?_
    refine X.callN HKh4 (own_tx l Z a0 hw h4 n0 u2 cs hcs hu2 hsh4 Sc'h4) (hw _ (List.mem_of_getElem? (i := 8) rfl)) (hw _ (List.mem_of_getElem? (i := 9) rfl)) (hw _ (List.mem_of_getElem? (i := 2) rfl)) (hw _ (List.mem_of_getElem? (i := 10) rfl)) (by decide) own_pd9 (argsL := [(.int u2)]) (rest := [(.ref g1), (.ref a3), (.ref a3)]) rfl rfl rfl (W := 3) (Nat.le_of_eq rfl) rfl (by decide) (by decide) (k' := 7) (n' := 20) rfl rfl (by decide) (by decide) at_112 (q := 115) rfl ?_
    rintro _ X _ h5 - HKh5 - ⟨g2, rfl, Tg2, Eh5⟩
    have Sc'h5 : Sta Z h5 "java/lang/String" "COMPACT_STRINGS" "Z" (.int cs) := Sta.ext Eh5 Sc'h4
    have Tg0'h5 : OwT Z h5 g0 (own_norm u1.toInt) := OwT.ext Eh5 Tg0'h4
    have Ba3'h5 : Exa Z h5 a3 "com/example/utando/utando/archive/PageMeta" := Exa.ext Eh5 Ba3'h4
    have Fa3_url'h5 : Fld Z h5 a3 "com/example/utando/utando/archive/PageMeta" "url" "Ljava/lang/String;" .null := Fld.ext Eh5 Fa3_url'h4
    have Fa3_title'h5 : Fld Z h5 a3 "com/example/utando/utando/archive/PageMeta" "title" "Ljava/lang/String;" .null := Fld.ext Eh5 Fa3_title'h4
    have Fa3_path'h5 : Fld Z h5 a3 "com/example/utando/utando/archive/PageMeta" "path" "Ljava/lang/String;" .null := Fld.ext Eh5 Fa3_path'h4
    have Fa3_crawlTime'h5 : Fld Z h5 a3 "com/example/utando/utando/archive/PageMeta" "crawlTime" "J" (.long (0 : Int64)) := Fld.ext Eh5 Fa3_crawlTime'h4
    have Fa3_commitTag'h5 : Fld Z h5 a3 "com/example/utando/utando/archive/PageMeta" "commitTag" "Ljava/lang/String;" .null := Fld.ext Eh5 Fa3_commitTag'h4
    have Tg1'h5 : OwT Z h5 g1 (own_norm u1.toInt) := OwT.ext Eh5 Tg1
    have hsh5 : n0 ≤ h5.size := Nat.le_trans hsh4 Eh5.1
    show X.G h5 7 20 115 #[.val (.long p), .second, .val (.long q), .second, .val (.long t1), .second, .val (.long t2), .second, .val (.int md), .val (.int u1), .val (.int u2), .val (.int u3), .val (.int u4), .val (.int w1), .val (.int w2), .val (.int w3), .val (.int w4), .val (.long tm), .second, .val (.int kd), .val (.ref g0), .unset, .unset, .unset] [(.ref g2), (.ref g1), (.ref a3), (.ref a3)]
    refine X.iload (q := 117) at_115 rfl rfl ?_
    refine X.callN HKh5 (own_tx l Z a0 hw h5 n0 u3 cs hcs hu3 hsh5 Sc'h5) (hw _ (List.mem_of_getElem? (i := 8) rfl)) (hw _ (List.mem_of_getElem? (i := 9) rfl)) (hw _ (List.mem_of_getElem? (i := 2) rfl)) (hw _ (List.mem_of_getElem? (i := 10) rfl)) (by decide) own_pd9 (argsL := [(.int u3)]) (rest := [(.ref g2), (.ref g1), (.ref a3), (.ref a3)]) rfl rfl rfl (W := 4) (Nat.le_of_eq rfl) rfl (by decide) (by decide) (k' := 9) (n' := 25) rfl rfl (by decide) (by decide) at_117 (q := 120) rfl ?_
    rintro _ X _ h6 - HKh6 - ⟨g3, rfl, Tg3, Eh6⟩
    have Sc'h6 : Sta Z h6 "java/lang/String" "COMPACT_STRINGS" "Z" (.int cs) := Sta.ext Eh6 Sc'h5
    have Tg0'h6 : OwT Z h6 g0 (own_norm u1.toInt) := OwT.ext Eh6 Tg0'h5
    have Ba3'h6 : Exa Z h6 a3 "com/example/utando/utando/archive/PageMeta" := Exa.ext Eh6 Ba3'h5
    have Fa3_url'h6 : Fld Z h6 a3 "com/example/utando/utando/archive/PageMeta" "url" "Ljava/lang/String;" .null := Fld.ext Eh6 Fa3_url'h5
    have Fa3_title'h6 : Fld Z h6 a3 "com/example/utando/utando/archive/PageMeta" "title" "Ljava/lang/String;" .null := Fld.ext Eh6 Fa3_title'h5
    have Fa3_path'h6 : Fld Z h6 a3 "com/example/utando/utando/archive/PageMeta" "path" "Ljava/lang/String;" .null := Fld.ext Eh6 Fa3_path'h5
    have Fa3_crawlTime'h6 : Fld Z h6 a3 "com/example/utando/utando/archive/PageMeta" "crawlTime" "J" (.long (0 : Int64)) := Fld.ext Eh6 Fa3_crawlTime'h5
    have Fa3_commitTag'h6 : Fld Z h6 a3 "com/example/utando/utando/archive/PageMeta" "commitTag" "Ljava/lang/String;" .null := Fld.ext Eh6 Fa3_commitTag'h5
    have Tg1'h6 : OwT Z h6 g1 (own_norm u1.toInt) := OwT.ext Eh6 Tg1'h5
    have Tg2'h6 : OwT Z h6 g2 (own_norm u2.toInt) := OwT.ext Eh6 Tg2
    have hsh6 : n0 ≤ h6.size := Nat.le_trans hsh5 Eh6.1
    show X.G h6 9 25 120 #[.val (.long p), .second, .val (.long q), .second, .val (.long t1), .second, .val (.long t2), .second, .val (.int md), .val (.int u1), .val (.int u2), .val (.int u3), .val (.int u4), .val (.int w1), .val (.int w2), .val (.int w3), .val (.int w4), .val (.long tm), .second, .val (.int kd), .val (.ref g0), .unset, .unset, .unset] [(.ref g3), (.ref g2), (.ref g1), (.ref a3), (.ref a3)]
    refine X.lload (q := 122) at_120 rfl rfl ?_
    refine X.iload (q := 124) at_122 rfl rfl ?_
    refine X.callN HKh6 (own_tx l Z a0 hw h6 n0 u4 cs hcs hu4 hsh6 Sc'h6) (hw _ (List.mem_of_getElem? (i := 8) rfl)) (hw _ (List.mem_of_getElem? (i := 9) rfl)) (hw _ (List.mem_of_getElem? (i := 2) rfl)) (hw _ (List.mem_of_getElem? (i := 10) rfl)) (by decide) own_pd9 (argsL := [(.int u4)]) (rest := [(.long t1), (.ref g3), (.ref g2), (.ref g1), (.ref a3), (.ref a3)]) rfl rfl rfl (W := 7) (Nat.le_of_eq rfl) rfl (by decide) (by decide) (k' := 11) (n' := 30) rfl rfl (by decide) (by decide) at_124 (q := 127) rfl ?_
    rintro _ X _ h7 - HKh7 - ⟨g4, rfl, Tg4, Eh7⟩
    have Sc'h7 : Sta Z h7 "java/lang/String" "COMPACT_STRINGS" "Z" (.int cs) := Sta.ext Eh7 Sc'h6
    have Tg0'h7 : OwT Z h7 g0 (own_norm u1.toInt) := OwT.ext Eh7 Tg0'h6
    have Ba3'h7 : Exa Z h7 a3 "com/example/utando/utando/archive/PageMeta" := Exa.ext Eh7 Ba3'h6
    have Fa3_url'h7 : Fld Z h7 a3 "com/example/utando/utando/archive/PageMeta" "url" "Ljava/lang/String;" .null := Fld.ext Eh7 Fa3_url'h6
    have Fa3_title'h7 : Fld Z h7 a3 "com/example/utando/utando/archive/PageMeta" "title" "Ljava/lang/String;" .null := Fld.ext Eh7 Fa3_title'h6
    have Fa3_path'h7 : Fld Z h7 a3 "com/example/utando/utando/archive/PageMeta" "path" "Ljava/lang/String;" .null := Fld.ext Eh7 Fa3_path'h6
    have Fa3_crawlTime'h7 : Fld Z h7 a3 "com/example/utando/utando/archive/PageMeta" "crawlTime" "J" (.long (0 : Int64)) := Fld.ext Eh7 Fa3_crawlTime'h6
    have Fa3_commitTag'h7 : Fld Z h7 a3 "com/example/utando/utando/archive/PageMeta" "commitTag" "Ljava/lang/String;" .null := Fld.ext Eh7 Fa3_commitTag'h6
    have Tg1'h7 : OwT Z h7 g1 (own_norm u1.toInt) := OwT.ext Eh7 Tg1'h6
    have Tg2'h7 : OwT Z h7 g2 (own_norm u2.toInt) := OwT.ext Eh7 Tg2'h6
    have Tg3'h7 : OwT Z h7 g3 (own_norm u3.toInt) := OwT.ext Eh7 Tg3
    have hsh7 : n0 ≤ h7.size := Nat.le_trans hsh6 Eh7.1
    show X.G h7 11 30 127 #[.val (.long p), .second, .val (.long q), .second, .val (.long t1), .second, .val (.long t2), .second, .val (.int md), .val (.int u1), .val (.int u2), .val (.int u3), .val (.int u4), .val (.int w1), .val (.int w2), .val (.int w3), .val (.int w4), .val (.long tm), .second, .val (.int kd), .val (.ref g0), .unset, .unset, .unset] [(.ref g4), (.long t1), (.ref g3), (.ref g2), (.ref g1), (.ref a3), (.ref a3)]
    refine X.specialN HKh7 (a := a3) (own_ct l Z a0 hw h7 n0 a3 g1 g2 g3 g4 t1 hsh7 Ba3'h7 Fa3_url'h7 Fa3_title'h7 Fa3_path'h7 Fa3_crawlTime'h7 Fa3_commitTag'h7 Tg1'h7.exa Tg2'h7.exa Tg3'h7.exa Tg4.exa gea3) rfl (hw _ (List.mem_of_getElem? (i := 40) rfl)) (hw _ (List.mem_of_getElem? (i := 41) rfl)) (hw _ (List.mem_of_getElem? (i := 39) rfl)) (hw _ (List.mem_of_getElem? (i := 42) rfl)) (by decide) own_pd10 (argsL := [(.ref g1), (.ref g2), (.ref g3), (.long t1), (.ref g4)]) (rest := [(.ref a3)]) rfl rfl rfl (W := 1) (Nat.le_of_eq rfl) rfl (by decide) (by decide) (k' := 19) (n' := 258) rfl rfl (by decide) (by decide) at_127 (q := 130) rfl ?_
    rintro _ X _ h8 - HKh8 - ⟨rfl, Kh8, PX, Purl, Ptitle, Ppath, PcrawlTime, PcommitTag⟩
    have Sc'h8 : Sta Z h8 "java/lang/String" "COMPACT_STRINGS" "Z" (.int cs) := ow_staKeep Sc'h7 Kh8 (fun z hz => by cases List.mem_singleton.mp hz; exact ⟨_, Ba3'h7⟩)
    have Tg0'h8 : OwT Z h8 g0 (own_norm u1.toInt) := OwT.keep Tg0'h7 Kh8 Ba3'h7 (hw _ (List.mem_of_getElem? (i := 38) rfl)) (by decide)
    have Tg1'h8 : OwT Z h8 g1 (own_norm u1.toInt) := OwT.keep Tg1'h7 Kh8 Ba3'h7 (hw _ (List.mem_of_getElem? (i := 38) rfl)) (by decide)
    have Tg2'h8 : OwT Z h8 g2 (own_norm u2.toInt) := OwT.keep Tg2'h7 Kh8 Ba3'h7 (hw _ (List.mem_of_getElem? (i := 38) rfl)) (by decide)
    have Tg3'h8 : OwT Z h8 g3 (own_norm u3.toInt) := OwT.keep Tg3'h7 Kh8 Ba3'h7 (hw _ (List.mem_of_getElem? (i := 38) rfl)) (by decide)
    have Tg4'h8 : OwT Z h8 g4 (own_norm u4.toInt) := OwT.keep Tg4 Kh8 Ba3'h7 (hw _ (List.mem_of_getElem? (i := 38) rfl)) (by decide)
    have hsh8 : n0 ≤ h8.size := Nat.le_trans hsh7 Kh8.1
    show X.G h8 19 258 130 #[.val (.long p), .second, .val (.long q), .second, .val (.long t1), .second, .val (.long t2), .second, .val (.int md), .val (.int u1), .val (.int u2), .val (.int u3), .val (.int u4), .val (.int w1), .val (.int w2), .val (.int w3), .val (.int w4), .val (.long tm), .second, .val (.int kd), .val (.ref g0), .unset, .unset, .unset] [(.ref a3)]
    refine X.astore (q := 132) (Ls' := #[.val (.long p), .second, .val (.long q), .second, .val (.long t1), .second, .val (.long t2), .second, .val (.int md), .val (.int u1), .val (.int u2), .val (.int u3), .val (.int u4), .val (.int w1), .val (.int w2), .val (.int w3), .val (.int w4), .val (.long tm), .second, .val (.int kd), .val (.ref g0), .val (.ref a3), .unset, .unset]) at_130 rfl rfl rfl ?_
    refine X.newO (q := 135) (k' := 20) (n' := 263) (hw _ (List.mem_of_getElem? (i := 37) rfl)) (hw _ (List.mem_of_getElem? (i := 38) rfl)) (hw _ (List.mem_of_getElem? (i := 39) rfl)) at_132 rfl rfl (by decide) (by decide) rfl (fun h9 a10 ga10 Eh9 Ba10 Da10 => ?_)
    have lg0_a10 : g0 < a10 := by have := Tg0'h8.lt; rw [← ga10] at this; exact this
    have lg1_a10 : g1 < a10 := by have := Tg1'h8.lt; rw [← ga10] at this; exact this
    have lg2_a10 : g2 < a10 := by have := Tg2'h8.lt; rw [← ga10] at this; exact this
    have lg3_a10 : g3 < a10 := by have := Tg3'h8.lt; rw [← ga10] at this; exact this
    have lg4_a10 : g4 < a10 := by have := Tg4'h8.lt; rw [← ga10] at this; exact this
    have la3_a10 : a3 < a10 := by have := PX.lt; rw [← ga10] at this; exact this
    have Sc'h9 : Sta Z h9 "java/lang/String" "COMPACT_STRINGS" "Z" (.int cs) := Sta.ext Eh9 Sc'h8
    have Tg0'h9 : OwT Z h9 g0 (own_norm u1.toInt) := OwT.ext Eh9 Tg0'h8
    have Tg1'h9 : OwT Z h9 g1 (own_norm u1.toInt) := OwT.ext Eh9 Tg1'h8
    have Tg2'h9 : OwT Z h9 g2 (own_norm u2.toInt) := OwT.ext Eh9 Tg2'h8
    have Tg3'h9 : OwT Z h9 g3 (own_norm u3.toInt) := OwT.ext Eh9 Tg3'h8
    have Tg4'h9 : OwT Z h9 g4 (own_norm u4.toInt) := OwT.ext Eh9 Tg4'h8
    have PX'h9 : Exa Z h9 a3 "com/example/utando/utando/archive/PageMeta" := Exa.ext Eh9 PX
    have Purl'h9 : Fld Z h9 a3 "com/example/utando/utando/archive/PageMeta" "url" "Ljava/lang/String;" (.ref g1) := Fld.ext Eh9 Purl
    have Ptitle'h9 : Fld Z h9 a3 "com/example/utando/utando/archive/PageMeta" "title" "Ljava/lang/String;" (.ref g2) := Fld.ext Eh9 Ptitle
    have Ppath'h9 : Fld Z h9 a3 "com/example/utando/utando/archive/PageMeta" "path" "Ljava/lang/String;" (.ref g3) := Fld.ext Eh9 Ppath
    have PcrawlTime'h9 : Fld Z h9 a3 "com/example/utando/utando/archive/PageMeta" "crawlTime" "J" (.long t1) := Fld.ext Eh9 PcrawlTime
    have PcommitTag'h9 : Fld Z h9 a3 "com/example/utando/utando/archive/PageMeta" "commitTag" "Ljava/lang/String;" (.ref g4) := Fld.ext Eh9 PcommitTag
    have gea10 : n0 ≤ a10 := by rw [ga10]; exact hsh8
    have hsh9 : n0 ≤ h9.size := Nat.le_trans hsh8 Eh9.1
    have HKh9 := OwK.ext HKh8 Eh9
    have Fa10_url : Fld Z h9 a10 "com/example/utando/utando/archive/PageMeta" "url" "Ljava/lang/String;" .null := Da10 (Or.inr (hw _ (List.mem_of_getElem? (i := 53) rfl))) (ty := (.object "java/lang/String")) (by decide)
    have Fa10_title : Fld Z h9 a10 "com/example/utando/utando/archive/PageMeta" "title" "Ljava/lang/String;" .null := Da10 (Or.inr (hw _ (List.mem_of_getElem? (i := 56) rfl))) (ty := (.object "java/lang/String")) (by decide)
    have Fa10_path : Fld Z h9 a10 "com/example/utando/utando/archive/PageMeta" "path" "Ljava/lang/String;" .null := Da10 (Or.inr (hw _ (List.mem_of_getElem? (i := 59) rfl))) (ty := (.object "java/lang/String")) (by decide)
    have Fa10_crawlTime : Fld Z h9 a10 "com/example/utando/utando/archive/PageMeta" "crawlTime" "J" (.long (0 : Int64)) := Da10 (Or.inr (hw _ (List.mem_of_getElem? (i := 61) rfl))) (ty := .long) (by decide)
    have Fa10_commitTag : Fld Z h9 a10 "com/example/utando/utando/archive/PageMeta" "commitTag" "Ljava/lang/String;" .null := Da10 (Or.inr (hw _ (List.mem_of_getElem? (i := 64) rfl))) (ty := (.object "java/lang/String")) (by decide)
    refine X.dup (q := 136) at_135 rfl rfl ?_
    refine X.iload (q := 138) at_136 rfl rfl ?_
    refine X.callN HKh9 (own_tx l Z a0 hw h9 n0 w1 cs hcs hw1 hsh9 Sc'h9) (hw _ (List.mem_of_getElem? (i := 8) rfl)) (hw _ (List.mem_of_getElem? (i := 9) rfl)) (hw _ (List.mem_of_getElem? (i := 2) rfl)) (hw _ (List.mem_of_getElem? (i := 10) rfl)) (by decide) own_pd9 (argsL := [(.int w1)]) (rest := [(.ref a10), (.ref a10)]) rfl rfl rfl (W := 2) (Nat.le_of_eq rfl) rfl (by decide) (by decide) (k' := 22) (n' := 268) rfl rfl (by decide) (by decide) at_138 (q := 141) rfl ?_
    rintro _ X _ h11 - HKh11 - ⟨k1, rfl, Tk1, Eh11⟩
    have Sc'h11 : Sta Z h11 "java/lang/String" "COMPACT_STRINGS" "Z" (.int cs) := Sta.ext Eh11 Sc'h9
    have Tg0'h11 : OwT Z h11 g0 (own_norm u1.toInt) := OwT.ext Eh11 Tg0'h9
    have Tg1'h11 : OwT Z h11 g1 (own_norm u1.toInt) := OwT.ext Eh11 Tg1'h9
    have Tg2'h11 : OwT Z h11 g2 (own_norm u2.toInt) := OwT.ext Eh11 Tg2'h9
    have Tg3'h11 : OwT Z h11 g3 (own_norm u3.toInt) := OwT.ext Eh11 Tg3'h9
    have Tg4'h11 : OwT Z h11 g4 (own_norm u4.toInt) := OwT.ext Eh11 Tg4'h9
    have PX'h11 : Exa Z h11 a3 "com/example/utando/utando/archive/PageMeta" := Exa.ext Eh11 PX'h9
    have Purl'h11 : Fld Z h11 a3 "com/example/utando/utando/archive/PageMeta" "url" "Ljava/lang/String;" (.ref g1) := Fld.ext Eh11 Purl'h9
    have Ptitle'h11 : Fld Z h11 a3 "com/example/utando/utando/archive/PageMeta" "title" "Ljava/lang/String;" (.ref g2) := Fld.ext Eh11 Ptitle'h9
    have Ppath'h11 : Fld Z h11 a3 "com/example/utando/utando/archive/PageMeta" "path" "Ljava/lang/String;" (.ref g3) := Fld.ext Eh11 Ppath'h9
    have PcrawlTime'h11 : Fld Z h11 a3 "com/example/utando/utando/archive/PageMeta" "crawlTime" "J" (.long t1) := Fld.ext Eh11 PcrawlTime'h9
    have PcommitTag'h11 : Fld Z h11 a3 "com/example/utando/utando/archive/PageMeta" "commitTag" "Ljava/lang/String;" (.ref g4) := Fld.ext Eh11 PcommitTag'h9
    have Ba10'h11 : Exa Z h11 a10 "com/example/utando/utando/archive/PageMeta" := Exa.ext Eh11 Ba10
    have Fa10_url'h11 : Fld Z h11 a10 "com/example/utando/utando/archive/PageMeta" "url" "Ljava/lang/String;" .null := Fld.ext Eh11 Fa10_url
    have Fa10_title'h11 : Fld Z h11 a10 "com/example/utando/utando/archive/PageMeta" "title" "Ljava/lang/String;" .null := Fld.ext Eh11 Fa10_title
    have Fa10_path'h11 : Fld Z h11 a10 "com/example/utando/utando/archive/PageMeta" "path" "Ljava/lang/String;" .null := Fld.ext Eh11 Fa10_path
    have Fa10_crawlTime'h11 : Fld Z h11 a10 "com/example/utando/utando/archive/PageMeta" "crawlTime" "J" (.long (0 : Int64)) := Fld.ext Eh11 Fa10_crawlTime
    have Fa10_commitTag'h11 : Fld Z h11 a10 "com/example/utando/utando/archive/PageMeta" "commitTag" "Ljava/lang/String;" .null := Fld.ext Eh11 Fa10_commitTag
    have hsh11 : n0 ≤ h11.size := Nat.le_trans hsh9 Eh11.1
    show X.G h11 22 268 141 #[.val (.long p), .second, .val (.long q), .second, .val (.long t1), .second, .val (.long t2), .second, .val (.int md), .val (.int u1), .val (.int u2), .val (.int u3), .val (.int u4), .val (.int w1), .val (.int w2), .val (.int w3), .val (.int w4), .val (.long tm), .second, .val (.int kd), .val (.ref g0), .val (.ref a3), .unset, .unset] [(.ref k1), (.ref a10), (.ref a10)]
    refine X.iload (q := 143) at_141 rfl rfl ?_
    refine X.callN HKh11 (own_tx l Z a0 hw h11 n0 w2 cs hcs hw2 hsh11 Sc'h11) (hw _ (List.mem_of_getElem? (i := 8) rfl)) (hw _ (List.mem_of_getElem? (i := 9) rfl)) (hw _ (List.mem_of_getElem? (i := 2) rfl)) (hw _ (List.mem_of_getElem? (i := 10) rfl)) (by decide) own_pd9 (argsL := [(.int w2)]) (rest := [(.ref k1), (.ref a10), (.ref a10)]) rfl rfl rfl (W := 3) (Nat.le_of_eq rfl) rfl (by decide) (by decide) (k' := 24) (n' := 273) rfl rfl (by decide) (by decide) at_143 (q := 146) rfl ?_
    rintro _ X _ h12 - HKh12 - ⟨k2, rfl, Tk2, Eh12⟩
    have Sc'h12 : Sta Z h12 "java/lang/String" "COMPACT_STRINGS" "Z" (.int cs) := Sta.ext Eh12 Sc'h11
    have Tg0'h12 : OwT Z h12 g0 (own_norm u1.toInt) := OwT.ext Eh12 Tg0'h11
    have Tg1'h12 : OwT Z h12 g1 (own_norm u1.toInt) := OwT.ext Eh12 Tg1'h11
    have Tg2'h12 : OwT Z h12 g2 (own_norm u2.toInt) := OwT.ext Eh12 Tg2'h11
    have Tg3'h12 : OwT Z h12 g3 (own_norm u3.toInt) := OwT.ext Eh12 Tg3'h11
    have Tg4'h12 : OwT Z h12 g4 (own_norm u4.toInt) := OwT.ext Eh12 Tg4'h11
    have PX'h12 : Exa Z h12 a3 "com/example/utando/utando/archive/PageMeta" := Exa.ext Eh12 PX'h11
    have Purl'h12 : Fld Z h12 a3 "com/example/utando/utando/archive/PageMeta" "url" "Ljava/lang/String;" (.ref g1) := Fld.ext Eh12 Purl'h11
    have Ptitle'h12 : Fld Z h12 a3 "com/example/utando/utando/archive/PageMeta" "title" "Ljava/lang/String;" (.ref g2) := Fld.ext Eh12 Ptitle'h11
    have Ppath'h12 : Fld Z h12 a3 "com/example/utando/utando/archive/PageMeta" "path" "Ljava/lang/String;" (.ref g3) := Fld.ext Eh12 Ppath'h11
    have PcrawlTime'h12 : Fld Z h12 a3 "com/example/utando/utando/archive/PageMeta" "crawlTime" "J" (.long t1) := Fld.ext Eh12 PcrawlTime'h11
    have PcommitTag'h12 : Fld Z h12 a3 "com/example/utando/utando/archive/PageMeta" "commitTag" "Ljava/lang/String;" (.ref g4) := Fld.ext Eh12 PcommitTag'h11
    have Ba10'h12 : Exa Z h12 a10 "com/example/utando/utando/archive/PageMeta" := Exa.ext Eh12 Ba10'h11
    have Fa10_url'h12 : Fld Z h12 a10 "com/example/utando/utando/archive/PageMeta" "url" "Ljava/lang/String;" .null := Fld.ext Eh12 Fa10_url'h11
    have Fa10_title'h12 : Fld Z h12 a10 "com/example/utando/utando/archive/PageMeta" "title" "Ljava/lang/String;" .null := Fld.ext Eh12 Fa10_title'h11
    have Fa10_path'h12 : Fld Z h12 a10 "com/example/utando/utando/archive/PageMeta" "path" "Ljava/lang/String;" .null := Fld.ext Eh12 Fa10_path'h11
    have Fa10_crawlTime'h12 : Fld Z h12 a10 "com/example/utando/utando/archive/PageMeta" "crawlTime" "J" (.long (0 : Int64)) := Fld.ext Eh12 Fa10_crawlTime'h11
    have Fa10_commitTag'h12 : Fld Z h12 a10 "com/example/utando/utando/archive/PageMeta" "commitTag" "Ljava/lang/String;" .null := Fld.ext Eh12 Fa10_commitTag'h11
    have Tk1'h12 : OwT Z h12 k1 (own_norm w1.toInt) := OwT.ext Eh12 Tk1
    have hsh12 : n0 ≤ h12.size := Nat.le_trans hsh11 Eh12.1
    show X.G h12 24 273 146 #[.val (.long p), .second, .val (.long q), .second, .val (.long t1), .second, .val (.long t2), .second, .val (.int md), .val (.int u1), .val (.int u2), .val (.int u3), .val (.int u4), .val (.int w1), .val (.int w2), .val (.int w3), .val (.int w4), .val (.long tm), .second, .val (.int kd), .val (.ref g0), .val (.ref a3), .unset, .unset] [(.ref k2), (.ref k1), (.ref a10), (.ref a10)]
    refine X.iload (q := 148) at_146 rfl rfl ?_
    refine X.callN HKh12 (own_tx l Z a0 hw h12 n0 w3 cs hcs hw3 hsh12 Sc'h12) (hw _ (List.mem_of_getElem? (i := 8) rfl)) (hw _ (List.mem_of_getElem? (i := 9) rfl)) (hw _ (List.mem_of_getElem? (i := 2) rfl)) (hw _ (List.mem_of_getElem? (i := 10) rfl)) (by decide) own_pd9 (argsL := [(.int w3)]) (rest := [(.ref k2), (.ref k1), (.ref a10), (.ref a10)]) rfl rfl rfl (W := 4) (Nat.le_of_eq rfl) rfl (by decide) (by decide) (k' := 26) (n' := 278) rfl rfl (by decide) (by decide) at_148 (q := 151) rfl ?_
    rintro _ X _ h13 - HKh13 - ⟨k3, rfl, Tk3, Eh13⟩
    have Sc'h13 : Sta Z h13 "java/lang/String" "COMPACT_STRINGS" "Z" (.int cs) := Sta.ext Eh13 Sc'h12
    have Tg0'h13 : OwT Z h13 g0 (own_norm u1.toInt) := OwT.ext Eh13 Tg0'h12
    have Tg1'h13 : OwT Z h13 g1 (own_norm u1.toInt) := OwT.ext Eh13 Tg1'h12
    have Tg2'h13 : OwT Z h13 g2 (own_norm u2.toInt) := OwT.ext Eh13 Tg2'h12
    have Tg3'h13 : OwT Z h13 g3 (own_norm u3.toInt) := OwT.ext Eh13 Tg3'h12
    have Tg4'h13 : OwT Z h13 g4 (own_norm u4.toInt) := OwT.ext Eh13 Tg4'h12
    have PX'h13 : Exa Z h13 a3 "com/example/utando/utando/archive/PageMeta" := Exa.ext Eh13 PX'h12
    have Purl'h13 : Fld Z h13 a3 "com/example/utando/utando/archive/PageMeta" "url" "Ljava/lang/String;" (.ref g1) := Fld.ext Eh13 Purl'h12
    have Ptitle'h13 : Fld Z h13 a3 "com/example/utando/utando/archive/PageMeta" "title" "Ljava/lang/String;" (.ref g2) := Fld.ext Eh13 Ptitle'h12
    have Ppath'h13 : Fld Z h13 a3 "com/example/utando/utando/archive/PageMeta" "path" "Ljava/lang/String;" (.ref g3) := Fld.ext Eh13 Ppath'h12
    have PcrawlTime'h13 : Fld Z h13 a3 "com/example/utando/utando/archive/PageMeta" "crawlTime" "J" (.long t1) := Fld.ext Eh13 PcrawlTime'h12
    have PcommitTag'h13 : Fld Z h13 a3 "com/example/utando/utando/archive/PageMeta" "commitTag" "Ljava/lang/String;" (.ref g4) := Fld.ext Eh13 PcommitTag'h12
    have Ba10'h13 : Exa Z h13 a10 "com/example/utando/utando/archive/PageMeta" := Exa.ext Eh13 Ba10'h12
    have Fa10_url'h13 : Fld Z h13 a10 "com/example/utando/utando/archive/PageMeta" "url" "Ljava/lang/String;" .null := Fld.ext Eh13 Fa10_url'h12
    have Fa10_title'h13 : Fld Z h13 a10 "com/example/utando/utando/archive/PageMeta" "title" "Ljava/lang/String;" .null := Fld.ext Eh13 Fa10_title'h12
    have Fa10_path'h13 : Fld Z h13 a10 "com/example/utando/utando/archive/PageMeta" "path" "Ljava/lang/String;" .null := Fld.ext Eh13 Fa10_path'h12
    have Fa10_crawlTime'h13 : Fld Z h13 a10 "com/example/utando/utando/archive/PageMeta" "crawlTime" "J" (.long (0 : Int64)) := Fld.ext Eh13 Fa10_crawlTime'h12
    have Fa10_commitTag'h13 : Fld Z h13 a10 "com/example/utando/utando/archive/PageMeta" "commitTag" "Ljava/lang/String;" .null := Fld.ext Eh13 Fa10_commitTag'h12
    have Tk1'h13 : OwT Z h13 k1 (own_norm w1.toInt) := OwT.ext Eh13 Tk1'h12
    have Tk2'h13 : OwT Z h13 k2 (own_norm w2.toInt) := OwT.ext Eh13 Tk2
    have hsh13 : n0 ≤ h13.size := Nat.le_trans hsh12 Eh13.1
    show X.G h13 26 278 151 #[.val (.long p), .second, .val (.long q), .second, .val (.long t1), .second, .val (.long t2), .second, .val (.int md), .val (.int u1), .val (.int u2), .val (.int u3), .val (.int u4), .val (.int w1), .val (.int w2), .val (.int w3), .val (.int w4), .val (.long tm), .second, .val (.int kd), .val (.ref g0), .val (.ref a3), .unset, .unset] [(.ref k3), (.ref k2), (.ref k1), (.ref a10), (.ref a10)]
    refine X.lload (q := 153) at_151 rfl rfl ?_
    refine X.iload (q := 155) at_153 rfl rfl ?_
    refine X.callN HKh13 (own_tx l Z a0 hw h13 n0 w4 cs hcs hw4 hsh13 Sc'h13) (hw _ (List.mem_of_getElem? (i := 8) rfl)) (hw _ (List.mem_of_getElem? (i := 9) rfl)) (hw _ (List.mem_of_getElem? (i := 2) rfl)) (hw _ (List.mem_of_getElem? (i := 10) rfl)) (by decide) own_pd9 (argsL := [(.int w4)]) (rest := [(.long tm), (.ref k3), (.ref k2), (.ref k1), (.ref a10), (.ref a10)]) rfl rfl rfl (W := 7) (Nat.le_of_eq rfl) rfl (by decide) (by decide) (k' := 28) (n' := 283) rfl rfl (by decide) (by decide) at_155 (q := 158) rfl ?_
    rintro _ X _ h14 - HKh14 - ⟨k4, rfl, Tk4, Eh14⟩
    have Sc'h14 : Sta Z h14 "java/lang/String" "COMPACT_STRINGS" "Z" (.int cs) := Sta.ext Eh14 Sc'h13
    have Tg0'h14 : OwT Z h14 g0 (own_norm u1.toInt) := OwT.ext Eh14 Tg0'h13
    have Tg1'h14 : OwT Z h14 g1 (own_norm u1.toInt) := OwT.ext Eh14 Tg1'h13
    have Tg2'h14 : OwT Z h14 g2 (own_norm u2.toInt) := OwT.ext Eh14 Tg2'h13
    have Tg3'h14 : OwT Z h14 g3 (own_norm u3.toInt) := OwT.ext Eh14 Tg3'h13
    have Tg4'h14 : OwT Z h14 g4 (own_norm u4.toInt) := OwT.ext Eh14 Tg4'h13
    have PX'h14 : Exa Z h14 a3 "com/example/utando/utando/archive/PageMeta" := Exa.ext Eh14 PX'h13
    have Purl'h14 : Fld Z h14 a3 "com/example/utando/utando/archive/PageMeta" "url" "Ljava/lang/String;" (.ref g1) := Fld.ext Eh14 Purl'h13
    have Ptitle'h14 : Fld Z h14 a3 "com/example/utando/utando/archive/PageMeta" "title" "Ljava/lang/String;" (.ref g2) := Fld.ext Eh14 Ptitle'h13
    have Ppath'h14 : Fld Z h14 a3 "com/example/utando/utando/archive/PageMeta" "path" "Ljava/lang/String;" (.ref g3) := Fld.ext Eh14 Ppath'h13
    have PcrawlTime'h14 : Fld Z h14 a3 "com/example/utando/utando/archive/PageMeta" "crawlTime" "J" (.long t1) := Fld.ext Eh14 PcrawlTime'h13
    have PcommitTag'h14 : Fld Z h14 a3 "com/example/utando/utando/archive/PageMeta" "commitTag" "Ljava/lang/String;" (.ref g4) := Fld.ext Eh14 PcommitTag'h13
    have Ba10'h14 : Exa Z h14 a10 "com/example/utando/utando/archive/PageMeta" := Exa.ext Eh14 Ba10'h13
    have Fa10_url'h14 : Fld Z h14 a10 "com/example/utando/utando/archive/PageMeta" "url" "Ljava/lang/String;" .null := Fld.ext Eh14 Fa10_url'h13
    have Fa10_title'h14 : Fld Z h14 a10 "com/example/utando/utando/archive/PageMeta" "title" "Ljava/lang/String;" .null := Fld.ext Eh14 Fa10_title'h13
    have Fa10_path'h14 : Fld Z h14 a10 "com/example/utando/utando/archive/PageMeta" "path" "Ljava/lang/String;" .null := Fld.ext Eh14 Fa10_path'h13
    have Fa10_crawlTime'h14 : Fld Z h14 a10 "com/example/utando/utando/archive/PageMeta" "crawlTime" "J" (.long (0 : Int64)) := Fld.ext Eh14 Fa10_crawlTime'h13
    have Fa10_commitTag'h14 : Fld Z h14 a10 "com/example/utando/utando/archive/PageMeta" "commitTag" "Ljava/lang/String;" .null := Fld.ext Eh14 Fa10_commitTag'h13
    have Tk1'h14 : OwT Z h14 k1 (own_norm w1.toInt) := OwT.ext Eh14 Tk1'h13
    have Tk2'h14 : OwT Z h14 k2 (own_norm w2.toInt) := OwT.ext Eh14 Tk2'h13
    have Tk3'h14 : OwT Z h14 k3 (own_norm w3.toInt) := OwT.ext Eh14 Tk3
    have hsh14 : n0 ≤ h14.size := Nat.le_trans hsh13 Eh14.1
    show X.G h14 28 283 158 #[.val (.long p), .second, .val (.long q), .second, .val (.long t1), .second, .val (.long t2), .second, .val (.int md), .val (.int u1), .val (.int u2), .val (.int u3), .val (.int u4), .val (.int w1), .val (.int w2), .val (.int w3), .val (.int w4), .val (.long tm), .second, .val (.int kd), .val (.ref g0), .val (.ref a3), .unset, .unset] [(.ref k4), (.long tm), (.ref k3), (.ref k2), (.ref k1), (.ref a10), (.ref a10)]
    refine X.specialN HKh14 (a := a10) (own_ct l Z a0 hw h14 n0 a10 k1 k2 k3 k4 tm hsh14 Ba10'h14 Fa10_url'h14 Fa10_title'h14 Fa10_path'h14 Fa10_crawlTime'h14 Fa10_commitTag'h14 Tk1'h14.exa Tk2'h14.exa Tk3'h14.exa Tk4.exa gea10) rfl (hw _ (List.mem_of_getElem? (i := 40) rfl)) (hw _ (List.mem_of_getElem? (i := 41) rfl)) (hw _ (List.mem_of_getElem? (i := 39) rfl)) (hw _ (List.mem_of_getElem? (i := 42) rfl)) (by decide) own_pd10 (argsL := [(.ref k1), (.ref k2), (.ref k3), (.long tm), (.ref k4)]) (rest := [(.ref a10)]) rfl rfl rfl (W := 1) (Nat.le_of_eq rfl) rfl (by decide) (by decide) (k' := 36) (n' := 511) rfl rfl (by decide) (by decide) at_158 (q := 161) rfl ?_
    rintro _ X _ h15 - HKh15 - ⟨rfl, Kh15, QX, Qurl, Qtitle, Qpath, QcrawlTime, QcommitTag⟩
    have Sc'h15 : Sta Z h15 "java/lang/String" "COMPACT_STRINGS" "Z" (.int cs) := ow_staKeep Sc'h14 Kh15 (fun z hz => by cases List.mem_singleton.mp hz; exact ⟨_, Ba10'h14⟩)
    have Tg0'h15 : OwT Z h15 g0 (own_norm u1.toInt) := OwT.keep Tg0'h14 Kh15 Ba10'h14 (hw _ (List.mem_of_getElem? (i := 38) rfl)) (by decide)
    have Tg1'h15 : OwT Z h15 g1 (own_norm u1.toInt) := OwT.keep Tg1'h14 Kh15 Ba10'h14 (hw _ (List.mem_of_getElem? (i := 38) rfl)) (by decide)
    have Tg2'h15 : OwT Z h15 g2 (own_norm u2.toInt) := OwT.keep Tg2'h14 Kh15 Ba10'h14 (hw _ (List.mem_of_getElem? (i := 38) rfl)) (by decide)
    have Tg3'h15 : OwT Z h15 g3 (own_norm u3.toInt) := OwT.keep Tg3'h14 Kh15 Ba10'h14 (hw _ (List.mem_of_getElem? (i := 38) rfl)) (by decide)
    have Tg4'h15 : OwT Z h15 g4 (own_norm u4.toInt) := OwT.keep Tg4'h14 Kh15 Ba10'h14 (hw _ (List.mem_of_getElem? (i := 38) rfl)) (by decide)
    have PX'h15 : Exa Z h15 a3 "com/example/utando/utando/archive/PageMeta" := Exa.keep PX'h14 Kh15
    have Purl'h15 : Fld Z h15 a3 "com/example/utando/utando/archive/PageMeta" "url" "Ljava/lang/String;" (.ref g1) := Fld.keep Purl'h14 Kh15 (fun hm => (Nat.ne_of_lt la3_a10) (List.mem_singleton.mp hm))
    have Ptitle'h15 : Fld Z h15 a3 "com/example/utando/utando/archive/PageMeta" "title" "Ljava/lang/String;" (.ref g2) := Fld.keep Ptitle'h14 Kh15 (fun hm => (Nat.ne_of_lt la3_a10) (List.mem_singleton.mp hm))
    have Ppath'h15 : Fld Z h15 a3 "com/example/utando/utando/archive/PageMeta" "path" "Ljava/lang/String;" (.ref g3) := Fld.keep Ppath'h14 Kh15 (fun hm => (Nat.ne_of_lt la3_a10) (List.mem_singleton.mp hm))
    have PcrawlTime'h15 : Fld Z h15 a3 "com/example/utando/utando/archive/PageMeta" "crawlTime" "J" (.long t1) := Fld.keep PcrawlTime'h14 Kh15 (fun hm => (Nat.ne_of_lt la3_a10) (List.mem_singleton.mp hm))
    have PcommitTag'h15 : Fld Z h15 a3 "com/example/utando/utando/archive/PageMeta" "commitTag" "Ljava/lang/String;" (.ref g4) := Fld.keep PcommitTag'h14 Kh15 (fun hm => (Nat.ne_of_lt la3_a10) (List.mem_singleton.mp hm))
    have Tk1'h15 : OwT Z h15 k1 (own_norm w1.toInt) := OwT.keep Tk1'h14 Kh15 Ba10'h14 (hw _ (List.mem_of_getElem? (i := 38) rfl)) (by decide)
    have Tk2'h15 : OwT Z h15 k2 (own_norm w2.toInt) := OwT.keep Tk2'h14 Kh15 Ba10'h14 (hw _ (List.mem_of_getElem? (i := 38) rfl)) (by decide)
    have Tk3'h15 : OwT Z h15 k3 (own_norm w3.toInt) := OwT.keep Tk3'h14 Kh15 Ba10'h14 (hw _ (List.mem_of_getElem? (i := 38) rfl)) (by decide)
    have Tk4'h15 : OwT Z h15 k4 (own_norm w4.toInt) := OwT.keep Tk4 Kh15 Ba10'h14 (hw _ (List.mem_of_getElem? (i := 38) rfl)) (by decide)
    have hsh15 : n0 ≤ h15.size := Nat.le_trans hsh14 Kh15.1
    show X.G h15 36 511 161 #[.val (.long p), .second, .val (.long q), .second, .val (.long t1), .second, .val (.long t2), .second, .val (.int md), .val (.int u1), .val (.int u2), .val (.int u3), .val (.int u4), .val (.int w1), .val (.int w2), .val (.int w3), .val (.int w4), .val (.long tm), .second, .val (.int kd), .val (.ref g0), .val (.ref a3), .unset, .unset] [(.ref a10)]
    refine X.astore (q := 163) (Ls' := #[.val (.long p), .second, .val (.long q), .second, .val (.long t1), .second, .val (.long t2), .second, .val (.int md), .val (.int u1), .val (.int u2), .val (.int u3), .val (.int u4), .val (.int w1), .val (.int w2), .val (.int w3), .val (.int w4), .val (.long tm), .second, .val (.int kd), .val (.ref g0), .val (.ref a3), .val (.ref a10), .unset]) at_161 rfl rfl rfl ?_
    refine X.iload (q := 165) at_163 rfl rfl ?_
    refine X.iconst (q := 166) (1 : Int32) at_165 (by decide) rfl ?_
    refine X.icmp_ne (b := 1) (q' := 184) (q := 169) at_166 rfl rfl (by decide) rfl (fun c166 => ?_) (fun c166 => ?_)
    · refine X.iload (q := 186) at_184 rfl rfl ?_
      refine X.iconst (q := 187) (2 : Int32) at_186 (by decide) rfl ?_
      refine X.icmp_ne (b := 2) (q' := 206) (q := 190) at_187 rfl rfl (by decide) rfl (fun c187 => ?_) (fun c187 => ?_)
      · have J271 : ∀ (ex : Int32), ((ex.toInt = 1 ∧ (own_norm u1.toInt = own_norm w1.toInt ∧ own_norm u2.toInt = own_norm w2.toInt ∧ own_norm u3.toInt = own_norm w3.toInt ∧ own_norm u4.toInt = own_norm w4.toInt ∧ t1.toInt = tm.toInt)) ∨ (ex.toInt = 0 ∧ ¬ (own_norm u1.toInt = own_norm w1.toInt ∧ own_norm u2.toInt = own_norm w2.toInt ∧ own_norm u3.toInt = own_norm w3.toInt ∧ own_norm u4.toInt = own_norm w4.toInt ∧ t1.toInt = tm.toInt))) →  X.G h15 36 511 271 #[.val (.long p), .second, .val (.long q), .second, .val (.long t1), .second, .val (.long t2), .second, .val (.int md), .val (.int u1), .val (.int u2), .val (.int u3), .val (.int u4), .val (.int w1), .val (.int w2), .val (.int w3), .val (.int w4), .val (.long tm), .second, .val (.int kd), .val (.ref g0), .val (.ref a3), .val (.ref a10), .unset] [(.int ex)] := by
          intro ex hex
          refine X.istore (q := 273) (Ls' := #[.val (.long p), .second, .val (.long q), .second, .val (.long t1), .second, .val (.long t2), .second, .val (.int md), .val (.int u1), .val (.int u2), .val (.int u3), .val (.int u4), .val (.int w1), .val (.int w2), .val (.int w3), .val (.int w4), .val (.long tm), .second, .val (.int kd), .val (.ref g0), .val (.ref a3), .val (.ref a10), .val (.int ex)]) at_271 rfl rfl ?_
          refine X.aload (q := 275) at_273 rfl rfl rfl ?_
          refine X.aload (q := 277) at_275 rfl rfl rfl ?_
          refine X.virtual (a := a3) (own_pq l Z a0 hw h15 n0 a3 a10 g1 g2 g3 g4 k1 k2 k3 k4 t1 tm (own_norm u1.toInt) (own_norm u2.toInt) (own_norm u3.toInt) (own_norm u4.toInt) (own_norm w1.toInt) (own_norm w2.toInt) (own_norm w3.toInt) (own_norm w4.toInt) cs hcs (own_nr hu1) (own_nr hw1) (own_nr hu2) (own_nr hw2) (own_nr hu3) (own_nr hw3) (own_nr hu4) (own_nr hw4) Tg1'h15 Tk1'h15 Tg2'h15 Tk2'h15 Tg3'h15 Tk3'h15 Tg4'h15 Tk4'h15 hsh15 Sc'h15 PX'h15 Purl'h15 Ptitle'h15 Ppath'h15 PcrawlTime'h15 PcommitTag'h15 QX Qurl Qtitle Qpath QcrawlTime QcommitTag Tg1'h15.exa Tg2'h15.exa Tg3'h15.exa Tg4'h15.exa) (hw _ (List.mem_of_getElem? (i := 68) rfl)) (hw _ (List.mem_of_getElem? (i := 69) rfl)) (hw _ (List.mem_of_getElem? (i := 71) rfl)) (hw _ (List.mem_of_getElem? (i := 70) rfl)) (hw _ (List.mem_of_getElem? (i := 39) rfl)) (hw _ (List.mem_of_getElem? (i := 72) rfl)) (by decide) PX'h15 own_pd6 (argsL := [(.ref a10)]) (rest := []) rfl rfl rfl (W := 0) (Nat.le_of_eq rfl) rfl (by decide) (by decide) (k' := 36) (n' := 511) rfl rfl (by decide) (by decide) at_277 (q := 280) rfl ?_
          rintro _ _ ⟨y1, rfl, hy1, rfl⟩
          show X.G h15 36 511 280 #[.val (.long p), .second, .val (.long q), .second, .val (.long t1), .second, .val (.long t2), .second, .val (.int md), .val (.int u1), .val (.int u2), .val (.int u3), .val (.int u4), .val (.int w1), .val (.int w2), .val (.int w3), .val (.int w4), .val (.long tm), .second, .val (.int kd), .val (.ref g0), .val (.ref a3), .val (.ref a10), .val (.int ex)] [(.int y1)]
          refine X.iload (q := 282) at_280 rfl rfl ?_
          refine X.icmp_ne (q' := 311) (q := 285) at_282 rfl rfl (by decide) rfl (fun c282 => ?_) (fun c282 => ?_)
          · omega
          · refine X.aload (q := 287) at_285 rfl rfl rfl ?_
            refine X.aload (q := 289) at_287 rfl rfl rfl ?_
            refine X.virtual (a := a10) (own_pq l Z a0 hw h15 n0 a10 a3 k1 k2 k3 k4 g1 g2 g3 g4 tm t1 (own_norm w1.toInt) (own_norm w2.toInt) (own_norm w3.toInt) (own_norm w4.toInt) (own_norm u1.toInt) (own_norm u2.toInt) (own_norm u3.toInt) (own_norm u4.toInt) cs hcs (own_nr hw1) (own_nr hu1) (own_nr hw2) (own_nr hu2) (own_nr hw3) (own_nr hu3) (own_nr hw4) (own_nr hu4) Tk1'h15 Tg1'h15 Tk2'h15 Tg2'h15 Tk3'h15 Tg3'h15 Tk4'h15 Tg4'h15 hsh15 Sc'h15 QX Qurl Qtitle Qpath QcrawlTime QcommitTag PX'h15 Purl'h15 Ptitle'h15 Ppath'h15 PcrawlTime'h15 PcommitTag'h15 Tk1'h15.exa Tk2'h15.exa Tk3'h15.exa Tk4'h15.exa) (hw _ (List.mem_of_getElem? (i := 68) rfl)) (hw _ (List.mem_of_getElem? (i := 69) rfl)) (hw _ (List.mem_of_getElem? (i := 71) rfl)) (hw _ (List.mem_of_getElem? (i := 70) rfl)) (hw _ (List.mem_of_getElem? (i := 39) rfl)) (hw _ (List.mem_of_getElem? (i := 72) rfl)) (by decide) QX own_pd6 (argsL := [(.ref a3)]) (rest := []) rfl rfl rfl (W := 0) (Nat.le_of_eq rfl) rfl (by decide) (by decide) (k' := 36) (n' := 511) rfl rfl (by decide) (by decide) at_289 (q := 292) rfl ?_
            rintro _ _ ⟨y2, rfl, hy2, rfl⟩
            show X.G h15 36 511 292 #[.val (.long p), .second, .val (.long q), .second, .val (.long t1), .second, .val (.long t2), .second, .val (.int md), .val (.int u1), .val (.int u2), .val (.int u3), .val (.int u4), .val (.int w1), .val (.int w2), .val (.int w3), .val (.int w4), .val (.long tm), .second, .val (.int kd), .val (.ref g0), .val (.ref a3), .val (.ref a10), .val (.int ex)] [(.int y2)]
            refine X.iload (q := 294) at_292 rfl rfl ?_
            refine X.icmp_ne (q' := 311) (q := 297) at_294 rfl rfl (by decide) rfl (fun c294 => ?_) (fun c294 => ?_)
            · omega
            · refine X.aload (q := 299) at_297 rfl rfl rfl ?_
              refine X.aload (q := 301) at_299 rfl rfl rfl ?_
              refine X.virtual (a := a3) (own_pq l Z a0 hw h15 n0 a3 a3 g1 g2 g3 g4 g1 g2 g3 g4 t1 t1 (own_norm u1.toInt) (own_norm u2.toInt) (own_norm u3.toInt) (own_norm u4.toInt) (own_norm u1.toInt) (own_norm u2.toInt) (own_norm u3.toInt) (own_norm u4.toInt) cs hcs (own_nr hu1) (own_nr hu1) (own_nr hu2) (own_nr hu2) (own_nr hu3) (own_nr hu3) (own_nr hu4) (own_nr hu4) Tg1'h15 Tg1'h15 Tg2'h15 Tg2'h15 Tg3'h15 Tg3'h15 Tg4'h15 Tg4'h15 hsh15 Sc'h15 PX'h15 Purl'h15 Ptitle'h15 Ppath'h15 PcrawlTime'h15 PcommitTag'h15 PX'h15 Purl'h15 Ptitle'h15 Ppath'h15 PcrawlTime'h15 PcommitTag'h15 Tg1'h15.exa Tg2'h15.exa Tg3'h15.exa Tg4'h15.exa) (hw _ (List.mem_of_getElem? (i := 68) rfl)) (hw _ (List.mem_of_getElem? (i := 69) rfl)) (hw _ (List.mem_of_getElem? (i := 71) rfl)) (hw _ (List.mem_of_getElem? (i := 70) rfl)) (hw _ (List.mem_of_getElem? (i := 39) rfl)) (hw _ (List.mem_of_getElem? (i := 72) rfl)) (by decide) PX'h15 own_pd6 (argsL := [(.ref a3)]) (rest := []) rfl rfl rfl (W := 0) (Nat.le_of_eq rfl) rfl (by decide) (by decide) (k' := 36) (n' := 511) rfl rfl (by decide) (by decide) at_301 (q := 304) rfl ?_
              rintro _ _ ⟨y3, rfl, hy3, rfl⟩
              show X.G h15 36 511 304 #[.val (.long p), .second, .val (.long q), .second, .val (.long t1), .second, .val (.long t2), .second, .val (.int md), .val (.int u1), .val (.int u2), .val (.int u3), .val (.int u4), .val (.int w1), .val (.int w2), .val (.int w3), .val (.int w4), .val (.long tm), .second, .val (.int kd), .val (.ref g0), .val (.ref a3), .val (.ref a10), .val (.int ex)] [(.int y3)]
              refine X.if_eq (q' := 311) (q := 307) at_304 rfl (by decide) rfl (fun c304 => ?_) (fun c304 => ?_)
              · omega
              · refine X.iconst (q := 308) (1 : Int32) at_307 (by decide) rfl ?_
                refine X.goto (q' := 312) at_308 (by decide) ?_
                refine X.retN (t := .boolean) (z' := (1 : Int32)) HKh15 at_312 rfl (by simp) (by decide) (by decide) (by decide) ?_
                rfl
        refine X.iload (q := 208) at_206 rfl rfl ?_
        refine X.callS (own_no l Z a0 hw h15 n0 u1 hu1) (hw _ (List.mem_of_getElem? (i := 65) rfl)) (hw _ (List.mem_of_getElem? (i := 66) rfl)) (hw _ (List.mem_of_getElem? (i := 2) rfl)) (hw _ (List.mem_of_getElem? (i := 67) rfl)) (by decide) own_pd11 (argsL := [(.int u1)]) (rest := []) rfl rfl rfl (W := 0) (Nat.le_of_eq rfl) rfl (by decide) (by decide) (k' := 36) (n' := 511) rfl rfl (by decide) (by decide) at_208 (q := 211) rfl ?_
        rintro _ _ ⟨na1, rfl, hna1, rfl⟩
        show X.G h15 36 511 211 #[.val (.long p), .second, .val (.long q), .second, .val (.long t1), .second, .val (.long t2), .second, .val (.int md), .val (.int u1), .val (.int u2), .val (.int u3), .val (.int u4), .val (.int w1), .val (.int w2), .val (.int w3), .val (.int w4), .val (.long tm), .second, .val (.int kd), .val (.ref g0), .val (.ref a3), .val (.ref a10), .unset] [(.int na1)]
        refine X.iload (q := 213) at_211 rfl rfl ?_
        refine X.callS (own_no l Z a0 hw h15 n0 w1 hw1) (hw _ (List.mem_of_getElem? (i := 65) rfl)) (hw _ (List.mem_of_getElem? (i := 66) rfl)) (hw _ (List.mem_of_getElem? (i := 2) rfl)) (hw _ (List.mem_of_getElem? (i := 67) rfl)) (by decide) own_pd11 (argsL := [(.int w1)]) (rest := [(.int na1)]) rfl rfl rfl (W := 1) (Nat.le_of_eq rfl) rfl (by decide) (by decide) (k' := 36) (n' := 511) rfl rfl (by decide) (by decide) at_213 (q := 216) rfl ?_
        rintro _ _ ⟨nb1, rfl, hnb1, rfl⟩
        show X.G h15 36 511 216 #[.val (.long p), .second, .val (.long q), .second, .val (.long t1), .second, .val (.long t2), .second, .val (.int md), .val (.int u1), .val (.int u2), .val (.int u3), .val (.int u4), .val (.int w1), .val (.int w2), .val (.int w3), .val (.int w4), .val (.long tm), .second, .val (.int kd), .val (.ref g0), .val (.ref a3), .val (.ref a10), .unset] [(.int nb1), (.int na1)]
        refine X.icmp_ne (q' := 270) (q := 219) at_216 rfl rfl (by decide) rfl (fun c216 => ?_) (fun c216 => ?_)
        · refine X.iconst (q := 271) (0 : Int32) at_270 (by decide) rfl ?_
          exact J271 _ (by omega)
        · refine X.iload (q := 221) at_219 rfl rfl ?_
          refine X.callS (own_no l Z a0 hw h15 n0 u2 hu2) (hw _ (List.mem_of_getElem? (i := 65) rfl)) (hw _ (List.mem_of_getElem? (i := 66) rfl)) (hw _ (List.mem_of_getElem? (i := 2) rfl)) (hw _ (List.mem_of_getElem? (i := 67) rfl)) (by decide) own_pd11 (argsL := [(.int u2)]) (rest := []) rfl rfl rfl (W := 0) (Nat.le_of_eq rfl) rfl (by decide) (by decide) (k' := 36) (n' := 511) rfl rfl (by decide) (by decide) at_221 (q := 224) rfl ?_
          rintro _ _ ⟨na2, rfl, hna2, rfl⟩
          show X.G h15 36 511 224 #[.val (.long p), .second, .val (.long q), .second, .val (.long t1), .second, .val (.long t2), .second, .val (.int md), .val (.int u1), .val (.int u2), .val (.int u3), .val (.int u4), .val (.int w1), .val (.int w2), .val (.int w3), .val (.int w4), .val (.long tm), .second, .val (.int kd), .val (.ref g0), .val (.ref a3), .val (.ref a10), .unset] [(.int na2)]
          refine X.iload (q := 226) at_224 rfl rfl ?_
          refine X.callS (own_no l Z a0 hw h15 n0 w2 hw2) (hw _ (List.mem_of_getElem? (i := 65) rfl)) (hw _ (List.mem_of_getElem? (i := 66) rfl)) (hw _ (List.mem_of_getElem? (i := 2) rfl)) (hw _ (List.mem_of_getElem? (i := 67) rfl)) (by decide) own_pd11 (argsL := [(.int w2)]) (rest := [(.int na2)]) rfl rfl rfl (W := 1) (Nat.le_of_eq rfl) rfl (by decide) (by decide) (k' := 36) (n' := 511) rfl rfl (by decide) (by decide) at_226 (q := 229) rfl ?_
          rintro _ _ ⟨nb2, rfl, hnb2, rfl⟩
          show X.G h15 36 511 229 #[.val (.long p), .second, .val (.long q), .second, .val (.long t1), .second, .val (.long t2), .second, .val (.int md), .val (.int u1), .val (.int u2), .val (.int u3), .val (.int u4), .val (.int w1), .val (.int w2), .val (.int w3), .val (.int w4), .val (.long tm), .second, .val (.int kd), .val (.ref g0), .val (.ref a3), .val (.ref a10), .unset] [(.int nb2), (.int na2)]
          refine X.icmp_ne (q' := 270) (q := 232) at_229 rfl rfl (by decide) rfl (fun c229 => ?_) (fun c229 => ?_)
          · refine X.iconst (q := 271) (0 : Int32) at_270 (by decide) rfl ?_
            exact J271 _ (by omega)
          · refine X.iload (q := 234) at_232 rfl rfl ?_
            refine X.callS (own_no l Z a0 hw h15 n0 u3 hu3) (hw _ (List.mem_of_getElem? (i := 65) rfl)) (hw _ (List.mem_of_getElem? (i := 66) rfl)) (hw _ (List.mem_of_getElem? (i := 2) rfl)) (hw _ (List.mem_of_getElem? (i := 67) rfl)) (by decide) own_pd11 (argsL := [(.int u3)]) (rest := []) rfl rfl rfl (W := 0) (Nat.le_of_eq rfl) rfl (by decide) (by decide) (k' := 36) (n' := 511) rfl rfl (by decide) (by decide) at_234 (q := 237) rfl ?_
            rintro _ _ ⟨na3, rfl, hna3, rfl⟩
            show X.G h15 36 511 237 #[.val (.long p), .second, .val (.long q), .second, .val (.long t1), .second, .val (.long t2), .second, .val (.int md), .val (.int u1), .val (.int u2), .val (.int u3), .val (.int u4), .val (.int w1), .val (.int w2), .val (.int w3), .val (.int w4), .val (.long tm), .second, .val (.int kd), .val (.ref g0), .val (.ref a3), .val (.ref a10), .unset] [(.int na3)]
            refine X.iload (q := 239) at_237 rfl rfl ?_
            refine X.callS (own_no l Z a0 hw h15 n0 w3 hw3) (hw _ (List.mem_of_getElem? (i := 65) rfl)) (hw _ (List.mem_of_getElem? (i := 66) rfl)) (hw _ (List.mem_of_getElem? (i := 2) rfl)) (hw _ (List.mem_of_getElem? (i := 67) rfl)) (by decide) own_pd11 (argsL := [(.int w3)]) (rest := [(.int na3)]) rfl rfl rfl (W := 1) (Nat.le_of_eq rfl) rfl (by decide) (by decide) (k' := 36) (n' := 511) rfl rfl (by decide) (by decide) at_239 (q := 242) rfl ?_
            rintro _ _ ⟨nb3, rfl, hnb3, rfl⟩
            show X.G h15 36 511 242 #[.val (.long p), .second, .val (.long q), .second, .val (.long t1), .second, .val (.long t2), .second, .val (.int md), .val (.int u1), .val (.int u2), .val (.int u3), .val (.int u4), .val (.int w1), .val (.int w2), .val (.int w3), .val (.int w4), .val (.long tm), .second, .val (.int kd), .val (.ref g0), .val (.ref a3), .val (.ref a10), .unset] [(.int nb3), (.int na3)]
            refine X.icmp_ne (q' := 270) (q := 245) at_242 rfl rfl (by decide) rfl (fun c242 => ?_) (fun c242 => ?_)
            · refine X.iconst (q := 271) (0 : Int32) at_270 (by decide) rfl ?_
              exact J271 _ (by omega)
            · refine X.iload (q := 247) at_245 rfl rfl ?_
              refine X.callS (own_no l Z a0 hw h15 n0 u4 hu4) (hw _ (List.mem_of_getElem? (i := 65) rfl)) (hw _ (List.mem_of_getElem? (i := 66) rfl)) (hw _ (List.mem_of_getElem? (i := 2) rfl)) (hw _ (List.mem_of_getElem? (i := 67) rfl)) (by decide) own_pd11 (argsL := [(.int u4)]) (rest := []) rfl rfl rfl (W := 0) (Nat.le_of_eq rfl) rfl (by decide) (by decide) (k' := 36) (n' := 511) rfl rfl (by decide) (by decide) at_247 (q := 250) rfl ?_
              rintro _ _ ⟨na4, rfl, hna4, rfl⟩
              show X.G h15 36 511 250 #[.val (.long p), .second, .val (.long q), .second, .val (.long t1), .second, .val (.long t2), .second, .val (.int md), .val (.int u1), .val (.int u2), .val (.int u3), .val (.int u4), .val (.int w1), .val (.int w2), .val (.int w3), .val (.int w4), .val (.long tm), .second, .val (.int kd), .val (.ref g0), .val (.ref a3), .val (.ref a10), .unset] [(.int na4)]
              refine X.iload (q := 252) at_250 rfl rfl ?_
              refine X.callS (own_no l Z a0 hw h15 n0 w4 hw4) (hw _ (List.mem_of_getElem? (i := 65) rfl)) (hw _ (List.mem_of_getElem? (i := 66) rfl)) (hw _ (List.mem_of_getElem? (i := 2) rfl)) (hw _ (List.mem_of_getElem? (i := 67) rfl)) (by decide) own_pd11 (argsL := [(.int w4)]) (rest := [(.int na4)]) rfl rfl rfl (W := 1) (Nat.le_of_eq rfl) rfl (by decide) (by decide) (k' := 36) (n' := 511) rfl rfl (by decide) (by decide) at_252 (q := 255) rfl ?_
              rintro _ _ ⟨nb4, rfl, hnb4, rfl⟩
              show X.G h15 36 511 255 #[.val (.long p), .second, .val (.long q), .second, .val (.long t1), .second, .val (.long t2), .second, .val (.int md), .val (.int u1), .val (.int u2), .val (.int u3), .val (.int u4), .val (.int w1), .val (.int w2), .val (.int w3), .val (.int w4), .val (.long tm), .second, .val (.int kd), .val (.ref g0), .val (.ref a3), .val (.ref a10), .unset] [(.int nb4), (.int na4)]
              refine X.icmp_ne (q' := 270) (q := 258) at_255 rfl rfl (by decide) rfl (fun c255 => ?_) (fun c255 => ?_)
              · refine X.iconst (q := 271) (0 : Int32) at_270 (by decide) rfl ?_
                exact J271 _ (by omega)
              · refine X.lload (q := 260) at_258 rfl rfl ?_
                refine X.lload (q := 262) at_260 rfl rfl ?_
                refine X.lcmp_ne (q1 := 263) (q' := 270) (q := 266) at_262 rfl at_263 rfl rfl (by decide) rfl (fun c262 => ?_) (fun c262 => ?_)
                · refine X.iconst (q := 271) (0 : Int32) at_270 (by decide) rfl ?_
                  exact J271 _ (by omega)
                · refine X.iconst (q := 267) (1 : Int32) at_266 (by decide) rfl ?_
                  refine X.goto (q' := 271) at_267 (by decide) ?_
                  exact J271 _ (by omega)
      · refine X.aload (q := 192) at_190 rfl rfl rfl ?_
        refine X.aload (q := 194) at_192 rfl rfl rfl ?_
        refine X.virtual (a := a3) (own_ps l Z a0 hw h15 n0 a3 g0 hsh15 Tg0'h15.exa) (hw _ (List.mem_of_getElem? (i := 68) rfl)) (hw _ (List.mem_of_getElem? (i := 69) rfl)) (hw _ (List.mem_of_getElem? (i := 71) rfl)) (hw _ (List.mem_of_getElem? (i := 70) rfl)) (hw _ (List.mem_of_getElem? (i := 39) rfl)) (hw _ (List.mem_of_getElem? (i := 72) rfl)) (by decide) PX'h15 own_pd6 (argsL := [(.ref g0)]) (rest := []) rfl rfl rfl (W := 0) (Nat.le_of_eq rfl) rfl (by decide) (by decide) (k' := 36) (n' := 511) rfl rfl (by decide) (by decide) at_194 (q := 197) rfl ?_
        rintro _ _ ⟨rfl, rfl⟩
        show X.G h15 36 511 197 #[.val (.long p), .second, .val (.long q), .second, .val (.long t1), .second, .val (.long t2), .second, .val (.int md), .val (.int u1), .val (.int u2), .val (.int u3), .val (.int u4), .val (.int w1), .val (.int w2), .val (.int w3), .val (.int w4), .val (.long tm), .second, .val (.int kd), .val (.ref g0), .val (.ref a3), .val (.ref a10), .unset] [(.int (0 : Int32))]
        refine X.if_ne (a := 0) (q' := 204) (q := 200) at_197 rfl (by decide) rfl (fun c197 => ?_) (fun c197 => ?_)
        · omega
        · refine X.iconst (q := 201) (1 : Int32) at_200 (by decide) rfl ?_
          refine X.goto (q' := 205) at_201 (by decide) ?_
          refine X.retN (t := .boolean) (z' := (1 : Int32)) HKh15 at_205 rfl (by simp) (by decide) (by decide) (by decide) ?_
          rfl
    · refine X.aload (q := 171) at_169 rfl rfl rfl ?_
      refine X.aconstNull (q := 172) at_171 rfl ?_
      refine X.virtual (a := a3) (own_p0 l Z a0 hw h15 n0 a3) (hw _ (List.mem_of_getElem? (i := 68) rfl)) (hw _ (List.mem_of_getElem? (i := 69) rfl)) (hw _ (List.mem_of_getElem? (i := 71) rfl)) (hw _ (List.mem_of_getElem? (i := 70) rfl)) (hw _ (List.mem_of_getElem? (i := 39) rfl)) (hw _ (List.mem_of_getElem? (i := 72) rfl)) (by decide) PX'h15 own_pd6 (argsL := [.null]) (rest := []) rfl rfl rfl (W := 0) (Nat.le_of_eq rfl) rfl (by decide) (by decide) (k' := 36) (n' := 511) rfl rfl (by decide) (by decide) at_172 (q := 175) rfl ?_
      rintro _ _ ⟨rfl, rfl⟩
      show X.G h15 36 511 175 #[.val (.long p), .second, .val (.long q), .second, .val (.long t1), .second, .val (.long t2), .second, .val (.int md), .val (.int u1), .val (.int u2), .val (.int u3), .val (.int u4), .val (.int w1), .val (.int w2), .val (.int w3), .val (.int w4), .val (.long tm), .second, .val (.int kd), .val (.ref g0), .val (.ref a3), .val (.ref a10), .unset] [(.int (0 : Int32))]
      refine X.if_ne (a := 0) (q' := 182) (q := 178) at_175 rfl (by decide) rfl (fun c175 => ?_) (fun c175 => ?_)
      · omega
      · refine X.iconst (q := 179) (1 : Int32) at_178 (by decide) rfl ?_
        refine X.goto (q' := 183) at_179 (by decide) ?_
        refine X.retN (t := .boolean) (z' := (1 : Int32)) HKh15 at_183 rfl (by simp) (by decide) (by decide) (by decide) ?_
        rfl
  refine X.iload (q := 70) at_68 rfl rfl ?_
  refine X.iconst (q := 71) (4 : Int32) at_70 (by decide) rfl ?_
  refine X.iushr (q := 72) at_71 rfl ?_
  refine X.iconst (q := 73) (1 : Int32) at_72 (by decide) rfl ?_
  refine X.iand (q := 74) at_73 rfl ?_
  refine X.if_eq (q' := 82) (q := 77) at_74 rfl (by decide) rfl (fun c74 => ?_) (fun c74 => ?_)
  · refine X.lload (q := 84) at_82 rfl rfl ?_
    exact J84 _
  · refine X.lload (q := 79) at_77 rfl rfl ?_
    refine X.goto (q' := 84) at_79 (by decide) ?_
    exact J84 _
set_option maxRecDepth 65536 in
set_option maxHeartbeats 40000000 in
theorem comes_1 {Post : Tables → Env → Array Value → State → Outcome → State → Prop} (hpost : ∀ tb e args s v u, (limb_1_1.after args s (.returned v) u = true ∧ limb_1_2.after args s (.returned v) u = true ∧ True) → ReturnedEndW s (.returned v) u (Jvm.fieldLocs frame_1_writes args s ++ Jvm.arrayLocs frame_1_arrays args s ++ Jvm.staticLocs frame_1_statics s) 64 5376 → Post tb e args s (.returned v) u) :
    ArmFor flags0 classFile x code maxLocals ret World_1 tables_1 room_1 Calls_1 rest_1 Pre_1 Post := by
  intro l hfl _ _ p e ha hc hk s m args below hf hA hF happ hP
  obtain ⟨hcalls, hrest, hpre⟩ := hP
  obtain ⟨-, -, -, hnamed, -, -, -, hat⟩ := (Spec.applies_iff hf).mp happ
  obtain ⟨hg, hn⟩ := and_e (Cond.before_iff.mp (show (Jvm.Cond.and given_1 narrow_1).before args s = true from hpre))
  obtain ⟨hg0, hg⟩ := and_e hg
  obtain ⟨w0, w1, w2, w3, w4, rfl⟩ : ∃ w0 w1 w2 w3 w4 : Value, args = #[w0, w1, w2, w3, w4] := by
    have hs : args.size = 5 := by simpa [Cond.value, given_1] using hg0
    obtain ⟨L⟩ := args
    match L, hs with
    | [w0, w1, w2, w3, w4], _ => exact ⟨w0, w1, w2, w3, w4, rfl⟩
  have hw := fun d (hd : d ∈ tables_1) => atoms_spec (ws := Jvm.Cond.code x code maxLocals ret :: tables_1) hat d (List.mem_cons_of_mem _ hd)
  obtain ⟨ha0, hg⟩ := and_e hg
  obtain ⟨i0, e0⟩ := isL_v ha0
  obtain rfl : w0 = (.long i0) := Option.some.inj e0
  obtain ⟨ha1, hg⟩ := and_e hg
  obtain ⟨i1, e1⟩ := isL_v ha1
  obtain rfl : w1 = (.long i1) := Option.some.inj e1
  obtain ⟨ha2, hg⟩ := and_e hg
  obtain ⟨i2, e2⟩ := isL_v ha2
  obtain rfl : w2 = (.long i2) := Option.some.inj e2
  obtain ⟨ha3, hg⟩ := and_e hg
  obtain ⟨i3, e3⟩ := isL_v ha3
  obtain rfl : w3 = (.long i3) := Option.some.inj e3
  have ha4 := hg
  obtain ⟨i4, e4⟩ := is_v ha4
  obtain rfl : w4 = (.int i4) := Option.some.inj e4
  obtain ⟨hsets, hown0⟩ := atoms_of _ (rest_1_c_eq ▸ (show rest_1_c.before _ s = true from hrest))
  have n3 := not_v (Cond.before_iff.mp (hsets _ (List.mem_of_getElem? (i := 2) rfl)))
  obtain ⟨cs, e6⟩ := is_v (Cond.before_iff.mp (hsets _ (List.mem_of_getElem? (i := 1) rfl)))
  have Sc : Sta s s.heap "java/lang/String" "COMPACT_STRINGS" "Z" (.int cs) := Sta.start e6 (Or.inl (hsets _ (List.mem_of_getElem? (i := 0) rfl)))
  have c13 : ¬ (cs = (0 : Int32)) := gotF (Cond.eq_ints e6 (Term.int_eval (0))) n3
  have hcs : cs.toInt ≠ 0 := fun q => c13 (by rw [← Int32.toInt_inj, q]; rfl)
  have hCH : CHv s consts_1 s.vm s.heap := CHv.start (own_EW hw) (fun q hq => hcalls.1 q hq) (hsets _ (List.mem_of_getElem? (i := 2) rfl)) (own_wS hw _ (by simp [Bundle.stringAtoms])) (own_wS hw _ (by simp [Bundle.stringAtoms, Bundle.sN]))
  obtain ⟨n, o, h1, h2, h3, _, L, rfl, ⟨rfl, N⟩, -, hq⟩ := own_law l s _ hw s.heap s.heap.size (Nat.le_refl _) i0 i1 i2 i3 i4 cs hcs Sc p e ha hc hk s m _ below hf ((Spec.applies_iff_loose hf).mp happ).1 ⟨rfl, State.Warmed39.refl s, rfl, hCH⟩ trivial
  refine ⟨n, _, h1, h2, h3, hpost _ _ _ _ _ _ ⟨Cond.after_iff.mpr rfl, Cond.after_iff.mpr (eq_i res_at (Term.int_eval (1)) rfl), trivial⟩ ⟨hq.1, hq.2.1, hq.2.2.1, (hq.2.2.2.sift fun y hy => Or.inr (N y hy)).mono (by decide) (by decide)⟩⟩
theorem main_1_1 : Claimed_1_1 := comes_1 fun _ _ _ _ _ _ h hF => ⟨h.1, hF⟩
theorem main_1_2 : Claimed_1_2 := comes_1 fun _ _ _ _ _ _ h hF => ⟨h.2.1, hF⟩
end Jvm.Pilot.@@N@@
namespace Jvm.Pilot.@@N@@
open Jvm Jvm.ClassFile Sem Op Lib Jvm.Free Jvm.Stand Jvm.Pilot.@@N@@.Jvm.D
/-! MADE BY PROGRAM (witnessworld.py) out of the Statement's table words and the real class files: 18 classes; the members and pool entries that the words name. The judged class is class 1, her method 5. -/
namespace start1
open Jvm.ClassFile
def u (s : String) : CpInfo := .utf8 (stringToUtf16 s)
/-- a pool by its gaps: so many unusable entries, then the entry; so many at the end -/
def gap : Nat → List CpInfo → List CpInfo
  | 0, r => r
  | n + 1, r => .unusable :: gap n r
def poolList (es : List (Nat × CpInfo)) (last : Nat) : List CpInfo := es.foldr (fun e r => gap e.1 (e.2 :: r)) (gap last [])
def pool (es : List (Nat × CpInfo)) (last : Nat) : Array CpInfo := ⟨poolList es last⟩
def fileOf (pool : Array CpInfo) (this : Nat) (attrs : Array Attribute := #[]) (ms : Array MethodInfo := #[]) (fl : Nat := 33) (sup : Nat := 0) (ifs : Array Nat := #[]) (fds : Array FieldInfo := #[]) : ClassFile where
  minorVersion := 0
  majorVersion := 65
  constantPool := pool
  accessFlags := fl
  thisClass := this
  superClass := sup
  interfaces := ifs
  fields := fds
  methods := ms
  attributes := attrs
def plain (name : String) (sup : Option ClassId) : Class where
  name := name
  kind := .ordinary
  loader := none
  accessFlags := 33
  super := sup
  interfaces := #[]
  cf := none
  fields := #[]
  methods := #[]
  instanceTypes := #[]
  staticTypes := #[]
  resolved := #[]
  callSites := []
  init := .initialized
  statics := none
  mirror := none

def pool0 : Array CpInfo := pool [(5, u "<init>"), (0, u "()V"), (1, .class_ 10), (1, u "java/lang/Object")] 113

def k0c0 : Code := { maxStack := 0, maxLocals := 1, code := object_method_1_code, exceptionTable := #[], attributes := #[] }
def k0m0 : Method := { name := "<init>", desc := "()V", sig := { parameters := [], returnType := none }, accessFlags := 1, code := some k0c0 }
/-- java/lang/Object -/
def k0 : Class := { plain "java/lang/Object" none with
  accessFlags := 33
  interfaces := #[]
  cf := some (fileOf pool0 8 #[] #[{ accessFlags := 1, nameIndex := 5, descriptorIndex := 6, attributes := #[] }] 33 0 #[] #[])
  fields := #[]
  methods := #[k0m0]
  instanceTypes := #[]
  staticTypes := #[]
  resolved := Array.replicate 124 none
  statics := none }

def pool1 : Array CpInfo := pool [(2, .class_ 4), (1, u "java/lang/Object"), (0, u "<init>"), (0, u "()V"), (0, .long 511), (1, .string 10), (0, u ""), (0, .methodref 12 13), (0, .class_ 14), (0, .nameAndType 15 16), (0, u "java/lang/String"), (0, u "valueOf"), (0, u "(C)Ljava/lang/String;"), (0, .methodref 18 19), (0, .class_ 20), (0, .nameAndType 21 22), (0, u "com/example/utando/utando/archive/PageMetaEqualsPinLaw"), (0, u "field"), (0, u "(JI)I"), (0, .methodref 18 24), (0, .nameAndType 25 26), (0, u "pick"), (0, u "(JJII)I"), (0, .methodref 18 28), (0, .nameAndType 29 30), (0, u "text"), (0, u "(I)Ljava/lang/String;"), (0, .class_ 32), (0, u "com/example/utando/utando/archive/PageMeta"), (0, .methodref 31 34), (0, .nameAndType 5 35), (0, u "(Ljava/lang/String;Ljava/lang/String;Ljava/lang/String;JLjava/lang/String;)V"), (0, .methodref 31 37), (0, .nameAndType 38 39), (0, u "equals"), (0, u "(Ljava/lang/Object;)Z"), (0, .methodref 18 41), (0, .nameAndType 42 43), (0, u "norm"), (0, u "(I)I"), (3, u "law"), (0, u "(JJJJI)Z")] 2

def k1m0 : Method := { name := "<init>", desc := "()V", sig := { parameters := [], returnType := none }, accessFlags := 1, code := none }
def k1c1 : Code := { maxStack := 4, maxLocals := 3, code := method_2_code, exceptionTable := #[], attributes := #[] }
def k1m1 : Method := { name := "field", desc := "(JI)I", sig := { parameters := [.long, .int], returnType := some .int }, accessFlags := 10, code := some k1c1 }
def k1c2 : Code := { maxStack := 2, maxLocals := 1, code := method_3_code, exceptionTable := #[], attributes := #[] }
def k1m2 : Method := { name := "text", desc := "(I)Ljava/lang/String;", sig := { parameters := [.int], returnType := some (.object "java/lang/String") }, accessFlags := 10, code := some k1c2 }
def k1c3 : Code := { maxStack := 2, maxLocals := 1, code := method_4_code, exceptionTable := #[], attributes := #[] }
def k1m3 : Method := { name := "norm", desc := "(I)I", sig := { parameters := [.int], returnType := some .int }, accessFlags := 10, code := some k1c3 }
def k1c4 : Code := { maxStack := 3, maxLocals := 6, code := method_5_code, exceptionTable := #[], attributes := #[] }
def k1m4 : Method := { name := "pick", desc := "(JJII)I", sig := { parameters := [.long, .long, .int, .int], returnType := some .int }, accessFlags := 10, code := some k1c4 }
def k1c5 : Code := { maxStack := 8, maxLocals := 24, code := code, exceptionTable := #[], attributes := #[] }
def k1m5 : Method := { name := "law", desc := "(JJJJI)Z", sig := { parameters := [.long, .long, .long, .long, .int], returnType := some .boolean }, accessFlags := 9, code := some k1c5 }
/-- com/example/utando/utando/archive/PageMetaEqualsPinLaw -/
def k1 : Class := { plain "com/example/utando/utando/archive/PageMetaEqualsPinLaw" (some 0) with
  accessFlags := 49
  interfaces := #[]
  cf := some (fileOf pool1 18 #[] #[{ accessFlags := 1, nameIndex := 5, descriptorIndex := 6, attributes := #[] }, { accessFlags := 10, nameIndex := 21, descriptorIndex := 22, attributes := #[] }, { accessFlags := 10, nameIndex := 29, descriptorIndex := 30, attributes := #[] }, { accessFlags := 10, nameIndex := 42, descriptorIndex := 43, attributes := #[] }, { accessFlags := 10, nameIndex := 25, descriptorIndex := 26, attributes := #[] }, { accessFlags := 9, nameIndex := 47, descriptorIndex := 48, attributes := #[] }] 49 2 #[] #[])
  fields := #[]
  methods := #[k1m0, k1m1, k1m2, k1m3, k1m4, k1m5]
  instanceTypes := #[]
  staticTypes := #[]
  resolved := Array.replicate 51 none
  statics := none }

def pool2 : Array CpInfo := pool [(1, .class_ 2), (0, u "java/io/Serializable"), (0, .class_ 4), (0, u "java/lang/Object")] 2

/-- java/io/Serializable -/
def k2 : Class := { plain "java/io/Serializable" (some 0) with
  accessFlags := 1537
  interfaces := #[]
  cf := some (fileOf pool2 1 #[] #[] 1537 3 #[] #[])
  fields := #[]
  methods := #[]
  instanceTypes := #[]
  staticTypes := #[]
  resolved := Array.replicate 7 none
  statics := none }

def pool3 : Array CpInfo := pool [(1, .class_ 2), (0, u "java/lang/Comparable"), (0, .class_ 4), (0, u "java/lang/Object")] 7

/-- java/lang/Comparable -/
def k3 : Class := { plain "java/lang/Comparable" (some 0) with
  accessFlags := 1537
  interfaces := #[]
  cf := some (fileOf pool3 1 #[] #[] 1537 3 #[] #[])
  fields := #[]
  methods := #[]
  instanceTypes := #[]
  staticTypes := #[]
  resolved := Array.replicate 12 none
  statics := none }

def pool4 : Array CpInfo := pool [(2, .class_ 4), (1, u "java/lang/CharSequence"), (42, .class_ 48), (0, u "java/lang/CharSequence$1CodePointIterator"), (10, .class_ 60), (0, u "java/lang/CharSequence$1CharIterator"), (5, .class_ 67), (0, u "java/lang/Object")] 63

/-- java/lang/CharSequence -/
def k4 : Class := { plain "java/lang/CharSequence" (some 0) with
  accessFlags := 1537
  interfaces := #[]
  cf := some (fileOf pool4 2 #[.nestMembers #[47, 59]] #[] 1537 66 #[] #[])
  fields := #[]
  methods := #[]
  instanceTypes := #[]
  staticTypes := #[]
  resolved := Array.replicate 131 none
  statics := none }

def pool5 : Array CpInfo := pool [(1, .class_ 2), (0, u "java/lang/constant/Constable"), (0, .class_ 4), (0, u "java/lang/Object")] 6

/-- java/lang/constant/Constable -/
def k5 : Class := { plain "java/lang/constant/Constable" (some 0) with
  accessFlags := 1537
  interfaces := #[]
  cf := some (fileOf pool5 1 #[] #[] 1537 3 #[] #[])
  fields := #[]
  methods := #[]
  instanceTypes := #[]
  staticTypes := #[]
  resolved := Array.replicate 11 none
  statics := none }

def pool6 : Array CpInfo := pool [(1, .class_ 2), (0, u "java/lang/constant/ConstantDesc"), (0, .class_ 4), (0, u "java/lang/Object")] 32

/-- java/lang/constant/ConstantDesc -/
def k6 : Class := { plain "java/lang/constant/ConstantDesc" (some 0) with
  accessFlags := 1537
  interfaces := #[]
  cf := some (fileOf pool6 1 #[] #[] 1537 3 #[] #[])
  fields := #[]
  methods := #[]
  instanceTypes := #[]
  staticTypes := #[]
  resolved := Array.replicate 37 none
  statics := none }

def pool7 : Array CpInfo := pool [(1, .methodref 2 3), (0, .class_ 4), (0, .nameAndType 5 6), (0, u "java/lang/Object"), (0, u "<init>"), (0, u "()V"), (2, .fieldref 10 11), (0, .class_ 12), (0, .nameAndType 13 14), (0, u "java/lang/String"), (0, u "value"), (0, u "[B"), (0, .fieldref 10 16), (0, .nameAndType 17 18), (0, u "coder"), (0, u "B"), (2, u "hash"), (0, u "I"), (2, u "hashIsZero"), (0, u "Z"), (11, .fieldref 10 39), (0, .nameAndType 40 26), (0, u "COMPACT_STRINGS"), (12, u "toBytes"), (53, .class_ 109), (1, u "java/lang/StringLatin1"), (99, .methodref 10 210), (0, .nameAndType 5 211), (0, u "([BB)V"), (157, u "(C)Z"), (171, .methodref 107 542), (0, .nameAndType 543 544), (0, u "equals"), (0, u "([B[B)Z"), (28, u "(Ljava/lang/Object;)Z"), (1, .class_ 576), (0, u "java/lang/CharSequence"), (22, u "CASE_INSENSITIVE_ORDER"), (0, u "Ljava/util/Comparator;"), (181, u "valueOf"), (0, u "(C)Ljava/lang/String;"), (231, .methodref 107 1016), (0, .nameAndType 1017 369), (0, u "canEncode"), (0, .methodref 107 1019), (0, .nameAndType 53 1020), (0, u "(C)[B"), (80, u "serialPersistentFields"), (0, u "[Ljava/io/ObjectStreamField;"), (0, .class_ 1104), (0, u "java/lang/String$CaseInsensitiveComparator"), (1, .class_ 1107), (0, u "java/io/Serializable"), (0, .class_ 1109), (0, u "java/lang/Comparable"), (0, .class_ 1111), (0, u "java/lang/constant/Constable"), (0, .class_ 1113), (0, u "java/lang/constant/ConstantDesc"), (2, u "serialVersionUID"), (0, u "J"), (3, u "REPL"), (0, u "C"), (2, u "LATIN1"), (1, u "UTF16")] 323

def k7m0 : Method := { name := "<init>", desc := "()V", sig := { parameters := [], returnType := none }, accessFlags := 1, code := none }
def k7c1 : Code := { maxStack := 2, maxLocals := 3, code := jdk_42_method_66_code, exceptionTable := #[], attributes := #[] }
def k7m1 : Method := { name := "equals", desc := "(Ljava/lang/Object;)Z", sig := { parameters := [(.object "java/lang/Object")], returnType := some .boolean }, accessFlags := 1, code := some k7c1 }
def k7c2 : Code := { maxStack := 4, maxLocals := 1, code := jdk_42_method_139_code, exceptionTable := #[], attributes := #[] }
def k7m2 : Method := { name := "valueOf", desc := "(C)Ljava/lang/String;", sig := { parameters := [.char], returnType := some (.object "java/lang/String") }, accessFlags := 9, code := some k7c2 }
def k7c3 : Code := { maxStack := 2, maxLocals := 3, code := jdk_42_method_151_code, exceptionTable := #[], attributes := #[] }
def k7m3 : Method := { name := "<init>", desc := "([BB)V", sig := { parameters := [(.array .byte), .byte], returnType := none }, accessFlags := 0, code := some k7c3 }
/-- java/lang/String -/
def k7 : Class := { plain "java/lang/String" (some 0) with
  accessFlags := 49
  interfaces := #[2, 3, 4, 5, 6]
  cf := some (fileOf pool7 10 #[.nestMembers #[1103]] #[{ accessFlags := 1, nameIndex := 5, descriptorIndex := 6, attributes := #[] }, { accessFlags := 1, nameIndex := 543, descriptorIndex := 573, attributes := #[] }, { accessFlags := 9, nameIndex := 782, descriptorIndex := 783, attributes := #[] }, { accessFlags := 0, nameIndex := 5, descriptorIndex := 211, attributes := #[] }] 49 2 #[1106, 1108, 575, 1110, 1112] #[{ accessFlags := 18, nameIndex := 13, descriptorIndex := 14, attributes := #[] }, { accessFlags := 18, nameIndex := 17, descriptorIndex := 18, attributes := #[] }, { accessFlags := 2, nameIndex := 21, descriptorIndex := 22, attributes := #[] }, { accessFlags := 2, nameIndex := 25, descriptorIndex := 26, attributes := #[] }, { accessFlags := 26, nameIndex := 1116, descriptorIndex := 1117, attributes := #[] }, { accessFlags := 24, nameIndex := 40, descriptorIndex := 26, attributes := #[] }, { accessFlags := 26, nameIndex := 1101, descriptorIndex := 1102, attributes := #[] }, { accessFlags := 26, nameIndex := 1121, descriptorIndex := 1122, attributes := #[] }, { accessFlags := 25, nameIndex := 599, descriptorIndex := 600, attributes := #[] }, { accessFlags := 24, nameIndex := 1125, descriptorIndex := 18, attributes := #[] }, { accessFlags := 24, nameIndex := 1127, descriptorIndex := 18, attributes := #[] }])
  fields := #[{ name := "value", type := (.array .byte), accessFlags := 18, slot := 0, constantValue := 0 }, { name := "coder", type := .byte, accessFlags := 18, slot := 1, constantValue := 0 }, { name := "hash", type := .int, accessFlags := 2, slot := 2, constantValue := 0 }, { name := "hashIsZero", type := .boolean, accessFlags := 2, slot := 3, constantValue := 0 }, { name := "serialVersionUID", type := .long, accessFlags := 26, slot := 0, constantValue := 0 }, { name := "COMPACT_STRINGS", type := .boolean, accessFlags := 24, slot := 1, constantValue := 0 }, { name := "serialPersistentFields", type := (.array (.object "java/io/ObjectStreamField")), accessFlags := 26, slot := 2, constantValue := 0 }, { name := "REPL", type := .char, accessFlags := 26, slot := 3, constantValue := 0 }, { name := "CASE_INSENSITIVE_ORDER", type := (.object "java/util/Comparator"), accessFlags := 25, slot := 4, constantValue := 0 }, { name := "LATIN1", type := .byte, accessFlags := 24, slot := 5, constantValue := 0 }, { name := "UTF16", type := .byte, accessFlags := 24, slot := 6, constantValue := 0 }]
  methods := #[k7m0, k7m1, k7m2, k7m3]
  instanceTypes := #[(.array .byte), .byte, .int, .boolean]
  staticTypes := #[.long, .boolean, (.array (.object "java/io/ObjectStreamField")), .char, (.object "java/util/Comparator"), .byte, .byte]
  resolved := Array.replicate 1451 none
  statics := some 0 }

def pool8 : Array CpInfo := pool [(4, .class_ 6), (1, u "java/lang/Object"), (0, u "<init>"), (0, u "()V"), (5, .class_ 16), (1, u "java/lang/StringLatin1"), (73, u "canEncode"), (14, u "(C)Z"), (15, u "$assertionsDisabled"), (0, u "Z"), (98, .class_ 223), (1, u "java/lang/StringLatin1$LinesSpliterator"), (57, u "equals"), (0, u "([B[B)Z"), (97, u "toBytes"), (1, u "(C)[B"), (7, .class_ 391), (0, u "java/lang/StringLatin1$CharsSpliterator")] 3

def k8m0 : Method := { name := "<init>", desc := "()V", sig := { parameters := [], returnType := none }, accessFlags := 0, code := none }
def k8c1 : Code := { maxStack := 2, maxLocals := 1, code := jdk_43_method_3_code, exceptionTable := #[], attributes := #[] }
def k8m1 : Method := { name := "canEncode", desc := "(C)Z", sig := { parameters := [.char], returnType := some .boolean }, accessFlags := 9, code := some k8c1 }
def k8c2 : Code := { maxStack := 3, maxLocals := 3, code := jdk_43_method_13_code, exceptionTable := #[], attributes := #[] }
def k8m2 : Method := { name := "equals", desc := "([B[B)Z", sig := { parameters := [(.array .byte), (.array .byte)], returnType := some .boolean }, accessFlags := 9, code := some k8c2 }
def k8c3 : Code := { maxStack := 4, maxLocals := 1, code := jdk_43_method_46_code, exceptionTable := #[], attributes := #[] }
def k8m3 : Method := { name := "toBytes", desc := "(C)[B", sig := { parameters := [.char], returnType := some (.array .byte) }, accessFlags := 9, code := some k8c3 }
/-- java/lang/StringLatin1 -/
def k8 : Class := { plain "java/lang/StringLatin1" (some 0) with
  accessFlags := 48
  interfaces := #[]
  cf := some (fileOf pool8 14 #[.nestMembers #[390, 221]] #[{ accessFlags := 0, nameIndex := 7, descriptorIndex := 8, attributes := #[] }, { accessFlags := 9, nameIndex := 90, descriptorIndex := 105, attributes := #[] }, { accessFlags := 9, nameIndex := 281, descriptorIndex := 282, attributes := #[] }, { accessFlags := 9, nameIndex := 380, descriptorIndex := 382, attributes := #[] }] 48 4 #[] #[{ accessFlags := 4120, nameIndex := 121, descriptorIndex := 122, attributes := #[] }])
  fields := #[{ name := "$assertionsDisabled", type := .boolean, accessFlags := 4120, slot := 0, constantValue := 0 }]
  methods := #[k8m0, k8m1, k8m2, k8m3]
  instanceTypes := #[]
  staticTypes := #[.boolean]
  resolved := Array.replicate 395 none
  statics := none }

def pool9 : Array CpInfo := pool [(1, .methodref 2 3), (0, .class_ 4), (0, .nameAndType 5 6), (0, u "java/lang/Object"), (0, u "<init>"), (0, u "()V"), (0, .string 8), (0, u "url is null"), (0, .methodref 10 11), (0, .class_ 12), (0, .nameAndType 13 14), (0, u "java/util/Objects"), (0, u "requireNonNull"), (0, u "(Ljava/lang/Object;Ljava/lang/String;)Ljava/lang/Object;"), (0, .class_ 16), (0, u "java/lang/String"), (0, .fieldref 18 19), (0, .class_ 20), (0, .nameAndType 21 22), (0, u "com/example/utando/utando/archive/PageMeta"), (0, u "url"), (0, u "Ljava/lang/String;"), (0, .string 24), (0, u "title is null"), (0, .fieldref 18 26), (0, .nameAndType 27 22), (0, u "title"), (0, .string 29), (0, u "path is null"), (0, .fieldref 18 31), (0, .nameAndType 32 22), (0, u "path"), (0, .fieldref 18 34), (0, .nameAndType 35 36), (0, u "crawlTime"), (0, u "J"), (0, .string 38), (0, u "commitTag is null"), (0, .fieldref 18 40), (0, .nameAndType 41 22), (0, u "commitTag"), (0, .methodref 15 43), (0, .nameAndType 44 45), (0, u "equals"), (0, u "(Ljava/lang/Object;)Z"), (14, u "(Ljava/lang/String;Ljava/lang/String;Ljava/lang/String;JLjava/lang/String;)V")] 25

def k9c0 : Code := { maxStack := 3, maxLocals := 7, code := prog_6_method_1_code, exceptionTable := #[], attributes := #[] }
def k9m0 : Method := { name := "<init>", desc := "(Ljava/lang/String;Ljava/lang/String;Ljava/lang/String;JLjava/lang/String;)V", sig := { parameters := [(.object "java/lang/String"), (.object "java/lang/String"), (.object "java/lang/String"), .long, (.object "java/lang/String")], returnType := none }, accessFlags := 1, code := some k9c0 }
def k9c1 : Code := { maxStack := 4, maxLocals := 3, code := prog_6_method_7_code, exceptionTable := #[], attributes := #[] }
def k9m1 : Method := { name := "equals", desc := "(Ljava/lang/Object;)Z", sig := { parameters := [(.object "java/lang/Object")], returnType := some .boolean }, accessFlags := 1, code := some k9c1 }
/-- com/example/utando/utando/archive/PageMeta -/
def k9 : Class := { plain "com/example/utando/utando/archive/PageMeta" (some 0) with
  accessFlags := 49
  interfaces := #[]
  cf := some (fileOf pool9 18 #[] #[{ accessFlags := 1, nameIndex := 5, descriptorIndex := 60, attributes := #[] }, { accessFlags := 1, nameIndex := 44, descriptorIndex := 45, attributes := #[] }] 49 2 #[] #[{ accessFlags := 18, nameIndex := 21, descriptorIndex := 22, attributes := #[] }, { accessFlags := 18, nameIndex := 27, descriptorIndex := 22, attributes := #[] }, { accessFlags := 18, nameIndex := 32, descriptorIndex := 22, attributes := #[] }, { accessFlags := 18, nameIndex := 35, descriptorIndex := 36, attributes := #[] }, { accessFlags := 18, nameIndex := 41, descriptorIndex := 22, attributes := #[] }])
  fields := #[{ name := "url", type := (.object "java/lang/String"), accessFlags := 18, slot := 0, constantValue := 0 }, { name := "title", type := (.object "java/lang/String"), accessFlags := 18, slot := 1, constantValue := 0 }, { name := "path", type := (.object "java/lang/String"), accessFlags := 18, slot := 2, constantValue := 0 }, { name := "crawlTime", type := .long, accessFlags := 18, slot := 3, constantValue := 0 }, { name := "commitTag", type := (.object "java/lang/String"), accessFlags := 18, slot := 4, constantValue := 0 }]
  methods := #[k9m0, k9m1]
  instanceTypes := #[(.object "java/lang/String"), (.object "java/lang/String"), (.object "java/lang/String"), .long, (.object "java/lang/String")]
  staticTypes := #[]
  resolved := Array.replicate 86 none
  statics := none }

def pool10 : Array CpInfo := pool [(2, .class_ 4), (1, u "java/lang/Object"), (0, u "<init>"), (0, u "()V"), (35, .class_ 44), (1, u "java/util/Objects"), (0, u "requireNonNull"), (48, u "(Ljava/lang/Object;Ljava/lang/String;)Ljava/lang/Object;")] 89

def k10m0 : Method := { name := "<init>", desc := "()V", sig := { parameters := [], returnType := none }, accessFlags := 2, code := none }
def k10c1 : Code := { maxStack := 3, maxLocals := 2, code := jdk_31_method_11_code, exceptionTable := #[], attributes := #[] }
def k10m1 : Method := { name := "requireNonNull", desc := "(Ljava/lang/Object;Ljava/lang/String;)Ljava/lang/Object;", sig := { parameters := [(.object "java/lang/Object"), (.object "java/lang/String")], returnType := some (.object "java/lang/Object") }, accessFlags := 9, code := some k10c1 }
/-- java/util/Objects -/
def k10 : Class := { plain "java/util/Objects" (some 0) with
  accessFlags := 49
  interfaces := #[]
  cf := some (fileOf pool10 42 #[] #[{ accessFlags := 2, nameIndex := 5, descriptorIndex := 6, attributes := #[] }, { accessFlags := 9, nameIndex := 45, descriptorIndex := 94, attributes := #[] }] 49 2 #[] #[])
  fields := #[]
  methods := #[k10m0, k10m1]
  instanceTypes := #[]
  staticTypes := #[]
  resolved := Array.replicate 184 none
  statics := none }

def pool11 : Array CpInfo := pool [(2, .class_ 4), (1, u "java/lang/Object"), (0, u "<init>"), (0, u "()V"), (17, .class_ 26), (1, u "jdk/internal/util/Preconditions"), (28, .class_ 56), (0, u "jdk/internal/util/Preconditions$4"), (57, .class_ 115), (0, u "jdk/internal/util/Preconditions$1"), (7, u "SIOOBE_FORMATTER"), (0, u "Ljava/util/function/BiFunction;"), (0, .class_ 126), (0, u "jdk/internal/util/Preconditions$2"), (3, u "AIOOBE_FORMATTER"), (0, .class_ 132), (0, u "jdk/internal/util/Preconditions$3"), (3, u "IOOBE_FORMATTER")] 57

def k11m0 : Method := { name := "<init>", desc := "()V", sig := { parameters := [], returnType := none }, accessFlags := 1, code := none }
/-- jdk/internal/util/Preconditions -/
def k11 : Class := { plain "jdk/internal/util/Preconditions" (some 0) with
  accessFlags := 33
  interfaces := #[]
  cf := some (fileOf pool11 24 #[.nestMembers #[55, 131, 125, 114]] #[{ accessFlags := 1, nameIndex := 5, descriptorIndex := 6, attributes := #[] }] 33 2 #[] #[{ accessFlags := 25, nameIndex := 123, descriptorIndex := 124, attributes := #[] }, { accessFlags := 25, nameIndex := 130, descriptorIndex := 124, attributes := #[] }, { accessFlags := 25, nameIndex := 136, descriptorIndex := 124, attributes := #[] }])
  fields := #[{ name := "SIOOBE_FORMATTER", type := (.object "java/util/function/BiFunction"), accessFlags := 25, slot := 0, constantValue := 0 }, { name := "AIOOBE_FORMATTER", type := (.object "java/util/function/BiFunction"), accessFlags := 25, slot := 1, constantValue := 0 }, { name := "IOOBE_FORMATTER", type := (.object "java/util/function/BiFunction"), accessFlags := 25, slot := 2, constantValue := 0 }]
  methods := #[k11m0]
  instanceTypes := #[]
  staticTypes := #[(.object "java/util/function/BiFunction"), (.object "java/util/function/BiFunction"), (.object "java/util/function/BiFunction")]
  resolved := Array.replicate 194 none
  statics := some 1 }

def pool12 : Array CpInfo := pool [(9, u "<init>"), (6, .class_ 18), (1, u "java/lang/Object"), (0, u "()V"), (1, .class_ 23), (1, u "jdk/internal/util/ArraysSupport"), (0, u "LOG2_ARRAY_LONG_INDEX_SCALE"), (0, u "I"), (2, u "U"), (0, u "Ljdk/internal/misc/Unsafe;"), (8, u "BIG_ENDIAN"), (0, u "Z"), (8, u "LOG2_BYTE_BIT_SIZE"), (4, u "LOG2_ARRAY_INT_INDEX_SCALE"), (54, u "JLA"), (0, u "Ljdk/internal/access/JavaLangAccess;"), (11, u "LOG2_ARRAY_BOOLEAN_INDEX_SCALE"), (9, u "LOG2_ARRAY_BYTE_INDEX_SCALE"), (5, u "LOG2_ARRAY_CHAR_INDEX_SCALE"), (5, u "LOG2_ARRAY_SHORT_INDEX_SCALE"), (18, u "LOG2_ARRAY_FLOAT_INDEX_SCALE"), (24, u "LOG2_ARRAY_DOUBLE_INDEX_SCALE"), (89, u "T_BOOLEAN"), (2, u "T_CHAR"), (1, u "T_FLOAT"), (1, u "T_DOUBLE"), (1, u "T_BYTE"), (1, u "T_SHORT"), (1, u "T_INT"), (1, u "T_LONG"), (1, u "SOFT_MAX_ARRAY_LENGTH")] 83

def k12m0 : Method := { name := "<init>", desc := "()V", sig := { parameters := [], returnType := none }, accessFlags := 2, code := none }
/-- jdk/internal/util/ArraysSupport -/
def k12 : Class := { plain "jdk/internal/util/ArraysSupport" (some 0) with
  accessFlags := 33
  interfaces := #[]
  cf := some (fileOf pool12 21 #[] #[{ accessFlags := 2, nameIndex := 9, descriptorIndex := 19, attributes := #[] }] 33 16 #[] #[{ accessFlags := 24, nameIndex := 28, descriptorIndex := 29, attributes := #[] }, { accessFlags := 26, nameIndex := 38, descriptorIndex := 39, attributes := #[] }, { accessFlags := 25, nameIndex := 121, descriptorIndex := 25, attributes := #[] }, { accessFlags := 25, nameIndex := 131, descriptorIndex := 25, attributes := #[] }, { accessFlags := 25, nameIndex := 137, descriptorIndex := 25, attributes := #[] }, { accessFlags := 25, nameIndex := 143, descriptorIndex := 25, attributes := #[] }, { accessFlags := 25, nameIndex := 53, descriptorIndex := 25, attributes := #[] }, { accessFlags := 25, nameIndex := 24, descriptorIndex := 25, attributes := #[] }, { accessFlags := 25, nameIndex := 162, descriptorIndex := 25, attributes := #[] }, { accessFlags := 25, nameIndex := 187, descriptorIndex := 25, attributes := #[] }, { accessFlags := 26, nameIndex := 48, descriptorIndex := 25, attributes := #[] }, { accessFlags := 25, nameIndex := 277, descriptorIndex := 25, attributes := #[] }, { accessFlags := 25, nameIndex := 280, descriptorIndex := 25, attributes := #[] }, { accessFlags := 25, nameIndex := 282, descriptorIndex := 25, attributes := #[] }, { accessFlags := 25, nameIndex := 284, descriptorIndex := 25, attributes := #[] }, { accessFlags := 25, nameIndex := 286, descriptorIndex := 25, attributes := #[] }, { accessFlags := 25, nameIndex := 288, descriptorIndex := 25, attributes := #[] }, { accessFlags := 25, nameIndex := 290, descriptorIndex := 25, attributes := #[] }, { accessFlags := 25, nameIndex := 292, descriptorIndex := 25, attributes := #[] }, { accessFlags := 26, nameIndex := 108, descriptorIndex := 109, attributes := #[] }, { accessFlags := 25, nameIndex := 294, descriptorIndex := 25, attributes := #[] }])
  fields := #[{ name := "U", type := (.object "jdk/internal/misc/Unsafe"), accessFlags := 24, slot := 0, constantValue := 0 }, { name := "BIG_ENDIAN", type := .boolean, accessFlags := 26, slot := 1, constantValue := 0 }, { name := "LOG2_ARRAY_BOOLEAN_INDEX_SCALE", type := .int, accessFlags := 25, slot := 2, constantValue := 0 }, { name := "LOG2_ARRAY_BYTE_INDEX_SCALE", type := .int, accessFlags := 25, slot := 3, constantValue := 0 }, { name := "LOG2_ARRAY_CHAR_INDEX_SCALE", type := .int, accessFlags := 25, slot := 4, constantValue := 0 }, { name := "LOG2_ARRAY_SHORT_INDEX_SCALE", type := .int, accessFlags := 25, slot := 5, constantValue := 0 }, { name := "LOG2_ARRAY_INT_INDEX_SCALE", type := .int, accessFlags := 25, slot := 6, constantValue := 0 }, { name := "LOG2_ARRAY_LONG_INDEX_SCALE", type := .int, accessFlags := 25, slot := 7, constantValue := 0 }, { name := "LOG2_ARRAY_FLOAT_INDEX_SCALE", type := .int, accessFlags := 25, slot := 8, constantValue := 0 }, { name := "LOG2_ARRAY_DOUBLE_INDEX_SCALE", type := .int, accessFlags := 25, slot := 9, constantValue := 0 }, { name := "LOG2_BYTE_BIT_SIZE", type := .int, accessFlags := 26, slot := 10, constantValue := 0 }, { name := "T_BOOLEAN", type := .int, accessFlags := 25, slot := 11, constantValue := 0 }, { name := "T_CHAR", type := .int, accessFlags := 25, slot := 12, constantValue := 0 }, { name := "T_FLOAT", type := .int, accessFlags := 25, slot := 13, constantValue := 0 }, { name := "T_DOUBLE", type := .int, accessFlags := 25, slot := 14, constantValue := 0 }, { name := "T_BYTE", type := .int, accessFlags := 25, slot := 15, constantValue := 0 }, { name := "T_SHORT", type := .int, accessFlags := 25, slot := 16, constantValue := 0 }, { name := "T_INT", type := .int, accessFlags := 25, slot := 17, constantValue := 0 }, { name := "T_LONG", type := .int, accessFlags := 25, slot := 18, constantValue := 0 }, { name := "JLA", type := (.object "jdk/internal/access/JavaLangAccess"), accessFlags := 26, slot := 19, constantValue := 0 }, { name := "SOFT_MAX_ARRAY_LENGTH", type := .int, accessFlags := 25, slot := 20, constantValue := 0 }]
  methods := #[k12m0]
  instanceTypes := #[]
  staticTypes := #[(.object "jdk/internal/misc/Unsafe"), .boolean, .int, .int, .int, .int, .int, .int, .int, .int, .int, .int, .int, .int, .int, .int, .int, .int, .int, (.object "jdk/internal/access/JavaLangAccess"), .int]
  resolved := Array.replicate 378 none
  statics := none }

def pool13 : Array CpInfo := pool [(1, u "java/lang/Cloneable"), (0, .class_ 1), (0, u "java/lang/Object"), (0, .class_ 3)] 3

/-- java/lang/Cloneable -/
def k13 : Class := { plain "java/lang/Cloneable" (some 0) with
  accessFlags := 1537
  interfaces := #[]
  cf := some (fileOf pool13 2 #[] #[] 1537 4 #[] #[])
  fields := #[]
  methods := #[]
  instanceTypes := #[]
  staticTypes := #[]
  resolved := Array.replicate 8 none
  statics := none }

/-- the primitive byte -/
def k14 : Class := { plain "byte" none with kind := .primitive 'B', accessFlags := 0x411 }
/-- [B -/
def k15 : Class := { plain "[B" (some 0) with kind := .array 14 .byte, interfaces := #[13, 2], accessFlags := 1041 }

/-- the primitive int -/
def k16 : Class := { plain "int" none with kind := .primitive 'I', accessFlags := 0x411 }
/-- [I -/
def k17 : Class := { plain "[I" (some 0) with kind := .array 16 .int, interfaces := #[13, 2], accessFlags := 1041 }

def heap : Heap := #[{ cls := 7, slots := #[.long 0, .int 1, .null, .int 0, .null, .int 0, .int 0], vm := .statics 7 },
  { cls := 11, slots := #[.null, .null, .null], vm := .statics 11 }]
def classes : Array Class := #[k0, k1, k2, k3, k4, k5, k6, k7, k8, k9, k10, k11, k12, k13, k14, k15, k16, k17]
def interned : List (Array UInt16 × Addr) := []
def slotsUsed : Nat := 10
def theMethod : MethodId := ⟨1, 5⟩
def args0 : Array Value := #[.long 5, .long 6, .long 7, .long 8, .int 3]
def aboutOver (below : List Frame) : State where
  vm := { classes := classes, interned := interned.toArray }
  heap := heap
  slotsUsed := slotsUsed
  threads := #[{ frames := .invoking theMethod args0 :: below }]
def below0 : List Frame := [.native { method := ⟨0, 0⟩, args := #[] }]
def about1 : State := aboutOver below0
def p0 : Program := .bare "" "" ""
def e0 : Env := launch0.env 0 0 0
theorem w_frames : about1.frames = Frame.invoking theMethod args0 :: below0 := rfl
set_option maxRecDepth 65536 in
theorem w_args : argsFit about1.vm theMethod args0 = true := by decide +kernel
set_option maxRecDepth 65536 in
theorem w_heap : heapFits about1 = true := by decide +kernel
set_option maxRecDepth 65536 in
theorem w_runnable : about1.curStatus? = some .runnable := by decide +kernel
set_option maxRecDepth 65536 in
theorem w_alone : about1.alone = true := by decide +kernel
set_option maxRecDepth 65536 in
theorem w_named : about1.methodNamed? x = some theMethod := by decide +kernel
set_option maxRecDepth 65536 in
theorem w_hears : about1.hears theMethod below0 = true := by decide +kernel
set_option maxRecDepth 65536 in
theorem w_ripe : about1.ripe theMethod args0 below0 = true := by decide +kernel
theorem w_running : about1.status = .running := rfl
set_option maxRecDepth 65536 in
theorem w_room : about1.hasRoom e0.platform room_1 = true :=
  launch0.hasRoom_least _ room_1 (by decide +kernel) (by decide +kernel) (by decide +kernel) (by decide +kernel) (by decide +kernel) (by decide +kernel)
theorem allAtoms_all (ts : List Jvm.Cond) (a : Array Jvm.Value) (st : Jvm.State) : (allAtoms ts).before a st = ts.all (fun c => c.before a st) := by
  induction ts with
  | nil => rfl
  | cons c t ih =>
    show (Jvm.Cond.and c (allAtoms t)).before a st = _
    rw [Jvm.Cond.before_and, ih, List.all_cons]
def words1 : List Jvm.Cond := Jvm.Cond.code x code maxLocals ret :: tables_1
/-- a 'code' word, met by the world's own term for the bytes: nothing is compared byte by byte -/
theorem code_word {y : MethodName} {bytes : ByteArray} {mx : Nat} {rt : Option FieldType} {a : Array Value} {s : State} {m : MethodId} {meth : Method} {c : Code} (h1 : s.methodNamed? y = some m) (h2 : s.vm.method? m = some meth) (h3 : meth.code = some c) (h4 : c.code = bytes)
    (h5 : (c.maxLocals == mx && c.exceptionTable.isEmpty && decide (c.maxStack ≤ mostOperands) && decide (meth.sig.returnType = rt) && !meth.locks && decide (parseMethodDescriptor y.desc = some meth.sig)) = true) : (Jvm.Cond.code y bytes mx rt).before a s = true := by
  simp only [Bool.and_eq_true, beq_iff_eq, Bool.not_eq_true', decide_eq_true_eq] at h5
  obtain ⟨⟨⟨⟨⟨g1, g2⟩, g3⟩, g4⟩, g5⟩, g6⟩ := h5
  simp [Cond.before, Cond.holds, Cond.value, h1, h2, h3, h4, g1, g2, g3, g4, g5, g6]
def isCode : Jvm.Cond → Bool
  | .code _ _ _ _ => true
  | _ => false
theorem all_split {L : List Jvm.Cond} {P : Jvm.Cond → Bool} (h1 : L.all (fun c => isCode c || P c) = true) (h2 : ∀ c ∈ L.filter isCode, P c = true) : L.all P = true := by
  refine List.all_eq_true.mpr fun c hc => ?_
  have h := List.all_eq_true.mp h1 c hc
  rcases Bool.eq_false_or_eq_true (isCode c) with hi | hi
  · exact h2 c (List.mem_filter.mpr ⟨hc, hi⟩)
  · simpa [hi] using h
set_option maxRecDepth 65536 in
theorem w_c0 : (Jvm.Cond.code x code maxLocals ret).before args0 about1 = true := code_word (m := ⟨1, 5⟩) (meth := k1m5) (c := k1c5) (by decide +kernel) rfl rfl rfl (by decide +kernel)
set_option maxRecDepth 65536 in
theorem w_c1 : (Jvm.Cond.code ({ cls := "com/example/utando/utando/archive/PageMetaEqualsPinLaw", name := "field", desc := "(JI)I" } : Jvm.MethodName) method_2_code (3 : Nat) (Option.some Jvm.ClassFile.FieldType.int)).before args0 about1 = true := code_word (m := ⟨1, 1⟩) (meth := k1m1) (c := k1c1) (by decide +kernel) rfl rfl rfl (by decide +kernel)
set_option maxRecDepth 65536 in
theorem w_c2 : (Jvm.Cond.code ({ cls := "com/example/utando/utando/archive/PageMetaEqualsPinLaw", name := "pick", desc := "(JJII)I" } : Jvm.MethodName) method_5_code (6 : Nat) (Option.some Jvm.ClassFile.FieldType.int)).before args0 about1 = true := code_word (m := ⟨1, 4⟩) (meth := k1m4) (c := k1c4) (by decide +kernel) rfl rfl rfl (by decide +kernel)
set_option maxRecDepth 65536 in
theorem w_c3 : (Jvm.Cond.code ({ cls := "com/example/utando/utando/archive/PageMetaEqualsPinLaw", name := "text", desc := "(I)Ljava/lang/String;" } : Jvm.MethodName) method_3_code (1 : Nat) (Option.some (Jvm.ClassFile.FieldType.object "java/lang/String"))).before args0 about1 = true := code_word (m := ⟨1, 2⟩) (meth := k1m2) (c := k1c2) (by decide +kernel) rfl rfl rfl (by decide +kernel)
set_option maxRecDepth 65536 in
theorem w_c4 : (Jvm.Cond.code ({ cls := "java/lang/String", name := "valueOf", desc := "(C)Ljava/lang/String;" } : Jvm.MethodName) jdk_42_method_139_code (1 : Nat) (Option.some (Jvm.ClassFile.FieldType.object "java/lang/String"))).before args0 about1 = true := code_word (m := ⟨7, 2⟩) (meth := k7m2) (c := k7c2) (by decide +kernel) rfl rfl rfl (by decide +kernel)
set_option maxRecDepth 65536 in
theorem w_c5 : (Jvm.Cond.code ({ cls := "java/lang/StringLatin1", name := "canEncode", desc := "(C)Z" } : Jvm.MethodName) jdk_43_method_3_code (1 : Nat) (Option.some Jvm.ClassFile.FieldType.boolean)).before args0 about1 = true := code_word (m := ⟨8, 1⟩) (meth := k8m1) (c := k8c1) (by decide +kernel) rfl rfl rfl (by decide +kernel)
set_option maxRecDepth 65536 in
theorem w_c6 : (Jvm.Cond.code ({ cls := "java/lang/StringLatin1", name := "toBytes", desc := "(C)[B" } : Jvm.MethodName) jdk_43_method_46_code (1 : Nat) (Option.some (Jvm.ClassFile.FieldType.array Jvm.ClassFile.FieldType.byte))).before args0 about1 = true := code_word (m := ⟨8, 3⟩) (meth := k8m3) (c := k8c3) (by decide +kernel) rfl rfl rfl (by decide +kernel)
set_option maxRecDepth 65536 in
theorem w_c7 : (Jvm.Cond.code ({ cls := "java/lang/String", name := "<init>", desc := "([BB)V" } : Jvm.MethodName) jdk_42_method_151_code (3 : Nat) (Option.none : Option Jvm.ClassFile.FieldType)).before args0 about1 = true := code_word (m := ⟨7, 3⟩) (meth := k7m3) (c := k7c3) (by decide +kernel) rfl rfl rfl (by decide +kernel)
set_option maxRecDepth 65536 in
theorem w_c8 : (Jvm.Cond.code ({ cls := "java/lang/Object", name := "<init>", desc := "()V" } : Jvm.MethodName) object_method_1_code (1 : Nat) (Option.none : Option Jvm.ClassFile.FieldType)).before args0 about1 = true := code_word (m := ⟨0, 0⟩) (meth := k0m0) (c := k0c0) (by decide +kernel) rfl rfl rfl (by decide +kernel)
set_option maxRecDepth 65536 in
theorem w_c9 : (Jvm.Cond.code ({ cls := "com/example/utando/utando/archive/PageMeta", name := "<init>", desc := "(Ljava/lang/String;Ljava/lang/String;Ljava/lang/String;JLjava/lang/String;)V" } : Jvm.MethodName) prog_6_method_1_code (7 : Nat) (Option.none : Option Jvm.ClassFile.FieldType)).before args0 about1 = true := code_word (m := ⟨9, 0⟩) (meth := k9m0) (c := k9c0) (by decide +kernel) rfl rfl rfl (by decide +kernel)
set_option maxRecDepth 65536 in
theorem w_c10 : (Jvm.Cond.code ({ cls := "java/util/Objects", name := "requireNonNull", desc := "(Ljava/lang/Object;Ljava/lang/String;)Ljava/lang/Object;" } : Jvm.MethodName) jdk_31_method_11_code (2 : Nat) (Option.some (Jvm.ClassFile.FieldType.object "java/lang/Object"))).before args0 about1 = true := code_word (m := ⟨10, 1⟩) (meth := k10m1) (c := k10c1) (by decide +kernel) rfl rfl rfl (by decide +kernel)
set_option maxRecDepth 65536 in
theorem w_c11 : (Jvm.Cond.code ({ cls := "com/example/utando/utando/archive/PageMetaEqualsPinLaw", name := "norm", desc := "(I)I" } : Jvm.MethodName) method_4_code (1 : Nat) (Option.some Jvm.ClassFile.FieldType.int)).before args0 about1 = true := code_word (m := ⟨1, 3⟩) (meth := k1m3) (c := k1c3) (by decide +kernel) rfl rfl rfl (by decide +kernel)
set_option maxRecDepth 65536 in
theorem w_c12 : (Jvm.Cond.code ({ cls := "com/example/utando/utando/archive/PageMeta", name := "equals", desc := "(Ljava/lang/Object;)Z" } : Jvm.MethodName) prog_6_method_7_code (3 : Nat) (Option.some Jvm.ClassFile.FieldType.boolean)).before args0 about1 = true := code_word (m := ⟨9, 1⟩) (meth := k9m1) (c := k9c1) (by decide +kernel) rfl rfl rfl (by decide +kernel)
set_option maxRecDepth 65536 in
theorem w_c13 : (Jvm.Cond.code ({ cls := "java/lang/String", name := "equals", desc := "(Ljava/lang/Object;)Z" } : Jvm.MethodName) jdk_42_method_66_code (3 : Nat) (Option.some Jvm.ClassFile.FieldType.boolean)).before args0 about1 = true := code_word (m := ⟨7, 1⟩) (meth := k7m1) (c := k7c1) (by decide +kernel) rfl rfl rfl (by decide +kernel)
set_option maxRecDepth 65536 in
theorem w_c14 : (Jvm.Cond.code ({ cls := "java/lang/StringLatin1", name := "equals", desc := "([B[B)Z" } : Jvm.MethodName) jdk_43_method_13_code (3 : Nat) (Option.some Jvm.ClassFile.FieldType.boolean)).before args0 about1 = true := code_word (m := ⟨8, 2⟩) (meth := k8m2) (c := k8c2) (by decide +kernel) rfl rfl rfl (by decide +kernel)
def codes1 : List Jvm.Cond := [Jvm.Cond.code x code maxLocals ret, Jvm.Cond.code ({ cls := "com/example/utando/utando/archive/PageMetaEqualsPinLaw", name := "field", desc := "(JI)I" } : Jvm.MethodName) method_2_code (3 : Nat) (Option.some Jvm.ClassFile.FieldType.int), Jvm.Cond.code ({ cls := "com/example/utando/utando/archive/PageMetaEqualsPinLaw", name := "pick", desc := "(JJII)I" } : Jvm.MethodName) method_5_code (6 : Nat) (Option.some Jvm.ClassFile.FieldType.int), Jvm.Cond.code ({ cls := "com/example/utando/utando/archive/PageMetaEqualsPinLaw", name := "text", desc := "(I)Ljava/lang/String;" } : Jvm.MethodName) method_3_code (1 : Nat) (Option.some (Jvm.ClassFile.FieldType.object "java/lang/String")), Jvm.Cond.code ({ cls := "java/lang/String", name := "valueOf", desc := "(C)Ljava/lang/String;" } : Jvm.MethodName) jdk_42_method_139_code (1 : Nat) (Option.some (Jvm.ClassFile.FieldType.object "java/lang/String")), Jvm.Cond.code ({ cls := "java/lang/StringLatin1", name := "canEncode", desc := "(C)Z" } : Jvm.MethodName) jdk_43_method_3_code (1 : Nat) (Option.some Jvm.ClassFile.FieldType.boolean), Jvm.Cond.code ({ cls := "java/lang/StringLatin1", name := "toBytes", desc := "(C)[B" } : Jvm.MethodName) jdk_43_method_46_code (1 : Nat) (Option.some (Jvm.ClassFile.FieldType.array Jvm.ClassFile.FieldType.byte)), Jvm.Cond.code ({ cls := "java/lang/String", name := "<init>", desc := "([BB)V" } : Jvm.MethodName) jdk_42_method_151_code (3 : Nat) (Option.none : Option Jvm.ClassFile.FieldType), Jvm.Cond.code ({ cls := "java/lang/Object", name := "<init>", desc := "()V" } : Jvm.MethodName) object_method_1_code (1 : Nat) (Option.none : Option Jvm.ClassFile.FieldType), Jvm.Cond.code ({ cls := "com/example/utando/utando/archive/PageMeta", name := "<init>", desc := "(Ljava/lang/String;Ljava/lang/String;Ljava/lang/String;JLjava/lang/String;)V" } : Jvm.MethodName) prog_6_method_1_code (7 : Nat) (Option.none : Option Jvm.ClassFile.FieldType), Jvm.Cond.code ({ cls := "java/util/Objects", name := "requireNonNull", desc := "(Ljava/lang/Object;Ljava/lang/String;)Ljava/lang/Object;" } : Jvm.MethodName) jdk_31_method_11_code (2 : Nat) (Option.some (Jvm.ClassFile.FieldType.object "java/lang/Object")), Jvm.Cond.code ({ cls := "com/example/utando/utando/archive/PageMetaEqualsPinLaw", name := "norm", desc := "(I)I" } : Jvm.MethodName) method_4_code (1 : Nat) (Option.some Jvm.ClassFile.FieldType.int), Jvm.Cond.code ({ cls := "com/example/utando/utando/archive/PageMeta", name := "equals", desc := "(Ljava/lang/Object;)Z" } : Jvm.MethodName) prog_6_method_7_code (3 : Nat) (Option.some Jvm.ClassFile.FieldType.boolean), Jvm.Cond.code ({ cls := "java/lang/String", name := "equals", desc := "(Ljava/lang/Object;)Z" } : Jvm.MethodName) jdk_42_method_66_code (3 : Nat) (Option.some Jvm.ClassFile.FieldType.boolean), Jvm.Cond.code ({ cls := "java/lang/StringLatin1", name := "equals", desc := "([B[B)Z" } : Jvm.MethodName) jdk_43_method_13_code (3 : Nat) (Option.some Jvm.ClassFile.FieldType.boolean)]
set_option maxRecDepth 65536 in
theorem codes_eq : words1.filter isCode = codes1 := rfl
theorem w_codes : ∀ c ∈ words1.filter isCode, c.before args0 about1 = true := by
  rw [codes_eq]
  intro c hc
  simp only [codes1, List.mem_cons, List.not_mem_nil, or_false] at hc
  rcases hc with rfl | rfl | rfl | rfl | rfl | rfl | rfl | rfl | rfl | rfl | rfl | rfl | rfl | rfl | rfl
  · exact w_c0
  · exact w_c1
  · exact w_c2
  · exact w_c3
  · exact w_c4
  · exact w_c5
  · exact w_c6
  · exact w_c7
  · exact w_c8
  · exact w_c9
  · exact w_c10
  · exact w_c11
  · exact w_c12
  · exact w_c13
  · exact w_c14
set_option maxRecDepth 65536 in
theorem w_t1 : (words1.take 24).all (fun c => isCode c || c.before args0 about1) = true := by decide +kernel
set_option maxRecDepth 65536 in
theorem w_t2 : ((words1.drop 24).take 24).all (fun c => isCode c || c.before args0 about1) = true := by decide +kernel
set_option maxRecDepth 65536 in
theorem w_t3 : (((words1.drop 24).drop 24).take 24).all (fun c => isCode c || c.before args0 about1) = true := by decide +kernel
set_option maxRecDepth 65536 in
theorem w_t4 : (((words1.drop 24).drop 24).drop 24).all (fun c => isCode c || c.before args0 about1) = true := by decide +kernel
theorem w_tables : (allAtoms (Jvm.Cond.code x code maxLocals ret :: tables_1)).before args0 about1 = true := by
  rw [allAtoms_all]
  show words1.all (fun c => c.before args0 about1) = true
  refine all_split ?_ w_codes
  rw [← List.take_append_drop 24 words1, List.all_append, w_t1, ← List.take_append_drop 24 (words1.drop 24), List.all_append, w_t2, ← List.take_append_drop 24 ((words1.drop 24).drop 24), List.all_append, w_t3, w_t4]
  rfl
set_option maxRecDepth 65536 in
theorem w_rest : rest_1_c.before args0 about1 = true := by decide +kernel
set_option maxRecDepth 65536 in
theorem w_case : (Jvm.Cond.and given_1 narrow_1).before args0 about1 = true := by decide +kernel
set_option maxRecDepth 65536 in
theorem w_consts : constsHeld consts_1 about1 := Jvm.Lit.constsHeldB_iff.mp (by decide +kernel)
theorem w_applies : (headSpec (Jvm.Cond.code x code maxLocals ret :: tables_1) room_1).applies x e0.platform about1 = true :=
  (Spec.applies_iff w_frames).mpr ⟨w_running, w_runnable, w_alone, w_named, w_hears, w_ripe, w_room, w_tables⟩
theorem atStart : AtStart classFile x code maxLocals ret World_1 tables_1 room_1 Calls_1 rest_1 Pre_1 launch0 p0 e0 about1 theMethod args0 below0 :=
  ⟨lists_1, trivial, launch0.admits_env _ _ _, launch0.least_env, fairChoices_fair.cas, fairChoices_fair.clock, w_frames, w_args, w_heap, w_applies, ⟨w_consts, trivial⟩, w_rest, w_case⟩
end start1
theorem witness_1 : WitnessClaimed_1 := ⟨start1.p0, start1.e0, start1.about1, start1.theMethod, start1.args0, start1.below0, start1.atStart⟩
end Jvm.Pilot.@@N@@
