import JvmDerived
import JvmDerived.Pilot.@@N@@Statement
import JvmDerived.Pilot.@@N@@Code
set_option linter.unusedVariables false
set_option linter.unusedSimpArgs false
@@BLOCK:NumsL.lean.txt@@
namespace Jvm.Pilot.@@N@@
open Jvm Jvm.ClassFile Sem Op Lib Jvm.Free Jvm.Stand Jvm.LawKit Jvm.RoadKit Bundle Jvm.Pilot.@@N@@.Jvm.D
/-! ## the walk's own kit: 'from this pc on the body comes to its end, in Φ' (X.G), and one rule a step -/
def OwC (p : Program) (l : Launch) (e : Env) (R : Room) (s : State) (m : MethodId) (args : Array Value) (below : List Frame) (meth : Method) (c : Code) (Z : State) (own nm : String) (bytes : ByteArray) (mL : Nat) (ret : Option FieldType) (n0 kM nM : Nat) (Φ : Option Value → Heap → Prop) : Prop :=
  p.tables.exec = Jvm.exec ∧ c.code = bytes ∧ c.maxLocals = mL ∧ s.vm.findClass own = some m.cls ∧ Z.Warmed39 s.vm ∧ meth.sig.returnType = ret ∧ meth.locks = false ∧ meth.name = nm
section OwKit
variable {p : Program} {l : Launch} {e : Env} {R : Room} {s : State} {m : MethodId} {args : Array Value} {below : List Frame} {meth : Method} {c : Code} {Z : State} {own nm : String} {bytes : ByteArray} {mL : Nat} {ret : Option FieldType} {n0 kM nM : Nat} {Φ : Option Value → Heap → Prop}
variable {a0 : Array Value} {h : Heap} {k n pc q : Nat} {Ls Ls' : Array Slot} {st rest : List Value}
def OwC.G (_X : OwC p l e R s m args below meth c Z own nm bytes mL ret n0 kM nM Φ) (h : Heap) (k n pc : Nat) (Ls : Array Slot) (st : List Value) : Prop :=
  ∀ T locs, Stand p l e R s m args below meth c T locs k n → T.heap = h → Fr n0 locs →
    ∃ v s₂ L, Steps p.tables e below (T.setTop (mkF m pc Ls st)) s₂ ∧ s₂.status = .running ∧ Ended s₂ below (.returned v) ∧ (Φ v s₂.heap ∧ Fr n0 L) ∧ FrameEnd s (.returned v) s₂ L kM nM
variable (X : OwC p l e R s m args below meth c Z own nm bytes mL ret n0 kM nM Φ)
theorem OwC.step {pc' : Nat} {st' : List Value} (g : X.G h k n pc' Ls' st') (w : ∀ T locs, Stand p l e R s m args below meth c T locs k n → ∀ t, Steps p.tables e below (T.setTop (mkF m pc' Ls' st')) t → Steps p.tables e below (T.setTop (mkF m pc Ls st)) t) : X.G h k n pc Ls st := fun T locs Y eT N => by
  obtain ⟨v, s₂, L, r1, r⟩ := g T locs Y eT N
  exact ⟨v, s₂, L, w T locs Y _ r1, r⟩
theorem OwC.hd (X : OwC p l e R s m args below meth c Z own nm bytes mL ret n0 kM nM Φ) {i : Instr} {len : Nat} (d : decode bytes pc = .ok (i, len)) : decode c.code pc = .ok (i, len) := hb X.2.1 d
/-! a name for the top of the stack -/
theorem OwC.nmI {x : Int32} (g : ∀ v : Int32, v = x → X.G h k n pc Ls (.int v :: st)) : X.G h k n pc Ls (.int x :: st) := g x rfl
theorem OwC.nmJ {x : Int64} (g : ∀ v : Int64, v = x → X.G h k n pc Ls (.long v :: st)) : X.G h k n pc Ls (.long x :: st) := g x rfl
theorem OwC.foldI {x v : Int32} (e : x = v) (g : X.G h k n pc Ls (.int v :: st)) : X.G h k n pc Ls (.int x :: st) := by subst e; exact g
theorem OwC.foldJ {x v : Int64} (e : x = v) (g : X.G h k n pc Ls (.long v :: st)) : X.G h k n pc Ls (.long x :: st) := by subst e; exact g
/-! loads and stores -/
theorem OwC.iloadN {j : Fin 4} {v : Int32} (d : decode bytes pc = .ok (.iload_n j, 1)) (hl : Ls[j.val]? = some (.val (.int v))) (hq : pc + 1 = q) (g : X.G h k n q Ls (.int v :: st)) : X.G h k n pc Ls st := by
  subst hq; exact X.step g fun T _ Y t r => XS.iloadN Y.here X.1 rfl (X.hd d) hl r
theorem OwC.iload {j : Nat} {v : Int32} (d : decode bytes pc = .ok (.iload j, 2)) (hl : Ls[j]? = some (.val (.int v))) (hq : pc + 2 = q) (g : X.G h k n q Ls (.int v :: st)) : X.G h k n pc Ls st := by
  subst hq; exact X.step g fun T _ Y t r => XS.iload Y.here X.1 rfl (X.hd d) hl r
theorem OwC.lloadN {j : Fin 4} {v : Int64} (d : decode bytes pc = .ok (.lload_n j, 1)) (hl : Ls[j.val]? = some (.val (.long v))) (hq : pc + 1 = q) (g : X.G h k n q Ls (.long v :: st)) : X.G h k n pc Ls st := by
  subst hq; exact X.step g fun T _ Y t r => XT.lloadN Y.here X.1 rfl (X.hd d) hl r
theorem OwC.lload {j : Nat} {v : Int64} (d : decode bytes pc = .ok (.lload j, 2)) (hl : Ls[j]? = some (.val (.long v))) (hq : pc + 2 = q) (g : X.G h k n q Ls (.long v :: st)) : X.G h k n pc Ls st := by
  subst hq; exact X.step g fun T _ Y t r => XT.lload Y.here X.1 rfl (X.hd d) hl r
theorem OwC.aloadN {j : Fin 4} {v : Value} (d : decode bytes pc = .ok (.aload_n j, 1)) (hl : Ls[j.val]? = some (.val v)) (hv : v.isRef = true) (hq : pc + 1 = q) (g : X.G h k n q Ls (v :: st)) : X.G h k n pc Ls st := by
  subst hq; exact X.step g fun T _ Y t r => XS.aloadN Y.here X.1 rfl (X.hd d) hl hv r
theorem OwC.aload {j : Nat} {v : Value} (d : decode bytes pc = .ok (.aload j, 2)) (hl : Ls[j]? = some (.val v)) (hv : v.isRef = true) (hq : pc + 2 = q) (g : X.G h k n q Ls (v :: st)) : X.G h k n pc Ls st := by
  subst hq; exact X.step g fun T _ Y t r => XS.aload Y.here X.1 rfl (X.hd d) hl hv r
theorem OwC.istoreN {j : Fin 4} {x : Int32} (d : decode bytes pc = .ok (.istore_n j, 1)) (hl : storeLocals Ls j.val (.int x) = some Ls') (hq : pc + 1 = q) (g : X.G h k n q Ls' st) : X.G h k n pc Ls (.int x :: st) := by
  subst hq; exact X.step g fun T _ Y t r => XS.istoreN Y.here X.1 rfl (X.hd d) rfl hl r
theorem OwC.istore {j : Nat} {x : Int32} (d : decode bytes pc = .ok (.istore j, 2)) (hl : storeLocals Ls j (.int x) = some Ls') (hq : pc + 2 = q) (g : X.G h k n q Ls' st) : X.G h k n pc Ls (.int x :: st) := by
  subst hq; exact X.step g fun T _ Y t r => XS.istore Y.here X.1 rfl (X.hd d) rfl hl r
theorem OwC.lstoreN {j : Fin 4} {x : Int64} (d : decode bytes pc = .ok (.lstore_n j, 1)) (hl : storeLocals Ls j.val (.long x) = some Ls') (hq : pc + 1 = q) (g : X.G h k n q Ls' st) : X.G h k n pc Ls (.long x :: st) := by
  subst hq; exact X.step g fun T _ Y t r => XT.lstoreN Y.here X.1 rfl (X.hd d) rfl hl r
theorem OwC.lstore {j : Nat} {x : Int64} (d : decode bytes pc = .ok (.lstore j, 2)) (hl : storeLocals Ls j (.long x) = some Ls') (hq : pc + 2 = q) (g : X.G h k n q Ls' st) : X.G h k n pc Ls (.long x :: st) := by
  subst hq; exact X.step g fun T _ Y t r => XT.lstore Y.here X.1 rfl (X.hd d) rfl hl r
theorem OwC.astoreN {j : Fin 4} {x : Value} (d : decode bytes pc = .ok (.astore_n j, 1)) (hv : x.isRef = true) (hl : storeLocals Ls j.val x = some Ls') (hq : pc + 1 = q) (g : X.G h k n q Ls' st) : X.G h k n pc Ls (x :: st) := by
  subst hq; exact X.step g fun T _ Y t r => XS.astoreN Y.here X.1 rfl (X.hd d) rfl hv hl r
theorem OwC.astore {j : Nat} {x : Value} (d : decode bytes pc = .ok (.astore j, 2)) (hv : x.isRef = true) (hl : storeLocals Ls j x = some Ls') (hq : pc + 2 = q) (g : X.G h k n q Ls' st) : X.G h k n pc Ls (x :: st) := by
  subst hq; exact X.step g fun T _ Y t r => XS.astore Y.here X.1 rfl (X.hd d) rfl hv hl r
/-! constants -/
theorem OwC.iconst {i : Int} (v : Int32) (d : decode bytes pc = .ok (.iconst i, 1)) (hv : Int32.ofInt i = v) (hq : pc + 1 = q) (g : X.G h k n q Ls (.int v :: st)) : X.G h k n pc Ls st := by
  subst hq hv; exact X.step g fun T _ Y t r => XS.iconst Y.here X.1 rfl (X.hd d) r
theorem OwC.bipush {i : Int} (v : Int32) (d : decode bytes pc = .ok (.bipush i, 2)) (hv : (Int8.ofInt i).toInt32 = v) (hq : pc + 2 = q) (g : X.G h k n q Ls (.int v :: st)) : X.G h k n pc Ls st := by
  subst hq hv; exact X.step g fun T _ Y t r => XS.bipush Y.here X.1 rfl (X.hd d) r
theorem OwC.sipush {i : Int} (v : Int32) (d : decode bytes pc = .ok (.sipush i, 3)) (hv : (Int16.ofInt i).toInt32 = v) (hq : pc + 3 = q) (g : X.G h k n q Ls (.int v :: st)) : X.G h k n pc Ls st := by
  subst hq hv; exact X.step g fun T _ Y t r => XS.sipush Y.here X.1 rfl (X.hd d) r
theorem OwC.lconst {j : Fin 2} (v : Int64) (d : decode bytes pc = .ok (.lconst j, 1)) (hv : Int64.ofNat j = v) (hq : pc + 1 = q) (g : X.G h k n q Ls (.long v :: st)) : X.G h k n pc Ls st := by
  subst hq hv; exact X.step g fun T _ Y t r => XT.lconst Y.here X.1 rfl (X.hd d) r
theorem OwC.aconstNull (d : decode bytes pc = .ok (.aconst_null, 1)) (hq : pc + 1 = q) (g : X.G h k n q Ls (.null :: st)) : X.G h k n pc Ls st := by
  subst hq; exact X.step g fun T _ Y t r => XS.aconstNull Y.here X.1 rfl (X.hd d) r
theorem OwC.ldc {i : Nat} {v : Int32} (w : (Cond.constant own i v).before a0 Z = true) (d : decode bytes pc = .ok (.ldc i, 2)) (hq : pc + 2 = q) (g : X.G h k n q Ls (.int v :: st)) : X.G h k n pc Ls st := by
  subst hq; exact X.step g fun T _ Y t r => Y.ldcI X.1 X.2.2.2.1 (mvT X.2.2.2.2.1 w) rfl (X.hd d) r
theorem OwC.ldc_w {i : Nat} {v : Int32} (w : (Cond.constant own i v).before a0 Z = true) (d : decode bytes pc = .ok (.ldc_w i, 3)) (hq : pc + 3 = q) (g : X.G h k n q Ls (.int v :: st)) : X.G h k n pc Ls st := by
  subst hq; exact X.step g fun T _ Y t r => Y.ldcWI X.1 X.2.2.2.1 (mvT X.2.2.2.2.1 w) rfl (X.hd d) r
theorem OwC.ldc2_w {i : Nat} {v : Int64} (w : (Cond.constantLong own i v).before a0 Z = true) (d : decode bytes pc = .ok (.ldc2_w i, 3)) (hq : pc + 3 = q) (g : X.G h k n q Ls (.long v :: st)) : X.G h k n pc Ls st := by
  subst hq; exact X.step g fun T _ Y t r => Y.ldc2J X.1 X.2.2.2.1 (mvT X.2.2.2.2.1 w) rfl (X.hd d) r
/-! arithmetic -/
theorem OwC.iadd {x y : Int32} (d : decode bytes pc = .ok (.iadd, 1)) (hq : pc + 1 = q) (g : X.G h k n q Ls (.int (x + y) :: st)) : X.G h k n pc Ls (.int y :: .int x :: st) := by
  subst hq; exact X.step g fun T _ Y t r => XS.iadd Y.here X.1 rfl (X.hd d) rfl r
theorem OwC.isub {x y : Int32} (d : decode bytes pc = .ok (.isub, 1)) (hq : pc + 1 = q) (g : X.G h k n q Ls (.int (x - y) :: st)) : X.G h k n pc Ls (.int y :: .int x :: st) := by
  subst hq; exact X.step g fun T _ Y t r => XS.isub Y.here X.1 rfl (X.hd d) rfl r
theorem OwC.imul {x y : Int32} (d : decode bytes pc = .ok (.imul, 1)) (hq : pc + 1 = q) (g : X.G h k n q Ls (.int (x * y) :: st)) : X.G h k n pc Ls (.int y :: .int x :: st) := by
  subst hq; exact X.step g fun T _ Y t r => XS.imul Y.here X.1 rfl (X.hd d) rfl r
theorem OwC.iand {x y : Int32} (d : decode bytes pc = .ok (.iand, 1)) (hq : pc + 1 = q) (g : X.G h k n q Ls (.int (x &&& y) :: st)) : X.G h k n pc Ls (.int y :: .int x :: st) := by
  subst hq; exact X.step g fun T _ Y t r => XS.iand Y.here X.1 rfl (X.hd d) rfl r
theorem OwC.ixor {x y : Int32} (d : decode bytes pc = .ok (.ixor, 1)) (hq : pc + 1 = q) (g : X.G h k n q Ls (.int (x ^^^ y) :: st)) : X.G h k n pc Ls (.int y :: .int x :: st) := by
  subst hq; exact X.step g fun T _ Y t r => XT.ixor Y.here X.1 rfl (X.hd d) rfl r
theorem OwC.ior {x y : Int32} (d : decode bytes pc = .ok (.ior, 1)) (hq : pc + 1 = q) (g : X.G h k n q Ls (.int (x ||| y) :: st)) : X.G h k n pc Ls (.int y :: .int x :: st) := by
  subst hq; exact X.step g fun T _ Y t r => XT.ior Y.here X.1 rfl (X.hd d) rfl r
theorem OwC.ishl {x y : Int32} (d : decode bytes pc = .ok (.ishl, 1)) (hq : pc + 1 = q) (g : X.G h k n q Ls (.int (x <<< (y &&& 31)) :: st)) : X.G h k n pc Ls (.int y :: .int x :: st) := by
  subst hq; exact X.step g fun T _ Y t r => XT.ishl Y.here X.1 rfl (X.hd d) rfl r
theorem OwC.ishr {x y : Int32} (d : decode bytes pc = .ok (.ishr, 1)) (hq : pc + 1 = q) (g : X.G h k n q Ls (.int (x >>> (y &&& 31)) :: st)) : X.G h k n pc Ls (.int y :: .int x :: st) := by
  subst hq; exact X.step g fun T _ Y t r => XT.ishr Y.here X.1 rfl (X.hd d) rfl r
theorem OwC.iushr {x y : Int32} (d : decode bytes pc = .ok (.iushr, 1)) (hq : pc + 1 = q) (g : X.G h k n q Ls (.int (XT.ushr x y) :: st)) : X.G h k n pc Ls (.int y :: .int x :: st) := by
  subst hq; exact X.step g fun T _ Y t r => XT.iushr Y.here X.1 rfl (X.hd d) rfl r
theorem OwC.ladd {x y : Int64} (d : decode bytes pc = .ok (.ladd, 1)) (hq : pc + 1 = q) (g : X.G h k n q Ls (.long (x + y) :: st)) : X.G h k n pc Ls (.long y :: .long x :: st) := by
  subst hq; exact X.step g fun T _ Y t r => XT.ladd Y.here X.1 rfl (X.hd d) rfl r
theorem OwC.lsub {x y : Int64} (d : decode bytes pc = .ok (.lsub, 1)) (hq : pc + 1 = q) (g : X.G h k n q Ls (.long (x - y) :: st)) : X.G h k n pc Ls (.long y :: .long x :: st) := by
  subst hq; exact X.step g fun T _ Y t r => XT.lsub Y.here X.1 rfl (X.hd d) rfl r
theorem OwC.lmul {x y : Int64} (d : decode bytes pc = .ok (.lmul, 1)) (hq : pc + 1 = q) (g : X.G h k n q Ls (.long (x * y) :: st)) : X.G h k n pc Ls (.long y :: .long x :: st) := by
  subst hq; exact X.step g fun T _ Y t r => XT.lmul Y.here X.1 rfl (X.hd d) rfl r
theorem OwC.land {x y : Int64} (d : decode bytes pc = .ok (.land, 1)) (hq : pc + 1 = q) (g : X.G h k n q Ls (.long (x &&& y) :: st)) : X.G h k n pc Ls (.long y :: .long x :: st) := by
  subst hq; exact X.step g fun T _ Y t r => XT.land Y.here X.1 rfl (X.hd d) rfl r
theorem OwC.lxor {x y : Int64} (d : decode bytes pc = .ok (.lxor, 1)) (hq : pc + 1 = q) (g : X.G h k n q Ls (.long (x ^^^ y) :: st)) : X.G h k n pc Ls (.long y :: .long x :: st) := by
  subst hq; exact X.step g fun T _ Y t r => XT.lxor Y.here X.1 rfl (X.hd d) rfl r
theorem OwC.lor {x y : Int64} (d : decode bytes pc = .ok (.lor, 1)) (hq : pc + 1 = q) (g : X.G h k n q Ls (.long (x ||| y) :: st)) : X.G h k n pc Ls (.long y :: .long x :: st) := by
  subst hq; exact X.step g fun T _ Y t r => XT.lor Y.here X.1 rfl (X.hd d) rfl r
theorem OwC.lshl {x : Int64} {y : Int32} (d : decode bytes pc = .ok (.lshl, 1)) (hq : pc + 1 = q) (g : X.G h k n q Ls (.long (x <<< (y.toInt64 &&& 63)) :: st)) : X.G h k n pc Ls (.int y :: .long x :: st) := by
  subst hq; exact X.step g fun T _ Y t r => XT.lshl Y.here X.1 rfl (X.hd d) rfl r
theorem OwC.lshr {x : Int64} {y : Int32} (d : decode bytes pc = .ok (.lshr, 1)) (hq : pc + 1 = q) (g : X.G h k n q Ls (.long (x >>> (y.toInt64 &&& 63)) :: st)) : X.G h k n pc Ls (.int y :: .long x :: st) := by
  subst hq; exact X.step g fun T _ Y t r => XT.lshr Y.here X.1 rfl (X.hd d) rfl r
theorem OwC.lushr {x : Int64} {y : Int32} (d : decode bytes pc = .ok (.lushr, 1)) (hq : pc + 1 = q) (g : X.G h k n q Ls (.long (XT.ushrL x y) :: st)) : X.G h k n pc Ls (.int y :: .long x :: st) := by
  subst hq; exact X.step g fun T _ Y t r => XT.lushr Y.here X.1 rfl (X.hd d) rfl r
theorem OwC.idiv {x y : Int32} (d : decode bytes pc = .ok (.idiv, 1)) (hy : y ≠ 0) (hq : pc + 1 = q) (g : X.G h k n q Ls (.int (x / y) :: st)) : X.G h k n pc Ls (.int y :: .int x :: st) := by
  subst hq; exact X.step g fun T _ Y t r => XS.idiv Y.here X.1 rfl (X.hd d) rfl hy r
theorem OwC.ldiv {x y : Int64} (d : decode bytes pc = .ok (.ldiv, 1)) (hy : y ≠ 0) (hq : pc + 1 = q) (g : X.G h k n q Ls (.long (x / y) :: st)) : X.G h k n pc Ls (.long y :: .long x :: st) := by
  subst hq; exact X.step g fun T _ Y t r => XT.ldiv Y.here X.1 rfl (X.hd d) rfl hy r
theorem OwC.irem {x y : Int32} (d : decode bytes pc = .ok (.irem, 1)) (hy : y ≠ 0) (hq : pc + 1 = q) (g : X.G h k n q Ls (.int (x % y) :: st)) : X.G h k n pc Ls (.int y :: .int x :: st) := by
  subst hq; exact X.step g fun T _ Y t r => iremM Y X.1 rfl (X.hd d) rfl hy r
theorem ow_lrem (x y : Int64) : x - (x / y) * y = x % y := by
  rw [← Int64.toInt_inj, Int64.toInt_sub, Int64.toInt_mul, Int64.toInt_mod, Int64.toInt_div]
  have h1 : (((x.toInt.tdiv y.toInt).bmod (2 ^ 64) * y.toInt).bmod (2 ^ 64)) = (x.toInt.tdiv y.toInt * y.toInt).bmod (2 ^ 64) := by simp [Int.bmod_mul_bmod]
  rw [h1, Int.sub_bmod_bmod]
  have h2 : x.toInt - x.toInt.tdiv y.toInt * y.toInt = x.toInt.tmod y.toInt := by
    have := Int.mul_tdiv_add_tmod x.toInt y.toInt
    rw [Int.mul_comm] at this; omega
  rw [h2, ← Int64.toInt_mod, Int64.toInt_bmod]
theorem OwC.lrem {x y : Int64} (d : decode bytes pc = .ok (.lrem, 1)) (hy : y ≠ 0) (hq : pc + 1 = q) (g : X.G h k n q Ls (.long (x % y) :: st)) : X.G h k n pc Ls (.long y :: .long x :: st) := by
  subst hq; exact X.step g fun T _ Y t r => XT.lrem Y.here X.1 rfl (X.hd d) rfl hy (by rw [ow_lrem]; exact r)
theorem OwC.ineg {x : Int32} (d : decode bytes pc = .ok (.ineg, 1)) (hq : pc + 1 = q) (g : X.G h k n q Ls (.int (-x) :: st)) : X.G h k n pc Ls (.int x :: st) := by
  subst hq; exact X.step g fun T _ Y t r => XS.ineg Y.here X.1 rfl (X.hd d) rfl r
theorem OwC.lneg {x : Int64} (d : decode bytes pc = .ok (.lneg, 1)) (hq : pc + 1 = q) (g : X.G h k n q Ls (.long (-x) :: st)) : X.G h k n pc Ls (.long x :: st) := by
  subst hq; exact X.step g fun T _ Y t r => XT.lneg Y.here X.1 rfl (X.hd d) rfl r
theorem OwC.i2l {x : Int32} (d : decode bytes pc = .ok (.i2l, 1)) (hq : pc + 1 = q) (g : X.G h k n q Ls (.long (x.toInt64) :: st)) : X.G h k n pc Ls (.int x :: st) := by
  subst hq; exact X.step g fun T _ Y t r => XT.i2l Y.here X.1 rfl (X.hd d) rfl r
theorem OwC.l2i {x : Int64} (d : decode bytes pc = .ok (.l2i, 1)) (hq : pc + 1 = q) (g : X.G h k n q Ls (.int (x.toInt32) :: st)) : X.G h k n pc Ls (.long x :: st) := by
  subst hq; exact X.step g fun T _ Y t r => XT.l2i Y.here X.1 rfl (X.hd d) rfl r
theorem OwC.i2b {x : Int32} (d : decode bytes pc = .ok (.i2b, 1)) (hq : pc + 1 = q) (g : X.G h k n q Ls (.int (x.toInt8.toInt32) :: st)) : X.G h k n pc Ls (.int x :: st) := by
  subst hq; exact X.step g fun T _ Y t r => XT.i2b Y.here X.1 rfl (X.hd d) rfl r
theorem OwC.i2c {x : Int32} (d : decode bytes pc = .ok (.i2c, 1)) (hq : pc + 1 = q) (g : X.G h k n q Ls (.int (x.toUInt32.toUInt16.toUInt32.toInt32) :: st)) : X.G h k n pc Ls (.int x :: st) := by
  subst hq; exact X.step g fun T _ Y t r => XT.i2c Y.here X.1 rfl (X.hd d) rfl r
theorem OwC.iinc {j : Nat} {cst : Int} {x : Int32} (v : Int32) (d : decode bytes pc = .ok (.iinc j cst, 3)) (hv : Int32.ofInt cst = v) (hl : Ls[j]? = some (.val (.int x))) (hl' : storeLocals Ls j (.int (x + v)) = some Ls') (hq : pc + 3 = q) (g : X.G h k n q Ls' st) : X.G h k n pc Ls st := by
  subst hq hv; exact X.step g fun T _ Y t r => XS.iinc Y.here X.1 rfl (X.hd d) hl hl' r
/-! the stack -/
theorem OwC.dup {x : Value} (d : decode bytes pc = .ok (.dup, 1)) (hc : x.category = 1) (hq : pc + 1 = q) (g : X.G h k n q Ls (x :: x :: st)) : X.G h k n pc Ls (x :: st) := by
  subst hq; exact X.step g fun T _ Y t r => XS.dup Y.here X.1 rfl (X.hd d) rfl hc r
theorem OwC.pop {x : Value} (d : decode bytes pc = .ok (.pop, 1)) (hc : x.category = 1) (hq : pc + 1 = q) (g : X.G h k n q Ls st) : X.G h k n pc Ls (x :: st) := by
  subst hq; exact X.step g fun T _ Y t r => XT.pop Y.here X.1 rfl (X.hd d) rfl hc r
theorem OwC.dup_x1 {x y : Value} (d : decode bytes pc = .ok (.dup_x1, 1)) (hc : x.category = 1) (hc' : y.category = 1) (hq : pc + 1 = q) (g : X.G h k n q Ls (x :: y :: x :: st)) : X.G h k n pc Ls (x :: y :: st) := by
  subst hq; exact X.step g fun T _ Y t r => XT.dupX1 Y.here X.1 rfl (X.hd d) rfl hc hc' r
theorem OwC.dup2 {x y : Value} (d : decode bytes pc = .ok (.dup2, 1)) (hc : x.category = 1) (hc' : y.category = 1) (hq : pc + 1 = q) (g : X.G h k n q Ls (x :: y :: x :: y :: st)) : X.G h k n pc Ls (x :: y :: st) := by
  subst hq; exact X.step g fun T _ Y t r => XT.dup2 Y.here X.1 rfl (X.hd d) rfl hc hc' r
theorem OwC.dup2L {x : Int64} (d : decode bytes pc = .ok (.dup2, 1)) (hq : pc + 1 = q) (g : X.G h k n q Ls (.long x :: .long x :: st)) : X.G h k n pc Ls (.long x :: st) := by
  subst hq; exact X.step g fun T _ Y t r => XT.dup2L Y.here X.1 rfl (X.hd d) rfl r
/-! branches -/
theorem OwC.goto {o : Int} {q' : Nat} (d : decode bytes pc = .ok (.goto o, 3)) (hp : 0 ≤ (pc : Int) + o ∧ ((pc : Int) + o).toNat = q') (g : X.G h k n q' Ls st) : X.G h k n pc Ls st :=
  X.step g fun T _ Y t r => XS.goto Y.here X.1 rfl rfl (X.hd d) hp.1 hp.2 r
theorem OwC.icmpB {cd : ClassFile.Cond} {o : Int} {q' : Nat} {x y : Int32} (d : decode bytes pc = .ok (.if_icmp cd o, 3)) (hp : 0 ≤ (pc : Int) + o ∧ ((pc : Int) + o).toNat = q') (hq : pc + 3 = q) (g1 : if_icmp.holds cd x y = true → X.G h k n q' Ls st) (g0 : if_icmp.holds cd x y = false → X.G h k n q Ls st) : X.G h k n pc Ls (.int y :: .int x :: st) := by
  subst hq
  cases hc : if_icmp.holds cd x y with
  | true => exact X.step (g1 hc) fun T _ Y t r => XS.icmpYes Y.here X.1 rfl rfl (X.hd d) rfl hc hp.1 hp.2 r
  | false => exact X.step (g0 hc) fun T _ Y t r => XS.icmpNo Y.here X.1 rfl (X.hd d) rfl hc r
theorem OwC.ifB {cd : ClassFile.Cond} {o : Int} {q' : Nat} {x : Int32} (d : decode bytes pc = .ok (.ifCond cd o, 3)) (hp : 0 ≤ (pc : Int) + o ∧ ((pc : Int) + o).toNat = q') (hq : pc + 3 = q) (g1 : ifCond.holds cd x = true → X.G h k n q' Ls st) (g0 : ifCond.holds cd x = false → X.G h k n q Ls st) : X.G h k n pc Ls (.int x :: st) := by
  subst hq
  cases hc : ifCond.holds cd x with
  | true => exact X.step (g1 hc) fun T _ Y t r => XS.ifYes Y.here X.1 rfl rfl (X.hd d) rfl hc hp.1 hp.2 r
  | false => exact X.step (g0 hc) fun T _ Y t r => XS.ifNo Y.here X.1 rfl (X.hd d) rfl hc r
def owCd : ClassFile.Cond → Int → Int → Prop
  | .eq, a, b => a = b | .ne, a, b => ¬ a = b | .lt, a, b => a < b | .ge, a, b => b ≤ a | .gt, a, b => b < a | .le, a, b => a ≤ b
theorem ow_icmp (cd : ClassFile.Cond) (x y : Int32) : if_icmp.holds cd x y = true ↔ owCd cd x.toInt y.toInt := by
  cases cd <;> simp [if_icmp.holds, owCd, ← Int32.toInt_inj, Int32.lt_iff_toInt_lt, Int32.le_iff_toInt_le]
theorem ow_if (cd : ClassFile.Cond) (x : Int32) : ifCond.holds cd x = true ↔ owCd cd x.toInt 0 := by rw [if0, ow_icmp]; rfl
theorem ow_icmpF {cd : ClassFile.Cond} {x y : Int32} (hc : if_icmp.holds cd x y = false) : ¬ owCd cd x.toInt y.toInt := fun q => by rw [(ow_icmp cd x y).mpr q] at hc; cases hc
theorem ow_ifF {cd : ClassFile.Cond} {x : Int32} (hc : ifCond.holds cd x = false) : ¬ owCd cd x.toInt 0 := fun q => by rw [(ow_if cd x).mpr q] at hc; cases hc
theorem ow_lc (cd : ClassFile.Cond) (x y : Int64) : owCd cd (XT.cmpL x y).toInt 0 ↔ owCd cd x.toInt y.toInt := by
  have e1 : (1 : Int32).toInt = 1 := rfl
  have e0 : (0 : Int32).toInt = 0 := rfl
  have em : (-1 : Int32).toInt = -1 := rfl
  unfold XT.cmpL
  split
  · rename_i h1; rw [Int64.lt_iff_toInt_lt] at h1; cases cd <;> simp only [owCd, e1] <;> omega
  · rename_i h1; rw [Int64.lt_iff_toInt_lt] at h1
    split
    · rename_i h2; subst h2; cases cd <;> simp only [owCd, e0] <;> omega
    · rename_i h2; rw [← Int64.toInt_inj] at h2; cases cd <;> simp only [owCd, em] <;> omega
theorem OwC.icmp_eq {o : Int} {q' : Nat} {x y : Int32} {a b : Int} (d : decode bytes pc = .ok (.if_icmp .eq o, 3)) (hx : x.toInt = a) (hy : y.toInt = b) (hp : 0 ≤ (pc : Int) + o ∧ ((pc : Int) + o).toNat = q') (hq : pc + 3 = q) (g1 : a = b → X.G h k n q' Ls st) (g0 : ¬ a = b → X.G h k n q Ls st) : X.G h k n pc Ls (.int y :: .int x :: st) := by
  subst hx hy; exact X.icmpB d hp hq (fun hc => g1 ((ow_icmp _ _ _).mp hc)) (fun hc => g0 (by have := ow_icmpF hc; simp only [owCd] at this; omega))
theorem OwC.if_eq {o : Int} {q' : Nat} {x : Int32} {a : Int} (d : decode bytes pc = .ok (.ifCond .eq o, 3)) (hx : x.toInt = a) (hp : 0 ≤ (pc : Int) + o ∧ ((pc : Int) + o).toNat = q') (hq : pc + 3 = q) (g1 : a = 0 → X.G h k n q' Ls st) (g0 : ¬ a = 0 → X.G h k n q Ls st) : X.G h k n pc Ls (.int x :: st) := by
  subst hx; exact X.ifB d hp hq (fun hc => g1 ((ow_if _ _).mp hc)) (fun hc => g0 (by have := ow_ifF hc; simp only [owCd] at this; omega))
theorem OwC.lcmp_eq {o : Int} {q1 q' : Nat} {x y : Int64} {a b : Int} (d1 : decode bytes pc = .ok (.lcmp, 1)) (hq1 : pc + 1 = q1) (d : decode bytes q1 = .ok (.ifCond .eq o, 3)) (hx : x.toInt = a) (hy : y.toInt = b) (hp : 0 ≤ (q1 : Int) + o ∧ ((q1 : Int) + o).toNat = q') (hq : q1 + 3 = q) (g1 : a = b → X.G h k n q' Ls st) (g0 : ¬ a = b → X.G h k n q Ls st) : X.G h k n pc Ls (.long y :: .long x :: st) := by
  subst hx hy hq1; refine X.step (X.ifB d hp hq (fun hc => g1 ((ow_lc _ _ _).mp ((ow_if _ _).mp hc))) (fun hc => g0 (by have := mt (ow_lc _ _ _).mpr (ow_ifF hc); simp only [owCd] at this; omega))) fun T _ Y t r => XT.lcmp Y.here X.1 rfl (X.hd d1) rfl r
theorem OwC.icmp_ne {o : Int} {q' : Nat} {x y : Int32} {a b : Int} (d : decode bytes pc = .ok (.if_icmp .ne o, 3)) (hx : x.toInt = a) (hy : y.toInt = b) (hp : 0 ≤ (pc : Int) + o ∧ ((pc : Int) + o).toNat = q') (hq : pc + 3 = q) (g1 : ¬ a = b → X.G h k n q' Ls st) (g0 : a = b → X.G h k n q Ls st) : X.G h k n pc Ls (.int y :: .int x :: st) := by
  subst hx hy; exact X.icmpB d hp hq (fun hc => g1 ((ow_icmp _ _ _).mp hc)) (fun hc => g0 (by have := ow_icmpF hc; simp only [owCd] at this; omega))
theorem OwC.if_ne {o : Int} {q' : Nat} {x : Int32} {a : Int} (d : decode bytes pc = .ok (.ifCond .ne o, 3)) (hx : x.toInt = a) (hp : 0 ≤ (pc : Int) + o ∧ ((pc : Int) + o).toNat = q') (hq : pc + 3 = q) (g1 : ¬ a = 0 → X.G h k n q' Ls st) (g0 : a = 0 → X.G h k n q Ls st) : X.G h k n pc Ls (.int x :: st) := by
  subst hx; exact X.ifB d hp hq (fun hc => g1 ((ow_if _ _).mp hc)) (fun hc => g0 (by have := ow_ifF hc; simp only [owCd] at this; omega))
theorem OwC.lcmp_ne {o : Int} {q1 q' : Nat} {x y : Int64} {a b : Int} (d1 : decode bytes pc = .ok (.lcmp, 1)) (hq1 : pc + 1 = q1) (d : decode bytes q1 = .ok (.ifCond .ne o, 3)) (hx : x.toInt = a) (hy : y.toInt = b) (hp : 0 ≤ (q1 : Int) + o ∧ ((q1 : Int) + o).toNat = q') (hq : q1 + 3 = q) (g1 : ¬ a = b → X.G h k n q' Ls st) (g0 : a = b → X.G h k n q Ls st) : X.G h k n pc Ls (.long y :: .long x :: st) := by
  subst hx hy hq1; refine X.step (X.ifB d hp hq (fun hc => g1 ((ow_lc _ _ _).mp ((ow_if _ _).mp hc))) (fun hc => g0 (by have := mt (ow_lc _ _ _).mpr (ow_ifF hc); simp only [owCd] at this; omega))) fun T _ Y t r => XT.lcmp Y.here X.1 rfl (X.hd d1) rfl r
theorem OwC.icmp_lt {o : Int} {q' : Nat} {x y : Int32} {a b : Int} (d : decode bytes pc = .ok (.if_icmp .lt o, 3)) (hx : x.toInt = a) (hy : y.toInt = b) (hp : 0 ≤ (pc : Int) + o ∧ ((pc : Int) + o).toNat = q') (hq : pc + 3 = q) (g1 : a < b → X.G h k n q' Ls st) (g0 : b ≤ a → X.G h k n q Ls st) : X.G h k n pc Ls (.int y :: .int x :: st) := by
  subst hx hy; exact X.icmpB d hp hq (fun hc => g1 ((ow_icmp _ _ _).mp hc)) (fun hc => g0 (by have := ow_icmpF hc; simp only [owCd] at this; omega))
theorem OwC.if_lt {o : Int} {q' : Nat} {x : Int32} {a : Int} (d : decode bytes pc = .ok (.ifCond .lt o, 3)) (hx : x.toInt = a) (hp : 0 ≤ (pc : Int) + o ∧ ((pc : Int) + o).toNat = q') (hq : pc + 3 = q) (g1 : a < 0 → X.G h k n q' Ls st) (g0 : 0 ≤ a → X.G h k n q Ls st) : X.G h k n pc Ls (.int x :: st) := by
  subst hx; exact X.ifB d hp hq (fun hc => g1 ((ow_if _ _).mp hc)) (fun hc => g0 (by have := ow_ifF hc; simp only [owCd] at this; omega))
theorem OwC.lcmp_lt {o : Int} {q1 q' : Nat} {x y : Int64} {a b : Int} (d1 : decode bytes pc = .ok (.lcmp, 1)) (hq1 : pc + 1 = q1) (d : decode bytes q1 = .ok (.ifCond .lt o, 3)) (hx : x.toInt = a) (hy : y.toInt = b) (hp : 0 ≤ (q1 : Int) + o ∧ ((q1 : Int) + o).toNat = q') (hq : q1 + 3 = q) (g1 : a < b → X.G h k n q' Ls st) (g0 : b ≤ a → X.G h k n q Ls st) : X.G h k n pc Ls (.long y :: .long x :: st) := by
  subst hx hy hq1; refine X.step (X.ifB d hp hq (fun hc => g1 ((ow_lc _ _ _).mp ((ow_if _ _).mp hc))) (fun hc => g0 (by have := mt (ow_lc _ _ _).mpr (ow_ifF hc); simp only [owCd] at this; omega))) fun T _ Y t r => XT.lcmp Y.here X.1 rfl (X.hd d1) rfl r
theorem OwC.icmp_ge {o : Int} {q' : Nat} {x y : Int32} {a b : Int} (d : decode bytes pc = .ok (.if_icmp .ge o, 3)) (hx : x.toInt = a) (hy : y.toInt = b) (hp : 0 ≤ (pc : Int) + o ∧ ((pc : Int) + o).toNat = q') (hq : pc + 3 = q) (g1 : b ≤ a → X.G h k n q' Ls st) (g0 : a < b → X.G h k n q Ls st) : X.G h k n pc Ls (.int y :: .int x :: st) := by
  subst hx hy; exact X.icmpB d hp hq (fun hc => g1 ((ow_icmp _ _ _).mp hc)) (fun hc => g0 (by have := ow_icmpF hc; simp only [owCd] at this; omega))
theorem OwC.if_ge {o : Int} {q' : Nat} {x : Int32} {a : Int} (d : decode bytes pc = .ok (.ifCond .ge o, 3)) (hx : x.toInt = a) (hp : 0 ≤ (pc : Int) + o ∧ ((pc : Int) + o).toNat = q') (hq : pc + 3 = q) (g1 : 0 ≤ a → X.G h k n q' Ls st) (g0 : a < 0 → X.G h k n q Ls st) : X.G h k n pc Ls (.int x :: st) := by
  subst hx; exact X.ifB d hp hq (fun hc => g1 ((ow_if _ _).mp hc)) (fun hc => g0 (by have := ow_ifF hc; simp only [owCd] at this; omega))
theorem OwC.lcmp_ge {o : Int} {q1 q' : Nat} {x y : Int64} {a b : Int} (d1 : decode bytes pc = .ok (.lcmp, 1)) (hq1 : pc + 1 = q1) (d : decode bytes q1 = .ok (.ifCond .ge o, 3)) (hx : x.toInt = a) (hy : y.toInt = b) (hp : 0 ≤ (q1 : Int) + o ∧ ((q1 : Int) + o).toNat = q') (hq : q1 + 3 = q) (g1 : b ≤ a → X.G h k n q' Ls st) (g0 : a < b → X.G h k n q Ls st) : X.G h k n pc Ls (.long y :: .long x :: st) := by
  subst hx hy hq1; refine X.step (X.ifB d hp hq (fun hc => g1 ((ow_lc _ _ _).mp ((ow_if _ _).mp hc))) (fun hc => g0 (by have := mt (ow_lc _ _ _).mpr (ow_ifF hc); simp only [owCd] at this; omega))) fun T _ Y t r => XT.lcmp Y.here X.1 rfl (X.hd d1) rfl r
theorem OwC.icmp_gt {o : Int} {q' : Nat} {x y : Int32} {a b : Int} (d : decode bytes pc = .ok (.if_icmp .gt o, 3)) (hx : x.toInt = a) (hy : y.toInt = b) (hp : 0 ≤ (pc : Int) + o ∧ ((pc : Int) + o).toNat = q') (hq : pc + 3 = q) (g1 : b < a → X.G h k n q' Ls st) (g0 : a ≤ b → X.G h k n q Ls st) : X.G h k n pc Ls (.int y :: .int x :: st) := by
  subst hx hy; exact X.icmpB d hp hq (fun hc => g1 ((ow_icmp _ _ _).mp hc)) (fun hc => g0 (by have := ow_icmpF hc; simp only [owCd] at this; omega))
theorem OwC.if_gt {o : Int} {q' : Nat} {x : Int32} {a : Int} (d : decode bytes pc = .ok (.ifCond .gt o, 3)) (hx : x.toInt = a) (hp : 0 ≤ (pc : Int) + o ∧ ((pc : Int) + o).toNat = q') (hq : pc + 3 = q) (g1 : 0 < a → X.G h k n q' Ls st) (g0 : a ≤ 0 → X.G h k n q Ls st) : X.G h k n pc Ls (.int x :: st) := by
  subst hx; exact X.ifB d hp hq (fun hc => g1 ((ow_if _ _).mp hc)) (fun hc => g0 (by have := ow_ifF hc; simp only [owCd] at this; omega))
theorem OwC.lcmp_gt {o : Int} {q1 q' : Nat} {x y : Int64} {a b : Int} (d1 : decode bytes pc = .ok (.lcmp, 1)) (hq1 : pc + 1 = q1) (d : decode bytes q1 = .ok (.ifCond .gt o, 3)) (hx : x.toInt = a) (hy : y.toInt = b) (hp : 0 ≤ (q1 : Int) + o ∧ ((q1 : Int) + o).toNat = q') (hq : q1 + 3 = q) (g1 : b < a → X.G h k n q' Ls st) (g0 : a ≤ b → X.G h k n q Ls st) : X.G h k n pc Ls (.long y :: .long x :: st) := by
  subst hx hy hq1; refine X.step (X.ifB d hp hq (fun hc => g1 ((ow_lc _ _ _).mp ((ow_if _ _).mp hc))) (fun hc => g0 (by have := mt (ow_lc _ _ _).mpr (ow_ifF hc); simp only [owCd] at this; omega))) fun T _ Y t r => XT.lcmp Y.here X.1 rfl (X.hd d1) rfl r
theorem OwC.icmp_le {o : Int} {q' : Nat} {x y : Int32} {a b : Int} (d : decode bytes pc = .ok (.if_icmp .le o, 3)) (hx : x.toInt = a) (hy : y.toInt = b) (hp : 0 ≤ (pc : Int) + o ∧ ((pc : Int) + o).toNat = q') (hq : pc + 3 = q) (g1 : a ≤ b → X.G h k n q' Ls st) (g0 : b < a → X.G h k n q Ls st) : X.G h k n pc Ls (.int y :: .int x :: st) := by
  subst hx hy; exact X.icmpB d hp hq (fun hc => g1 ((ow_icmp _ _ _).mp hc)) (fun hc => g0 (by have := ow_icmpF hc; simp only [owCd] at this; omega))
theorem OwC.if_le {o : Int} {q' : Nat} {x : Int32} {a : Int} (d : decode bytes pc = .ok (.ifCond .le o, 3)) (hx : x.toInt = a) (hp : 0 ≤ (pc : Int) + o ∧ ((pc : Int) + o).toNat = q') (hq : pc + 3 = q) (g1 : a ≤ 0 → X.G h k n q' Ls st) (g0 : 0 < a → X.G h k n q Ls st) : X.G h k n pc Ls (.int x :: st) := by
  subst hx; exact X.ifB d hp hq (fun hc => g1 ((ow_if _ _).mp hc)) (fun hc => g0 (by have := ow_ifF hc; simp only [owCd] at this; omega))
theorem OwC.lcmp_le {o : Int} {q1 q' : Nat} {x y : Int64} {a b : Int} (d1 : decode bytes pc = .ok (.lcmp, 1)) (hq1 : pc + 1 = q1) (d : decode bytes q1 = .ok (.ifCond .le o, 3)) (hx : x.toInt = a) (hy : y.toInt = b) (hp : 0 ≤ (q1 : Int) + o ∧ ((q1 : Int) + o).toNat = q') (hq : q1 + 3 = q) (g1 : a ≤ b → X.G h k n q' Ls st) (g0 : b < a → X.G h k n q Ls st) : X.G h k n pc Ls (.long y :: .long x :: st) := by
  subst hx hy hq1; refine X.step (X.ifB d hp hq (fun hc => g1 ((ow_lc _ _ _).mp ((ow_if _ _).mp hc))) (fun hc => g0 (by have := mt (ow_lc _ _ _).mpr (ow_ifF hc); simp only [owCd] at this; omega))) fun T _ Y t r => XT.lcmp Y.here X.1 rfl (X.hd d1) rfl r
theorem OwC.ifnullT {o : Int} {q' : Nat} (d : decode bytes pc = .ok (.ifnull o, 3)) (hp : 0 ≤ (pc : Int) + o ∧ ((pc : Int) + o).toNat = q') (g : X.G h k n q' Ls st) : X.G h k n pc Ls (.null :: st) :=
  X.step g fun T _ Y t r => XS.ifnullYes Y.here X.1 rfl rfl (X.hd d) rfl hp.1 hp.2 r
theorem OwC.ifnullF {o : Int} {b : Addr} (d : decode bytes pc = .ok (.ifnull o, 3)) (hq : pc + 3 = q) (g : X.G h k n q Ls st) : X.G h k n pc Ls (.ref b :: st) := by
  subst hq; exact X.step g fun T _ Y t r => XS.ifnullNo Y.here X.1 rfl (X.hd d) rfl r
theorem OwC.ifnonnullT {o : Int} {q' : Nat} {b : Addr} (d : decode bytes pc = .ok (.ifnonnull o, 3)) (hp : 0 ≤ (pc : Int) + o ∧ ((pc : Int) + o).toNat = q') (g : X.G h k n q' Ls st) : X.G h k n pc Ls (.ref b :: st) :=
  X.step g fun T _ Y t r => XT.ifnonnullYes Y.here X.1 rfl rfl (X.hd d) rfl hp.1 hp.2 r
theorem OwC.ifnonnullF {o : Int} (d : decode bytes pc = .ok (.ifnonnull o, 3)) (hq : pc + 3 = q) (g : X.G h k n q Ls st) : X.G h k n pc Ls (.null :: st) := by
  subst hq; exact X.step g fun T _ Y t r => XT.ifnonnullNo Y.here X.1 rfl (X.hd d) rfl r
theorem OwC.acmp_ne {o : Int} {q' : Nat} {x y : Addr} (d : decode bytes pc = .ok (.if_acmp .ne o, 3)) (hp : 0 ≤ (pc : Int) + o ∧ ((pc : Int) + o).toNat = q') (hq : pc + 3 = q) (g1 : ¬ x = y → X.G h k n q' Ls st) (g0 : x = y → X.G h k n q Ls st) : X.G h k n pc Ls (.ref y :: .ref x :: st) := by
  subst hq
  by_cases hc : x = y
  · exact X.step (g0 hc) fun T _ Y t r => XT.acmpNo Y.here X.1 rfl (X.hd d) rfl rfl rfl (by simp [XT.acmp, hc]) r
  · exact X.step (g1 hc) fun T _ Y t r => XT.acmpYes Y.here X.1 rfl rfl (X.hd d) rfl rfl rfl (by simp [XT.acmp, hc]) hp.1 hp.2 r
theorem OwC.acmp_eq {o : Int} {q' : Nat} {x y : Addr} (d : decode bytes pc = .ok (.if_acmp .eq o, 3)) (hp : 0 ≤ (pc : Int) + o ∧ ((pc : Int) + o).toNat = q') (hq : pc + 3 = q) (g1 : x = y → X.G h k n q' Ls st) (g0 : ¬ x = y → X.G h k n q Ls st) : X.G h k n pc Ls (.ref y :: .ref x :: st) := by
  subst hq
  by_cases hc : x = y
  · exact X.step (g1 hc) fun T _ Y t r => XT.acmpYes Y.here X.1 rfl rfl (X.hd d) rfl rfl rfl (by simp [XT.acmp, hc]) hp.1 hp.2 r
  · exact X.step (g0 hc) fun T _ Y t r => XT.acmpNo Y.here X.1 rfl (X.hd d) rfl rfl rfl (by simp [XT.acmp, hc]) r
/-! returns -/
theorem OwC.fin {v : Option Value} (hv : meth.sig.returnType = none → v = none) (w : ∀ T locs, Stand p l e R s m args below meth c T locs k n → ∀ fs, (∀ (f : JFrame) (acts : List Action), f.method = m → f.locked = none → f.entered = [] → (doReturn e (T.setTop f) acts v).1 = T.setFrames fs) → Steps p.tables e below (T.setTop (mkF m pc Ls st)) (T.setFrames fs)) (hk : k ≤ kM) (hn : n ≤ nM) (hΦ : Φ v h) : X.G h k n pc Ls st := fun T locs Y eT N => by
  obtain ⟨fs, hr, hrun, hended, hW, hsame⟩ := Y.leave (v := v) hv X.2.2.2.2.2.2.1
  exact ⟨v, _, locs, w T locs Y fs hr, hrun, hended, ⟨by show Φ v T.heap; rw [eT]; exact hΦ, N⟩, ⟨_, rfl⟩, hW, hsame.mono hk hn⟩
theorem OwC.retV (d : decode bytes pc = .ok (.return_, 1)) (hret : ret = none) (hk : k ≤ kM) (hn : n ≤ nM) (hΦ : Φ none h) : X.G h k n pc Ls [] :=
  X.fin (fun _ => rfl) (fun T _ Y fs hr => Y.returnOut X.1 (X.2.2.2.2.2.1.trans hret) (X.hd d) hr) hk hn hΦ
theorem OwC.retI {z : Int32} (d : decode bytes pc = .ok (.ireturn, 1)) (hret : ret = some .int) (hk : k ≤ kM) (hn : n ≤ nM) (hΦ : Φ (some (.int z)) h) : X.G h k n pc Ls (.int z :: st) :=
  X.fin (fun q => by rw [X.2.2.2.2.2.1, hret] at q; cases q) (fun T _ Y fs hr => retOut Y X.1 (X.2.2.2.2.2.1.trans hret) rfl (Or.inl ⟨rfl, Or.inl rfl, z, rfl⟩) (X.hd d) hr) hk hn hΦ
theorem OwC.retN {z z' : Int32} {t : FieldType} (d : decode bytes pc = .ok (.ireturn, 1)) (hret : ret = some t) (ht : t = .boolean ∨ t = .byte ∨ t = .char ∨ t = .short) (hz : nar t z = z') (hk : k ≤ kM) (hn : n ≤ nM) (hΦ : Φ (some (.int z')) h) : X.G h k n pc Ls (.int z :: st) := by
  subst hz
  exact X.fin (fun q => by rw [X.2.2.2.2.2.1, hret] at q; cases q) (fun T _ Y fs hr => RoadKit.retN Y X.1 (X.2.2.2.2.2.1.trans hret) ht (X.hd d) hr) hk hn hΦ
theorem OwC.retJ {z : Int64} (d : decode bytes pc = .ok (.lreturn, 1)) (hret : ret = some .long) (hk : k ≤ kM) (hn : n ≤ nM) (hΦ : Φ (some (.long z)) h) : X.G h k n pc Ls (.long z :: st) :=
  X.fin (fun q => by rw [X.2.2.2.2.2.1, hret] at q; cases q) (fun T _ Y fs hr => retOut Y X.1 (X.2.2.2.2.2.1.trans hret) rfl (Or.inr (Or.inl ⟨rfl, rfl, z, rfl⟩)) (X.hd d) hr) hk hn hΦ
theorem OwC.retA {v : Value} {t : FieldType} (d : decode bytes pc = .ok (.areturn, 1)) (hret : ret = some t) (ht : t.isReference = true) (hv : v.isRef = true) (hnv : narrow t v = v) (hk : k ≤ kM) (hn : n ≤ nM) (hΦ : Φ (some v) h) : X.G h k n pc Ls (v :: st) :=
  X.fin (fun q => by rw [X.2.2.2.2.2.1, hret] at q; cases q) (fun T _ Y fs hr => retOut Y X.1 (X.2.2.2.2.2.1.trans hret) hnv (Or.inr (Or.inr (Or.inr (Or.inr ⟨rfl, ht, hv⟩)))) (X.hd d) hr) hk hn hΦ
/-! the heap -/
theorem OwC.getF {R0 O fn d0 host : String} {i : Nat} {a : Addr} {v : Value} (w : (Cond.fieldLink own i R0 fn d0).before a0 Z = true ∨ (Cond.fieldLinkNest own i R0 fn d0 host).before a0 Z = true) (via : Via Z R0 O fn d0) (F : Fld Z h a O fn d0 v) (d : decode bytes pc = .ok (.getfield i, 3)) (hq : pc + 3 = q) (g : X.G h k n q Ls (v :: st)) : X.G h k n pc Ls (.ref a :: st) := fun T locs Y eT N => by
  subst hq
  obtain ⟨T', Y', eT', w'⟩ := RoadKit.getF Y X.1 X.2.2.2.2.1 X.2.2.2.1 w via eT F (g := mkF m pc Ls (.ref a :: st)) rfl rfl (X.hd d)
  obtain ⟨v, s₂, L, r1, r⟩ := g T' locs Y' eT' N
  exact ⟨v, s₂, L, w' _ r1, r⟩
theorem OwC.getS {R0 O fn d0 : String} {i : Nat} {v : Value} (w : (Cond.fieldLink own i R0 fn d0).before a0 Z = true) (via : Via Z R0 O fn d0) (F : Sta Z h O fn d0 v) (d : decode bytes pc = .ok (.getstatic i, 3)) (hq : pc + 3 = q) (g : X.G h k n q Ls (v :: st)) : X.G h k n pc Ls st := fun T locs Y eT N => by
  subst hq
  obtain ⟨T', Y', eT', w'⟩ := RoadKit.getS (host := "") Y X.1 X.2.2.2.2.1 X.2.2.2.1 w via eT F (g := mkF m pc Ls st) rfl (X.hd d)
  obtain ⟨v, s₂, L, r1, r⟩ := g T' locs Y' eT' N
  exact ⟨v, s₂, L, w' _ r1, r⟩
theorem OwC.putF {R0 O fn d0 host C : String} {i kk : Nat} {a : Addr} {v old : Value} {ty : FieldType} (w : (Cond.fieldLink own i R0 fn d0).before a0 Z = true ∨ (Cond.fieldLinkNest own i R0 fn d0 host).before a0 Z = true) (via : Via Z R0 O fn d0) (F : Fld Z h a O fn d0 old) (E : Exa Z h a C)
    (L : (Cond.lays C O fn d0).before a0 Z = true ∨ ((Cond.laysFinal C O fn d0).before a0 Z = true ∧ own = O ∧ nm = "<init>")) (wi : (Cond.instantiable C kk).before a0 Z = true) (hty : parseFieldDescriptor d0 = some ty) (hnv : narrow ty v = v) (hf : fits ty v = true) (ge : n0 ≤ a)
    (d : decode bytes pc = .ok (.putfield i, 3)) (hq : pc + 3 = q) (g : ∀ h', Wr h h' a (RoadKit.slotOf Z O fn d0) v → X.G h' k n q Ls st) : X.G h k n pc Ls (v :: .ref a :: st) := fun T locs Y eT N => by
  subst hq
  obtain ⟨T', h', Y', eT', W, w'⟩ := RoadKit.putF Y X.1 X.2.2.2.2.1 X.2.2.2.1 w via eT F E (L.imp_right fun z => ⟨z.1, z.2.1, X.2.2.2.2.2.2.2.trans z.2.2⟩) wi hty hnv hf (g := mkF m pc Ls (v :: .ref a :: st)) rfl rfl (X.hd d)
  obtain ⟨v, s₂, L, r1, r⟩ := g h' W T' _ Y' eT' (Fr.snoc Y' N ge)
  exact ⟨v, s₂, L, w' _ r1, r⟩
theorem OwC.newO {C : String} {i N k' n' : Nat} (w : (Cond.classLink own i C).before a0 Z = true) (wi : (Cond.instantiable C N).before a0 Z = true) (wz : (Cond.initialized C).before a0 Z = true) (d : decode bytes pc = .ok (.new i, 3)) (hk : k + 1 = k') (hn : n + N = n') (hc : k' ≤ R.cells) (hs : n' ≤ R.slots) (hq : pc + 3 = q)
    (g : ∀ h' a, a = h.size → Ext h h' → Exa Z h' a C → (∀ {O fn d0 : String} {ty : FieldType}, Laid Z a0 C O fn d0 → parseFieldDescriptor d0 = some ty → Fld Z h' a O fn d0 (defaultValue ty)) → X.G h' k' n' q Ls (.ref a :: st)) : X.G h k n pc Ls st := fun T locs Y eT Nf => by
  subst hq hk hn
  obtain ⟨T', h', Y', eT', E, A, D, -, w'⟩ := RoadKit.newO Y X.1 X.2.2.2.2.1 X.2.2.2.1 w wi wz eT (g := mkF m pc Ls st) rfl (X.hd d) hc hs
  obtain ⟨v, s₂, L, r1, r⟩ := g h' h.size rfl E A D T' _ Y' eT' Nf
  exact ⟨v, s₂, L, w' _ r1, r⟩
theorem OwC.initO {i W : Nat} {a : Addr} (w1 : (Cond.methodLink own i Lib.objectInit).before a0 Z = true) (w2 : (Cond.instanceMethod Lib.objectInit).before a0 Z = true) (w3 : (Cond.code Lib.objectInit ⟨#[0xb1]⟩ 1 none).before a0 Z = true) (d : decode bytes pc = .ok (.invokespecial i, 3)) (hsz : Ls.size = mL) (hf : 1 ≤ R.frames) (hW : (st.map fun v => v.category).sum ≤ W) (hl : W + 12 ≤ R.locals) (hq : pc + 3 = q)
    (g : X.G h k n q Ls st) : X.G h k n pc Ls (.ref a :: st) := fun T locs Y eT N => by
  subst hq
  obtain ⟨T', Y', eT', w'⟩ := RoadKit.initO Y X.1 X.2.2.2.2.1 X.2.2.2.1 w1 w2 w3 eT (g := mkF m pc Ls (.ref a :: st)) rfl (hsz.trans X.2.2.1.symm) rfl (X.hd d) hf (W := W) (by show 2 * 0 + _ ≤ _; omega) hl
  obtain ⟨v, s₂, L, r1, r⟩ := g T' locs Y' eT' N
  exact ⟨v, s₂, L, w' _ r1, r⟩
/-! arrays: what stands in one, as a list -/
def OwA (Z : State) (h : Heap) (a : Addr) (ty : FieldType) (vs : List Value) : Prop := ∃ cl : Cell, Arr Z h a cl ty ∧ cl.slots.toList = vs ∧ vs.length < 2 ^ 31
variable {a : Addr} {ty : FieldType} {vs : List Value}
theorem OwA.lt (A : OwA Z h a ty vs) : a < h.size := by obtain ⟨cl, A, -⟩ := A; exact A.lt
theorem OwA.len (A : OwA Z h a ty vs) : vs.length < 2 ^ 31 := by obtain ⟨cl, A, -, r⟩ := A; exact r
theorem OwA.ext {h' : Heap} (A : OwA Z h a ty vs) (E : Ext h h') : OwA Z h' a ty vs := by obtain ⟨cl, A, r⟩ := A; exact ⟨cl, A.ext E, r⟩
theorem OwA.other {h' : Heap} {b : Addr} {sl : Nat} {v : Value} (A : OwA Z h a ty vs) (W : Wr h h' b sl v) (ne : a ≠ b) : OwA Z h' a ty vs := by obtain ⟨cl, A, r⟩ := A; exact ⟨cl, A.other W ne, r⟩
theorem OwA.keep {h' : Heap} {ws : List Addr} (A : OwA Z h a ty vs) (K : Keep h h' ws) (ni : a ∉ ws) : OwA Z h' a ty vs := by obtain ⟨cl, A, r⟩ := A; exact ⟨cl, ⟨K.2.1 a cl A.1 ni, A.2⟩, r⟩
theorem OwA.set {h' : Heap} {j : Nat} {v : Value} (A : OwA Z h a ty vs) (W : Wr h h' a j v) : OwA Z h' a ty (vs.set j v) := by
  obtain ⟨cl, A, r1, r2⟩ := A
  exact ⟨cl.setSlot j v, A.same W, by simp [Cell.setSlot, r1], by simpa using r2⟩
theorem ow_idx {i : Int32} {j : Nat} (hi : i.toInt = (j : Int)) : ¬ i < 0 ∧ i.toNatClampNeg = j := by
  refine ⟨?_, ?_⟩
  · rw [Int32.lt_iff_toInt_lt]; have : (0 : Int32).toInt = 0 := rfl; omega
  · have : i.toNatClampNeg = i.toInt.toNat := rfl
    omega
theorem OwA.inb {cl : Cell} {i : Int32} {j : Nat} (e : cl.slots.toList = vs) (hi : i.toInt = (j : Int)) (hj : j < vs.length) : ¬ (i < 0 ∨ cl.slots.size ≤ i.toNatClampNeg) := by
  obtain ⟨h1, h2⟩ := ow_idx hi
  have : cl.slots.size = vs.length := by rw [← e]; simp
  rintro (q | q)
  · exact h1 q
  · omega
theorem OwA.at {cl : Cell} {i : Int32} {j : Nat} {v : Value} (e : cl.slots.toList = vs) (hi : i.toInt = (j : Int)) (hv : vs[j]? = some v) : cl.slots[i.toNatClampNeg]? = some v := by
  rw [(ow_idx hi).2, ← hv, ← e]; simp
theorem ow_getlt {j : Nat} {v : Value} (hv : vs[j]? = some v) : j < vs.length := (List.getElem?_eq_some_iff.mp hv).1
theorem OwC.newP {aty : ArrayType} {z : Int32} {N k' n' : Nat} (w : (Cond.arrayClass (newarray.typeOf aty)).before a0 Z = true) (d : decode bytes pc = .ok (.newarray aty, 2)) (ht : newarray.typeOf aty = ty) (hz : z.toInt = (N : Int)) {cap : Nat} (hcap : N ≤ cap) (hb : cap * 8 ≤ 536870912) (hk : k + 1 = k') (hn : n + cap = n') (hc : k' ≤ R.cells) (hs : n' ≤ R.slots) (hq : pc + 2 = q)
    (g : ∀ h' a, a = h.size → Ext h h' → OwA Z h' a ty (List.replicate N (defaultValue ty)) → X.G h' k' n' q Ls (.ref a :: st)) : X.G h k n pc Ls (.int z :: st) := fun T locs Y eT Nf => by
  subst hq hk hn ht
  obtain ⟨z1, z2⟩ := ow_idx hz
  obtain ⟨T', h', cA, Y', eT', E, A, w'⟩ := RoadKit.newP Y X.1 X.2.2.2.2.1 w eT (g := mkF m pc Ls (.int z :: st)) rfl (X.hd d) rfl z1 (cap := cap) (by omega) hb hc hs
  obtain ⟨v, s₂, L, r1, r⟩ := g h' h.size rfl E ⟨_, A, by simp [newA, z2], by have := z.toInt_lt; simp; omega⟩ T' _ Y' eT' Nf
  exact ⟨v, s₂, L, w' _ r1, r⟩
theorem OwC.alen {z : Int32} (A : OwA Z h a ty vs) (hz : z.toInt = (vs.length : Int)) (d : decode bytes pc = .ok (.arraylength, 1)) (hq : pc + 1 = q) (g : X.G h k n q Ls (.int z :: st)) : X.G h k n pc Ls (.ref a :: st) := fun T locs Y eT N => by
  subst hq
  obtain ⟨cl, A, e, hl⟩ := A
  obtain ⟨v, s₂, L, r1, r⟩ := g T locs Y eT N
  have hsz : cl.slots.size = vs.length := by rw [← e]; simp
  have ez : cl.slots.size.toInt32 = z := by rw [hsz, ← Int32.toInt_inj, len_toInt hl, hz]
  exact ⟨v, s₂, L, Y.arraylength X.1 (by rw [eT]; exact A.1) (State.isArrayOf_alike X.2.2.2.2.1.alike A.2.1) (g := mkF m pc Ls (.ref a :: st)) rfl rfl (X.hd d) _ (by rw [ez]; exact r1), r⟩
theorem OwC.iaload {i : Int32} {j : Nat} {v : Value} (A : OwA Z h a .int vs) (hi : i.toInt = (j : Int)) (hv : vs[j]? = some v) (d : decode bytes pc = .ok (.iaload, 1)) (hq : pc + 1 = q) (g : X.G h k n q Ls (v :: st)) : X.G h k n pc Ls (.int i :: .ref a :: st) := fun T locs Y eT N => by
  subst hq
  obtain ⟨cl, A, e, -⟩ := A
  obtain ⟨v, s₂, L, r1, r⟩ := g T locs Y eT N
  exact ⟨v, s₂, L, Y.iaload X.1 (by rw [eT]; exact A.1) (State.isArrayOf_alike X.2.2.2.2.1.alike A.2.1) A.2.2 (OwA.inb e hi (ow_getlt hv)) (OwA.at e hi hv) (g := mkF m pc Ls (.int i :: .ref a :: st)) rfl rfl (X.hd d) _ r1, r⟩
theorem OwC.laload {i : Int32} {j : Nat} {v : Value} (A : OwA Z h a .long vs) (hi : i.toInt = (j : Int)) (hv : vs[j]? = some v) (d : decode bytes pc = .ok (.laload, 1)) (hq : pc + 1 = q) (g : X.G h k n q Ls (v :: st)) : X.G h k n pc Ls (.int i :: .ref a :: st) := fun T locs Y eT N => by
  subst hq
  obtain ⟨cl, A, e, -⟩ := A
  obtain ⟨v, s₂, L, r1, r⟩ := g T locs Y eT N
  exact ⟨v, s₂, L, Y.laload X.1 (by rw [eT]; exact A.1) (State.isArrayOf_alike X.2.2.2.2.1.alike A.2.1) A.2.2 (OwA.inb e hi (ow_getlt hv)) (OwA.at e hi hv) (g := mkF m pc Ls (.int i :: .ref a :: st)) rfl rfl (X.hd d) _ r1, r⟩
theorem OwC.baload {i : Int32} {j : Nat} {v : Value} (A : OwA Z h a .byte vs) (hi : i.toInt = (j : Int)) (hv : vs[j]? = some v) (d : decode bytes pc = .ok (.baload, 1)) (hq : pc + 1 = q) (g : X.G h k n q Ls (v :: st)) : X.G h k n pc Ls (.int i :: .ref a :: st) := fun T locs Y eT N => by
  subst hq
  obtain ⟨cl, A, e, -⟩ := A
  obtain ⟨v, s₂, L, r1, r⟩ := g T locs Y eT N
  exact ⟨v, s₂, L, Y.baloadBytes X.1 (by rw [eT]; exact A.1) (State.isArrayOf_alike X.2.2.2.2.1.alike A.2.1) A.2.2 (OwA.inb e hi (ow_getlt hv)) (OwA.at e hi hv) (g := mkF m pc Ls (.int i :: .ref a :: st)) rfl rfl (X.hd d) _ r1, r⟩
theorem OwC.caload {i : Int32} {j : Nat} {v : Value} (A : OwA Z h a .char vs) (hi : i.toInt = (j : Int)) (hv : vs[j]? = some v) (d : decode bytes pc = .ok (.caload, 1)) (hq : pc + 1 = q) (g : X.G h k n q Ls (v :: st)) : X.G h k n pc Ls (.int i :: .ref a :: st) := fun T locs Y eT N => by
  subst hq
  obtain ⟨cl, A, e, -⟩ := A
  obtain ⟨v, s₂, L, r1, r⟩ := g T locs Y eT N
  exact ⟨v, s₂, L, Y.caload X.1 (by rw [eT]; exact A.1) (State.isArrayOf_alike X.2.2.2.2.1.alike A.2.1) A.2.2 (OwA.inb e hi (ow_getlt hv)) (OwA.at e hi hv) (g := mkF m pc Ls (.int i :: .ref a :: st)) rfl rfl (X.hd d) _ r1, r⟩
theorem OwC.iastore {i : Int32} {j : Nat} {x : Int32} (A : OwA Z h a .int vs) (hi : i.toInt = (j : Int)) (hj : j < vs.length) (ge : n0 ≤ a) (d : decode bytes pc = .ok (.iastore, 1)) (hq : pc + 1 = q) (g : ∀ h', Wr h h' a j (.int x) → OwA Z h' a .int (vs.set j (.int x)) → X.G h' k n q Ls st) : X.G h k n pc Ls (.int x :: .int i :: .ref a :: st) := fun T locs Y eT N => by
  subst hq
  obtain ⟨cl, A1, e, hl⟩ := id A
  obtain ⟨T', h', Y', eT', W, w'⟩ := RoadKit.stI Y X.1 X.2.2.2.2.1 eT A1 (OwA.inb e hi hj) (g := mkF m pc Ls (.int x :: .int i :: .ref a :: st)) rfl rfl (X.hd d)
  have N' := Fr.snoc Y' N ge
  rw [(ow_idx hi).2] at W
  obtain ⟨v, s₂, L, r1, r⟩ := g h' W (A.set W) T' _ Y' eT' N'
  exact ⟨v, s₂, L, w' _ r1, r⟩
theorem OwC.lastore {i : Int32} {j : Nat} {x : Int64} (A : OwA Z h a .long vs) (hi : i.toInt = (j : Int)) (hj : j < vs.length) (ge : n0 ≤ a) (d : decode bytes pc = .ok (.lastore, 1)) (hq : pc + 1 = q) (g : ∀ h', Wr h h' a j (.long x) → OwA Z h' a .long (vs.set j (.long x)) → X.G h' k n q Ls st) : X.G h k n pc Ls (.long x :: .int i :: .ref a :: st) := fun T locs Y eT N => by
  subst hq
  obtain ⟨cl, A1, e, hl⟩ := id A
  obtain ⟨T', h', Y', eT', W, w'⟩ := RoadKit.stJ Y X.1 X.2.2.2.2.1 eT A1 (OwA.inb e hi hj) (g := mkF m pc Ls (.long x :: .int i :: .ref a :: st)) rfl rfl (X.hd d)
  have N' := Fr.snoc Y' N ge
  rw [(ow_idx hi).2] at W
  obtain ⟨v, s₂, L, r1, r⟩ := g h' W (A.set W) T' _ Y' eT' N'
  exact ⟨v, s₂, L, w' _ r1, r⟩
theorem OwC.bastore {i : Int32} {j : Nat} {x : Int32} (A : OwA Z h a .byte vs) (hi : i.toInt = (j : Int)) (hj : j < vs.length) (ge : n0 ≤ a) (d : decode bytes pc = .ok (.bastore, 1)) (hq : pc + 1 = q) (g : ∀ h', Wr h h' a j (.int (nar .byte x)) → OwA Z h' a .byte (vs.set j (.int (nar .byte x))) → X.G h' k n q Ls st) : X.G h k n pc Ls (.int x :: .int i :: .ref a :: st) := fun T locs Y eT N => by
  subst hq
  obtain ⟨cl, A1, e, hl⟩ := id A
  obtain ⟨T', h', Y', eT', W, w'⟩ := RoadKit.stB Y X.1 X.2.2.2.2.1 eT A1 (OwA.inb e hi hj) (g := mkF m pc Ls (.int x :: .int i :: .ref a :: st)) rfl rfl (X.hd d)
  have N' := Fr.snoc Y' N ge
  rw [(ow_idx hi).2] at W
  obtain ⟨v, s₂, L, r1, r⟩ := g h' W (A.set W) T' _ Y' eT' N'
  exact ⟨v, s₂, L, w' _ r1, r⟩
theorem OwC.castore {i : Int32} {j : Nat} {x : Int32} (A : OwA Z h a .char vs) (hi : i.toInt = (j : Int)) (hj : j < vs.length) (ge : n0 ≤ a) (d : decode bytes pc = .ok (.castore, 1)) (hq : pc + 1 = q) (g : ∀ h', Wr h h' a j (.int (nar .char x)) → OwA Z h' a .char (vs.set j (.int (nar .char x))) → X.G h' k n q Ls st) : X.G h k n pc Ls (.int x :: .int i :: .ref a :: st) := fun T locs Y eT N => by
  subst hq
  obtain ⟨cl, A1, e, hl⟩ := id A
  obtain ⟨T', h', Y', eT', W, w'⟩ := RoadKit.stC Y X.1 X.2.2.2.2.1 eT A1 (OwA.inb e hi hj) (g := mkF m pc Ls (.int x :: .int i :: .ref a :: st)) rfl rfl (X.hd d)
  have N' := Fr.snoc Y' N ge
  rw [(ow_idx hi).2] at W
  obtain ⟨v, s₂, L, r1, r⟩ := g h' W (A.set W) T' _ Y' eT' N'
  exact ⟨v, s₂, L, w' _ r1, r⟩
/-! contracts and calls -/
def OwM (l : Launch) (Z : State) (y : MethodName) (bytes : ByteArray) (mL : Nat) (ret : Option FieldType) (rm : Room) (kM nM : Nat) (ws : List Cond) (as : Array Value) (h0 : Heap) (n0 : Nat) (Φ : Option Value → Heap → Prop) : Prop :=
  MetFree l y (head1 (Cond.code y bytes mL ret :: ws) rm) (fun a U => a = as ∧ Z.Warmed39 U.vm ∧ U.heap = h0) (fun _ _ _ _ _ => True) (fun _ U o U' => ∃ v L, o = .returned v ∧ (Φ v U'.heap ∧ Fr n0 L) ∧ FrameEnd U o U' L kM nM)
theorem OwM.of {y : MethodName} {rm : Room} {ws : List Cond} {as : Array Value} {h0 : Heap} (hpn : plainFor y = true) (hef : ∀ m, entryFrame m as mL = mkF m 0 Ls [])
    (body : ∀ p e s m below meth c (X : OwC p l e rm s m as below meth c Z y.cls y.name bytes mL ret n0 kM nM Φ), X.G h0 0 0 0 Ls []) : OwM l Z y bytes mL ret rm kM nM ws as h0 n0 Φ := by
  refine MetFree.of_bodySF hpn hisR ?_
  intro p e s m args below meth c s₁ Bd hml0 hP hK
  obtain ⟨rfl, hZ, hh⟩ := hP
  have X : OwC p l e rm s m args below meth c Z y.cls y.name bytes mL ret n0 kM nM Φ := ⟨Bd.exec, Bd.bytes, hml0, findClass_of_methodNamed Bd.named, hZ, Bd.returns, Bd.notSynchronized, (name_of_methodNamed Bd.named Bd.method).1⟩
  obtain ⟨v, s₂, L, r1, r2, r3, r4, r5⟩ := body p e s m below meth c X s₁ [] (Stand.of_body Bd) (by rw [← hh, Bd.state]; rfl) (Fr.nil n0)
  exact ⟨s₂, _, castTop (hef m) r1, r2, r3, v, L, rfl, r4, r5⟩
variable {y : MethodName} {by' : ByteArray} {mL' : Nat} {ret' : Option FieldType} {rm : Room} {as : Array Value} {Ψ : Option Value → Heap → Prop}
theorem OwC.back (X : OwC p l e R s m args below meth c Z own nm bytes mL ret n0 kM nM Φ) {len W : Nat} (K : OwM l Z y by' mL' ret' rm rm.cells rm.slots [] as h n0 Ψ) (wc : (Cond.code y by' mL' ret').before a0 Z = true) (wz : (Cond.initialized y.cls).before a0 Z = true) (hf : rm.frames + 1 ≤ R.frames) (hl : W + (mL' + 11) + rm.locals ≤ R.locals) :
    Back l R p e below s args y len W (fun A a => a = as ∧ A.U.heap = h ∧ A.cells + rm.cells ≤ R.cells ∧ A.slots + rm.slots ≤ R.slots)
      (fun A _ v B => ∃ L, (Ψ v B.U.heap ∧ Fr n0 L) ∧ B.locs = A.locs ++ L ∧ B.cells = A.cells + rm.cells ∧ B.slots = A.slots + rm.slots) :=
  backOf (Q := fun v h L => Ψ v h ∧ Fr n0 L) K X.2.2.2.2.1 wc wz hf hl
theorem OwC.callS {i W k' n' : Nat} {argsL : List Value} {ps : List FieldType} {rt : Option FieldType} (K : OwM l Z y by' mL' ret' rm rm.cells rm.slots [] as h n0 Ψ) (w1 : (Cond.methodLink own i y).before a0 Z = true) (w2 : (Cond.static y).before a0 Z = true) (w3 : (Cond.initialized y.cls).before a0 Z = true) (w4 : (Cond.code y by' mL' ret').before a0 Z = true) (hy : y.cls ≠ "java/lang/invoke/MethodHandle" ∧ y.cls ≠ "java/lang/invoke/VarHandle")
    (pd : parseMethodDescriptor y.desc = some ⟨ps, rt⟩) (hlen : argsL.length = ps.length) (has : argsL.toArray = as) (hst : st = argsL.reverse ++ rest) (hW : (rest.map fun v => v.category).sum ≤ W) (hsz : Ls.size = mL) (hf : rm.frames + 1 ≤ R.frames) (hl : W + (mL' + 11) + rm.locals ≤ R.locals) (hk : k + rm.cells = k') (hn : n + rm.slots = n') (hc : k' ≤ R.cells) (hs : n' ≤ R.slots)
    (d : decode bytes pc = .ok (.invokestatic i, 3)) (hq : pc + 3 = q) (g : ∀ v h', Ψ v h' → X.G h' k' n' q Ls (v.toList ++ rest)) : X.G h k n pc Ls st := fun T locs Y eT N => by
  subst hq hk hn has
  obtain ⟨v, vm1, B, -, Y', ⟨L0, ⟨hΨ, N0⟩, l1, l2, l3⟩, w'⟩ := Jvm.LawKit.callS Y X.1 (y := y) X.2.2.2.1 (mvT X.2.2.2.2.1 w1) (mvT X.2.2.2.2.1 w2) (mvT X.2.2.2.2.1 w3) (mvT X.2.2.2.2.1 w4) hy (X.back K w4 w3 hf hl) (g := mkF m pc Ls st) rfl (hsz.trans X.2.2.1.symm) (argsL := argsL) (rest := rest) (lenOf pd hlen) hst (by show 2 * 0 + _ ≤ _; omega) (X.hd d) (fun _ _ => ⟨rfl, eT, hc, hs⟩)
  obtain ⟨T', L', k', n'⟩ := B
  dsimp only [Pt.U, Pt.locs, Pt.cells, Pt.slots] at Y' l1 l2 l3 w' hΨ
  subst l1 l2 l3
  obtain ⟨v, s₂, L, r1, r⟩ := g v _ hΨ T' _ Y' rfl (N.app N0)
  exact ⟨v, s₂, L, w' _ r1, r⟩
theorem OwC.special {i W k' n' : Nat} {a : Addr} {argsL : List Value} {ps : List FieldType} {rt : Option FieldType} (K : OwM l Z y by' mL' none rm rm.cells rm.slots [] as h n0 Ψ) (hin : y.name = "<init>") (w1 : (Cond.methodLink own i y).before a0 Z = true) (w2 : (Cond.instanceMethod y).before a0 Z = true) (w3 : (Cond.initialized y.cls).before a0 Z = true) (w4 : (Cond.code y by' mL' none).before a0 Z = true) (hy : y.cls ≠ "java/lang/invoke/MethodHandle" ∧ y.cls ≠ "java/lang/invoke/VarHandle")
    (pd : parseMethodDescriptor y.desc = some ⟨ps, rt⟩) (hlen : argsL.length = ps.length) (has : (.ref a :: argsL).toArray = as) (hst : st = argsL.reverse ++ .ref a :: rest) (hW : (rest.map fun v => v.category).sum ≤ W) (hsz : Ls.size = mL) (hf : rm.frames + 1 ≤ R.frames) (hl : W + (mL' + 11) + rm.locals ≤ R.locals) (hk : k + rm.cells = k') (hn : n + rm.slots = n') (hc : k' ≤ R.cells) (hs : n' ≤ R.slots)
    (d : decode bytes pc = .ok (.invokespecial i, 3)) (hq : pc + 3 = q) (g : ∀ v h', Ψ v h' → X.G h' k' n' q Ls (v.toList ++ rest)) : X.G h k n pc Ls st := fun T locs Y eT N => by
  subst hq hk hn has
  obtain ⟨v, vm1, B, -, Y', ⟨L0, ⟨hΨ, N0⟩, l1, l2, l3⟩, w'⟩ := Y.specialBack X.1 (y := y) hin X.2.2.2.1 (mvT X.2.2.2.2.1 w1) (mvT X.2.2.2.2.1 w2) (mvT X.2.2.2.2.1 w4) hy (X.back K w4 w3 hf hl) (g := mkF m pc Ls st) rfl (hsz.trans X.2.2.1.symm) (Steps.refl _) (a := a) (argsL := argsL) (rest := rest) (lenOf pd hlen) hst (by show 2 * 0 + _ ≤ _; omega) (X.hd d) (fun _ _ => ⟨rfl, eT, hc, hs⟩)
  obtain ⟨T', L', k', n'⟩ := B
  dsimp only [Pt.U, Pt.locs, Pt.cells, Pt.slots] at Y' l1 l2 l3 w' hΨ
  subst l1 l2 l3
  obtain ⟨v, s₂, L, r1, r⟩ := g v _ hΨ T' _ Y' rfl (N.app N0)
  exact ⟨v, s₂, L, w'.trans r1, r⟩
theorem OwC.virtual {C : String} {i W k' n' : Nat} {a : Addr} {argsL : List Value} {ps : List FieldType} {rt : Option FieldType} (K : OwM l Z y by' mL' ret' rm rm.cells rm.slots [] as h n0 Ψ) (w1 : (Cond.methodLink own i y).before a0 Z = true) (w2 : (Cond.declares y).before a0 Z = true) (w5 : (Cond.selects C y y).before a0 Z = true) (w6 : (Cond.instanceMethod y).before a0 Z = true) (w3 : (Cond.initialized y.cls).before a0 Z = true) (w4 : (Cond.code y by' mL' ret').before a0 Z = true) (hy : y.cls ≠ "java/lang/invoke/MethodHandle" ∧ y.cls ≠ "java/lang/invoke/VarHandle") (E : Exa Z h a C)
    (pd : parseMethodDescriptor y.desc = some ⟨ps, rt⟩) (hlen : argsL.length = ps.length) (has : (.ref a :: argsL).toArray = as) (hst : st = argsL.reverse ++ .ref a :: rest) (hW : (rest.map fun v => v.category).sum ≤ W) (hsz : Ls.size = mL) (hf : rm.frames + 1 ≤ R.frames) (hl : W + (mL' + 11) + rm.locals ≤ R.locals) (hk : k + rm.cells = k') (hn : n + rm.slots = n') (hc : k' ≤ R.cells) (hs : n' ≤ R.slots)
    (d : decode bytes pc = .ok (.invokevirtual i, 3)) (hq : pc + 3 = q) (g : ∀ v h', Ψ v h' → X.G h' k' n' q Ls (v.toList ++ rest)) : X.G h k n pc Ls st := fun T locs Y eT N => by
  subst hq hk hn has
  obtain ⟨cB, kB, q1, q2, q3⟩ := isOf (T := T) X.2.2.2.2.1 eT E
  obtain ⟨v, vm1, B, -, Y', ⟨L0, ⟨hΨ, N0⟩, l1, l2, l3⟩, w'⟩ := Y.virtualBack X.1 (y := y) (z := y) X.2.2.2.1 (mvT X.2.2.2.2.1 w1) (mvT X.2.2.2.2.1 w2) (notFace_of_selects (args := #[]) (mvT X.2.2.2.2.1 w5)) (mvT X.2.2.2.2.1 w5) (mvT X.2.2.2.2.1 w6) hy (X.back K w4 w3 hf hl) q1 q3 (g := mkF m pc Ls st) rfl (hsz.trans X.2.2.1.symm) (Steps.refl _) (argsL := argsL) (rest := rest) (lenOf pd hlen) hst (by show 2 * 0 + _ ≤ _; omega) (X.hd d) (fun _ _ => ⟨rfl, eT, hc, hs⟩)
  obtain ⟨T', L', k', n'⟩ := B
  dsimp only [Pt.U, Pt.locs, Pt.cells, Pt.slots] at Y' l1 l2 l3 w' hΨ
  subst l1 l2 l3
  obtain ⟨v, s₂, L, r1, r⟩ := g v _ hΨ T' _ Y' rfl (N.app N0)
  exact ⟨v, s₂, L, w'.trans r1, r⟩
end OwKit
/-! numbers -/
theorem own_ofNat {c : Int32} (h1 : 0 ≤ c.toInt) (h2 : c.toInt < 2147483648) : c = Int32.ofNat c.toInt.toNat := by
  rw [← Int32.toInt_inj, Int32.toInt_ofNat_small (by omega)]; omega
theorem own_natInt (x : Int32) : x.toInt = if x.toBitVec.toNat < 2147483648 then (x.toBitVec.toNat : Int) else (x.toBitVec.toNat : Int) - 4294967296 := by
  show x.toBitVec.toInt = _
  rw [BitVec.toInt_eq_toNat_cond]
  split <;> split <;> omega
theorem own_c16 (x : Int32) : x.toUInt32.toUInt16.toUInt32.toInt32.toInt = x.toInt % 65536 := by
  have e : x.toUInt32.toUInt16.toUInt32.toInt32.toBitVec.toNat = x.toBitVec.toNat % 65536 := rfl
  have h1 := own_natInt x.toUInt32.toUInt16.toUInt32.toInt32
  have h2 := own_natInt x
  have h3 := x.toBitVec.isLt
  rw [e] at h1
  split at h1 <;> split at h2 <;> omega

theorem own_sub {x y : Int32} {b : Int} (hy : y.toInt = b) (h1 : -2147483648 ≤ x.toInt - b) (h2 : x.toInt - b < 2147483648) : (x - y).toInt = x.toInt - b := by
  subst hy; rw [Int32.toInt_sub]; exact Int.bmod_eq_of_le (by omega) (by omega)
theorem own_add {x y : Int32} {b : Int} (hy : y.toInt = b) (h1 : -2147483648 ≤ x.toInt + b) (h2 : x.toInt + b < 2147483648) : (x + y).toInt = x.toInt + b := by
  subst hy; rw [Int32.toInt_add]; exact Int.bmod_eq_of_le (by omega) (by omega)
theorem own_nor32 (n : Nat) : n ||| 32 = n + 32 * (1 - n / 32 % 2) := by
  have h1 : (n ||| 32) / 64 = n / 64 := by
    have := Nat.or_div_two_pow (a := n) (b := 32) (n := 6)
    simpa using this
  have h2 : (n ||| 32) % 64 = (n % 64) ||| 32 := by
    have := Nat.or_mod_two_pow (a := n) (b := 32) (n := 6)
    simpa using this
  have key : ∀ k : Fin 64, k.val ||| 32 = k.val + 32 * (1 - k.val / 32 % 2) := by decide
  have h3 := key ⟨n % 64, Nat.mod_lt _ (by omega)⟩
  simp only at h3
  rw [h3] at h2
  omega
theorem own_or32 (c : Int32) (h0 : 0 ≤ c.toInt) : (c ||| 32).toInt = c.toInt + 32 * (1 - c.toInt / 32 % 2) := by
  have e : (c ||| 32).toBitVec.toNat = c.toBitVec.toNat ||| 32 := rfl
  have h1 := own_natInt (c ||| 32)
  have h2 := own_natInt c
  have h3 := c.toBitVec.isLt
  rw [e, own_nor32] at h1
  split at h1 <;> split at h2 <;> omega

/-! bits of longs -/
theorem own_k63 {y : Int32} {j : Nat} (hj : y.toInt = (j : Int)) (h : j < 64) : ((y.toInt64 &&& 63).toBitVec.smod 64).toNat = j := by
  have key : ∀ k : Fin 64, (((Int32.ofNat k.val).toInt64 &&& 63).toBitVec.smod 64).toNat = k.val := by decide +kernel
  have e := own_ofNat (c := y) (by omega) (by omega)
  have e2 : y.toInt.toNat = j := by omega
  rw [e2] at e
  rw [e]; exact key ⟨j, h⟩
theorem own_u63 {y : Int32} {j : Nat} (hj : y.toInt = (j : Int)) (h : j < 64) : ((y.toInt64.toUInt64 &&& Int64.toUInt64 63).toBitVec % 64#64).toNat = j := by
  have key : ∀ k : Fin 64, (((Int32.ofNat k.val).toInt64.toUInt64 &&& Int64.toUInt64 63).toBitVec % 64#64).toNat = k.val := by decide +kernel
  have e := own_ofNat (c := y) (by omega) (by omega)
  have e2 : y.toInt.toNat = j := by omega
  rw [e2] at e
  rw [e]; exact key ⟨j, h⟩
theorem own_shl (x : Int64) {y : Int32} {j : Nat} (hj : y.toInt = (j : Int)) (h : j < 64) : (x <<< (y.toInt64 &&& 63)).toBitVec = x.toBitVec <<< j := by
  have e : (x <<< (y.toInt64 &&& 63)).toBitVec = x.toBitVec <<< ((y.toInt64 &&& 63).toBitVec.smod 64) := rfl
  rw [e, BitVec.shiftLeft_eq', own_k63 hj h]
theorem own_ushr (x : Int64) {y : Int32} {j : Nat} (hj : y.toInt = (j : Int)) (h : j < 64) : (XT.ushrL x y).toBitVec = x.toBitVec >>> j := by
  have e : (XT.ushrL x y).toBitVec = x.toBitVec >>> ((y.toInt64.toUInt64 &&& Int64.toUInt64 63).toBitVec % 64#64) := rfl
  rw [e, BitVec.ushiftRight_eq', own_u63 hj h]
theorem own_bit1 (x : Int64) {y : Int32} {j : Nat} (hj : y.toInt = (j : Int)) (h : j < 64) : XT.ushrL x y &&& 1 = if x.toBitVec.getLsbD j then 1 else 0 := by
  rw [← Int64.toBitVec_inj, Int64.toBitVec_and, own_ushr x hj h]
  have e1 : (1 : Int64).toBitVec = 1#64 := rfl
  have e0 : (0 : Int64).toBitVec = 0#64 := rfl
  apply BitVec.eq_of_getLsbD_eq
  intro i hi
  rw [e1, BitVec.getLsbD_and, BitVec.getLsbD_ushiftRight]
  by_cases q : i = 0
  · subst q; cases hb : x.toBitVec.getLsbD j <;> simp [hb, e1, e0]
  · cases hb : x.toBitVec.getLsbD j <;> simp [hb, e1, e0, q, BitVec.getLsbD_one]

theorem own_l6 {x : Int64} {f : Nat} (hx : x.toInt = (f : Int)) : (XT.ushrL x 6).toInt32.toInt = ((f / 64 : Nat) : Int) ∨ 2 ^ 31 ≤ f := by
  rcases Nat.lt_or_ge f (2 ^ 31) with h | h
  · left
    have e := own_ushr x (y := 6) (j := 6) rfl (by decide)
    have e2 : (XT.ushrL x 6).toInt = ((f / 64 : Nat) : Int) := by
      show (XT.ushrL x 6).toBitVec.toInt = _
      have hx2 : x.toBitVec.toInt = (f : Int) := hx
      have hn : x.toBitVec.toNat = f := by
        have := BitVec.toInt_eq_toNat_cond x.toBitVec
        have := x.toBitVec.isLt
        split at * <;> omega
      have hv : (x.toBitVec >>> 6).toNat = f / 64 := by rw [BitVec.toNat_ushiftRight, hn, Nat.shiftRight_eq_div_pow]
      rw [e, BitVec.toInt_eq_toNat_cond, hv]
      split <;> omega
    rw [Int64.toInt_toInt32, e2]
    exact Int.bmod_eq_of_le (by omega) (by omega)
  · exact Or.inr h

theorem own_not (x : Int64) (i : Nat) (hi : i < 64) : (x ^^^ (-1 : Int64)).toBitVec.getLsbD i = !x.toBitVec.getLsbD i := by
  have e : (-1 : Int64).toBitVec = BitVec.allOnes 64 := by decide
  rw [Int64.toBitVec_xor, BitVec.getLsbD_xor, e, BitVec.getLsbD_allOnes]
  cases x.toBitVec.getLsbD i <;> simp [hi]
theorem own_mask (y : Int32) {w : Nat} (hy : y.toInt = ((64 - w : Nat) : Int)) (h1 : 1 ≤ w) (h2 : w ≤ 64) (i : Nat) : (XT.ushrL (-1 : Int64) y).toBitVec.getLsbD i = decide (i < w) := by
  rw [own_ushr _ hy (by omega), BitVec.getLsbD_ushiftRight]
  have e : (-1 : Int64).toBitVec = BitVec.allOnes 64 := by decide
  rw [e, BitVec.getLsbD_allOnes]
  by_cases q : i < w <;> simp [q] <;> omega
def own_T (f w : Nat) (val orig : Int64) (n i : Nat) : Bool := if f ≤ n ∧ n < f + w then val.toBitVec.getLsbD (n - f) else orig.toBitVec.getLsbD i
theorem own_lowm {n : Nat} (y : Int32) (hy : y.toInt = (n : Int)) (h : n < 64) (i : Nat) (hi : i < 64) : ((1 : Int64) <<< (y.toInt64 &&& 63) - 1).toBitVec.getLsbD i = decide (i < n) := by
  have e : ((1 : Int64) <<< (y.toInt64 &&& 63) - 1).toBitVec = BitVec.ofNat 64 (2 ^ n - 1) := by
    rw [Int64.toBitVec_sub, own_shl _ hy h]
    apply BitVec.eq_of_toNat_eq
    have p1 : 0 < 2 ^ n := Nat.pow_pos (by decide)
    have p2 : 2 ^ n < 2 ^ 64 := Nat.pow_lt_pow_right (by decide) h
    have o1 : (1 : Int64).toBitVec.toNat = 1 := rfl
    rw [BitVec.toNat_sub, BitVec.toNat_shiftLeft, o1, Nat.shiftLeft_eq, BitVec.toNat_ofNat]
    omega
  rw [e, BitVec.getLsbD_ofNat, Nat.testBit_two_pow_sub_one]
  simp [hi]
theorem own_wordA (orig val m : Int64) {y : Int32} {sh w : Nat} (hy : y.toInt = (sh : Int)) (hs : sh < 64) (hm : ∀ i, m.toBitVec.getLsbD i = decide (i < w)) (hv : ∀ i, w ≤ i → val.toBitVec.getLsbD i = false) (i : Nat) (hi : i < 64) :
    ((orig &&& (m <<< (y.toInt64 &&& 63) ^^^ (-1 : Int64))) ||| val <<< (y.toInt64 &&& 63)).toBitVec.getLsbD i = if sh ≤ i ∧ i < sh + w then val.toBitVec.getLsbD (i - sh) else orig.toBitVec.getLsbD i := by
  rw [Int64.toBitVec_or, BitVec.getLsbD_or, Int64.toBitVec_and, BitVec.getLsbD_and, own_not _ i hi, own_shl m hy hs, own_shl val hy hs, BitVec.getLsbD_shiftLeft, BitVec.getLsbD_shiftLeft, hm]
  by_cases q1 : sh ≤ i
  · by_cases q2 : i < sh + w
    · have q3 : ¬ i < sh := by omega
      have q4 : i - sh < w := by omega
      simp [q1, q2, q3, q4, hi]
    · have q3 : ¬ i < sh := by omega
      have q4 : ¬ i - sh < w := by omega
      simp [q1, q2, q3, q4, hi, hv (i - sh) (by omega)]
  · have q3 : i < sh := by omega
    simp [q1, q3, hi]
theorem own_wordB (orig val m : Int64) {y : Int32} {lo w : Nat} (hy : y.toInt = (lo : Int)) (hs : lo < 64) (hm : ∀ i, m.toBitVec.getLsbD i = decide (i < w)) (hv : ∀ i, w ≤ i → val.toBitVec.getLsbD i = false) (i : Nat) (hi : i < 64) :
    ((orig &&& (XT.ushrL m y ^^^ (-1 : Int64))) ||| XT.ushrL val y).toBitVec.getLsbD i = if lo + i < w then val.toBitVec.getLsbD (lo + i) else orig.toBitVec.getLsbD i := by
  rw [Int64.toBitVec_or, BitVec.getLsbD_or, Int64.toBitVec_and, BitVec.getLsbD_and, own_not _ i hi, own_ushr m hy hs, own_ushr val hy hs, BitVec.getLsbD_ushiftRight, BitVec.getLsbD_ushiftRight, hm]
  by_cases q1 : lo + i < w
  · simp [q1]
  · simp [q1, hv (lo + i) (by omega)]
theorem own_ext (x y : Int64) (h : ∀ i, i < 64 → x.toBitVec.getLsbD i = y.toBitVec.getLsbD i) : x = y := by
  rw [← Int64.toBitVec_inj]; exact BitVec.eq_of_getLsbD_eq h

theorem own_d_method_2_0 : decode method_2_code 0 = .ok (.iload_n 0, 1) := by decide +kernel
theorem own_d_method_2_1 : decode method_2_code 1 = .ok (.ifCond .gt 5, 3) := by decide +kernel
theorem own_d_method_2_6 : decode method_2_code 6 = .ok (.iload_n 0, 1) := by decide +kernel
theorem own_d_method_2_7 : decode method_2_code 7 = .ok (.bipush 64, 2) := by decide +kernel
theorem own_d_method_2_9 : decode method_2_code 9 = .ok (.if_icmp .lt 7, 3) := by decide +kernel
theorem own_d_method_2_16 : decode method_2_code 16 = .ok (.lconst 1, 1) := by decide +kernel
theorem own_d_method_2_17 : decode method_2_code 17 = .ok (.iload_n 0, 1) := by decide +kernel
theorem own_d_method_2_18 : decode method_2_code 18 = .ok (.lshl, 1) := by decide +kernel
theorem own_d_method_2_19 : decode method_2_code 19 = .ok (.lconst 1, 1) := by decide +kernel
theorem own_d_method_2_20 : decode method_2_code 20 = .ok (.lsub, 1) := by decide +kernel
theorem own_d_method_2_21 : decode method_2_code 21 = .ok (.lreturn, 1) := by decide +kernel
theorem own_d_method_2_12 : decode method_2_code 12 = .ok (.ldc2_w 7, 3) := by decide +kernel
theorem own_d_method_2_15 : decode method_2_code 15 = .ok (.lreturn, 1) := by decide +kernel
theorem own_d_method_2_4 : decode method_2_code 4 = .ok (.lconst 0, 1) := by decide +kernel
theorem own_d_method_2_5 : decode method_2_code 5 = .ok (.lreturn, 1) := by decide +kernel
def own_rm_own_low : Room := ({ frames := 0, cells := 0, slots := 0, locals := 0 } : Room)
set_option maxRecDepth 65536 in
set_option maxHeartbeats 1000000 in
theorem own_low (l : Launch) (Z : State) (a0 : Array Value) (hw : ∀ d ∈ tables_1, d.before a0 Z = true) (h : Heap) (n0 : Nat) (y : Int32) (n : Nat) (hy : y.toInt = (n : Int)) (hn : n ≤ 64)  :
    OwM l Z (⟨"com/example/boann/boann/sketches/PackedBitsSetFieldPinLaw", "lowMask", "(I)J"⟩ : MethodName) method_2_code 1 (some .long) own_rm_own_low 0 0 [] #[(.int y)] h n0 (fun r h' => ∃ z : Int64, r = some (.long z) ∧ (∀ i, i < 64 → z.toBitVec.getLsbD i = decide (i < n)) ∧ h = h') := by
  refine OwM.of (Ls := #[.val (.int y)]) (by decide +kernel) (fun m => by first | (simp [entryFrame, mkF, argsToLocals, Value.category]; done) | rfl) ?_
  intro _ _ _ _ _ _ _ X
  have e64 : (64 : Int32).toInt = 64 := rfl
  refine X.iloadN (q := 1) own_d_method_2_0 rfl rfl ?_
  refine X.if_gt (q' := 6) (q := 4) own_d_method_2_1 rfl (by decide) rfl (fun c1 => ?_) (fun c1 => ?_)
  · refine X.iloadN (q := 7) own_d_method_2_6 rfl rfl ?_
    refine X.bipush (q := 9) (64 : Int32) own_d_method_2_7 (by decide) rfl ?_
    refine X.icmp_lt (b := 64) (q' := 16) (q := 12) own_d_method_2_9 rfl rfl (by decide) rfl (fun c9 => ?_) (fun c9 => ?_)
    · refine X.lconst (q := 17) (1 : Int64) own_d_method_2_16 (by decide) rfl ?_
      refine X.iloadN (q := 18) own_d_method_2_17 rfl rfl ?_
      refine X.lshl (q := 19) own_d_method_2_18 rfl ?_
      refine X.lconst (q := 20) (1 : Int64) own_d_method_2_19 (by decide) rfl ?_
      refine X.lsub (q := 21) own_d_method_2_20 rfl ?_
      refine X.retJ own_d_method_2_21 rfl (by decide) (by decide) ?_
      refine ⟨_, rfl, fun i hi => ?_, rfl⟩
      exact own_lowm y hy (by omega) i hi
    · refine X.ldc2_w (q := 15) (v := (-1 : Int64)) (hw _ (List.mem_of_getElem? (i := 17) rfl)) own_d_method_2_12 rfl ?_
      refine X.retJ own_d_method_2_15 rfl (by decide) (by decide) ?_
      refine ⟨_, rfl, fun i hi => ?_, rfl⟩
      have q_ : n = 64 := by omega
      subst q_
      have e_ : (-1 : Int64).toBitVec = BitVec.allOnes 64 := by decide
      rw [e_, BitVec.getLsbD_allOnes]
  · refine X.lconst (q := 5) (0 : Int64) own_d_method_2_4 (by decide) rfl ?_
    refine X.retJ own_d_method_2_5 rfl (by decide) (by decide) ?_
    refine ⟨_, rfl, fun i hi => ?_, rfl⟩
    have q_ : n = 0 := by omega
    subst q_
    have e_ : (0 : Int64).toBitVec = 0#64 := rfl
    simp [e_]
theorem own_d_jdk_29_method_69_0 : decode jdk_29_method_69_code 0 = .ok (.iload_n 0, 1) := by decide +kernel
theorem own_d_jdk_29_method_69_1 : decode jdk_29_method_69_code 1 = .ok (.iload_n 1, 1) := by decide +kernel
theorem own_d_jdk_29_method_69_2 : decode jdk_29_method_69_code 2 = .ok (.if_icmp .gt 7, 3) := by decide +kernel
theorem own_d_jdk_29_method_69_9 : decode jdk_29_method_69_code 9 = .ok (.iload_n 1, 1) := by decide +kernel
theorem own_d_jdk_29_method_69_10 : decode jdk_29_method_69_code 10 = .ok (.ireturn, 1) := by decide +kernel
theorem own_d_jdk_29_method_69_5 : decode jdk_29_method_69_code 5 = .ok (.iload_n 0, 1) := by decide +kernel
theorem own_d_jdk_29_method_69_6 : decode jdk_29_method_69_code 6 = .ok (.goto 4, 3) := by decide +kernel
def own_rm_own_min : Room := ({ frames := 0, cells := 0, slots := 0, locals := 0 } : Room)
set_option maxRecDepth 65536 in
set_option maxHeartbeats 1000000 in
theorem own_min (l : Launch) (Z : State) (a0 : Array Value) (hw : ∀ d ∈ tables_1, d.before a0 Z = true) (h : Heap) (n0 : Nat) (a b : Int32)  :
    OwM l Z (⟨"java/lang/Math", "min", "(II)I"⟩ : MethodName) jdk_29_method_69_code 2 (some .int) own_rm_own_min 0 0 [] #[(.int a), (.int b)] h n0 (fun r h' => ∃ z : Int32, r = some (.int z) ∧ (z.toInt ≤ a.toInt ∧ z.toInt ≤ b.toInt ∧ (z.toInt = a.toInt ∨ z.toInt = b.toInt)) ∧ h = h') := by
  refine OwM.of (Ls := #[.val (.int a), .val (.int b)]) (by decide +kernel) (fun m => by first | (simp [entryFrame, mkF, argsToLocals, Value.category]; done) | rfl) ?_
  intro _ _ _ _ _ _ _ X
  refine X.iloadN (q := 1) own_d_jdk_29_method_69_0 rfl rfl ?_
  refine X.iloadN (q := 2) own_d_jdk_29_method_69_1 rfl rfl ?_
  refine X.icmp_gt (q' := 9) (q := 5) own_d_jdk_29_method_69_2 rfl rfl (by decide) rfl (fun c2 => ?_) (fun c2 => ?_)
  · refine X.iloadN (q := 10) own_d_jdk_29_method_69_9 rfl rfl ?_
    refine X.retI own_d_jdk_29_method_69_10 rfl (by decide) (by decide) ?_
    exact ⟨_, rfl, by omega, rfl⟩
  · refine X.iloadN (q := 6) own_d_jdk_29_method_69_5 rfl rfl ?_
    refine X.goto (q' := 10) own_d_jdk_29_method_69_6 (by decide) ?_
    refine X.retI own_d_jdk_29_method_69_10 rfl (by decide) (by decide) ?_
    exact ⟨_, rfl, by omega, rfl⟩
theorem own_d_jdk_29_method_65_0 : decode jdk_29_method_65_code 0 = .ok (.iload_n 0, 1) := by decide +kernel
theorem own_d_jdk_29_method_65_1 : decode jdk_29_method_65_code 1 = .ok (.iload_n 1, 1) := by decide +kernel
theorem own_d_jdk_29_method_65_2 : decode jdk_29_method_65_code 2 = .ok (.if_icmp .lt 7, 3) := by decide +kernel
theorem own_d_jdk_29_method_65_9 : decode jdk_29_method_65_code 9 = .ok (.iload_n 1, 1) := by decide +kernel
theorem own_d_jdk_29_method_65_10 : decode jdk_29_method_65_code 10 = .ok (.ireturn, 1) := by decide +kernel
theorem own_d_jdk_29_method_65_5 : decode jdk_29_method_65_code 5 = .ok (.iload_n 0, 1) := by decide +kernel
theorem own_d_jdk_29_method_65_6 : decode jdk_29_method_65_code 6 = .ok (.goto 4, 3) := by decide +kernel
def own_rm_own_max : Room := ({ frames := 0, cells := 0, slots := 0, locals := 0 } : Room)
set_option maxRecDepth 65536 in
set_option maxHeartbeats 1000000 in
theorem own_max (l : Launch) (Z : State) (a0 : Array Value) (hw : ∀ d ∈ tables_1, d.before a0 Z = true) (h : Heap) (n0 : Nat) (a b : Int32)  :
    OwM l Z (⟨"java/lang/Math", "max", "(II)I"⟩ : MethodName) jdk_29_method_65_code 2 (some .int) own_rm_own_max 0 0 [] #[(.int a), (.int b)] h n0 (fun r h' => ∃ z : Int32, r = some (.int z) ∧ (a.toInt ≤ z.toInt ∧ b.toInt ≤ z.toInt ∧ (z.toInt = a.toInt ∨ z.toInt = b.toInt)) ∧ h = h') := by
  refine OwM.of (Ls := #[.val (.int a), .val (.int b)]) (by decide +kernel) (fun m => by first | (simp [entryFrame, mkF, argsToLocals, Value.category]; done) | rfl) ?_
  intro _ _ _ _ _ _ _ X
  refine X.iloadN (q := 1) own_d_jdk_29_method_65_0 rfl rfl ?_
  refine X.iloadN (q := 2) own_d_jdk_29_method_65_1 rfl rfl ?_
  refine X.icmp_lt (q' := 9) (q := 5) own_d_jdk_29_method_65_2 rfl rfl (by decide) rfl (fun c2 => ?_) (fun c2 => ?_)
  · refine X.iloadN (q := 10) own_d_jdk_29_method_65_9 rfl rfl ?_
    refine X.retI own_d_jdk_29_method_65_10 rfl (by decide) (by decide) ?_
    exact ⟨_, rfl, by omega, rfl⟩
  · refine X.iloadN (q := 6) own_d_jdk_29_method_65_5 rfl rfl ?_
    refine X.goto (q' := 10) own_d_jdk_29_method_65_6 (by decide) ?_
    refine X.retI own_d_jdk_29_method_65_10 rfl (by decide) (by decide) ?_
    exact ⟨_, rfl, by omega, rfl⟩
theorem own_d_method_3_0 : decode method_3_code 0 = .ok (.iconst 0, 1) := by decide +kernel
theorem own_d_method_3_1 : decode method_3_code 1 = .ok (.bipush 64, 2) := by decide +kernel
theorem own_d_method_3_3 : decode method_3_code 3 = .ok (.iload_n 0, 1) := by decide +kernel
theorem own_d_method_3_4 : decode method_3_code 4 = .ok (.invokestatic 9, 3) := by decide +kernel
theorem own_pd0 : parseMethodDescriptor "(II)I" = some ⟨[.int, .int], some .int⟩ := by decide +kernel
theorem own_d_method_3_7 : decode method_3_code 7 = .ok (.invokestatic 15, 3) := by decide +kernel
theorem own_d_method_3_10 : decode method_3_code 10 = .ok (.ireturn, 1) := by decide +kernel
def own_rm_own_clamp : Room := ({ frames := 1, cells := 0, slots := 0, locals := 14 } : Room)
set_option maxRecDepth 65536 in
set_option maxHeartbeats 1000000 in
theorem own_clamp (l : Launch) (Z : State) (a0 : Array Value) (hw : ∀ d ∈ tables_1, d.before a0 Z = true) (h : Heap) (n0 : Nat) (x : Int32)  :
    OwM l Z (⟨"com/example/boann/boann/sketches/PackedBitsSetFieldPinLaw", "clamp", "(I)I"⟩ : MethodName) method_3_code 1 (some .int) own_rm_own_clamp 0 0 [] #[(.int x)] h n0 (fun r h' => ∃ z : Int32, r = some (.int z) ∧ ((x.toInt ≤ 0 ∧ z.toInt = 0) ∨ (0 ≤ x.toInt ∧ x.toInt ≤ 64 ∧ z.toInt = x.toInt) ∨ (64 ≤ x.toInt ∧ z.toInt = 64)) ∧ h = h') := by
  refine OwM.of (Ls := #[.val (.int x)]) (by decide +kernel) (fun m => by first | (simp [entryFrame, mkF, argsToLocals, Value.category]; done) | rfl) ?_
  intro _ _ _ _ _ _ _ X
  have e0 : (0 : Int32).toInt = 0 := rfl
  have e64 : (64 : Int32).toInt = 64 := rfl
  refine X.iconst (q := 1) (0 : Int32) own_d_method_3_0 (by decide) rfl ?_
  refine X.bipush (q := 3) (64 : Int32) own_d_method_3_1 (by decide) rfl ?_
  refine X.iloadN (q := 4) own_d_method_3_3 rfl rfl ?_
  refine X.callS (own_min l Z a0 hw h n0 64 x) (hw _ (List.mem_of_getElem? (i := 10) rfl)) (hw _ (List.mem_of_getElem? (i := 11) rfl)) (hw _ (List.mem_of_getElem? (i := 12) rfl)) (hw _ (List.mem_of_getElem? (i := 13) rfl)) (by decide) own_pd0 (argsL := [(.int (64 : Int32)), (.int x)]) (rest := [(.int (0 : Int32))]) rfl rfl rfl (W := 1) (Nat.le_of_eq rfl) rfl (by decide) (by decide) (k' := 0) (n' := 0) rfl rfl (by decide) (by decide) own_d_method_3_4 (q := 7) rfl ?_
  rintro _ _ ⟨z1, rfl, hz1, rfl⟩
  show X.G h 0 0 7 #[.val (.int x)] [(.int z1), (.int (0 : Int32))]
  refine X.callS (own_max l Z a0 hw h n0 0 z1) (hw _ (List.mem_of_getElem? (i := 14) rfl)) (hw _ (List.mem_of_getElem? (i := 15) rfl)) (hw _ (List.mem_of_getElem? (i := 12) rfl)) (hw _ (List.mem_of_getElem? (i := 16) rfl)) (by decide) own_pd0 (argsL := [(.int (0 : Int32)), (.int z1)]) (rest := []) rfl rfl rfl (W := 0) (Nat.le_of_eq rfl) rfl (by decide) (by decide) (k' := 0) (n' := 0) rfl rfl (by decide) (by decide) own_d_method_3_7 (q := 10) rfl ?_
  rintro _ _ ⟨z2, rfl, hz2, rfl⟩
  show X.G h 0 0 10 #[.val (.int x)] [(.int z2)]
  refine X.retI own_d_method_3_10 rfl (by decide) (by decide) ?_
  exact ⟨_, rfl, by omega, rfl⟩
theorem own_d_method_4_0 : decode method_4_code 0 = .ok (.iload_n 2, 1) := by decide +kernel
theorem own_d_method_4_1 : decode method_4_code 1 = .ok (.bipush 64, 2) := by decide +kernel
theorem own_d_method_4_3 : decode method_4_code 3 = .ok (.if_icmp .lt 5, 3) := by decide +kernel
theorem own_d_method_4_8 : decode method_4_code 8 = .ok (.iload_n 2, 1) := by decide +kernel
theorem own_d_method_4_9 : decode method_4_code 9 = .ok (.ifCond .lt 7, 3) := by decide +kernel
theorem own_d_method_4_16 : decode method_4_code 16 = .ok (.iload_n 2, 1) := by decide +kernel
theorem own_d_method_4_17 : decode method_4_code 17 = .ok (.bipush (-64), 2) := by decide +kernel
theorem own_d_method_4_19 : decode method_4_code 19 = .ok (.if_icmp .le 8, 3) := by decide +kernel
theorem own_d_method_4_27 : decode method_4_code 27 = .ok (.lconst 0, 1) := by decide +kernel
theorem own_d_method_4_28 : decode method_4_code 28 = .ok (.lreturn, 1) := by decide +kernel
theorem own_d_method_4_22 : decode method_4_code 22 = .ok (.lload_n 0, 1) := by decide +kernel
theorem own_d_method_4_23 : decode method_4_code 23 = .ok (.iload_n 2, 1) := by decide +kernel
theorem own_d_method_4_24 : decode method_4_code 24 = .ok (.ineg, 1) := by decide +kernel
theorem own_d_method_4_25 : decode method_4_code 25 = .ok (.lushr, 1) := by decide +kernel
theorem own_d_method_4_26 : decode method_4_code 26 = .ok (.lreturn, 1) := by decide +kernel
theorem own_d_method_4_12 : decode method_4_code 12 = .ok (.lload_n 0, 1) := by decide +kernel
theorem own_d_method_4_13 : decode method_4_code 13 = .ok (.iload_n 2, 1) := by decide +kernel
theorem own_d_method_4_14 : decode method_4_code 14 = .ok (.lshl, 1) := by decide +kernel
theorem own_d_method_4_15 : decode method_4_code 15 = .ok (.lreturn, 1) := by decide +kernel
theorem own_d_method_4_6 : decode method_4_code 6 = .ok (.lconst 0, 1) := by decide +kernel
theorem own_d_method_4_7 : decode method_4_code 7 = .ok (.lreturn, 1) := by decide +kernel
def own_rm_own_sto : Room := ({ frames := 0, cells := 0, slots := 0, locals := 0 } : Room)
set_option maxRecDepth 65536 in
set_option maxHeartbeats 1000000 in
theorem own_sto (l : Launch) (Z : State) (a0 : Array Value) (hw : ∀ d ∈ tables_1, d.before a0 Z = true) (h : Heap) (n0 : Nat) (v : Int64) (y : Int32)  :
    OwM l Z (⟨"com/example/boann/boann/sketches/PackedBitsSetFieldPinLaw", "shiftTo", "(JI)J"⟩ : MethodName) method_4_code 3 (some .long) own_rm_own_sto 0 0 [] #[(.long v), (.int y)] h n0 (fun r h' => ∃ z : Int64, r = some (.long z) ∧ (∀ i : Nat, i < 64 → z.toBitVec.getLsbD i = (decide (y.toInt ≤ (i : Int)) && v.toBitVec.getLsbD ((i : Int) - y.toInt).toNat)) ∧ h = h') := by
  refine OwM.of (Ls := #[.val (.long v), .second, .val (.int y)]) (by decide +kernel) (fun m => by first | (simp [entryFrame, mkF, argsToLocals, Value.category]; done) | rfl) ?_
  intro _ _ _ _ _ _ _ X
  have e0 : (0 : Int32).toInt = 0 := rfl
  have e64 : (64 : Int32).toInt = 64 := rfl
  have em64 : (-64 : Int32).toInt = -64 := rfl
  have yr := rng32 y
  have e_ : (0 : Int64).toBitVec = 0#64 := rfl
  refine X.iloadN (q := 1) own_d_method_4_0 rfl rfl ?_
  refine X.bipush (q := 3) (64 : Int32) own_d_method_4_1 (by decide) rfl ?_
  refine X.icmp_lt (b := 64) (q' := 8) (q := 6) own_d_method_4_3 rfl rfl (by decide) rfl (fun c3 => ?_) (fun c3 => ?_)
  · refine X.iloadN (q := 9) own_d_method_4_8 rfl rfl ?_
    refine X.if_lt (q' := 16) (q := 12) own_d_method_4_9 rfl (by decide) rfl (fun c9 => ?_) (fun c9 => ?_)
    · refine X.iloadN (q := 17) own_d_method_4_16 rfl rfl ?_
      refine X.bipush (q := 19) (-64 : Int32) own_d_method_4_17 (by decide) rfl ?_
      refine X.icmp_le (b := (-64)) (q' := 27) (q := 22) own_d_method_4_19 rfl rfl (by decide) rfl (fun c19 => ?_) (fun c19 => ?_)
      · refine X.lconst (q := 28) (0 : Int64) own_d_method_4_27 (by decide) rfl ?_
        refine X.retJ own_d_method_4_28 rfl (by decide) (by decide) ?_
        refine ⟨_, rfl, fun i hi => ?_, rfl⟩
        rw [e_, BitVec.getLsbD_zero]
        by_cases q : y.toInt ≤ (i : Int)
        · rw [BitVec.getLsbD_of_ge v.toBitVec _ (by omega)]; simp
        · simp [q]
      · refine X.lloadN (q := 23) own_d_method_4_22 rfl rfl ?_
        refine X.iloadN (q := 24) own_d_method_4_23 rfl rfl ?_
        skip
        refine X.ineg (q := 25) own_d_method_4_24 rfl ?_
        refine X.nmI (fun ny hny => ?_)
        have hny_ : ny.toInt = -y.toInt := by rw [hny]; exact Jvm.Kit.i32_neg (by omega)
        refine X.lushr (q := 26) own_d_method_4_25 rfl ?_
        refine X.retJ own_d_method_4_26 rfl (by decide) (by decide) ?_
        refine ⟨_, rfl, fun i hi => ?_, rfl⟩
        obtain ⟨j, hj⟩ : ∃ j : Nat, ny.toInt = (j : Int) := ⟨ny.toInt.toNat, by omega⟩
        rw [own_ushr v hj (by omega), BitVec.getLsbD_ushiftRight]
        have q2 : y.toInt ≤ (i : Int) := by omega
        rw [show ((i : Int) - y.toInt).toNat = j + i by omega]; simp [q2]
    · refine X.lloadN (q := 13) own_d_method_4_12 rfl rfl ?_
      refine X.iloadN (q := 14) own_d_method_4_13 rfl rfl ?_
      refine X.lshl (q := 15) own_d_method_4_14 rfl ?_
      refine X.retJ own_d_method_4_15 rfl (by decide) (by decide) ?_
      refine ⟨_, rfl, fun i hi => ?_, rfl⟩
      obtain ⟨j, hj⟩ : ∃ j : Nat, y.toInt = (j : Int) := ⟨y.toInt.toNat, by omega⟩
      rw [own_shl v hj (by omega), BitVec.getLsbD_shiftLeft]
      by_cases q : j ≤ i
      · have q1 : ¬ i < j := by omega
        have q2 : y.toInt ≤ (i : Int) := by omega
        rw [show ((i : Int) - y.toInt).toNat = i - j by omega]; simp [q1, q2, hi]
      · have q1 : i < j := by omega
        have q2 : ¬ y.toInt ≤ (i : Int) := by omega
        simp [q1, q2]
  · refine X.lconst (q := 7) (0 : Int64) own_d_method_4_6 (by decide) rfl ?_
    refine X.retJ own_d_method_4_7 rfl (by decide) (by decide) ?_
    refine ⟨_, rfl, fun i hi => ?_, rfl⟩
    rw [e_, BitVec.getLsbD_zero]
    by_cases q : y.toInt ≤ (i : Int)
    · rw [BitVec.getLsbD_of_ge v.toBitVec _ (by omega)]; simp
    · simp [q]
theorem own_d_method_5_0 : decode method_5_code 0 = .ok (.iload 4, 2) := by decide +kernel
theorem own_d_method_5_2 : decode method_5_code 2 = .ok (.bipush 64, 2) := by decide +kernel
theorem own_d_method_5_4 : decode method_5_code 4 = .ok (.iload 6, 2) := by decide +kernel
theorem own_d_method_5_6 : decode method_5_code 6 = .ok (.imul, 1) := by decide +kernel
theorem own_d_method_5_7 : decode method_5_code 7 = .ok (.isub, 1) := by decide +kernel
theorem own_d_method_5_8 : decode method_5_code 8 = .ok (.istore 7, 2) := by decide +kernel
theorem own_d_method_5_10 : decode method_5_code 10 = .ok (.iload 7, 2) := by decide +kernel
theorem own_d_method_5_12 : decode method_5_code 12 = .ok (.iload 5, 2) := by decide +kernel
theorem own_d_method_5_14 : decode method_5_code 14 = .ok (.iadd, 1) := by decide +kernel
theorem own_d_method_5_15 : decode method_5_code 15 = .ok (.istore 8, 2) := by decide +kernel
theorem own_d_method_5_17 : decode method_5_code 17 = .ok (.iload 8, 2) := by decide +kernel
theorem own_d_method_5_19 : decode method_5_code 19 = .ok (.invokestatic 18, 3) := by decide +kernel
theorem own_pd1 : parseMethodDescriptor "(I)I" = some ⟨[.int], some .int⟩ := by decide +kernel
theorem own_d_method_5_22 : decode method_5_code 22 = .ok (.invokestatic 24, 3) := by decide +kernel
theorem own_pd2 : parseMethodDescriptor "(I)J" = some ⟨[.int], some .long⟩ := by decide +kernel
theorem own_d_method_5_25 : decode method_5_code 25 = .ok (.iload 7, 2) := by decide +kernel
theorem own_d_method_5_27 : decode method_5_code 27 = .ok (.invokestatic 18, 3) := by decide +kernel
theorem own_d_method_5_30 : decode method_5_code 30 = .ok (.invokestatic 24, 3) := by decide +kernel
theorem own_d_method_5_33 : decode method_5_code 33 = .ok (.ldc2_w 7, 3) := by decide +kernel
theorem own_d_method_5_36 : decode method_5_code 36 = .ok (.lxor, 1) := by decide +kernel
theorem own_d_method_5_37 : decode method_5_code 37 = .ok (.land, 1) := by decide +kernel
theorem own_d_method_5_38 : decode method_5_code 38 = .ok (.lstore 9, 2) := by decide +kernel
theorem own_d_method_5_40 : decode method_5_code 40 = .ok (.lload_n 0, 1) := by decide +kernel
theorem own_d_method_5_41 : decode method_5_code 41 = .ok (.lload 9, 2) := by decide +kernel
theorem own_d_method_5_43 : decode method_5_code 43 = .ok (.ldc2_w 7, 3) := by decide +kernel
theorem own_d_method_5_46 : decode method_5_code 46 = .ok (.lxor, 1) := by decide +kernel
theorem own_d_method_5_47 : decode method_5_code 47 = .ok (.land, 1) := by decide +kernel
theorem own_d_method_5_48 : decode method_5_code 48 = .ok (.lload_n 2, 1) := by decide +kernel
theorem own_d_method_5_49 : decode method_5_code 49 = .ok (.iload 7, 2) := by decide +kernel
theorem own_d_method_5_51 : decode method_5_code 51 = .ok (.invokestatic 28, 3) := by decide +kernel
theorem own_pd3 : parseMethodDescriptor "(JI)J" = some ⟨[.long, .int], some .long⟩ := by decide +kernel
theorem own_d_method_5_54 : decode method_5_code 54 = .ok (.lload 9, 2) := by decide +kernel
theorem own_d_method_5_56 : decode method_5_code 56 = .ok (.land, 1) := by decide +kernel
theorem own_d_method_5_57 : decode method_5_code 57 = .ok (.lor, 1) := by decide +kernel
theorem own_d_method_5_58 : decode method_5_code 58 = .ok (.lreturn, 1) := by decide +kernel
def own_rm_own_exp : Room := ({ frames := 2, cells := 0, slots := 0, locals := 42 } : Room)
set_option maxRecDepth 65536 in
set_option maxHeartbeats 1000000 in
theorem own_exp (l : Launch) (Z : State) (a0 : Array Value) (hw : ∀ d ∈ tables_1, d.before a0 Z = true) (h : Heap) (n0 : Nat) (o v : Int64) (x y kk : Int32) (f w k : Nat) (hx : x.toInt = (f : Int)) (hy : y.toInt = (w : Int)) (hk : kk.toInt = (k : Int)) (hf : f ≤ 127) (hw1 : 1 ≤ w) (hw2 : w ≤ 64) (hk2 : k ≤ 2)  :
    OwM l Z (⟨"com/example/boann/boann/sketches/PackedBitsSetFieldPinLaw", "expected", "(JJIII)J"⟩ : MethodName) method_5_code 11 (some .long) own_rm_own_exp 0 0 [] #[(.long o), (.long v), (.int x), (.int y), (.int kk)] h n0 (fun r h' => ∃ z : Int64, r = some (.long z) ∧ (∀ i : Nat, i < 64 → z.toBitVec.getLsbD i = own_T f w v o (64 * k + i) i) ∧ h = h') := by
  refine OwM.of (Ls := #[.val (.long o), .second, .val (.long v), .second, .val (.int x), .val (.int y), .val (.int kk), .unset, .unset, .unset, .unset]) (by decide +kernel) (fun m => by first | (simp [entryFrame, mkF, argsToLocals, Value.category]; done) | rfl) ?_
  intro _ _ _ _ _ _ _ X
  have e64 : (64 : Int32).toInt = 64 := rfl
  refine X.iload (q := 2) own_d_method_5_0 rfl rfl ?_
  refine X.bipush (q := 4) (64 : Int32) own_d_method_5_2 (by decide) rfl ?_
  refine X.iload (q := 6) own_d_method_5_4 rfl rfl ?_
  refine X.imul (q := 7) own_d_method_5_6 rfl ?_
  refine X.nmI (fun mk hmk => ?_)
  have hmk_ : mk.toInt = 64 * (k : Int) := by rw [hmk, Jvm.Kit.i32_mul (by rw [e64, hk]; omega) (by rw [e64, hk]; omega), e64, hk]
  refine X.isub (q := 8) own_d_method_5_7 rfl ?_
  refine X.nmI (fun lo hlo => ?_)
  have hlo_ : lo.toInt = (f : Int) - 64 * (k : Int) := by rw [hlo, own_sub hmk_ (by omega) (by omega)]; omega
  refine X.istore (q := 10) (Ls' := #[.val (.long o), .second, .val (.long v), .second, .val (.int x), .val (.int y), .val (.int kk), .val (.int lo), .unset, .unset, .unset]) own_d_method_5_8 rfl rfl ?_
  refine X.iload (q := 12) own_d_method_5_10 rfl rfl ?_
  refine X.iload (q := 14) own_d_method_5_12 rfl rfl ?_
  refine X.iadd (q := 15) own_d_method_5_14 rfl ?_
  refine X.nmI (fun hi hhi => ?_)
  have hhi_ : hi.toInt = lo.toInt + (w : Int) := by rw [hhi]; exact own_add hy (by omega) (by omega)
  refine X.istore (q := 17) (Ls' := #[.val (.long o), .second, .val (.long v), .second, .val (.int x), .val (.int y), .val (.int kk), .val (.int lo), .val (.int hi), .unset, .unset]) own_d_method_5_15 rfl rfl ?_
  refine X.iload (q := 19) own_d_method_5_17 rfl rfl ?_
  refine X.callS (own_clamp l Z a0 hw h n0 hi) (hw _ (List.mem_of_getElem? (i := 7) rfl)) (hw _ (List.mem_of_getElem? (i := 8) rfl)) (hw _ (List.mem_of_getElem? (i := 2) rfl)) (hw _ (List.mem_of_getElem? (i := 9) rfl)) (by decide) own_pd1 (argsL := [(.int hi)]) (rest := []) rfl rfl rfl (W := 0) (Nat.le_of_eq rfl) rfl (by decide) (by decide) (k' := 0) (n' := 0) rfl rfl (by decide) (by decide) own_d_method_5_19 (q := 22) rfl ?_
  rintro _ _ ⟨c1, rfl, hc1, rfl⟩
  show X.G h 0 0 22 #[.val (.long o), .second, .val (.long v), .second, .val (.int x), .val (.int y), .val (.int kk), .val (.int lo), .val (.int hi), .unset, .unset] [(.int c1)]
  obtain ⟨m1, hm1⟩ : ∃ m1 : Nat, c1.toInt = (m1 : Int) := ⟨c1.toInt.toNat, by omega⟩
  refine X.callS (own_low l Z a0 hw h n0 c1 m1 hm1 (by omega)) (hw _ (List.mem_of_getElem? (i := 0) rfl)) (hw _ (List.mem_of_getElem? (i := 1) rfl)) (hw _ (List.mem_of_getElem? (i := 2) rfl)) (hw _ (List.mem_of_getElem? (i := 3) rfl)) (by decide) own_pd2 (argsL := [(.int c1)]) (rest := []) rfl rfl rfl (W := 0) (Nat.le_of_eq rfl) rfl (by decide) (by decide) (k' := 0) (n' := 0) rfl rfl (by decide) (by decide) own_d_method_5_22 (q := 25) rfl ?_
  rintro _ _ ⟨z1, rfl, hz1, rfl⟩
  show X.G h 0 0 25 #[.val (.long o), .second, .val (.long v), .second, .val (.int x), .val (.int y), .val (.int kk), .val (.int lo), .val (.int hi), .unset, .unset] [(.long z1)]
  refine X.iload (q := 27) own_d_method_5_25 rfl rfl ?_
  refine X.callS (own_clamp l Z a0 hw h n0 lo) (hw _ (List.mem_of_getElem? (i := 7) rfl)) (hw _ (List.mem_of_getElem? (i := 8) rfl)) (hw _ (List.mem_of_getElem? (i := 2) rfl)) (hw _ (List.mem_of_getElem? (i := 9) rfl)) (by decide) own_pd1 (argsL := [(.int lo)]) (rest := [(.long z1)]) rfl rfl rfl (W := 2) (Nat.le_of_eq rfl) rfl (by decide) (by decide) (k' := 0) (n' := 0) rfl rfl (by decide) (by decide) own_d_method_5_27 (q := 30) rfl ?_
  rintro _ _ ⟨c2, rfl, hc2, rfl⟩
  show X.G h 0 0 30 #[.val (.long o), .second, .val (.long v), .second, .val (.int x), .val (.int y), .val (.int kk), .val (.int lo), .val (.int hi), .unset, .unset] [(.int c2), (.long z1)]
  obtain ⟨m2, hm2⟩ : ∃ m2 : Nat, c2.toInt = (m2 : Int) := ⟨c2.toInt.toNat, by omega⟩
  refine X.callS (own_low l Z a0 hw h n0 c2 m2 hm2 (by omega)) (hw _ (List.mem_of_getElem? (i := 0) rfl)) (hw _ (List.mem_of_getElem? (i := 1) rfl)) (hw _ (List.mem_of_getElem? (i := 2) rfl)) (hw _ (List.mem_of_getElem? (i := 3) rfl)) (by decide) own_pd2 (argsL := [(.int c2)]) (rest := [(.long z1)]) rfl rfl rfl (W := 2) (Nat.le_of_eq rfl) rfl (by decide) (by decide) (k' := 0) (n' := 0) rfl rfl (by decide) (by decide) own_d_method_5_30 (q := 33) rfl ?_
  rintro _ _ ⟨z2, rfl, hz2, rfl⟩
  show X.G h 0 0 33 #[.val (.long o), .second, .val (.long v), .second, .val (.int x), .val (.int y), .val (.int kk), .val (.int lo), .val (.int hi), .unset, .unset] [(.long z2), (.long z1)]
  refine X.ldc2_w (q := 36) (v := (-1 : Int64)) (hw _ (List.mem_of_getElem? (i := 17) rfl)) own_d_method_5_33 rfl ?_
  refine X.lxor (q := 37) own_d_method_5_36 rfl ?_
  refine X.land (q := 38) own_d_method_5_37 rfl ?_
  refine X.nmJ (fun m hm => ?_)
  have hm_ : ∀ i : Nat, i < 64 → m.toBitVec.getLsbD i = decide (lo.toInt ≤ (i : Int) ∧ (i : Int) < hi.toInt) := by
    intro i q
    rw [hm, Int64.toBitVec_and, BitVec.getLsbD_and, own_not _ i q, hz1 i q, hz2 i q, ← decide_not, ← Bool.decide_and]
    exact decide_eq_decide.mpr (by omega)
  refine X.lstore (q := 40) (Ls' := #[.val (.long o), .second, .val (.long v), .second, .val (.int x), .val (.int y), .val (.int kk), .val (.int lo), .val (.int hi), .val (.long m), .second]) own_d_method_5_38 rfl rfl ?_
  refine X.lloadN (q := 41) own_d_method_5_40 rfl rfl ?_
  refine X.lload (q := 43) own_d_method_5_41 rfl rfl ?_
  refine X.ldc2_w (q := 46) (v := (-1 : Int64)) (hw _ (List.mem_of_getElem? (i := 17) rfl)) own_d_method_5_43 rfl ?_
  refine X.lxor (q := 47) own_d_method_5_46 rfl ?_
  refine X.land (q := 48) own_d_method_5_47 rfl ?_
  refine X.lloadN (q := 49) own_d_method_5_48 rfl rfl ?_
  refine X.iload (q := 51) own_d_method_5_49 rfl rfl ?_
  refine X.callS (own_sto l Z a0 hw h n0 v lo) (hw _ (List.mem_of_getElem? (i := 18) rfl)) (hw _ (List.mem_of_getElem? (i := 19) rfl)) (hw _ (List.mem_of_getElem? (i := 2) rfl)) (hw _ (List.mem_of_getElem? (i := 20) rfl)) (by decide) own_pd3 (argsL := [(.long v), (.int lo)]) (rest := [(.long (o &&& (m ^^^ (-1 : Int64))))]) rfl rfl rfl (W := 2) (Nat.le_of_eq rfl) rfl (by decide) (by decide) (k' := 0) (n' := 0) rfl rfl (by decide) (by decide) own_d_method_5_51 (q := 54) rfl ?_
  rintro _ _ ⟨z3, rfl, hz3, rfl⟩
  show X.G h 0 0 54 #[.val (.long o), .second, .val (.long v), .second, .val (.int x), .val (.int y), .val (.int kk), .val (.int lo), .val (.int hi), .val (.long m), .second] [(.long z3), (.long (o &&& (m ^^^ (-1 : Int64))))]
  refine X.lload (q := 56) own_d_method_5_54 rfl rfl ?_
  refine X.land (q := 57) own_d_method_5_56 rfl ?_
  refine X.lor (q := 58) own_d_method_5_57 rfl ?_
  refine X.retJ own_d_method_5_58 rfl (by decide) (by decide) ?_
  refine ⟨_, rfl, fun i q => ?_, rfl⟩
  rw [Int64.toBitVec_or, BitVec.getLsbD_or, Int64.toBitVec_and, BitVec.getLsbD_and, Int64.toBitVec_and, BitVec.getLsbD_and, own_not _ i q, hm_ i q, hz3 i q, own_T]
  by_cases q1 : f ≤ 64 * k + i ∧ 64 * k + i < f + w
  · have q2 : lo.toInt ≤ (i : Int) ∧ (i : Int) < hi.toInt := by omega
    rw [if_pos q1, show ((i : Int) - lo.toInt).toNat = 64 * k + i - f by omega]; simp [q2, q2.1]
  · have q2 : ¬ (lo.toInt ≤ (i : Int) ∧ (i : Int) < hi.toInt) := by omega
    rw [if_neg q1]; simp [q2]
theorem own_d_prog_50_method_5_0 : decode prog_50_method_5_code 0 = .ok (.ldc2_w 15, 3) := by decide +kernel
theorem own_d_prog_50_method_5_3 : decode prog_50_method_5_code 3 = .ok (.bipush 64, 2) := by decide +kernel
theorem own_d_prog_50_method_5_5 : decode prog_50_method_5_code 5 = .ok (.iload_n 3, 1) := by decide +kernel
theorem own_d_prog_50_method_5_6 : decode prog_50_method_5_code 6 = .ok (.isub, 1) := by decide +kernel
theorem own_d_prog_50_method_5_7 : decode prog_50_method_5_code 7 = .ok (.lushr, 1) := by decide +kernel
theorem own_d_prog_50_method_5_8 : decode prog_50_method_5_code 8 = .ok (.lstore 6, 2) := by decide +kernel
theorem own_d_prog_50_method_5_10 : decode prog_50_method_5_code 10 = .ok (.lload_n 1, 1) := by decide +kernel
theorem own_d_prog_50_method_5_11 : decode prog_50_method_5_code 11 = .ok (.bipush 6, 2) := by decide +kernel
theorem own_d_prog_50_method_5_13 : decode prog_50_method_5_code 13 = .ok (.lushr, 1) := by decide +kernel
theorem own_d_prog_50_method_5_14 : decode prog_50_method_5_code 14 = .ok (.l2i, 1) := by decide +kernel
theorem own_d_prog_50_method_5_15 : decode prog_50_method_5_code 15 = .ok (.istore 8, 2) := by decide +kernel
theorem own_d_prog_50_method_5_17 : decode prog_50_method_5_code 17 = .ok (.lload_n 1, 1) := by decide +kernel
theorem own_d_prog_50_method_5_18 : decode prog_50_method_5_code 18 = .ok (.l2i, 1) := by decide +kernel
theorem own_d_prog_50_method_5_19 : decode prog_50_method_5_code 19 = .ok (.bipush 63, 2) := by decide +kernel
theorem own_d_prog_50_method_5_21 : decode prog_50_method_5_code 21 = .ok (.iand, 1) := by decide +kernel
theorem own_d_prog_50_method_5_22 : decode prog_50_method_5_code 22 = .ok (.istore 9, 2) := by decide +kernel
theorem own_d_prog_50_method_5_24 : decode prog_50_method_5_code 24 = .ok (.aload_n 0, 1) := by decide +kernel
theorem own_d_prog_50_method_5_25 : decode prog_50_method_5_code 25 = .ok (.iload 8, 2) := by decide +kernel
theorem own_d_prog_50_method_5_27 : decode prog_50_method_5_code 27 = .ok (.aload_n 0, 1) := by decide +kernel
theorem own_d_prog_50_method_5_28 : decode prog_50_method_5_code 28 = .ok (.iload 8, 2) := by decide +kernel
theorem own_d_prog_50_method_5_30 : decode prog_50_method_5_code 30 = .ok (.laload, 1) := by decide +kernel
theorem own_d_prog_50_method_5_31 : decode prog_50_method_5_code 31 = .ok (.lload 6, 2) := by decide +kernel
theorem own_d_prog_50_method_5_33 : decode prog_50_method_5_code 33 = .ok (.iload 9, 2) := by decide +kernel
theorem own_d_prog_50_method_5_35 : decode prog_50_method_5_code 35 = .ok (.lshl, 1) := by decide +kernel
theorem own_d_prog_50_method_5_36 : decode prog_50_method_5_code 36 = .ok (.ldc2_w 15, 3) := by decide +kernel
theorem own_d_prog_50_method_5_39 : decode prog_50_method_5_code 39 = .ok (.lxor, 1) := by decide +kernel
theorem own_d_prog_50_method_5_40 : decode prog_50_method_5_code 40 = .ok (.land, 1) := by decide +kernel
theorem own_d_prog_50_method_5_41 : decode prog_50_method_5_code 41 = .ok (.lload 4, 2) := by decide +kernel
theorem own_d_prog_50_method_5_43 : decode prog_50_method_5_code 43 = .ok (.iload 9, 2) := by decide +kernel
theorem own_d_prog_50_method_5_45 : decode prog_50_method_5_code 45 = .ok (.lshl, 1) := by decide +kernel
theorem own_d_prog_50_method_5_46 : decode prog_50_method_5_code 46 = .ok (.lor, 1) := by decide +kernel
theorem own_d_prog_50_method_5_47 : decode prog_50_method_5_code 47 = .ok (.lastore, 1) := by decide +kernel
theorem own_d_prog_50_method_5_48 : decode prog_50_method_5_code 48 = .ok (.iload 9, 2) := by decide +kernel
theorem own_d_prog_50_method_5_50 : decode prog_50_method_5_code 50 = .ok (.bipush 64, 2) := by decide +kernel
theorem own_d_prog_50_method_5_52 : decode prog_50_method_5_code 52 = .ok (.iload_n 3, 1) := by decide +kernel
theorem own_d_prog_50_method_5_53 : decode prog_50_method_5_code 53 = .ok (.isub, 1) := by decide +kernel
theorem own_d_prog_50_method_5_54 : decode prog_50_method_5_code 54 = .ok (.if_icmp .le 38, 3) := by decide +kernel
theorem own_d_prog_50_method_5_92 : decode prog_50_method_5_code 92 = .ok (.return_, 1) := by decide +kernel
theorem own_d_prog_50_method_5_57 : decode prog_50_method_5_code 57 = .ok (.bipush 64, 2) := by decide +kernel
theorem own_d_prog_50_method_5_59 : decode prog_50_method_5_code 59 = .ok (.iload 9, 2) := by decide +kernel
theorem own_d_prog_50_method_5_61 : decode prog_50_method_5_code 61 = .ok (.isub, 1) := by decide +kernel
theorem own_d_prog_50_method_5_62 : decode prog_50_method_5_code 62 = .ok (.istore 10, 2) := by decide +kernel
theorem own_d_prog_50_method_5_64 : decode prog_50_method_5_code 64 = .ok (.aload_n 0, 1) := by decide +kernel
theorem own_d_prog_50_method_5_65 : decode prog_50_method_5_code 65 = .ok (.iload 8, 2) := by decide +kernel
theorem own_d_prog_50_method_5_67 : decode prog_50_method_5_code 67 = .ok (.iconst 1, 1) := by decide +kernel
theorem own_d_prog_50_method_5_68 : decode prog_50_method_5_code 68 = .ok (.iadd, 1) := by decide +kernel
theorem own_d_prog_50_method_5_69 : decode prog_50_method_5_code 69 = .ok (.aload_n 0, 1) := by decide +kernel
theorem own_d_prog_50_method_5_70 : decode prog_50_method_5_code 70 = .ok (.iload 8, 2) := by decide +kernel
theorem own_d_prog_50_method_5_72 : decode prog_50_method_5_code 72 = .ok (.iconst 1, 1) := by decide +kernel
theorem own_d_prog_50_method_5_73 : decode prog_50_method_5_code 73 = .ok (.iadd, 1) := by decide +kernel
theorem own_d_prog_50_method_5_74 : decode prog_50_method_5_code 74 = .ok (.laload, 1) := by decide +kernel
theorem own_d_prog_50_method_5_75 : decode prog_50_method_5_code 75 = .ok (.lload 6, 2) := by decide +kernel
theorem own_d_prog_50_method_5_77 : decode prog_50_method_5_code 77 = .ok (.iload 10, 2) := by decide +kernel
theorem own_d_prog_50_method_5_79 : decode prog_50_method_5_code 79 = .ok (.lushr, 1) := by decide +kernel
theorem own_d_prog_50_method_5_80 : decode prog_50_method_5_code 80 = .ok (.ldc2_w 15, 3) := by decide +kernel
theorem own_d_prog_50_method_5_83 : decode prog_50_method_5_code 83 = .ok (.lxor, 1) := by decide +kernel
theorem own_d_prog_50_method_5_84 : decode prog_50_method_5_code 84 = .ok (.land, 1) := by decide +kernel
theorem own_d_prog_50_method_5_85 : decode prog_50_method_5_code 85 = .ok (.lload 4, 2) := by decide +kernel
theorem own_d_prog_50_method_5_87 : decode prog_50_method_5_code 87 = .ok (.iload 10, 2) := by decide +kernel
theorem own_d_prog_50_method_5_89 : decode prog_50_method_5_code 89 = .ok (.lushr, 1) := by decide +kernel
theorem own_d_prog_50_method_5_90 : decode prog_50_method_5_code 90 = .ok (.lor, 1) := by decide +kernel
theorem own_d_prog_50_method_5_91 : decode prog_50_method_5_code 91 = .ok (.lastore, 1) := by decide +kernel
def own_rm_own_set : Room := ({ frames := 0, cells := 0, slots := 0, locals := 0 } : Room)
set_option maxRecDepth 65536 in
set_option maxHeartbeats 1000000 in
theorem own_set (l : Launch) (Z : State) (a0 : Array Value) (hw : ∀ d ∈ tables_1, d.before a0 Z = true) (h : Heap) (n0 : Nat) (a : Addr) (w0 w1 w2 x : Int64) (y : Int32) (v : Int64) (f w : Nat) (hx : x.toInt = (f : Int)) (hy : y.toInt = (w : Int)) (hf : f ≤ 127) (hw1 : 1 ≤ w) (hw2 : w ≤ 64) (hv : ∀ i, w ≤ i → v.toBitVec.getLsbD i = false)  (hn0 : n0 ≤ h.size) (A1 : OwA Z h a .long [(.long w0), (.long w1), (.long w2)]) (gea : n0 ≤ a) :
    OwM l Z (⟨"com/example/boann/boann/sketches/PackedBits", "setField", "([JJIJ)V"⟩ : MethodName) prog_50_method_5_code 11 none own_rm_own_set 0 0 [] #[(.ref a), (.long x), (.int y), (.long v)] h n0 (fun r h' => ∃ u0 u1 u2 : Int64, r = none ∧ Keep h h' [a] ∧ OwA Z h' a .long [(.long u0), (.long u1), (.long u2)] ∧ (∀ i : Nat, i < 64 → u0.toBitVec.getLsbD i = own_T f w v w0 (64 * 0 + i) i) ∧ (∀ i : Nat, i < 64 → u1.toBitVec.getLsbD i = own_T f w v w1 (64 * 1 + i) i) ∧ (∀ i : Nat, i < 64 → u2.toBitVec.getLsbD i = own_T f w v w2 (64 * 2 + i) i)) := by
  refine OwM.of (Ls := #[.val (.ref a), .val (.long x), .second, .val (.int y), .val (.long v), .second, .unset, .unset, .unset, .unset, .unset]) (by decide +kernel) (fun m => by first | (simp [entryFrame, mkF, argsToLocals, Value.category]; done) | rfl) ?_
  intro _ _ _ _ _ _ _ X
  have K0 : Keep h h [a] := Keep.refl _ _
  have e0 : (0 : Int32).toInt = 0 := rfl
  have e1 : (1 : Int32).toInt = 1 := rfl
  have e64 : (64 : Int32).toInt = 64 := rfl
  refine X.ldc2_w (q := 3) (v := (-1 : Int64)) (hw _ (List.mem_of_getElem? (i := 26) rfl)) own_d_prog_50_method_5_0 rfl ?_
  refine X.bipush (q := 5) (64 : Int32) own_d_prog_50_method_5_3 (by decide) rfl ?_
  refine X.iloadN (q := 6) own_d_prog_50_method_5_5 rfl rfl ?_
  refine X.isub (q := 7) own_d_prog_50_method_5_6 rfl ?_
  refine X.nmI (fun sy hsy => ?_)
  have hsy_ : sy.toInt = ((64 - w : Nat) : Int) := by rw [hsy, Int32.toInt_sub, e64, hy]; rw [Int.bmod_eq_of_le (by omega) (by omega)]; omega
  refine X.lushr (q := 8) own_d_prog_50_method_5_7 rfl ?_
  refine X.nmJ (fun m hm => ?_)
  have hm_ : ∀ i, m.toBitVec.getLsbD i = decide (i < w) := by intro i; rw [hm]; exact own_mask sy hsy_ hw1 hw2 i
  refine X.lstore (q := 10) (Ls' := #[.val (.ref a), .val (.long x), .second, .val (.int y), .val (.long v), .second, .val (.long m), .second, .unset, .unset, .unset]) own_d_prog_50_method_5_8 rfl rfl ?_
  refine X.lloadN (q := 11) own_d_prog_50_method_5_10 rfl rfl ?_
  refine X.bipush (q := 13) (6 : Int32) own_d_prog_50_method_5_11 (by decide) rfl ?_
  refine X.lushr (q := 14) own_d_prog_50_method_5_13 rfl ?_
  refine X.l2i (q := 15) own_d_prog_50_method_5_14 rfl ?_
  refine X.nmI (fun wi hwi => ?_)
  have hwi_ : wi.toInt = ((f / 64 : Nat) : Int) := by rw [hwi]; exact (own_l6 hx).resolve_right (by omega)
  clear hwi
  refine X.istore (q := 17) (Ls' := #[.val (.ref a), .val (.long x), .second, .val (.int y), .val (.long v), .second, .val (.long m), .second, .val (.int wi), .unset, .unset]) own_d_prog_50_method_5_15 rfl rfl ?_
  refine X.lloadN (q := 18) own_d_prog_50_method_5_17 rfl rfl ?_
  refine X.l2i (q := 19) own_d_prog_50_method_5_18 rfl ?_
  refine X.bipush (q := 21) (63 : Int32) own_d_prog_50_method_5_19 (by decide) rfl ?_
  refine X.iand (q := 22) own_d_prog_50_method_5_21 rfl ?_
  refine X.nmI (fun sh hsh => ?_)
  have hsh_ : sh.toInt = ((f % 64 : Nat) : Int) := by
    rw [hsh, Jvm.Kit.i32_mask (k := 6) _ _ (by decide) (by decide), Int64.toInt_toInt32, hx, Int.bmod_eq_of_le (by omega) (by omega)]
    omega
  refine X.istore (q := 24) (Ls' := #[.val (.ref a), .val (.long x), .second, .val (.int y), .val (.long v), .second, .val (.long m), .second, .val (.int wi), .val (.int sh), .unset]) own_d_prog_50_method_5_22 rfl rfl ?_
  have hsp : wi = (0 : Int32) ∨ wi = (1 : Int32) := (by have q_ : wi.toInt = 0 ∨ wi.toInt = 1 := (by omega); exact (Or.imp (fun e_ => Int32.toInt_inj.mp e_) (fun e_ => Int32.toInt_inj.mp e_)) q_)
  rcases hsp with rfl | rfl
  · refine X.aloadN (q := 25) own_d_prog_50_method_5_24 rfl rfl rfl ?_
    refine X.iload (q := 27) own_d_prog_50_method_5_25 rfl rfl ?_
    refine X.aloadN (q := 28) own_d_prog_50_method_5_27 rfl rfl rfl ?_
    refine X.iload (q := 30) own_d_prog_50_method_5_28 rfl rfl ?_
    refine X.laload (q := 31) (j := 0) (v := (.long w0)) A1 rfl rfl own_d_prog_50_method_5_30 rfl ?_
    refine X.lload (q := 33) own_d_prog_50_method_5_31 rfl rfl ?_
    refine X.iload (q := 35) own_d_prog_50_method_5_33 rfl rfl ?_
    refine X.lshl (q := 36) own_d_prog_50_method_5_35 rfl ?_
    refine X.ldc2_w (q := 39) (v := (-1 : Int64)) (hw _ (List.mem_of_getElem? (i := 26) rfl)) own_d_prog_50_method_5_36 rfl ?_
    refine X.lxor (q := 40) own_d_prog_50_method_5_39 rfl ?_
    refine X.land (q := 41) own_d_prog_50_method_5_40 rfl ?_
    refine X.lload (q := 43) own_d_prog_50_method_5_41 rfl rfl ?_
    refine X.iload (q := 45) own_d_prog_50_method_5_43 rfl rfl ?_
    refine X.lshl (q := 46) own_d_prog_50_method_5_45 rfl ?_
    refine X.lor (q := 47) own_d_prog_50_method_5_46 rfl ?_
    refine X.lastore (q := 48) (j := 0) A1 rfl (by simp) gea own_d_prog_50_method_5_47 rfl (fun h1 Wh1 Ah1 => ?_)
    have hsh1 : n0 ≤ h1.size := by rw [Wr.size Wh1]; exact hn0
    have Kh1 : Keep h h1 [a] := Keep.wr K0 Wh1 (Or.inl (List.mem_of_getElem? (i := 0) rfl))
    have Ah1_ : OwA Z h1 a .long [(.long ((w0 &&& ((m <<< (sh.toInt64 &&& 63)) ^^^ (-1 : Int64))) ||| (v <<< (sh.toInt64 &&& 63)))), (.long w1), (.long w2)] := Ah1
    refine X.iload (q := 50) own_d_prog_50_method_5_48 rfl rfl ?_
    refine X.bipush (q := 52) (64 : Int32) own_d_prog_50_method_5_50 (by decide) rfl ?_
    refine X.iloadN (q := 53) own_d_prog_50_method_5_52 rfl rfl ?_
    refine X.isub (q := 54) own_d_prog_50_method_5_53 rfl ?_
    refine X.nmI (fun sz hsz => ?_)
    have hsz_ : sz.toInt = 64 - (w : Int) := by rw [hsz, Int32.toInt_sub, e64, hy]; exact Int.bmod_eq_of_le (by omega) (by omega)
    refine X.icmp_le (q' := 92) (q := 57) own_d_prog_50_method_5_54 rfl rfl (by decide) rfl (fun c54 => ?_) (fun c54 => ?_)
    · refine X.retV own_d_prog_50_method_5_92 rfl (by decide) (by decide) ?_
      refine ⟨_, _, _, rfl, Kh1, Ah1_, ?_, ?_, ?_⟩
      · intro i q
        rw [own_wordA w0 v m hsh_ (by omega) hm_ hv i q, own_T]
        by_cases q1 : f % 64 ≤ i ∧ i < f % 64 + w
        · rw [if_pos q1, if_pos (by omega), show 64 * 0 + i - f = i - f % 64 by omega]
        · rw [if_neg q1, if_neg (by omega)]
      · intro i q
        rw [own_T, if_neg (by omega)]
      · intro i q
        rw [own_T, if_neg (by omega)]
    · refine X.bipush (q := 59) (64 : Int32) own_d_prog_50_method_5_57 (by decide) rfl ?_
      refine X.iload (q := 61) own_d_prog_50_method_5_59 rfl rfl ?_
      refine X.isub (q := 62) own_d_prog_50_method_5_61 rfl ?_
      refine X.nmI (fun lo hlo => ?_)
      have hlo_ : lo.toInt = ((64 - f % 64 : Nat) : Int) := by rw [hlo, Int32.toInt_sub, e64, hsh_]; rw [Int.bmod_eq_of_le (by omega) (by omega)]; omega
      refine X.istore (q := 64) (Ls' := #[.val (.ref a), .val (.long x), .second, .val (.int y), .val (.long v), .second, .val (.long m), .second, .val (.int (0 : Int32)), .val (.int sh), .val (.int lo)]) own_d_prog_50_method_5_62 rfl rfl ?_
      refine X.aloadN (q := 65) own_d_prog_50_method_5_64 rfl rfl rfl ?_
      refine X.iload (q := 67) own_d_prog_50_method_5_65 rfl rfl ?_
      refine X.iconst (q := 68) (1 : Int32) own_d_prog_50_method_5_67 (by decide) rfl ?_
      refine X.iadd (q := 69) own_d_prog_50_method_5_68 rfl ?_
      refine X.foldI (v := (1 : Int32)) (by decide) ?_
      refine X.aloadN (q := 70) own_d_prog_50_method_5_69 rfl rfl rfl ?_
      refine X.iload (q := 72) own_d_prog_50_method_5_70 rfl rfl ?_
      refine X.iconst (q := 73) (1 : Int32) own_d_prog_50_method_5_72 (by decide) rfl ?_
      refine X.iadd (q := 74) own_d_prog_50_method_5_73 rfl ?_
      refine X.foldI (v := (1 : Int32)) (by decide) ?_
      refine X.laload (q := 75) (j := 1) (v := (.long w1)) Ah1_ rfl rfl own_d_prog_50_method_5_74 rfl ?_
      refine X.lload (q := 77) own_d_prog_50_method_5_75 rfl rfl ?_
      refine X.iload (q := 79) own_d_prog_50_method_5_77 rfl rfl ?_
      refine X.lushr (q := 80) own_d_prog_50_method_5_79 rfl ?_
      refine X.ldc2_w (q := 83) (v := (-1 : Int64)) (hw _ (List.mem_of_getElem? (i := 26) rfl)) own_d_prog_50_method_5_80 rfl ?_
      refine X.lxor (q := 84) own_d_prog_50_method_5_83 rfl ?_
      refine X.land (q := 85) own_d_prog_50_method_5_84 rfl ?_
      refine X.lload (q := 87) own_d_prog_50_method_5_85 rfl rfl ?_
      refine X.iload (q := 89) own_d_prog_50_method_5_87 rfl rfl ?_
      refine X.lushr (q := 90) own_d_prog_50_method_5_89 rfl ?_
      refine X.lor (q := 91) own_d_prog_50_method_5_90 rfl ?_
      refine X.lastore (q := 92) (j := 1) Ah1_ rfl (by simp) gea own_d_prog_50_method_5_91 rfl (fun h2 Wh2 Ah2 => ?_)
      have hsh2 : n0 ≤ h2.size := by rw [Wr.size Wh2]; exact hsh1
      have Kh2 : Keep h h2 [a] := Keep.wr Kh1 Wh2 (Or.inl (List.mem_of_getElem? (i := 0) rfl))
      have Ah2_ : OwA Z h2 a .long [(.long ((w0 &&& ((m <<< (sh.toInt64 &&& 63)) ^^^ (-1 : Int64))) ||| (v <<< (sh.toInt64 &&& 63)))), (.long ((w1 &&& ((XT.ushrL m lo) ^^^ (-1 : Int64))) ||| (XT.ushrL v lo))), (.long w2)] := Ah2
      refine X.retV own_d_prog_50_method_5_92 rfl (by decide) (by decide) ?_
      refine ⟨_, _, _, rfl, Kh2, Ah2_, ?_, ?_, ?_⟩
      · intro i q
        rw [own_wordA w0 v m hsh_ (by omega) hm_ hv i q, own_T]
        by_cases q1 : f % 64 ≤ i ∧ i < f % 64 + w
        · rw [if_pos q1, if_pos (by omega), show 64 * 0 + i - f = i - f % 64 by omega]
        · rw [if_neg q1, if_neg (by omega)]
      · intro i q
        rw [own_wordB w1 v m hlo_ (by omega) hm_ hv i q, own_T]
        by_cases q1 : 64 - f % 64 + i < w
        · rw [if_pos q1, if_pos (by omega), show 64 * 1 + i - f = 64 - f % 64 + i by omega]
        · rw [if_neg q1, if_neg (by omega)]
      · intro i q
        rw [own_T, if_neg (by omega)]
  · refine X.aloadN (q := 25) own_d_prog_50_method_5_24 rfl rfl rfl ?_
    refine X.iload (q := 27) own_d_prog_50_method_5_25 rfl rfl ?_
    refine X.aloadN (q := 28) own_d_prog_50_method_5_27 rfl rfl rfl ?_
    refine X.iload (q := 30) own_d_prog_50_method_5_28 rfl rfl ?_
    refine X.laload (q := 31) (j := 1) (v := (.long w1)) A1 rfl rfl own_d_prog_50_method_5_30 rfl ?_
    refine X.lload (q := 33) own_d_prog_50_method_5_31 rfl rfl ?_
    refine X.iload (q := 35) own_d_prog_50_method_5_33 rfl rfl ?_
    refine X.lshl (q := 36) own_d_prog_50_method_5_35 rfl ?_
    refine X.ldc2_w (q := 39) (v := (-1 : Int64)) (hw _ (List.mem_of_getElem? (i := 26) rfl)) own_d_prog_50_method_5_36 rfl ?_
    refine X.lxor (q := 40) own_d_prog_50_method_5_39 rfl ?_
    refine X.land (q := 41) own_d_prog_50_method_5_40 rfl ?_
    refine X.lload (q := 43) own_d_prog_50_method_5_41 rfl rfl ?_
    refine X.iload (q := 45) own_d_prog_50_method_5_43 rfl rfl ?_
    refine X.lshl (q := 46) own_d_prog_50_method_5_45 rfl ?_
    refine X.lor (q := 47) own_d_prog_50_method_5_46 rfl ?_
    refine X.lastore (q := 48) (j := 1) A1 rfl (by simp) gea own_d_prog_50_method_5_47 rfl (fun h3 Wh3 Ah3 => ?_)
    have hsh3 : n0 ≤ h3.size := by rw [Wr.size Wh3]; exact hn0
    have Kh3 : Keep h h3 [a] := Keep.wr K0 Wh3 (Or.inl (List.mem_of_getElem? (i := 0) rfl))
    have Ah3_ : OwA Z h3 a .long [(.long w0), (.long ((w1 &&& ((m <<< (sh.toInt64 &&& 63)) ^^^ (-1 : Int64))) ||| (v <<< (sh.toInt64 &&& 63)))), (.long w2)] := Ah3
    refine X.iload (q := 50) own_d_prog_50_method_5_48 rfl rfl ?_
    refine X.bipush (q := 52) (64 : Int32) own_d_prog_50_method_5_50 (by decide) rfl ?_
    refine X.iloadN (q := 53) own_d_prog_50_method_5_52 rfl rfl ?_
    refine X.isub (q := 54) own_d_prog_50_method_5_53 rfl ?_
    refine X.nmI (fun sz hsz => ?_)
    have hsz_ : sz.toInt = 64 - (w : Int) := by rw [hsz, Int32.toInt_sub, e64, hy]; exact Int.bmod_eq_of_le (by omega) (by omega)
    refine X.icmp_le (q' := 92) (q := 57) own_d_prog_50_method_5_54 rfl rfl (by decide) rfl (fun c54 => ?_) (fun c54 => ?_)
    · refine X.retV own_d_prog_50_method_5_92 rfl (by decide) (by decide) ?_
      refine ⟨_, _, _, rfl, Kh3, Ah3_, ?_, ?_, ?_⟩
      · intro i q
        rw [own_T, if_neg (by omega)]
      · intro i q
        rw [own_wordA w1 v m hsh_ (by omega) hm_ hv i q, own_T]
        by_cases q1 : f % 64 ≤ i ∧ i < f % 64 + w
        · rw [if_pos q1, if_pos (by omega), show 64 * 1 + i - f = i - f % 64 by omega]
        · rw [if_neg q1, if_neg (by omega)]
      · intro i q
        rw [own_T, if_neg (by omega)]
    · refine X.bipush (q := 59) (64 : Int32) own_d_prog_50_method_5_57 (by decide) rfl ?_
      refine X.iload (q := 61) own_d_prog_50_method_5_59 rfl rfl ?_
      refine X.isub (q := 62) own_d_prog_50_method_5_61 rfl ?_
      refine X.nmI (fun lo hlo => ?_)
      have hlo_ : lo.toInt = ((64 - f % 64 : Nat) : Int) := by rw [hlo, Int32.toInt_sub, e64, hsh_]; rw [Int.bmod_eq_of_le (by omega) (by omega)]; omega
      refine X.istore (q := 64) (Ls' := #[.val (.ref a), .val (.long x), .second, .val (.int y), .val (.long v), .second, .val (.long m), .second, .val (.int (1 : Int32)), .val (.int sh), .val (.int lo)]) own_d_prog_50_method_5_62 rfl rfl ?_
      refine X.aloadN (q := 65) own_d_prog_50_method_5_64 rfl rfl rfl ?_
      refine X.iload (q := 67) own_d_prog_50_method_5_65 rfl rfl ?_
      refine X.iconst (q := 68) (1 : Int32) own_d_prog_50_method_5_67 (by decide) rfl ?_
      refine X.iadd (q := 69) own_d_prog_50_method_5_68 rfl ?_
      refine X.foldI (v := (2 : Int32)) (by decide) ?_
      refine X.aloadN (q := 70) own_d_prog_50_method_5_69 rfl rfl rfl ?_
      refine X.iload (q := 72) own_d_prog_50_method_5_70 rfl rfl ?_
      refine X.iconst (q := 73) (1 : Int32) own_d_prog_50_method_5_72 (by decide) rfl ?_
      refine X.iadd (q := 74) own_d_prog_50_method_5_73 rfl ?_
      refine X.foldI (v := (2 : Int32)) (by decide) ?_
      refine X.laload (q := 75) (j := 2) (v := (.long w2)) Ah3_ rfl rfl own_d_prog_50_method_5_74 rfl ?_
      refine X.lload (q := 77) own_d_prog_50_method_5_75 rfl rfl ?_
      refine X.iload (q := 79) own_d_prog_50_method_5_77 rfl rfl ?_
      refine X.lushr (q := 80) own_d_prog_50_method_5_79 rfl ?_
      refine X.ldc2_w (q := 83) (v := (-1 : Int64)) (hw _ (List.mem_of_getElem? (i := 26) rfl)) own_d_prog_50_method_5_80 rfl ?_
      refine X.lxor (q := 84) own_d_prog_50_method_5_83 rfl ?_
      refine X.land (q := 85) own_d_prog_50_method_5_84 rfl ?_
      refine X.lload (q := 87) own_d_prog_50_method_5_85 rfl rfl ?_
      refine X.iload (q := 89) own_d_prog_50_method_5_87 rfl rfl ?_
      refine X.lushr (q := 90) own_d_prog_50_method_5_89 rfl ?_
      refine X.lor (q := 91) own_d_prog_50_method_5_90 rfl ?_
      refine X.lastore (q := 92) (j := 2) Ah3_ rfl (by simp) gea own_d_prog_50_method_5_91 rfl (fun h4 Wh4 Ah4 => ?_)
      have hsh4 : n0 ≤ h4.size := by rw [Wr.size Wh4]; exact hsh3
      have Kh4 : Keep h h4 [a] := Keep.wr Kh3 Wh4 (Or.inl (List.mem_of_getElem? (i := 0) rfl))
      have Ah4_ : OwA Z h4 a .long [(.long w0), (.long ((w1 &&& ((m <<< (sh.toInt64 &&& 63)) ^^^ (-1 : Int64))) ||| (v <<< (sh.toInt64 &&& 63)))), (.long ((w2 &&& ((XT.ushrL m lo) ^^^ (-1 : Int64))) ||| (XT.ushrL v lo)))] := Ah4
      refine X.retV own_d_prog_50_method_5_92 rfl (by decide) (by decide) ?_
      refine ⟨_, _, _, rfl, Kh4, Ah4_, ?_, ?_, ?_⟩
      · intro i q
        rw [own_T, if_neg (by omega)]
      · intro i q
        rw [own_wordA w1 v m hsh_ (by omega) hm_ hv i q, own_T]
        by_cases q1 : f % 64 ≤ i ∧ i < f % 64 + w
        · rw [if_pos q1, if_pos (by omega), show 64 * 1 + i - f = i - f % 64 by omega]
        · rw [if_neg q1, if_neg (by omega)]
      · intro i q
        rw [own_wordB w2 v m hlo_ (by omega) hm_ hv i q, own_T]
        by_cases q1 : 64 - f % 64 + i < w
        · rw [if_pos q1, if_pos (by omega), show 64 * 2 + i - f = 64 - f % 64 + i by omega]
        · rw [if_neg q1, if_neg (by omega)]
theorem own_pd4 : parseMethodDescriptor "(JJIII)J" = some ⟨[.long, .long, .int, .int, .int], some .long⟩ := by decide +kernel
theorem own_pd5 : parseMethodDescriptor "([JJIJ)V" = some ⟨[(.array .long), .long, .int, .long], none⟩ := by decide +kernel
set_option maxRecDepth 65536 in
set_option maxHeartbeats 1000000 in
theorem own_law (l : Launch) (Z : State) (a0 : Array Value) (hw : ∀ d ∈ tables_1, d.before a0 Z = true) (h : Heap) (n0 : Nat) (hn0 : n0 ≤ h.size) (w0 w1 w2 : Int64) (x3 x4 : Int32) (x5 : Int64)  :
    OwM l Z (⟨"com/example/boann/boann/sketches/PackedBitsSetFieldPinLaw", "law", "(JJJIIJ)Z"⟩ : MethodName) code 21 (some .boolean) room_1 16 128 tables_1 #[(.long w0), (.long w1), (.long w2), (.int x3), (.int x4), (.long x5)] h n0 (fun r h' => r = some (.int 1)) := by
  refine OwM.of (Ls := #[.val (.long w0), .second, .val (.long w1), .second, .val (.long w2), .second, .val (.int x3), .val (.int x4), .val (.long x5), .second, .unset, .unset, .unset, .unset, .unset, .unset, .unset, .unset, .unset, .unset, .unset]) (by decide +kernel) (fun m => by first | (simp [entryFrame, mkF, argsToLocals, Value.category]; done) | rfl) ?_
  intro _ _ _ _ _ _ _ X
  have e0 : (0 : Int32).toInt = 0 := rfl
  have e1 : (1 : Int32).toInt = 1 := rfl
  have e2 : (2 : Int32).toInt = 2 := rfl
  have e3 : (3 : Int32).toInt = 3 := rfl
  refine X.iload (q := 2) at_0 rfl rfl ?_
  refine X.bipush (q := 4) (127 : Int32) at_2 (by decide) rfl ?_
  refine X.iand (q := 5) at_4 rfl ?_
  refine X.nmI (fun x hxd => ?_)
  have hxr : 0 ≤ x.toInt ∧ x.toInt ≤ 127 := by rw [hxd, Jvm.Kit.i32_mask (k := 7) _ _ (by decide) (by decide)]; omega
  obtain ⟨f, hx⟩ : ∃ f : Nat, x.toInt = (f : Int) := ⟨x.toInt.toNat, by omega⟩
  clear hxd
  refine X.istore (q := 7) (Ls' := #[.val (.long w0), .second, .val (.long w1), .second, .val (.long w2), .second, .val (.int x3), .val (.int x4), .val (.long x5), .second, .val (.int x), .unset, .unset, .unset, .unset, .unset, .unset, .unset, .unset, .unset, .unset]) at_5 rfl rfl ?_
  refine X.iload (q := 9) at_7 rfl rfl ?_
  refine X.bipush (q := 11) (63 : Int32) at_9 (by decide) rfl ?_
  refine X.iand (q := 12) at_11 rfl ?_
  refine X.iconst (q := 13) (1 : Int32) at_12 (by decide) rfl ?_
  refine X.iadd (q := 14) at_13 rfl ?_
  refine X.nmI (fun y hyd => ?_)
  have hyr : 1 ≤ y.toInt ∧ y.toInt ≤ 64 := by
    have q := Jvm.Kit.i32_mask x4 63 (k := 6) (by decide) (by decide)
    rw [hyd, Int32.toInt_add, e1, q, Int.bmod_eq_of_le (by omega) (by omega)]; omega
  obtain ⟨w, hy⟩ : ∃ w : Nat, y.toInt = (w : Int) := ⟨y.toInt.toNat, by omega⟩
  have hw1 : 1 ≤ w := by omega
  have hw2 : w ≤ 64 := by omega
  clear hyd
  refine X.istore (q := 16) (Ls' := #[.val (.long w0), .second, .val (.long w1), .second, .val (.long w2), .second, .val (.int x3), .val (.int x4), .val (.long x5), .second, .val (.int x), .val (.int y), .unset, .unset, .unset, .unset, .unset, .unset, .unset, .unset, .unset]) at_14 rfl rfl ?_
  refine X.lload (q := 18) at_16 rfl rfl ?_
  refine X.iload (q := 20) at_18 rfl rfl ?_
  refine X.callS (own_low l Z a0 hw h n0 y w hy hw2) (hw _ (List.mem_of_getElem? (i := 0) rfl)) (hw _ (List.mem_of_getElem? (i := 1) rfl)) (hw _ (List.mem_of_getElem? (i := 2) rfl)) (hw _ (List.mem_of_getElem? (i := 3) rfl)) (by decide) own_pd2 (argsL := [(.int y)]) (rest := [(.long x5)]) rfl rfl rfl (W := 2) (Nat.le_of_eq rfl) rfl (by decide) (by decide) (k' := 0) (n' := 0) rfl rfl (by decide) (by decide) at_20 (q := 23) rfl ?_
  rintro _ _ ⟨lm, rfl, hlm, rfl⟩
  show X.G h 0 0 23 #[.val (.long w0), .second, .val (.long w1), .second, .val (.long w2), .second, .val (.int x3), .val (.int x4), .val (.long x5), .second, .val (.int x), .val (.int y), .unset, .unset, .unset, .unset, .unset, .unset, .unset, .unset, .unset] [(.long lm), (.long x5)]
  refine X.land (q := 24) at_23 rfl ?_
  refine X.nmJ (fun v hvd => ?_)
  have hvz : ∀ i, w ≤ i → v.toBitVec.getLsbD i = false := by
    intro i q
    by_cases q2 : i < 64
    · rw [hvd, Int64.toBitVec_and, BitVec.getLsbD_and, hlm i q2]; have q3 : ¬ i < w := by omega
      simp [q3]
    · exact BitVec.getLsbD_of_ge _ _ (by omega)
  clear hvd
  refine X.lstore (q := 26) (Ls' := #[.val (.long w0), .second, .val (.long w1), .second, .val (.long w2), .second, .val (.int x3), .val (.int x4), .val (.long x5), .second, .val (.int x), .val (.int y), .val (.long v), .second, .unset, .unset, .unset, .unset, .unset, .unset, .unset]) at_24 rfl rfl ?_
  refine X.lloadN (q := 27) at_26 rfl rfl ?_
  refine X.lload (q := 29) at_27 rfl rfl ?_
  refine X.iload (q := 31) at_29 rfl rfl ?_
  refine X.iload (q := 33) at_31 rfl rfl ?_
  refine X.iconst (q := 34) (0 : Int32) at_33 (by decide) rfl ?_
  refine X.callS (own_exp l Z a0 hw h n0 w0 v x y 0 f w 0 hx hy rfl (by omega) hw1 hw2 (by decide)) (hw _ (List.mem_of_getElem? (i := 4) rfl)) (hw _ (List.mem_of_getElem? (i := 5) rfl)) (hw _ (List.mem_of_getElem? (i := 2) rfl)) (hw _ (List.mem_of_getElem? (i := 6) rfl)) (by decide) own_pd4 (argsL := [(.long w0), (.long v), (.int x), (.int y), (.int (0 : Int32))]) (rest := []) rfl rfl rfl (W := 0) (Nat.le_of_eq rfl) rfl (by decide) (by decide) (k' := 0) (n' := 0) rfl rfl (by decide) (by decide) at_34 (q := 37) rfl ?_
  rintro _ _ ⟨e0v, rfl, he0v, rfl⟩
  show X.G h 0 0 37 #[.val (.long w0), .second, .val (.long w1), .second, .val (.long w2), .second, .val (.int x3), .val (.int x4), .val (.long x5), .second, .val (.int x), .val (.int y), .val (.long v), .second, .unset, .unset, .unset, .unset, .unset, .unset, .unset] [(.long e0v)]
  refine X.lstore (q := 39) (Ls' := #[.val (.long w0), .second, .val (.long w1), .second, .val (.long w2), .second, .val (.int x3), .val (.int x4), .val (.long x5), .second, .val (.int x), .val (.int y), .val (.long v), .second, .val (.long e0v), .second, .unset, .unset, .unset, .unset, .unset]) at_37 rfl rfl ?_
  refine X.lloadN (q := 40) at_39 rfl rfl ?_
  refine X.lload (q := 42) at_40 rfl rfl ?_
  refine X.iload (q := 44) at_42 rfl rfl ?_
  refine X.iload (q := 46) at_44 rfl rfl ?_
  refine X.iconst (q := 47) (1 : Int32) at_46 (by decide) rfl ?_
  refine X.callS (own_exp l Z a0 hw h n0 w1 v x y 1 f w 1 hx hy rfl (by omega) hw1 hw2 (by decide)) (hw _ (List.mem_of_getElem? (i := 4) rfl)) (hw _ (List.mem_of_getElem? (i := 5) rfl)) (hw _ (List.mem_of_getElem? (i := 2) rfl)) (hw _ (List.mem_of_getElem? (i := 6) rfl)) (by decide) own_pd4 (argsL := [(.long w1), (.long v), (.int x), (.int y), (.int (1 : Int32))]) (rest := []) rfl rfl rfl (W := 0) (Nat.le_of_eq rfl) rfl (by decide) (by decide) (k' := 0) (n' := 0) rfl rfl (by decide) (by decide) at_47 (q := 50) rfl ?_
  rintro _ _ ⟨e1v, rfl, he1v, rfl⟩
  show X.G h 0 0 50 #[.val (.long w0), .second, .val (.long w1), .second, .val (.long w2), .second, .val (.int x3), .val (.int x4), .val (.long x5), .second, .val (.int x), .val (.int y), .val (.long v), .second, .val (.long e0v), .second, .unset, .unset, .unset, .unset, .unset] [(.long e1v)]
  refine X.lstore (q := 52) (Ls' := #[.val (.long w0), .second, .val (.long w1), .second, .val (.long w2), .second, .val (.int x3), .val (.int x4), .val (.long x5), .second, .val (.int x), .val (.int y), .val (.long v), .second, .val (.long e0v), .second, .val (.long e1v), .second, .unset, .unset, .unset]) at_50 rfl rfl ?_
  refine X.lload (q := 54) at_52 rfl rfl ?_
  refine X.lload (q := 56) at_54 rfl rfl ?_
  refine X.iload (q := 58) at_56 rfl rfl ?_
  refine X.iload (q := 60) at_58 rfl rfl ?_
  refine X.iconst (q := 61) (2 : Int32) at_60 (by decide) rfl ?_
  refine X.callS (own_exp l Z a0 hw h n0 w2 v x y 2 f w 2 hx hy rfl (by omega) hw1 hw2 (by decide)) (hw _ (List.mem_of_getElem? (i := 4) rfl)) (hw _ (List.mem_of_getElem? (i := 5) rfl)) (hw _ (List.mem_of_getElem? (i := 2) rfl)) (hw _ (List.mem_of_getElem? (i := 6) rfl)) (by decide) own_pd4 (argsL := [(.long w2), (.long v), (.int x), (.int y), (.int (2 : Int32))]) (rest := []) rfl rfl rfl (W := 0) (Nat.le_of_eq rfl) rfl (by decide) (by decide) (k' := 0) (n' := 0) rfl rfl (by decide) (by decide) at_61 (q := 64) rfl ?_
  rintro _ _ ⟨e2v, rfl, he2v, rfl⟩
  show X.G h 0 0 64 #[.val (.long w0), .second, .val (.long w1), .second, .val (.long w2), .second, .val (.int x3), .val (.int x4), .val (.long x5), .second, .val (.int x), .val (.int y), .val (.long v), .second, .val (.long e0v), .second, .val (.long e1v), .second, .unset, .unset, .unset] [(.long e2v)]
  refine X.lstore (q := 66) (Ls' := #[.val (.long w0), .second, .val (.long w1), .second, .val (.long w2), .second, .val (.int x3), .val (.int x4), .val (.long x5), .second, .val (.int x), .val (.int y), .val (.long v), .second, .val (.long e0v), .second, .val (.long e1v), .second, .val (.long e2v), .second, .unset]) at_64 rfl rfl ?_
  refine X.iconst (q := 67) (3 : Int32) at_66 (by decide) rfl ?_
  refine X.newP (q := 69) (ty := .long) (N := 3) (cap := 3) (k' := 1) (n' := 3) (hw _ (List.mem_of_getElem? (i := 21) rfl)) at_67 rfl rfl (Nat.le_refl _) (by decide) rfl rfl (by decide) (by decide) rfl (fun h1 a2 ga2 Eh1 Aa2 => ?_)
  have gea2 : n0 ≤ a2 := by rw [ga2]; exact hn0
  have hsh1 : n0 ≤ h1.size := Nat.le_trans hn0 Eh1.1
  have Aa2 : OwA Z h1 a2 .long [(.long (0 : Int64)), (.long (0 : Int64)), (.long (0 : Int64))] := Aa2
  refine X.dup (q := 70) at_69 rfl rfl ?_
  refine X.iconst (q := 71) (0 : Int32) at_70 (by decide) rfl ?_
  refine X.lloadN (q := 72) at_71 rfl rfl ?_
  refine X.lastore (q := 73) (j := 0) Aa2 rfl (by simp) gea2 at_72 rfl (fun h3 Wh3 Ah3 => ?_)
  have hsh3 : n0 ≤ h3.size := by rw [Wr.size Wh3]; exact hsh1
  have Ah3_ : OwA Z h3 a2 .long [(.long w0), (.long (0 : Int64)), (.long (0 : Int64))] := Ah3
  refine X.dup (q := 74) at_73 rfl rfl ?_
  refine X.iconst (q := 75) (1 : Int32) at_74 (by decide) rfl ?_
  refine X.lloadN (q := 76) at_75 rfl rfl ?_
  refine X.lastore (q := 77) (j := 1) Ah3_ rfl (by simp) gea2 at_76 rfl (fun h4 Wh4 Ah4 => ?_)
  have hsh4 : n0 ≤ h4.size := by rw [Wr.size Wh4]; exact hsh3
  have Ah4_ : OwA Z h4 a2 .long [(.long w0), (.long w1), (.long (0 : Int64))] := Ah4
  refine X.dup (q := 78) at_77 rfl rfl ?_
  refine X.iconst (q := 79) (2 : Int32) at_78 (by decide) rfl ?_
  refine X.lload (q := 81) at_79 rfl rfl ?_
  refine X.lastore (q := 82) (j := 2) Ah4_ rfl (by simp) gea2 at_81 rfl (fun h5 Wh5 Ah5 => ?_)
  have hsh5 : n0 ≤ h5.size := by rw [Wr.size Wh5]; exact hsh4
  have Ah5_ : OwA Z h5 a2 .long [(.long w0), (.long w1), (.long w2)] := Ah5
  refine X.astore (q := 84) (Ls' := #[.val (.long w0), .second, .val (.long w1), .second, .val (.long w2), .second, .val (.int x3), .val (.int x4), .val (.long x5), .second, .val (.int x), .val (.int y), .val (.long v), .second, .val (.long e0v), .second, .val (.long e1v), .second, .val (.long e2v), .second, .val (.ref a2)]) at_82 rfl rfl rfl ?_
  refine X.aload (q := 86) at_84 rfl rfl rfl ?_
  refine X.iload (q := 88) at_86 rfl rfl ?_
  refine X.i2l (q := 89) at_88 rfl ?_
  refine X.iload (q := 91) at_89 rfl rfl ?_
  refine X.lload (q := 93) at_91 rfl rfl ?_
  refine X.callS (own_set l Z a0 hw h5 n0 a2 w0 w1 w2 x.toInt64 y v f w (by rw [Int32.toInt_toInt64]; exact hx) hy (by omega) hw1 hw2 hvz hsh5 Ah5_ gea2) (hw _ (List.mem_of_getElem? (i := 22) rfl)) (hw _ (List.mem_of_getElem? (i := 23) rfl)) (hw _ (List.mem_of_getElem? (i := 24) rfl)) (hw _ (List.mem_of_getElem? (i := 25) rfl)) (by decide) own_pd5 (argsL := [(.ref a2), (.long x.toInt64), (.int y), (.long v)]) (rest := []) rfl rfl rfl (W := 0) (Nat.le_of_eq rfl) rfl (by decide) (by decide) (k' := 1) (n' := 3) rfl rfl (by decide) (by decide) at_93 (q := 96) rfl ?_
  rintro _ h6 ⟨u0, u1, u2, rfl, Kh6c, GA, hu0, hu1, hu2⟩
  have hsh6 : n0 ≤ h6.size := Nat.le_trans hsh5 Kh6c.1
  show X.G h6 1 3 96 #[.val (.long w0), .second, .val (.long w1), .second, .val (.long w2), .second, .val (.int x3), .val (.int x4), .val (.long x5), .second, .val (.int x), .val (.int y), .val (.long v), .second, .val (.long e0v), .second, .val (.long e1v), .second, .val (.long e2v), .second, .val (.ref a2)] []
  have heq0 : u0.toInt = e0v.toInt := congrArg Int64.toInt (own_ext _ _ fun i q => (hu0 i q).trans (he0v i q).symm)
  have heq1 : u1.toInt = e1v.toInt := congrArg Int64.toInt (own_ext _ _ fun i q => (hu1 i q).trans (he1v i q).symm)
  have heq2 : u2.toInt = e2v.toInt := congrArg Int64.toInt (own_ext _ _ fun i q => (hu2 i q).trans (he2v i q).symm)
  refine X.aload (q := 98) at_96 rfl rfl rfl ?_
  refine X.alen (q := 99) (z := (3 : Int32)) GA rfl at_98 rfl ?_
  refine X.iconst (q := 100) (3 : Int32) at_99 (by decide) rfl ?_
  refine X.icmp_ne (a := 3) (b := 3) (q' := 137) (q := 103) at_100 rfl rfl (by decide) rfl (fun c100 => ?_) (fun c100 => ?_)
  · omega
  · refine X.aload (q := 105) at_103 rfl rfl rfl ?_
    refine X.iconst (q := 106) (0 : Int32) at_105 (by decide) rfl ?_
    refine X.laload (q := 107) (j := 0) (v := (.long u0)) GA rfl rfl at_106 rfl ?_
    refine X.lload (q := 109) at_107 rfl rfl ?_
    refine X.lcmp_ne (q1 := 110) (q' := 137) (q := 113) at_109 rfl at_110 rfl rfl (by decide) rfl (fun c109 => ?_) (fun c109 => ?_)
    · omega
    · refine X.aload (q := 115) at_113 rfl rfl rfl ?_
      refine X.iconst (q := 116) (1 : Int32) at_115 (by decide) rfl ?_
      refine X.laload (q := 117) (j := 1) (v := (.long u1)) GA rfl rfl at_116 rfl ?_
      refine X.lload (q := 119) at_117 rfl rfl ?_
      refine X.lcmp_ne (q1 := 120) (q' := 137) (q := 123) at_119 rfl at_120 rfl rfl (by decide) rfl (fun c119 => ?_) (fun c119 => ?_)
      · omega
      · refine X.aload (q := 125) at_123 rfl rfl rfl ?_
        refine X.iconst (q := 126) (2 : Int32) at_125 (by decide) rfl ?_
        refine X.laload (q := 127) (j := 2) (v := (.long u2)) GA rfl rfl at_126 rfl ?_
        refine X.lload (q := 129) at_127 rfl rfl ?_
        refine X.lcmp_ne (q1 := 130) (q' := 137) (q := 133) at_129 rfl at_130 rfl rfl (by decide) rfl (fun c129 => ?_) (fun c129 => ?_)
        · omega
        · refine X.iconst (q := 134) (1 : Int32) at_133 (by decide) rfl ?_
          refine X.goto (q' := 138) at_134 (by decide) ?_
          refine X.retN (t := .boolean) (z' := (1 : Int32)) at_138 rfl (by simp) (by decide) (by decide) (by decide) ?_
          rfl
set_option maxRecDepth 65536 in
set_option maxHeartbeats 1000000 in
theorem comes_1 {Post : Tables → Env → Array Value → State → Outcome → State → Prop} (hpost : ∀ tb e args s v u, (limb_1_1.after args s (.returned v) u = true ∧ limb_1_2.after args s (.returned v) u = true ∧ True) → FrameEnd s (.returned v) u (Jvm.fieldLocs frame_1_writes args s ++ Jvm.arrayLocs frame_1_arrays args s ++ Jvm.staticLocs frame_1_statics s) 16 128 → Post tb e args s (.returned v) u) :
    ArmFor flags0 classFile x code maxLocals ret World_1 tables_1 room_1 Calls_1 rest_1 Pre_1 Post := by
  intro l hfl _ _ p e ha hc hk s m args below hf hA hF happ hP
  obtain ⟨hcalls, hrest, hpre⟩ := hP
  obtain ⟨-, -, -, hnamed, -, -, -, hat⟩ := (Spec.applies_iff hf).mp happ
  obtain ⟨hg, hn⟩ := and_e (Cond.before_iff.mp (show (Jvm.Cond.and given_1 narrow_1).before args s = true from hpre))
  obtain ⟨hg0, hg⟩ := and_e hg
  obtain ⟨w0, w1, w2, w3, w4, w5, rfl⟩ : ∃ w0 w1 w2 w3 w4 w5 : Value, args = #[w0, w1, w2, w3, w4, w5] := by
    have hs : args.size = 6 := by simpa [Cond.value, given_1] using hg0
    obtain ⟨L⟩ := args
    match L, hs with
    | [w0, w1, w2, w3, w4, w5], _ => exact ⟨w0, w1, w2, w3, w4, w5, rfl⟩
  have hw := fun d (hd : d ∈ tables_1) => atoms_spec (ws := Jvm.Cond.code x code maxLocals ret :: tables_1) hat d (List.mem_cons_of_mem _ hd)
  obtain ⟨ha0, hg⟩ := and_e hg
  obtain ⟨i0, e0⟩ := isL_v ha0
  obtain rfl : w0 = (.long i0) := Option.some.inj e0
  obtain ⟨ha1, hg⟩ := and_e hg
  obtain ⟨i1, e1⟩ := isL_v ha1
  obtain rfl : w1 = (.long i1) := Option.some.inj e1
  obtain ⟨ha2, hg⟩ := and_e hg
  obtain ⟨i2, e2⟩ := isL_v ha2
  obtain rfl : w2 = (.long i2) := Option.some.inj e2
  obtain ⟨ha3, hg⟩ := and_e hg
  obtain ⟨i3, e3⟩ := is_v ha3
  obtain rfl : w3 = (.int i3) := Option.some.inj e3
  obtain ⟨ha4, hg⟩ := and_e hg
  obtain ⟨i4, e4⟩ := is_v ha4
  obtain rfl : w4 = (.int i4) := Option.some.inj e4
  have ha5 := hg
  obtain ⟨i5, e5⟩ := isL_v ha5
  obtain rfl : w5 = (.long i5) := Option.some.inj e5
  obtain ⟨n, o, h1, h2, h3, _, L, rfl, ⟨rfl, N⟩, hq⟩ := own_law l s _ hw s.heap s.heap.size (Nat.le_refl _) i0 i1 i2 i3 i4 i5 p e ha hc hk s m _ below hf ((Spec.applies_iff_loose hf).mp happ).1 ⟨rfl, State.Warmed39.refl s, rfl⟩ trivial
  refine ⟨n, _, h1, h2, h3, hpost _ _ _ _ _ _ ⟨Cond.after_iff.mpr rfl, Cond.after_iff.mpr (eq_i res_at (Term.int_eval (1)) rfl), trivial⟩ ⟨hq.1, hq.2.1, (hq.2.2.sift fun y hy => Or.inr (N y hy)).mono (by decide) (by decide)⟩⟩
theorem main_1_1 : Claimed_1_1 := comes_1 fun _ _ _ _ _ _ h hF => ⟨h.1, hF⟩
theorem main_1_2 : Claimed_1_2 := comes_1 fun _ _ _ _ _ _ h hF => ⟨h.2.1, hF⟩
end Jvm.Pilot.@@N@@
namespace Jvm.Pilot.@@N@@
open Jvm Jvm.ClassFile Sem Op Lib Jvm.Free Jvm.Stand Jvm.Pilot.@@N@@.Jvm.D
/-! MADE BY PROGRAM (witnessworld.py) out of the Statement's table words and the real class files: 12 classes; the members and pool entries that the words name. The judged class is class 1, her method 5. -/
namespace start1
open Jvm.ClassFile
def u (s : String) : CpInfo := .utf8 (stringToUtf16 s)
/-- a pool by its gaps: so many unusable entries, then the entry; so many at the end -/
def gap : Nat → List CpInfo → List CpInfo
  | 0, r => r
  | n + 1, r => .unusable :: gap n r
def poolList (es : List (Nat × CpInfo)) (last : Nat) : List CpInfo := es.foldr (fun e r => gap e.1 (e.2 :: r)) (gap last [])
def pool (es : List (Nat × CpInfo)) (last : Nat) : Array CpInfo := ⟨poolList es last⟩
def fileOf (pool : Array CpInfo) (this : Nat) (attrs : Array Attribute := #[]) (ms : Array MethodInfo := #[]) (fl : Nat := 33) (sup : Nat := 0) (ifs : Array Nat := #[]) (fds : Array FieldInfo := #[]) : ClassFile where
  minorVersion := 0
  majorVersion := 65
  constantPool := pool
  accessFlags := fl
  thisClass := this
  superClass := sup
  interfaces := ifs
  fields := fds
  methods := ms
  attributes := attrs
def plain (name : String) (sup : Option ClassId) : Class where
  name := name
  kind := .ordinary
  loader := none
  accessFlags := 33
  super := sup
  interfaces := #[]
  cf := none
  fields := #[]
  methods := #[]
  instanceTypes := #[]
  staticTypes := #[]
  resolved := #[]
  callSites := []
  init := .initialized
  statics := none
  mirror := none

def pool0 : Array CpInfo := pool [(5, u "<init>"), (0, u "()V"), (1, .class_ 10), (1, u "java/lang/Object")] 113

def k0m0 : Method := { name := "<init>", desc := "()V", sig := { parameters := [], returnType := none }, accessFlags := 1, code := none }
/-- java/lang/Object -/
def k0 : Class := { plain "java/lang/Object" none with
  accessFlags := 33
  interfaces := #[]
  cf := some (fileOf pool0 8 #[] #[{ accessFlags := 1, nameIndex := 5, descriptorIndex := 6, attributes := #[] }] 33 0 #[] #[])
  fields := #[]
  methods := #[k0m0]
  instanceTypes := #[]
  staticTypes := #[]
  resolved := Array.replicate 124 none
  statics := none }

def pool1 : Array CpInfo := pool [(2, .class_ 4), (1, u "java/lang/Object"), (0, u "<init>"), (0, u "()V"), (0, .long 18446744073709551615), (1, .methodref 10 11), (0, .class_ 12), (0, .nameAndType 13 14), (0, u "java/lang/Math"), (0, u "min"), (0, u "(II)I"), (0, .methodref 10 16), (0, .nameAndType 17 14), (0, u "max"), (0, .methodref 19 20), (0, .class_ 21), (0, .nameAndType 22 23), (0, u "com/example/boann/boann/sketches/PackedBitsSetFieldPinLaw"), (0, u "clamp"), (0, u "(I)I"), (0, .methodref 19 25), (0, .nameAndType 26 27), (0, u "lowMask"), (0, u "(I)J"), (0, .methodref 19 29), (0, .nameAndType 30 31), (0, u "shiftTo"), (0, u "(JI)J"), (0, .methodref 19 33), (0, .nameAndType 34 35), (0, u "expected"), (0, u "(JJIII)J"), (0, .methodref 37 38), (0, .class_ 39), (0, .nameAndType 40 41), (0, u "com/example/boann/boann/sketches/PackedBits"), (0, u "setField"), (0, u "([JJIJ)V"), (3, u "law"), (0, u "(JJJIIJ)Z")] 4

def k1m0 : Method := { name := "<init>", desc := "()V", sig := { parameters := [], returnType := none }, accessFlags := 2, code := none }
def k1c1 : Code := { maxStack := 4, maxLocals := 1, code := method_2_code, exceptionTable := #[], attributes := #[] }
def k1m1 : Method := { name := "lowMask", desc := "(I)J", sig := { parameters := [.int], returnType := some .long }, accessFlags := 10, code := some k1c1 }
def k1c2 : Code := { maxStack := 3, maxLocals := 1, code := method_3_code, exceptionTable := #[], attributes := #[] }
def k1m2 : Method := { name := "clamp", desc := "(I)I", sig := { parameters := [.int], returnType := some .int }, accessFlags := 10, code := some k1c2 }
def k1c3 : Code := { maxStack := 3, maxLocals := 3, code := method_4_code, exceptionTable := #[], attributes := #[] }
def k1m3 : Method := { name := "shiftTo", desc := "(JI)J", sig := { parameters := [.long, .int], returnType := some .long }, accessFlags := 10, code := some k1c3 }
def k1c4 : Code := { maxStack := 6, maxLocals := 11, code := method_5_code, exceptionTable := #[], attributes := #[] }
def k1m4 : Method := { name := "expected", desc := "(JJIII)J", sig := { parameters := [.long, .long, .int, .int, .int], returnType := some .long }, accessFlags := 10, code := some k1c4 }
def k1c5 : Code := { maxStack := 7, maxLocals := 21, code := code, exceptionTable := #[], attributes := #[] }
def k1m5 : Method := { name := "law", desc := "(JJJIIJ)Z", sig := { parameters := [.long, .long, .long, .int, .int, .long], returnType := some .boolean }, accessFlags := 9, code := some k1c5 }
/-- com/example/boann/boann/sketches/PackedBitsSetFieldPinLaw -/
def k1 : Class := { plain "com/example/boann/boann/sketches/PackedBitsSetFieldPinLaw" (some 0) with
  accessFlags := 49
  interfaces := #[]
  cf := some (fileOf pool1 19 #[] #[{ accessFlags := 2, nameIndex := 5, descriptorIndex := 6, attributes := #[] }, { accessFlags := 10, nameIndex := 26, descriptorIndex := 27, attributes := #[] }, { accessFlags := 10, nameIndex := 22, descriptorIndex := 23, attributes := #[] }, { accessFlags := 10, nameIndex := 30, descriptorIndex := 31, attributes := #[] }, { accessFlags := 10, nameIndex := 34, descriptorIndex := 35, attributes := #[] }, { accessFlags := 9, nameIndex := 45, descriptorIndex := 46, attributes := #[] }] 49 2 #[] #[])
  fields := #[]
  methods := #[k1m0, k1m1, k1m2, k1m3, k1m4, k1m5]
  instanceTypes := #[]
  staticTypes := #[]
  resolved := Array.replicate 51 none
  statics := none }

def pool2 : Array CpInfo := pool [(1, .class_ 2), (0, u "java/lang/Math"), (1, .class_ 6), (1, u "java/lang/Object"), (0, u "<init>"), (0, u "()V"), (89, .class_ 100), (1, u "java/lang/Math$RandomNumberGeneratorHolder"), (71, u "negativeZeroFloatBits"), (0, u "J"), (2, u "negativeZeroDoubleBits"), (21, u "max"), (2, u "min"), (43, u "$assertionsDisabled"), (0, u "Z"), (88, u "(II)I"), (2, u "twoToTheDoubleScaleDown"), (0, u "D"), (4, u "twoToTheDoubleScaleUp"), (9, u "E"), (3, u "PI"), (2, u "TAU"), (2, u "DEGREES_TO_RADIANS"), (0, u "RADIANS_TO_DEGREES")] 94

def k2m0 : Method := { name := "<init>", desc := "()V", sig := { parameters := [], returnType := none }, accessFlags := 2, code := none }
def k2c1 : Code := { maxStack := 2, maxLocals := 2, code := jdk_29_method_65_code, exceptionTable := #[], attributes := #[] }
def k2m1 : Method := { name := "max", desc := "(II)I", sig := { parameters := [.int, .int], returnType := some .int }, accessFlags := 9, code := some k2c1 }
def k2c2 : Code := { maxStack := 2, maxLocals := 2, code := jdk_29_method_69_code, exceptionTable := #[], attributes := #[] }
def k2m2 : Method := { name := "min", desc := "(II)I", sig := { parameters := [.int, .int], returnType := some .int }, accessFlags := 9, code := some k2c2 }
/-- java/lang/Math -/
def k2 : Class := { plain "java/lang/Math" (some 0) with
  accessFlags := 49
  interfaces := #[]
  cf := some (fileOf pool2 1 #[.nestMembers #[98]] #[{ accessFlags := 2, nameIndex := 7, descriptorIndex := 8, attributes := #[] }, { accessFlags := 9, nameIndex := 198, descriptorIndex := 335, attributes := #[] }, { accessFlags := 9, nameIndex := 201, descriptorIndex := 335, attributes := #[] }] 49 4 #[] #[{ accessFlags := 25, nameIndex := 354, descriptorIndex := 339, attributes := #[] }, { accessFlags := 25, nameIndex := 358, descriptorIndex := 339, attributes := #[] }, { accessFlags := 25, nameIndex := 361, descriptorIndex := 339, attributes := #[] }, { accessFlags := 26, nameIndex := 364, descriptorIndex := 339, attributes := #[] }, { accessFlags := 26, nameIndex := 365, descriptorIndex := 339, attributes := #[] }, { accessFlags := 26, nameIndex := 172, descriptorIndex := 173, attributes := #[] }, { accessFlags := 26, nameIndex := 176, descriptorIndex := 173, attributes := #[] }, { accessFlags := 8, nameIndex := 344, descriptorIndex := 339, attributes := #[] }, { accessFlags := 8, nameIndex := 338, descriptorIndex := 339, attributes := #[] }, { accessFlags := 4120, nameIndex := 245, descriptorIndex := 246, attributes := #[] }])
  fields := #[{ name := "E", type := .double, accessFlags := 25, slot := 0, constantValue := 0 }, { name := "PI", type := .double, accessFlags := 25, slot := 1, constantValue := 0 }, { name := "TAU", type := .double, accessFlags := 25, slot := 2, constantValue := 0 }, { name := "DEGREES_TO_RADIANS", type := .double, accessFlags := 26, slot := 3, constantValue := 0 }, { name := "RADIANS_TO_DEGREES", type := .double, accessFlags := 26, slot := 4, constantValue := 0 }, { name := "negativeZeroFloatBits", type := .long, accessFlags := 26, slot := 5, constantValue := 0 }, { name := "negativeZeroDoubleBits", type := .long, accessFlags := 26, slot := 6, constantValue := 0 }, { name := "twoToTheDoubleScaleUp", type := .double, accessFlags := 8, slot := 7, constantValue := 0 }, { name := "twoToTheDoubleScaleDown", type := .double, accessFlags := 8, slot := 8, constantValue := 0 }, { name := "$assertionsDisabled", type := .boolean, accessFlags := 4120, slot := 9, constantValue := 0 }]
  methods := #[k2m0, k2m1, k2m2]
  instanceTypes := #[]
  staticTypes := #[.double, .double, .double, .double, .double, .long, .long, .double, .double, .boolean]
  resolved := Array.replicate 460 none
  statics := none }

def pool3 : Array CpInfo := pool [(2, .class_ 4), (1, u "java/lang/Object"), (0, u "<init>"), (0, u "()V"), (8, .long 18446744073709551615), (33, .class_ 50), (0, u "com/example/boann/boann/sketches/PackedBits"), (9, u "setField"), (0, u "([JJIJ)V")] 7

def k3m0 : Method := { name := "<init>", desc := "()V", sig := { parameters := [], returnType := none }, accessFlags := 2, code := none }
def k3c1 : Code := { maxStack := 8, maxLocals := 11, code := prog_50_method_5_code, exceptionTable := #[], attributes := #[] }
def k3m1 : Method := { name := "setField", desc := "([JJIJ)V", sig := { parameters := [(.array .long), .long, .int, .long], returnType := none }, accessFlags := 8, code := some k3c1 }
/-- com/example/boann/boann/sketches/PackedBits -/
def k3 : Class := { plain "com/example/boann/boann/sketches/PackedBits" (some 0) with
  accessFlags := 48
  interfaces := #[]
  cf := some (fileOf pool3 49 #[] #[{ accessFlags := 2, nameIndex := 5, descriptorIndex := 6, attributes := #[] }, { accessFlags := 8, nameIndex := 60, descriptorIndex := 61, attributes := #[] }] 48 2 #[] #[])
  fields := #[]
  methods := #[k3m0, k3m1]
  instanceTypes := #[]
  staticTypes := #[]
  resolved := Array.replicate 69 none
  statics := none }

def pool4 : Array CpInfo := pool [(1, u "java/lang/Cloneable"), (0, .class_ 1), (0, u "java/lang/Object"), (0, .class_ 3)] 3

/-- java/lang/Cloneable -/
def k4 : Class := { plain "java/lang/Cloneable" (some 0) with
  accessFlags := 1537
  interfaces := #[]
  cf := some (fileOf pool4 2 #[] #[] 1537 4 #[] #[])
  fields := #[]
  methods := #[]
  instanceTypes := #[]
  staticTypes := #[]
  resolved := Array.replicate 8 none
  statics := none }

def pool5 : Array CpInfo := pool [(1, u "java/io/Serializable"), (0, .class_ 1), (0, u "java/lang/Object"), (0, .class_ 3)] 3

/-- java/io/Serializable -/
def k5 : Class := { plain "java/io/Serializable" (some 0) with
  accessFlags := 1537
  interfaces := #[]
  cf := some (fileOf pool5 2 #[] #[] 1537 4 #[] #[])
  fields := #[]
  methods := #[]
  instanceTypes := #[]
  staticTypes := #[]
  resolved := Array.replicate 8 none
  statics := none }

/-- the primitive byte -/
def k6 : Class := { plain "byte" none with kind := .primitive 'B', accessFlags := 0x411 }
/-- [B -/
def k7 : Class := { plain "[B" (some 0) with kind := .array 6 .byte, interfaces := #[4, 5], accessFlags := 1041 }

/-- the primitive int -/
def k8 : Class := { plain "int" none with kind := .primitive 'I', accessFlags := 0x411 }
/-- [I -/
def k9 : Class := { plain "[I" (some 0) with kind := .array 8 .int, interfaces := #[4, 5], accessFlags := 1041 }

/-- the primitive long -/
def k10 : Class := { plain "long" none with kind := .primitive 'J', accessFlags := 0x411 }
/-- [J -/
def k11 : Class := { plain "[J" (some 0) with kind := .array 10 .long, interfaces := #[4, 5], accessFlags := 1041 }

def heap : Heap := #[]
def classes : Array Class := #[k0, k1, k2, k3, k4, k5, k6, k7, k8, k9, k10, k11]
def interned : List (Array UInt16 × Addr) := []
def slotsUsed : Nat := 0
def theMethod : MethodId := ⟨1, 5⟩
def args0 : Array Value := #[.long 5, .long 6, .long 7, .int 1, .int 2, .long 9]
def aboutOver (below : List Frame) : State where
  vm := { classes := classes, interned := interned.toArray }
  heap := heap
  slotsUsed := slotsUsed
  threads := #[{ frames := .invoking theMethod args0 :: below }]
def below0 : List Frame := [.native { method := ⟨0, 0⟩, args := #[] }]
def about1 : State := aboutOver below0
def p0 : Program := .bare "" "" ""
def e0 : Env := launch0.env 0 0 0
theorem w_frames : about1.frames = Frame.invoking theMethod args0 :: below0 := rfl
set_option maxRecDepth 65536 in
theorem w_args : argsFit about1.vm theMethod args0 = true := by decide +kernel
set_option maxRecDepth 65536 in
theorem w_heap : heapFits about1 = true := by decide +kernel
set_option maxRecDepth 65536 in
theorem w_runnable : about1.curStatus? = some .runnable := by decide +kernel
set_option maxRecDepth 65536 in
theorem w_alone : about1.alone = true := by decide +kernel
set_option maxRecDepth 65536 in
theorem w_named : about1.methodNamed? x = some theMethod := by decide +kernel
set_option maxRecDepth 65536 in
theorem w_hears : about1.hears theMethod below0 = true := by decide +kernel
set_option maxRecDepth 65536 in
theorem w_ripe : about1.ripe theMethod args0 below0 = true := by decide +kernel
theorem w_running : about1.status = .running := rfl
set_option maxRecDepth 65536 in
theorem w_room : about1.hasRoom e0.platform room_1 = true :=
  launch0.hasRoom_least _ room_1 (by decide +kernel) (by decide +kernel) (by decide +kernel) (by decide +kernel) (by decide +kernel) (by decide +kernel)
theorem allAtoms_all (ts : List Jvm.Cond) (a : Array Jvm.Value) (st : Jvm.State) : (allAtoms ts).before a st = ts.all (fun c => c.before a st) := by
  induction ts with
  | nil => rfl
  | cons c t ih =>
    show (Jvm.Cond.and c (allAtoms t)).before a st = _
    rw [Jvm.Cond.before_and, ih, List.all_cons]
def words1 : List Jvm.Cond := Jvm.Cond.code x code maxLocals ret :: tables_1
/-- a 'code' word, met by the world's own term for the bytes: nothing is compared byte by byte -/
theorem code_word {y : MethodName} {bytes : ByteArray} {mx : Nat} {rt : Option FieldType} {a : Array Value} {s : State} {m : MethodId} {meth : Method} {c : Code} (h1 : s.methodNamed? y = some m) (h2 : s.vm.method? m = some meth) (h3 : meth.code = some c) (h4 : c.code = bytes)
    (h5 : (c.maxLocals == mx && c.exceptionTable.isEmpty && decide (c.maxStack ≤ mostOperands) && decide (meth.sig.returnType = rt) && !meth.locks && decide (parseMethodDescriptor y.desc = some meth.sig)) = true) : (Jvm.Cond.code y bytes mx rt).before a s = true := by
  simp only [Bool.and_eq_true, beq_iff_eq, Bool.not_eq_true', decide_eq_true_eq] at h5
  obtain ⟨⟨⟨⟨⟨g1, g2⟩, g3⟩, g4⟩, g5⟩, g6⟩ := h5
  simp [Cond.before, Cond.holds, Cond.value, h1, h2, h3, h4, g1, g2, g3, g4, g5, g6]
def isCode : Jvm.Cond → Bool
  | .code _ _ _ _ => true
  | _ => false
theorem all_split {L : List Jvm.Cond} {P : Jvm.Cond → Bool} (h1 : L.all (fun c => isCode c || P c) = true) (h2 : ∀ c ∈ L.filter isCode, P c = true) : L.all P = true := by
  refine List.all_eq_true.mpr fun c hc => ?_
  have h := List.all_eq_true.mp h1 c hc
  rcases Bool.eq_false_or_eq_true (isCode c) with hi | hi
  · exact h2 c (List.mem_filter.mpr ⟨hc, hi⟩)
  · simpa [hi] using h
set_option maxRecDepth 65536 in
theorem w_c0 : (Jvm.Cond.code x code maxLocals ret).before args0 about1 = true := code_word (m := ⟨1, 5⟩) (meth := k1m5) (c := k1c5) (by decide +kernel) rfl rfl rfl (by decide +kernel)
set_option maxRecDepth 65536 in
theorem w_c1 : (Jvm.Cond.code ({ cls := "com/example/boann/boann/sketches/PackedBitsSetFieldPinLaw", name := "lowMask", desc := "(I)J" } : Jvm.MethodName) method_2_code (1 : Nat) (Option.some Jvm.ClassFile.FieldType.long)).before args0 about1 = true := code_word (m := ⟨1, 1⟩) (meth := k1m1) (c := k1c1) (by decide +kernel) rfl rfl rfl (by decide +kernel)
set_option maxRecDepth 65536 in
theorem w_c2 : (Jvm.Cond.code ({ cls := "com/example/boann/boann/sketches/PackedBitsSetFieldPinLaw", name := "expected", desc := "(JJIII)J" } : Jvm.MethodName) method_5_code (11 : Nat) (Option.some Jvm.ClassFile.FieldType.long)).before args0 about1 = true := code_word (m := ⟨1, 4⟩) (meth := k1m4) (c := k1c4) (by decide +kernel) rfl rfl rfl (by decide +kernel)
set_option maxRecDepth 65536 in
theorem w_c3 : (Jvm.Cond.code ({ cls := "com/example/boann/boann/sketches/PackedBitsSetFieldPinLaw", name := "clamp", desc := "(I)I" } : Jvm.MethodName) method_3_code (1 : Nat) (Option.some Jvm.ClassFile.FieldType.int)).before args0 about1 = true := code_word (m := ⟨1, 2⟩) (meth := k1m2) (c := k1c2) (by decide +kernel) rfl rfl rfl (by decide +kernel)
set_option maxRecDepth 65536 in
theorem w_c4 : (Jvm.Cond.code ({ cls := "java/lang/Math", name := "min", desc := "(II)I" } : Jvm.MethodName) jdk_29_method_69_code (2 : Nat) (Option.some Jvm.ClassFile.FieldType.int)).before args0 about1 = true := code_word (m := ⟨2, 2⟩) (meth := k2m2) (c := k2c2) (by decide +kernel) rfl rfl rfl (by decide +kernel)
set_option maxRecDepth 65536 in
theorem w_c5 : (Jvm.Cond.code ({ cls := "java/lang/Math", name := "max", desc := "(II)I" } : Jvm.MethodName) jdk_29_method_65_code (2 : Nat) (Option.some Jvm.ClassFile.FieldType.int)).before args0 about1 = true := code_word (m := ⟨2, 1⟩) (meth := k2m1) (c := k2c1) (by decide +kernel) rfl rfl rfl (by decide +kernel)
set_option maxRecDepth 65536 in
theorem w_c6 : (Jvm.Cond.code ({ cls := "com/example/boann/boann/sketches/PackedBitsSetFieldPinLaw", name := "shiftTo", desc := "(JI)J" } : Jvm.MethodName) method_4_code (3 : Nat) (Option.some Jvm.ClassFile.FieldType.long)).before args0 about1 = true := code_word (m := ⟨1, 3⟩) (meth := k1m3) (c := k1c3) (by decide +kernel) rfl rfl rfl (by decide +kernel)
set_option maxRecDepth 65536 in
theorem w_c7 : (Jvm.Cond.code ({ cls := "com/example/boann/boann/sketches/PackedBits", name := "setField", desc := "([JJIJ)V" } : Jvm.MethodName) prog_50_method_5_code (11 : Nat) (Option.none : Option Jvm.ClassFile.FieldType)).before args0 about1 = true := code_word (m := ⟨3, 1⟩) (meth := k3m1) (c := k3c1) (by decide +kernel) rfl rfl rfl (by decide +kernel)
def codes1 : List Jvm.Cond := [Jvm.Cond.code x code maxLocals ret, Jvm.Cond.code ({ cls := "com/example/boann/boann/sketches/PackedBitsSetFieldPinLaw", name := "lowMask", desc := "(I)J" } : Jvm.MethodName) method_2_code (1 : Nat) (Option.some Jvm.ClassFile.FieldType.long), Jvm.Cond.code ({ cls := "com/example/boann/boann/sketches/PackedBitsSetFieldPinLaw", name := "expected", desc := "(JJIII)J" } : Jvm.MethodName) method_5_code (11 : Nat) (Option.some Jvm.ClassFile.FieldType.long), Jvm.Cond.code ({ cls := "com/example/boann/boann/sketches/PackedBitsSetFieldPinLaw", name := "clamp", desc := "(I)I" } : Jvm.MethodName) method_3_code (1 : Nat) (Option.some Jvm.ClassFile.FieldType.int), Jvm.Cond.code ({ cls := "java/lang/Math", name := "min", desc := "(II)I" } : Jvm.MethodName) jdk_29_method_69_code (2 : Nat) (Option.some Jvm.ClassFile.FieldType.int), Jvm.Cond.code ({ cls := "java/lang/Math", name := "max", desc := "(II)I" } : Jvm.MethodName) jdk_29_method_65_code (2 : Nat) (Option.some Jvm.ClassFile.FieldType.int), Jvm.Cond.code ({ cls := "com/example/boann/boann/sketches/PackedBitsSetFieldPinLaw", name := "shiftTo", desc := "(JI)J" } : Jvm.MethodName) method_4_code (3 : Nat) (Option.some Jvm.ClassFile.FieldType.long), Jvm.Cond.code ({ cls := "com/example/boann/boann/sketches/PackedBits", name := "setField", desc := "([JJIJ)V" } : Jvm.MethodName) prog_50_method_5_code (11 : Nat) (Option.none : Option Jvm.ClassFile.FieldType)]
set_option maxRecDepth 65536 in
theorem codes_eq : words1.filter isCode = codes1 := rfl
theorem w_codes : ∀ c ∈ words1.filter isCode, c.before args0 about1 = true := by
  rw [codes_eq]
  intro c hc
  simp only [codes1, List.mem_cons, List.not_mem_nil, or_false] at hc
  rcases hc with rfl | rfl | rfl | rfl | rfl | rfl | rfl | rfl
  · exact w_c0
  · exact w_c1
  · exact w_c2
  · exact w_c3
  · exact w_c4
  · exact w_c5
  · exact w_c6
  · exact w_c7
set_option maxRecDepth 65536 in
theorem w_t1 : (words1.take 24).all (fun c => isCode c || c.before args0 about1) = true := by decide +kernel
set_option maxRecDepth 65536 in
theorem w_t2 : (words1.drop 24).all (fun c => isCode c || c.before args0 about1) = true := by decide +kernel
theorem w_tables : (allAtoms (Jvm.Cond.code x code maxLocals ret :: tables_1)).before args0 about1 = true := by
  rw [allAtoms_all]
  show words1.all (fun c => c.before args0 about1) = true
  refine all_split ?_ w_codes
  rw [← List.take_append_drop 24 words1, List.all_append, w_t1, w_t2]
  rfl
set_option maxRecDepth 65536 in
theorem w_case : (Jvm.Cond.and given_1 narrow_1).before args0 about1 = true := by decide +kernel
theorem w_applies : (headSpec (Jvm.Cond.code x code maxLocals ret :: tables_1) room_1).applies x e0.platform about1 = true :=
  (Spec.applies_iff w_frames).mpr ⟨w_running, w_runnable, w_alone, w_named, w_hears, w_ripe, w_room, w_tables⟩
theorem atStart : AtStart classFile x code maxLocals ret World_1 tables_1 room_1 Calls_1 rest_1 Pre_1 launch0 p0 e0 about1 theMethod args0 below0 :=
  ⟨lists_1, trivial, launch0.admits_env _ _ _, launch0.least_env, fairChoices_fair.cas, fairChoices_fair.clock, w_frames, w_args, w_heap, w_applies, trivial, trivial, w_case⟩
end start1
theorem witness_1 : WitnessClaimed_1 := ⟨start1.p0, start1.e0, start1.about1, start1.theMethod, start1.args0, start1.below0, start1.atStart⟩
end Jvm.Pilot.@@N@@
