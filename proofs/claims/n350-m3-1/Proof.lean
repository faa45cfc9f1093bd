import JvmDerived
import JvmDerived.Pilot.@@N@@Statement
import JvmDerived.Pilot.@@N@@Code
set_option linter.unusedVariables false
set_option linter.unusedSimpArgs false
@@BLOCK:NumsL.lean.txt@@
namespace Jvm.Pilot.@@N@@
open Jvm Jvm.ClassFile Sem Op Lib Jvm.Free Jvm.Stand Jvm.LawKit Jvm.RoadKit Bundle Jvm.Pilot.@@N@@.Jvm.D
/-! ## the walk's own kit: 'from this pc on the body comes to its end, in Φ' (X.G), and one rule a step -/
def OwC (p : Program) (l : Launch) (e : Env) (R : Room) (s : State) (m : MethodId) (args : Array Value) (below : List Frame) (meth : Method) (c : Code) (Z : State) (own nm : String) (bytes : ByteArray) (mL : Nat) (ret : Option FieldType) (n0 kM nM : Nat) (Φ : Option Value → Heap → Prop) : Prop :=
  p.tables.exec = Jvm.exec ∧ c.code = bytes ∧ c.maxLocals = mL ∧ s.vm.findClass own = some m.cls ∧ Z.Warmed39 s.vm ∧ meth.sig.returnType = ret ∧ meth.locks = false ∧ meth.name = nm
section OwKit
variable {p : Program} {l : Launch} {e : Env} {R : Room} {s : State} {m : MethodId} {args : Array Value} {below : List Frame} {meth : Method} {c : Code} {Z : State} {own nm : String} {bytes : ByteArray} {mL : Nat} {ret : Option FieldType} {n0 kM nM : Nat} {Φ : Option Value → Heap → Prop}
variable {a0 : Array Value} {h : Heap} {k n pc q : Nat} {Ls Ls' : Array Slot} {st rest : List Value}
def OwC.G (_X : OwC p l e R s m args below meth c Z own nm bytes mL ret n0 kM nM Φ) (h : Heap) (k n pc : Nat) (Ls : Array Slot) (st : List Value) : Prop :=
  ∀ T locs, Stand p l e R s m args below meth c T locs k n → T.heap = h → Fr n0 locs →
    ∃ v s₂ L, Steps p.tables e below (T.setTop (mkF m pc Ls st)) s₂ ∧ s₂.status = .running ∧ Ended s₂ below (.returned v) ∧ (Φ v s₂.heap ∧ Fr n0 L) ∧ FrameEnd s (.returned v) s₂ L kM nM
variable (X : OwC p l e R s m args below meth c Z own nm bytes mL ret n0 kM nM Φ)
theorem OwC.step {pc' : Nat} {st' : List Value} (g : X.G h k n pc' Ls' st') (w : ∀ T locs, Stand p l e R s m args below meth c T locs k n → ∀ t, Steps p.tables e below (T.setTop (mkF m pc' Ls' st')) t → Steps p.tables e below (T.setTop (mkF m pc Ls st)) t) : X.G h k n pc Ls st := fun T locs Y eT N => by
  obtain ⟨v, s₂, L, r1, r⟩ := g T locs Y eT N
  exact ⟨v, s₂, L, w T locs Y _ r1, r⟩
theorem OwC.hd (X : OwC p l e R s m args below meth c Z own nm bytes mL ret n0 kM nM Φ) {i : Instr} {len : Nat} (d : decode bytes pc = .ok (i, len)) : decode c.code pc = .ok (i, len) := hb X.2.1 d
/-! a name for the top of the stack -/
theorem OwC.nmI {x : Int32} (g : ∀ v : Int32, v = x → X.G h k n pc Ls (.int v :: st)) : X.G h k n pc Ls (.int x :: st) := g x rfl
theorem OwC.nmJ {x : Int64} (g : ∀ v : Int64, v = x → X.G h k n pc Ls (.long v :: st)) : X.G h k n pc Ls (.long x :: st) := g x rfl
theorem OwC.foldI {x v : Int32} (e : x = v) (g : X.G h k n pc Ls (.int v :: st)) : X.G h k n pc Ls (.int x :: st) := by subst e; exact g
theorem OwC.foldJ {x v : Int64} (e : x = v) (g : X.G h k n pc Ls (.long v :: st)) : X.G h k n pc Ls (.long x :: st) := by subst e; exact g
/-! loads and stores -/
theorem OwC.iloadN {j : Fin 4} {v : Int32} (d : decode bytes pc = .ok (.iload_n j, 1)) (hl : Ls[j.val]? = some (.val (.int v))) (hq : pc + 1 = q) (g : X.G h k n q Ls (.int v :: st)) : X.G h k n pc Ls st := by
  subst hq; exact X.step g fun T _ Y t r => XS.iloadN Y.here X.1 rfl (X.hd d) hl r
theorem OwC.iload {j : Nat} {v : Int32} (d : decode bytes pc = .ok (.iload j, 2)) (hl : Ls[j]? = some (.val (.int v))) (hq : pc + 2 = q) (g : X.G h k n q Ls (.int v :: st)) : X.G h k n pc Ls st := by
  subst hq; exact X.step g fun T _ Y t r => XS.iload Y.here X.1 rfl (X.hd d) hl r
theorem OwC.lloadN {j : Fin 4} {v : Int64} (d : decode bytes pc = .ok (.lload_n j, 1)) (hl : Ls[j.val]? = some (.val (.long v))) (hq : pc + 1 = q) (g : X.G h k n q Ls (.long v :: st)) : X.G h k n pc Ls st := by
  subst hq; exact X.step g fun T _ Y t r => XT.lloadN Y.here X.1 rfl (X.hd d) hl r
theorem OwC.lload {j : Nat} {v : Int64} (d : decode bytes pc = .ok (.lload j, 2)) (hl : Ls[j]? = some (.val (.long v))) (hq : pc + 2 = q) (g : X.G h k n q Ls (.long v :: st)) : X.G h k n pc Ls st := by
  subst hq; exact X.step g fun T _ Y t r => XT.lload Y.here X.1 rfl (X.hd d) hl r
theorem OwC.aloadN {j : Fin 4} {v : Value} (d : decode bytes pc = .ok (.aload_n j, 1)) (hl : Ls[j.val]? = some (.val v)) (hv : v.isRef = true) (hq : pc + 1 = q) (g : X.G h k n q Ls (v :: st)) : X.G h k n pc Ls st := by
  subst hq; exact X.step g fun T _ Y t r => XS.aloadN Y.here X.1 rfl (X.hd d) hl hv r
theorem OwC.aload {j : Nat} {v : Value} (d : decode bytes pc = .ok (.aload j, 2)) (hl : Ls[j]? = some (.val v)) (hv : v.isRef = true) (hq : pc + 2 = q) (g : X.G h k n q Ls (v :: st)) : X.G h k n pc Ls st := by
  subst hq; exact X.step g fun T _ Y t r => XS.aload Y.here X.1 rfl (X.hd d) hl hv r
theorem OwC.istoreN {j : Fin 4} {x : Int32} (d : decode bytes pc = .ok (.istore_n j, 1)) (hl : storeLocals Ls j.val (.int x) = some Ls') (hq : pc + 1 = q) (g : X.G h k n q Ls' st) : X.G h k n pc Ls (.int x :: st) := by
  subst hq; exact X.step g fun T _ Y t r => XS.istoreN Y.here X.1 rfl (X.hd d) rfl hl r
theorem OwC.istore {j : Nat} {x : Int32} (d : decode bytes pc = .ok (.istore j, 2)) (hl : storeLocals Ls j (.int x) = some Ls') (hq : pc + 2 = q) (g : X.G h k n q Ls' st) : X.G h k n pc Ls (.int x :: st) := by
  subst hq; exact X.step g fun T _ Y t r => XS.istore Y.here X.1 rfl (X.hd d) rfl hl r
theorem OwC.lstoreN {j : Fin 4} {x : Int64} (d : decode bytes pc = .ok (.lstore_n j, 1)) (hl : storeLocals Ls j.val (.long x) = some Ls') (hq : pc + 1 = q) (g : X.G h k n q Ls' st) : X.G h k n pc Ls (.long x :: st) := by
  subst hq; exact X.step g fun T _ Y t r => XT.lstoreN Y.here X.1 rfl (X.hd d) rfl hl r
theorem OwC.lstore {j : Nat} {x : Int64} (d : decode bytes pc = .ok (.lstore j, 2)) (hl : storeLocals Ls j (.long x) = some Ls') (hq : pc + 2 = q) (g : X.G h k n q Ls' st) : X.G h k n pc Ls (.long x :: st) := by
  subst hq; exact X.step g fun T _ Y t r => XT.lstore Y.here X.1 rfl (X.hd d) rfl hl r
theorem OwC.astoreN {j : Fin 4} {x : Value} (d : decode bytes pc = .ok (.astore_n j, 1)) (hv : x.isRef = true) (hl : storeLocals Ls j.val x = some Ls') (hq : pc + 1 = q) (g : X.G h k n q Ls' st) : X.G h k n pc Ls (x :: st) := by
  subst hq; exact X.step g fun T _ Y t r => XS.astoreN Y.here X.1 rfl (X.hd d) rfl hv hl r
theorem OwC.astore {j : Nat} {x : Value} (d : decode bytes pc = .ok (.astore j, 2)) (hv : x.isRef = true) (hl : storeLocals Ls j x = some Ls') (hq : pc + 2 = q) (g : X.G h k n q Ls' st) : X.G h k n pc Ls (x :: st) := by
  subst hq; exact X.step g fun T _ Y t r => XS.astore Y.here X.1 rfl (X.hd d) rfl hv hl r
/-! constants -/
theorem OwC.iconst {i : Int} (v : Int32) (d : decode bytes pc = .ok (.iconst i, 1)) (hv : Int32.ofInt i = v) (hq : pc + 1 = q) (g : X.G h k n q Ls (.int v :: st)) : X.G h k n pc Ls st := by
  subst hq hv; exact X.step g fun T _ Y t r => XS.iconst Y.here X.1 rfl (X.hd d) r
theorem OwC.bipush {i : Int} (v : Int32) (d : decode bytes pc = .ok (.bipush i, 2)) (hv : (Int8.ofInt i).toInt32 = v) (hq : pc + 2 = q) (g : X.G h k n q Ls (.int v :: st)) : X.G h k n pc Ls st := by
  subst hq hv; exact X.step g fun T _ Y t r => XS.bipush Y.here X.1 rfl (X.hd d) r
theorem OwC.sipush {i : Int} (v : Int32) (d : decode bytes pc = .ok (.sipush i, 3)) (hv : (Int16.ofInt i).toInt32 = v) (hq : pc + 3 = q) (g : X.G h k n q Ls (.int v :: st)) : X.G h k n pc Ls st := by
  subst hq hv; exact X.step g fun T _ Y t r => XS.sipush Y.here X.1 rfl (X.hd d) r
theorem OwC.lconst {j : Fin 2} (v : Int64) (d : decode bytes pc = .ok (.lconst j, 1)) (hv : Int64.ofNat j = v) (hq : pc + 1 = q) (g : X.G h k n q Ls (.long v :: st)) : X.G h k n pc Ls st := by
  subst hq hv; exact X.step g fun T _ Y t r => XT.lconst Y.here X.1 rfl (X.hd d) r
theorem OwC.aconstNull (d : decode bytes pc = .ok (.aconst_null, 1)) (hq : pc + 1 = q) (g : X.G h k n q Ls (.null :: st)) : X.G h k n pc Ls st := by
  subst hq; exact X.step g fun T _ Y t r => XS.aconstNull Y.here X.1 rfl (X.hd d) r
theorem OwC.ldc {i : Nat} {v : Int32} (w : (Cond.constant own i v).before a0 Z = true) (d : decode bytes pc = .ok (.ldc i, 2)) (hq : pc + 2 = q) (g : X.G h k n q Ls (.int v :: st)) : X.G h k n pc Ls st := by
  subst hq; exact X.step g fun T _ Y t r => Y.ldcI X.1 X.2.2.2.1 (mvT X.2.2.2.2.1 w) rfl (X.hd d) r
theorem OwC.ldc_w {i : Nat} {v : Int32} (w : (Cond.constant own i v).before a0 Z = true) (d : decode bytes pc = .ok (.ldc_w i, 3)) (hq : pc + 3 = q) (g : X.G h k n q Ls (.int v :: st)) : X.G h k n pc Ls st := by
  subst hq; exact X.step g fun T _ Y t r => Y.ldcWI X.1 X.2.2.2.1 (mvT X.2.2.2.2.1 w) rfl (X.hd d) r
theorem OwC.ldc2_w {i : Nat} {v : Int64} (w : (Cond.constantLong own i v).before a0 Z = true) (d : decode bytes pc = .ok (.ldc2_w i, 3)) (hq : pc + 3 = q) (g : X.G h k n q Ls (.long v :: st)) : X.G h k n pc Ls st := by
  subst hq; exact X.step g fun T _ Y t r => Y.ldc2J X.1 X.2.2.2.1 (mvT X.2.2.2.2.1 w) rfl (X.hd d) r
/-! arithmetic -/
theorem OwC.iadd {x y : Int32} (d : decode bytes pc = .ok (.iadd, 1)) (hq : pc + 1 = q) (g : X.G h k n q Ls (.int (x + y) :: st)) : X.G h k n pc Ls (.int y :: .int x :: st) := by
  subst hq; exact X.step g fun T _ Y t r => XS.iadd Y.here X.1 rfl (X.hd d) rfl r
theorem OwC.isub {x y : Int32} (d : decode bytes pc = .ok (.isub, 1)) (hq : pc + 1 = q) (g : X.G h k n q Ls (.int (x - y) :: st)) : X.G h k n pc Ls (.int y :: .int x :: st) := by
  subst hq; exact X.step g fun T _ Y t r => XS.isub Y.here X.1 rfl (X.hd d) rfl r
theorem OwC.imul {x y : Int32} (d : decode bytes pc = .ok (.imul, 1)) (hq : pc + 1 = q) (g : X.G h k n q Ls (.int (x * y) :: st)) : X.G h k n pc Ls (.int y :: .int x :: st) := by
  subst hq; exact X.step g fun T _ Y t r => XS.imul Y.here X.1 rfl (X.hd d) rfl r
theorem OwC.iand {x y : Int32} (d : decode bytes pc = .ok (.iand, 1)) (hq : pc + 1 = q) (g : X.G h k n q Ls (.int (x &&& y) :: st)) : X.G h k n pc Ls (.int y :: .int x :: st) := by
  subst hq; exact X.step g fun T _ Y t r => XS.iand Y.here X.1 rfl (X.hd d) rfl r
theorem OwC.ixor {x y : Int32} (d : decode bytes pc = .ok (.ixor, 1)) (hq : pc + 1 = q) (g : X.G h k n q Ls (.int (x ^^^ y) :: st)) : X.G h k n pc Ls (.int y :: .int x :: st) := by
  subst hq; exact X.step g fun T _ Y t r => XT.ixor Y.here X.1 rfl (X.hd d) rfl r
theorem OwC.ior {x y : Int32} (d : decode bytes pc = .ok (.ior, 1)) (hq : pc + 1 = q) (g : X.G h k n q Ls (.int (x ||| y) :: st)) : X.G h k n pc Ls (.int y :: .int x :: st) := by
  subst hq; exact X.step g fun T _ Y t r => XT.ior Y.here X.1 rfl (X.hd d) rfl r
theorem OwC.ishl {x y : Int32} (d : decode bytes pc = .ok (.ishl, 1)) (hq : pc + 1 = q) (g : X.G h k n q Ls (.int (x <<< (y &&& 31)) :: st)) : X.G h k n pc Ls (.int y :: .int x :: st) := by
  subst hq; exact X.step g fun T _ Y t r => XT.ishl Y.here X.1 rfl (X.hd d) rfl r
theorem OwC.ishr {x y : Int32} (d : decode bytes pc = .ok (.ishr, 1)) (hq : pc + 1 = q) (g : X.G h k n q Ls (.int (x >>> (y &&& 31)) :: st)) : X.G h k n pc Ls (.int y :: .int x :: st) := by
  subst hq; exact X.step g fun T _ Y t r => XT.ishr Y.here X.1 rfl (X.hd d) rfl r
theorem OwC.iushr {x y : Int32} (d : decode bytes pc = .ok (.iushr, 1)) (hq : pc + 1 = q) (g : X.G h k n q Ls (.int (XT.ushr x y) :: st)) : X.G h k n pc Ls (.int y :: .int x :: st) := by
  subst hq; exact X.step g fun T _ Y t r => XT.iushr Y.here X.1 rfl (X.hd d) rfl r
theorem OwC.ladd {x y : Int64} (d : decode bytes pc = .ok (.ladd, 1)) (hq : pc + 1 = q) (g : X.G h k n q Ls (.long (x + y) :: st)) : X.G h k n pc Ls (.long y :: .long x :: st) := by
  subst hq; exact X.step g fun T _ Y t r => XT.ladd Y.here X.1 rfl (X.hd d) rfl r
theorem OwC.lsub {x y : Int64} (d : decode bytes pc = .ok (.lsub, 1)) (hq : pc + 1 = q) (g : X.G h k n q Ls (.long (x - y) :: st)) : X.G h k n pc Ls (.long y :: .long x :: st) := by
  subst hq; exact X.step g fun T _ Y t r => XT.lsub Y.here X.1 rfl (X.hd d) rfl r
theorem OwC.lmul {x y : Int64} (d : decode bytes pc = .ok (.lmul, 1)) (hq : pc + 1 = q) (g : X.G h k n q Ls (.long (x * y) :: st)) : X.G h k n pc Ls (.long y :: .long x :: st) := by
  subst hq; exact X.step g fun T _ Y t r => XT.lmul Y.here X.1 rfl (X.hd d) rfl r
theorem OwC.land {x y : Int64} (d : decode bytes pc = .ok (.land, 1)) (hq : pc + 1 = q) (g : X.G h k n q Ls (.long (x &&& y) :: st)) : X.G h k n pc Ls (.long y :: .long x :: st) := by
  subst hq; exact X.step g fun T _ Y t r => XT.land Y.here X.1 rfl (X.hd d) rfl r
theorem OwC.lxor {x y : Int64} (d : decode bytes pc = .ok (.lxor, 1)) (hq : pc + 1 = q) (g : X.G h k n q Ls (.long (x ^^^ y) :: st)) : X.G h k n pc Ls (.long y :: .long x :: st) := by
  subst hq; exact X.step g fun T _ Y t r => XT.lxor Y.here X.1 rfl (X.hd d) rfl r
theorem OwC.lor {x y : Int64} (d : decode bytes pc = .ok (.lor, 1)) (hq : pc + 1 = q) (g : X.G h k n q Ls (.long (x ||| y) :: st)) : X.G h k n pc Ls (.long y :: .long x :: st) := by
  subst hq; exact X.step g fun T _ Y t r => XT.lor Y.here X.1 rfl (X.hd d) rfl r
theorem OwC.lshl {x : Int64} {y : Int32} (d : decode bytes pc = .ok (.lshl, 1)) (hq : pc + 1 = q) (g : X.G h k n q Ls (.long (x <<< (y.toInt64 &&& 63)) :: st)) : X.G h k n pc Ls (.int y :: .long x :: st) := by
  subst hq; exact X.step g fun T _ Y t r => XT.lshl Y.here X.1 rfl (X.hd d) rfl r
theorem OwC.lshr {x : Int64} {y : Int32} (d : decode bytes pc = .ok (.lshr, 1)) (hq : pc + 1 = q) (g : X.G h k n q Ls (.long (x >>> (y.toInt64 &&& 63)) :: st)) : X.G h k n pc Ls (.int y :: .long x :: st) := by
  subst hq; exact X.step g fun T _ Y t r => XT.lshr Y.here X.1 rfl (X.hd d) rfl r
theorem OwC.lushr {x : Int64} {y : Int32} (d : decode bytes pc = .ok (.lushr, 1)) (hq : pc + 1 = q) (g : X.G h k n q Ls (.long (XT.ushrL x y) :: st)) : X.G h k n pc Ls (.int y :: .long x :: st) := by
  subst hq; exact X.step g fun T _ Y t r => XT.lushr Y.here X.1 rfl (X.hd d) rfl r
theorem OwC.idiv {x y : Int32} (d : decode bytes pc = .ok (.idiv, 1)) (hy : y ≠ 0) (hq : pc + 1 = q) (g : X.G h k n q Ls (.int (x / y) :: st)) : X.G h k n pc Ls (.int y :: .int x :: st) := by
  subst hq; exact X.step g fun T _ Y t r => XS.idiv Y.here X.1 rfl (X.hd d) rfl hy r
theorem OwC.ldiv {x y : Int64} (d : decode bytes pc = .ok (.ldiv, 1)) (hy : y ≠ 0) (hq : pc + 1 = q) (g : X.G h k n q Ls (.long (x / y) :: st)) : X.G h k n pc Ls (.long y :: .long x :: st) := by
  subst hq; exact X.step g fun T _ Y t r => XT.ldiv Y.here X.1 rfl (X.hd d) rfl hy r
theorem OwC.irem {x y : Int32} (d : decode bytes pc = .ok (.irem, 1)) (hy : y ≠ 0) (hq : pc + 1 = q) (g : X.G h k n q Ls (.int (x % y) :: st)) : X.G h k n pc Ls (.int y :: .int x :: st) := by
  subst hq; exact X.step g fun T _ Y t r => iremM Y X.1 rfl (X.hd d) rfl hy r
theorem ow_lrem (x y : Int64) : x - (x / y) * y = x % y := by
  rw [← Int64.toInt_inj, Int64.toInt_sub, Int64.toInt_mul, Int64.toInt_mod, Int64.toInt_div]
  have h1 : (((x.toInt.tdiv y.toInt).bmod (2 ^ 64) * y.toInt).bmod (2 ^ 64)) = (x.toInt.tdiv y.toInt * y.toInt).bmod (2 ^ 64) := by simp [Int.bmod_mul_bmod]
  rw [h1, Int.sub_bmod_bmod]
  have h2 : x.toInt - x.toInt.tdiv y.toInt * y.toInt = x.toInt.tmod y.toInt := by
    have := Int.mul_tdiv_add_tmod x.toInt y.toInt
    rw [Int.mul_comm] at this; omega
  rw [h2, ← Int64.toInt_mod, Int64.toInt_bmod]
theorem OwC.lrem {x y : Int64} (d : decode bytes pc = .ok (.lrem, 1)) (hy : y ≠ 0) (hq : pc + 1 = q) (g : X.G h k n q Ls (.long (x % y) :: st)) : X.G h k n pc Ls (.long y :: .long x :: st) := by
  subst hq; exact X.step g fun T _ Y t r => XT.lrem Y.here X.1 rfl (X.hd d) rfl hy (by rw [ow_lrem]; exact r)
theorem OwC.ineg {x : Int32} (d : decode bytes pc = .ok (.ineg, 1)) (hq : pc + 1 = q) (g : X.G h k n q Ls (.int (-x) :: st)) : X.G h k n pc Ls (.int x :: st) := by
  subst hq; exact X.step g fun T _ Y t r => XS.ineg Y.here X.1 rfl (X.hd d) rfl r
theorem OwC.lneg {x : Int64} (d : decode bytes pc = .ok (.lneg, 1)) (hq : pc + 1 = q) (g : X.G h k n q Ls (.long (-x) :: st)) : X.G h k n pc Ls (.long x :: st) := by
  subst hq; exact X.step g fun T _ Y t r => XT.lneg Y.here X.1 rfl (X.hd d) rfl r
theorem OwC.i2l {x : Int32} (d : decode bytes pc = .ok (.i2l, 1)) (hq : pc + 1 = q) (g : X.G h k n q Ls (.long (x.toInt64) :: st)) : X.G h k n pc Ls (.int x :: st) := by
  subst hq; exact X.step g fun T _ Y t r => XT.i2l Y.here X.1 rfl (X.hd d) rfl r
theorem OwC.l2i {x : Int64} (d : decode bytes pc = .ok (.l2i, 1)) (hq : pc + 1 = q) (g : X.G h k n q Ls (.int (x.toInt32) :: st)) : X.G h k n pc Ls (.long x :: st) := by
  subst hq; exact X.step g fun T _ Y t r => XT.l2i Y.here X.1 rfl (X.hd d) rfl r
theorem OwC.i2b {x : Int32} (d : decode bytes pc = .ok (.i2b, 1)) (hq : pc + 1 = q) (g : X.G h k n q Ls (.int (x.toInt8.toInt32) :: st)) : X.G h k n pc Ls (.int x :: st) := by
  subst hq; exact X.step g fun T _ Y t r => XT.i2b Y.here X.1 rfl (X.hd d) rfl r
theorem OwC.i2c {x : Int32} (d : decode bytes pc = .ok (.i2c, 1)) (hq : pc + 1 = q) (g : X.G h k n q Ls (.int (x.toUInt32.toUInt16.toUInt32.toInt32) :: st)) : X.G h k n pc Ls (.int x :: st) := by
  subst hq; exact X.step g fun T _ Y t r => XT.i2c Y.here X.1 rfl (X.hd d) rfl r
theorem OwC.iinc {j : Nat} {cst : Int} {x : Int32} (v : Int32) (d : decode bytes pc = .ok (.iinc j cst, 3)) (hv : Int32.ofInt cst = v) (hl : Ls[j]? = some (.val (.int x))) (hl' : storeLocals Ls j (.int (x + v)) = some Ls') (hq : pc + 3 = q) (g : X.G h k n q Ls' st) : X.G h k n pc Ls st := by
  subst hq hv; exact X.step g fun T _ Y t r => XS.iinc Y.here X.1 rfl (X.hd d) hl hl' r
/-! the stack -/
theorem OwC.dup {x : Value} (d : decode bytes pc = .ok (.dup, 1)) (hc : x.category = 1) (hq : pc + 1 = q) (g : X.G h k n q Ls (x :: x :: st)) : X.G h k n pc Ls (x :: st) := by
  subst hq; exact X.step g fun T _ Y t r => XS.dup Y.here X.1 rfl (X.hd d) rfl hc r
theorem OwC.pop {x : Value} (d : decode bytes pc = .ok (.pop, 1)) (hc : x.category = 1) (hq : pc + 1 = q) (g : X.G h k n q Ls st) : X.G h k n pc Ls (x :: st) := by
  subst hq; exact X.step g fun T _ Y t r => XT.pop Y.here X.1 rfl (X.hd d) rfl hc r
theorem OwC.dup_x1 {x y : Value} (d : decode bytes pc = .ok (.dup_x1, 1)) (hc : x.category = 1) (hc' : y.category = 1) (hq : pc + 1 = q) (g : X.G h k n q Ls (x :: y :: x :: st)) : X.G h k n pc Ls (x :: y :: st) := by
  subst hq; exact X.step g fun T _ Y t r => XT.dupX1 Y.here X.1 rfl (X.hd d) rfl hc hc' r
theorem OwC.dup2 {x y : Value} (d : decode bytes pc = .ok (.dup2, 1)) (hc : x.category = 1) (hc' : y.category = 1) (hq : pc + 1 = q) (g : X.G h k n q Ls (x :: y :: x :: y :: st)) : X.G h k n pc Ls (x :: y :: st) := by
  subst hq; exact X.step g fun T _ Y t r => XT.dup2 Y.here X.1 rfl (X.hd d) rfl hc hc' r
theorem OwC.dup2L {x : Int64} (d : decode bytes pc = .ok (.dup2, 1)) (hq : pc + 1 = q) (g : X.G h k n q Ls (.long x :: .long x :: st)) : X.G h k n pc Ls (.long x :: st) := by
  subst hq; exact X.step g fun T _ Y t r => XT.dup2L Y.here X.1 rfl (X.hd d) rfl r
/-! branches -/
theorem OwC.goto {o : Int} {q' : Nat} (d : decode bytes pc = .ok (.goto o, 3)) (hp : 0 ≤ (pc : Int) + o ∧ ((pc : Int) + o).toNat = q') (g : X.G h k n q' Ls st) : X.G h k n pc Ls st :=
  X.step g fun T _ Y t r => XS.goto Y.here X.1 rfl rfl (X.hd d) hp.1 hp.2 r
theorem OwC.icmpB {cd : ClassFile.Cond} {o : Int} {q' : Nat} {x y : Int32} (d : decode bytes pc = .ok (.if_icmp cd o, 3)) (hp : 0 ≤ (pc : Int) + o ∧ ((pc : Int) + o).toNat = q') (hq : pc + 3 = q) (g1 : if_icmp.holds cd x y = true → X.G h k n q' Ls st) (g0 : if_icmp.holds cd x y = false → X.G h k n q Ls st) : X.G h k n pc Ls (.int y :: .int x :: st) := by
  subst hq
  cases hc : if_icmp.holds cd x y with
  | true => exact X.step (g1 hc) fun T _ Y t r => XS.icmpYes Y.here X.1 rfl rfl (X.hd d) rfl hc hp.1 hp.2 r
  | false => exact X.step (g0 hc) fun T _ Y t r => XS.icmpNo Y.here X.1 rfl (X.hd d) rfl hc r
theorem OwC.ifB {cd : ClassFile.Cond} {o : Int} {q' : Nat} {x : Int32} (d : decode bytes pc = .ok (.ifCond cd o, 3)) (hp : 0 ≤ (pc : Int) + o ∧ ((pc : Int) + o).toNat = q') (hq : pc + 3 = q) (g1 : ifCond.holds cd x = true → X.G h k n q' Ls st) (g0 : ifCond.holds cd x = false → X.G h k n q Ls st) : X.G h k n pc Ls (.int x :: st) := by
  subst hq
  cases hc : ifCond.holds cd x with
  | true => exact X.step (g1 hc) fun T _ Y t r => XS.ifYes Y.here X.1 rfl rfl (X.hd d) rfl hc hp.1 hp.2 r
  | false => exact X.step (g0 hc) fun T _ Y t r => XS.ifNo Y.here X.1 rfl (X.hd d) rfl hc r
def owCd : ClassFile.Cond → Int → Int → Prop
  | .eq, a, b => a = b | .ne, a, b => ¬ a = b | .lt, a, b => a < b | .ge, a, b => b ≤ a | .gt, a, b => b < a | .le, a, b => a ≤ b
theorem ow_icmp (cd : ClassFile.Cond) (x y : Int32) : if_icmp.holds cd x y = true ↔ owCd cd x.toInt y.toInt := by
  cases cd <;> simp [if_icmp.holds, owCd, ← Int32.toInt_inj, Int32.lt_iff_toInt_lt, Int32.le_iff_toInt_le]
theorem ow_if (cd : ClassFile.Cond) (x : Int32) : ifCond.holds cd x = true ↔ owCd cd x.toInt 0 := by rw [if0, ow_icmp]; rfl
theorem ow_icmpF {cd : ClassFile.Cond} {x y : Int32} (hc : if_icmp.holds cd x y = false) : ¬ owCd cd x.toInt y.toInt := fun q => by rw [(ow_icmp cd x y).mpr q] at hc; cases hc
theorem ow_ifF {cd : ClassFile.Cond} {x : Int32} (hc : ifCond.holds cd x = false) : ¬ owCd cd x.toInt 0 := fun q => by rw [(ow_if cd x).mpr q] at hc; cases hc
theorem ow_lc (cd : ClassFile.Cond) (x y : Int64) : owCd cd (XT.cmpL x y).toInt 0 ↔ owCd cd x.toInt y.toInt := by
  have e1 : (1 : Int32).toInt = 1 := rfl
  have e0 : (0 : Int32).toInt = 0 := rfl
  have em : (-1 : Int32).toInt = -1 := rfl
  unfold XT.cmpL
  split
  · rename_i h1; rw [Int64.lt_iff_toInt_lt] at h1; cases cd <;> simp only [owCd, e1] <;> omega
  · rename_i h1; rw [Int64.lt_iff_toInt_lt] at h1
    split
    · rename_i h2; subst h2; cases cd <;> simp only [owCd, e0] <;> omega
    · rename_i h2; rw [← Int64.toInt_inj] at h2; cases cd <;> simp only [owCd, em] <;> omega
theorem OwC.icmp_eq {o : Int} {q' : Nat} {x y : Int32} {a b : Int} (d : decode bytes pc = .ok (.if_icmp .eq o, 3)) (hx : x.toInt = a) (hy : y.toInt = b) (hp : 0 ≤ (pc : Int) + o ∧ ((pc : Int) + o).toNat = q') (hq : pc + 3 = q) (g1 : a = b → X.G h k n q' Ls st) (g0 : ¬ a = b → X.G h k n q Ls st) : X.G h k n pc Ls (.int y :: .int x :: st) := by
  subst hx hy; exact X.icmpB d hp hq (fun hc => g1 ((ow_icmp _ _ _).mp hc)) (fun hc => g0 (by have := ow_icmpF hc; simp only [owCd] at this; omega))
theorem OwC.if_eq {o : Int} {q' : Nat} {x : Int32} {a : Int} (d : decode bytes pc = .ok (.ifCond .eq o, 3)) (hx : x.toInt = a) (hp : 0 ≤ (pc : Int) + o ∧ ((pc : Int) + o).toNat = q') (hq : pc + 3 = q) (g1 : a = 0 → X.G h k n q' Ls st) (g0 : ¬ a = 0 → X.G h k n q Ls st) : X.G h k n pc Ls (.int x :: st) := by
  subst hx; exact X.ifB d hp hq (fun hc => g1 ((ow_if _ _).mp hc)) (fun hc => g0 (by have := ow_ifF hc; simp only [owCd] at this; omega))
theorem OwC.lcmp_eq {o : Int} {q1 q' : Nat} {x y : Int64} {a b : Int} (d1 : decode bytes pc = .ok (.lcmp, 1)) (hq1 : pc + 1 = q1) (d : decode bytes q1 = .ok (.ifCond .eq o, 3)) (hx : x.toInt = a) (hy : y.toInt = b) (hp : 0 ≤ (q1 : Int) + o ∧ ((q1 : Int) + o).toNat = q') (hq : q1 + 3 = q) (g1 : a = b → X.G h k n q' Ls st) (g0 : ¬ a = b → X.G h k n q Ls st) : X.G h k n pc Ls (.long y :: .long x :: st) := by
  subst hx hy hq1; refine X.step (X.ifB d hp hq (fun hc => g1 ((ow_lc _ _ _).mp ((ow_if _ _).mp hc))) (fun hc => g0 (by have := mt (ow_lc _ _ _).mpr (ow_ifF hc); simp only [owCd] at this; omega))) fun T _ Y t r => XT.lcmp Y.here X.1 rfl (X.hd d1) rfl r
theorem OwC.icmp_ne {o : Int} {q' : Nat} {x y : Int32} {a b : Int} (d : decode bytes pc = .ok (.if_icmp .ne o, 3)) (hx : x.toInt = a) (hy : y.toInt = b) (hp : 0 ≤ (pc : Int) + o ∧ ((pc : Int) + o).toNat = q') (hq : pc + 3 = q) (g1 : ¬ a = b → X.G h k n q' Ls st) (g0 : a = b → X.G h k n q Ls st) : X.G h k n pc Ls (.int y :: .int x :: st) := by
  subst hx hy; exact X.icmpB d hp hq (fun hc => g1 ((ow_icmp _ _ _).mp hc)) (fun hc => g0 (by have := ow_icmpF hc; simp only [owCd] at this; omega))
theorem OwC.if_ne {o : Int} {q' : Nat} {x : Int32} {a : Int} (d : decode bytes pc = .ok (.ifCond .ne o, 3)) (hx : x.toInt = a) (hp : 0 ≤ (pc : Int) + o ∧ ((pc : Int) + o).toNat = q') (hq : pc + 3 = q) (g1 : ¬ a = 0 → X.G h k n q' Ls st) (g0 : a = 0 → X.G h k n q Ls st) : X.G h k n pc Ls (.int x :: st) := by
  subst hx; exact X.ifB d hp hq (fun hc => g1 ((ow_if _ _).mp hc)) (fun hc => g0 (by have := ow_ifF hc; simp only [owCd] at this; omega))
theorem OwC.lcmp_ne {o : Int} {q1 q' : Nat} {x y : Int64} {a b : Int} (d1 : decode bytes pc = .ok (.lcmp, 1)) (hq1 : pc + 1 = q1) (d : decode bytes q1 = .ok (.ifCond .ne o, 3)) (hx : x.toInt = a) (hy : y.toInt = b) (hp : 0 ≤ (q1 : Int) + o ∧ ((q1 : Int) + o).toNat = q') (hq : q1 + 3 = q) (g1 : ¬ a = b → X.G h k n q' Ls st) (g0 : a = b → X.G h k n q Ls st) : X.G h k n pc Ls (.long y :: .long x :: st) := by
  subst hx hy hq1; refine X.step (X.ifB d hp hq (fun hc => g1 ((ow_lc _ _ _).mp ((ow_if _ _).mp hc))) (fun hc => g0 (by have := mt (ow_lc _ _ _).mpr (ow_ifF hc); simp only [owCd] at this; omega))) fun T _ Y t r => XT.lcmp Y.here X.1 rfl (X.hd d1) rfl r
theorem OwC.icmp_lt {o : Int} {q' : Nat} {x y : Int32} {a b : Int} (d : decode bytes pc = .ok (.if_icmp .lt o, 3)) (hx : x.toInt = a) (hy : y.toInt = b) (hp : 0 ≤ (pc : Int) + o ∧ ((pc : Int) + o).toNat = q') (hq : pc + 3 = q) (g1 : a < b → X.G h k n q' Ls st) (g0 : b ≤ a → X.G h k n q Ls st) : X.G h k n pc Ls (.int y :: .int x :: st) := by
  subst hx hy; exact X.icmpB d hp hq (fun hc => g1 ((ow_icmp _ _ _).mp hc)) (fun hc => g0 (by have := ow_icmpF hc; simp only [owCd] at this; omega))
theorem OwC.if_lt {o : Int} {q' : Nat} {x : Int32} {a : Int} (d : decode bytes pc = .ok (.ifCond .lt o, 3)) (hx : x.toInt = a) (hp : 0 ≤ (pc : Int) + o ∧ ((pc : Int) + o).toNat = q') (hq : pc + 3 = q) (g1 : a < 0 → X.G h k n q' Ls st) (g0 : 0 ≤ a → X.G h k n q Ls st) : X.G h k n pc Ls (.int x :: st) := by
  subst hx; exact X.ifB d hp hq (fun hc => g1 ((ow_if _ _).mp hc)) (fun hc => g0 (by have := ow_ifF hc; simp only [owCd] at this; omega))
theorem OwC.lcmp_lt {o : Int} {q1 q' : Nat} {x y : Int64} {a b : Int} (d1 : decode bytes pc = .ok (.lcmp, 1)) (hq1 : pc + 1 = q1) (d : decode bytes q1 = .ok (.ifCond .lt o, 3)) (hx : x.toInt = a) (hy : y.toInt = b) (hp : 0 ≤ (q1 : Int) + o ∧ ((q1 : Int) + o).toNat = q') (hq : q1 + 3 = q) (g1 : a < b → X.G h k n q' Ls st) (g0 : b ≤ a → X.G h k n q Ls st) : X.G h k n pc Ls (.long y :: .long x :: st) := by
  subst hx hy hq1; refine X.step (X.ifB d hp hq (fun hc => g1 ((ow_lc _ _ _).mp ((ow_if _ _).mp hc))) (fun hc => g0 (by have := mt (ow_lc _ _ _).mpr (ow_ifF hc); simp only [owCd] at this; omega))) fun T _ Y t r => XT.lcmp Y.here X.1 rfl (X.hd d1) rfl r
theorem OwC.icmp_ge {o : Int} {q' : Nat} {x y : Int32} {a b : Int} (d : decode bytes pc = .ok (.if_icmp .ge o, 3)) (hx : x.toInt = a) (hy : y.toInt = b) (hp : 0 ≤ (pc : Int) + o ∧ ((pc : Int) + o).toNat = q') (hq : pc + 3 = q) (g1 : b ≤ a → X.G h k n q' Ls st) (g0 : a < b → X.G h k n q Ls st) : X.G h k n pc Ls (.int y :: .int x :: st) := by
  subst hx hy; exact X.icmpB d hp hq (fun hc => g1 ((ow_icmp _ _ _).mp hc)) (fun hc => g0 (by have := ow_icmpF hc; simp only [owCd] at this; omega))
theorem OwC.if_ge {o : Int} {q' : Nat} {x : Int32} {a : Int} (d : decode bytes pc = .ok (.ifCond .ge o, 3)) (hx : x.toInt = a) (hp : 0 ≤ (pc : Int) + o ∧ ((pc : Int) + o).toNat = q') (hq : pc + 3 = q) (g1 : 0 ≤ a → X.G h k n q' Ls st) (g0 : a < 0 → X.G h k n q Ls st) : X.G h k n pc Ls (.int x :: st) := by
  subst hx; exact X.ifB d hp hq (fun hc => g1 ((ow_if _ _).mp hc)) (fun hc => g0 (by have := ow_ifF hc; simp only [owCd] at this; omega))
theorem OwC.lcmp_ge {o : Int} {q1 q' : Nat} {x y : Int64} {a b : Int} (d1 : decode bytes pc = .ok (.lcmp, 1)) (hq1 : pc + 1 = q1) (d : decode bytes q1 = .ok (.ifCond .ge o, 3)) (hx : x.toInt = a) (hy : y.toInt = b) (hp : 0 ≤ (q1 : Int) + o ∧ ((q1 : Int) + o).toNat = q') (hq : q1 + 3 = q) (g1 : b ≤ a → X.G h k n q' Ls st) (g0 : a < b → X.G h k n q Ls st) : X.G h k n pc Ls (.long y :: .long x :: st) := by
  subst hx hy hq1; refine X.step (X.ifB d hp hq (fun hc => g1 ((ow_lc _ _ _).mp ((ow_if _ _).mp hc))) (fun hc => g0 (by have := mt (ow_lc _ _ _).mpr (ow_ifF hc); simp only [owCd] at this; omega))) fun T _ Y t r => XT.lcmp Y.here X.1 rfl (X.hd d1) rfl r
theorem OwC.icmp_gt {o : Int} {q' : Nat} {x y : Int32} {a b : Int} (d : decode bytes pc = .ok (.if_icmp .gt o, 3)) (hx : x.toInt = a) (hy : y.toInt = b) (hp : 0 ≤ (pc : Int) + o ∧ ((pc : Int) + o).toNat = q') (hq : pc + 3 = q) (g1 : b < a → X.G h k n q' Ls st) (g0 : a ≤ b → X.G h k n q Ls st) : X.G h k n pc Ls (.int y :: .int x :: st) := by
  subst hx hy; exact X.icmpB d hp hq (fun hc => g1 ((ow_icmp _ _ _).mp hc)) (fun hc => g0 (by have := ow_icmpF hc; simp only [owCd] at this; omega))
theorem OwC.if_gt {o : Int} {q' : Nat} {x : Int32} {a : Int} (d : decode bytes pc = .ok (.ifCond .gt o, 3)) (hx : x.toInt = a) (hp : 0 ≤ (pc : Int) + o ∧ ((pc : Int) + o).toNat = q') (hq : pc + 3 = q) (g1 : 0 < a → X.G h k n q' Ls st) (g0 : a ≤ 0 → X.G h k n q Ls st) : X.G h k n pc Ls (.int x :: st) := by
  subst hx; exact X.ifB d hp hq (fun hc => g1 ((ow_if _ _).mp hc)) (fun hc => g0 (by have := ow_ifF hc; simp only [owCd] at this; omega))
theorem OwC.lcmp_gt {o : Int} {q1 q' : Nat} {x y : Int64} {a b : Int} (d1 : decode bytes pc = .ok (.lcmp, 1)) (hq1 : pc + 1 = q1) (d : decode bytes q1 = .ok (.ifCond .gt o, 3)) (hx : x.toInt = a) (hy : y.toInt = b) (hp : 0 ≤ (q1 : Int) + o ∧ ((q1 : Int) + o).toNat = q') (hq : q1 + 3 = q) (g1 : b < a → X.G h k n q' Ls st) (g0 : a ≤ b → X.G h k n q Ls st) : X.G h k n pc Ls (.long y :: .long x :: st) := by
  subst hx hy hq1; refine X.step (X.ifB d hp hq (fun hc => g1 ((ow_lc _ _ _).mp ((ow_if _ _).mp hc))) (fun hc => g0 (by have := mt (ow_lc _ _ _).mpr (ow_ifF hc); simp only [owCd] at this; omega))) fun T _ Y t r => XT.lcmp Y.here X.1 rfl (X.hd d1) rfl r
theorem OwC.icmp_le {o : Int} {q' : Nat} {x y : Int32} {a b : Int} (d : decode bytes pc = .ok (.if_icmp .le o, 3)) (hx : x.toInt = a) (hy : y.toInt = b) (hp : 0 ≤ (pc : Int) + o ∧ ((pc : Int) + o).toNat = q') (hq : pc + 3 = q) (g1 : a ≤ b → X.G h k n q' Ls st) (g0 : b < a → X.G h k n q Ls st) : X.G h k n pc Ls (.int y :: .int x :: st) := by
  subst hx hy; exact X.icmpB d hp hq (fun hc => g1 ((ow_icmp _ _ _).mp hc)) (fun hc => g0 (by have := ow_icmpF hc; simp only [owCd] at this; omega))
theorem OwC.if_le {o : Int} {q' : Nat} {x : Int32} {a : Int} (d : decode bytes pc = .ok (.ifCond .le o, 3)) (hx : x.toInt = a) (hp : 0 ≤ (pc : Int) + o ∧ ((pc : Int) + o).toNat = q') (hq : pc + 3 = q) (g1 : a ≤ 0 → X.G h k n q' Ls st) (g0 : 0 < a → X.G h k n q Ls st) : X.G h k n pc Ls (.int x :: st) := by
  subst hx; exact X.ifB d hp hq (fun hc => g1 ((ow_if _ _).mp hc)) (fun hc => g0 (by have := ow_ifF hc; simp only [owCd] at this; omega))
theorem OwC.lcmp_le {o : Int} {q1 q' : Nat} {x y : Int64} {a b : Int} (d1 : decode bytes pc = .ok (.lcmp, 1)) (hq1 : pc + 1 = q1) (d : decode bytes q1 = .ok (.ifCond .le o, 3)) (hx : x.toInt = a) (hy : y.toInt = b) (hp : 0 ≤ (q1 : Int) + o ∧ ((q1 : Int) + o).toNat = q') (hq : q1 + 3 = q) (g1 : a ≤ b → X.G h k n q' Ls st) (g0 : b < a → X.G h k n q Ls st) : X.G h k n pc Ls (.long y :: .long x :: st) := by
  subst hx hy hq1; refine X.step (X.ifB d hp hq (fun hc => g1 ((ow_lc _ _ _).mp ((ow_if _ _).mp hc))) (fun hc => g0 (by have := mt (ow_lc _ _ _).mpr (ow_ifF hc); simp only [owCd] at this; omega))) fun T _ Y t r => XT.lcmp Y.here X.1 rfl (X.hd d1) rfl r
theorem OwC.ifnullT {o : Int} {q' : Nat} (d : decode bytes pc = .ok (.ifnull o, 3)) (hp : 0 ≤ (pc : Int) + o ∧ ((pc : Int) + o).toNat = q') (g : X.G h k n q' Ls st) : X.G h k n pc Ls (.null :: st) :=
  X.step g fun T _ Y t r => XS.ifnullYes Y.here X.1 rfl rfl (X.hd d) rfl hp.1 hp.2 r
theorem OwC.ifnullF {o : Int} {b : Addr} (d : decode bytes pc = .ok (.ifnull o, 3)) (hq : pc + 3 = q) (g : X.G h k n q Ls st) : X.G h k n pc Ls (.ref b :: st) := by
  subst hq; exact X.step g fun T _ Y t r => XS.ifnullNo Y.here X.1 rfl (X.hd d) rfl r
theorem OwC.ifnonnullT {o : Int} {q' : Nat} {b : Addr} (d : decode bytes pc = .ok (.ifnonnull o, 3)) (hp : 0 ≤ (pc : Int) + o ∧ ((pc : Int) + o).toNat = q') (g : X.G h k n q' Ls st) : X.G h k n pc Ls (.ref b :: st) :=
  X.step g fun T _ Y t r => XT.ifnonnullYes Y.here X.1 rfl rfl (X.hd d) rfl hp.1 hp.2 r
theorem OwC.ifnonnullF {o : Int} (d : decode bytes pc = .ok (.ifnonnull o, 3)) (hq : pc + 3 = q) (g : X.G h k n q Ls st) : X.G h k n pc Ls (.null :: st) := by
  subst hq; exact X.step g fun T _ Y t r => XT.ifnonnullNo Y.here X.1 rfl (X.hd d) rfl r
theorem OwC.acmp_ne {o : Int} {q' : Nat} {x y : Addr} (d : decode bytes pc = .ok (.if_acmp .ne o, 3)) (hp : 0 ≤ (pc : Int) + o ∧ ((pc : Int) + o).toNat = q') (hq : pc + 3 = q) (g1 : ¬ x = y → X.G h k n q' Ls st) (g0 : x = y → X.G h k n q Ls st) : X.G h k n pc Ls (.ref y :: .ref x :: st) := by
  subst hq
  by_cases hc : x = y
  · exact X.step (g0 hc) fun T _ Y t r => XT.acmpNo Y.here X.1 rfl (X.hd d) rfl rfl rfl (by simp [XT.acmp, hc]) r
  · exact X.step (g1 hc) fun T _ Y t r => XT.acmpYes Y.here X.1 rfl rfl (X.hd d) rfl rfl rfl (by simp [XT.acmp, hc]) hp.1 hp.2 r
theorem OwC.acmp_eq {o : Int} {q' : Nat} {x y : Addr} (d : decode bytes pc = .ok (.if_acmp .eq o, 3)) (hp : 0 ≤ (pc : Int) + o ∧ ((pc : Int) + o).toNat = q') (hq : pc + 3 = q) (g1 : x = y → X.G h k n q' Ls st) (g0 : ¬ x = y → X.G h k n q Ls st) : X.G h k n pc Ls (.ref y :: .ref x :: st) := by
  subst hq
  by_cases hc : x = y
  · exact X.step (g1 hc) fun T _ Y t r => XT.acmpYes Y.here X.1 rfl rfl (X.hd d) rfl rfl rfl (by simp [XT.acmp, hc]) hp.1 hp.2 r
  · exact X.step (g0 hc) fun T _ Y t r => XT.acmpNo Y.here X.1 rfl (X.hd d) rfl rfl rfl (by simp [XT.acmp, hc]) r
/-! returns -/
theorem OwC.fin {v : Option Value} (hv : meth.sig.returnType = none → v = none) (w : ∀ T locs, Stand p l e R s m args below meth c T locs k n → ∀ fs, (∀ (f : JFrame) (acts : List Action), f.method = m → f.locked = none → f.entered = [] → (doReturn e (T.setTop f) acts v).1 = T.setFrames fs) → Steps p.tables e below (T.setTop (mkF m pc Ls st)) (T.setFrames fs)) (hk : k ≤ kM) (hn : n ≤ nM) (hΦ : Φ v h) : X.G h k n pc Ls st := fun T locs Y eT N => by
  obtain ⟨fs, hr, hrun, hended, hW, hsame⟩ := Y.leave (v := v) hv X.2.2.2.2.2.2.1
  exact ⟨v, _, locs, w T locs Y fs hr, hrun, hended, ⟨by show Φ v T.heap; rw [eT]; exact hΦ, N⟩, ⟨_, rfl⟩, hW, hsame.mono hk hn⟩
theorem OwC.retV (d : decode bytes pc = .ok (.return_, 1)) (hret : ret = none) (hk : k ≤ kM) (hn : n ≤ nM) (hΦ : Φ none h) : X.G h k n pc Ls [] :=
  X.fin (fun _ => rfl) (fun T _ Y fs hr => Y.returnOut X.1 (X.2.2.2.2.2.1.trans hret) (X.hd d) hr) hk hn hΦ
theorem OwC.retI {z : Int32} (d : decode bytes pc = .ok (.ireturn, 1)) (hret : ret = some .int) (hk : k ≤ kM) (hn : n ≤ nM) (hΦ : Φ (some (.int z)) h) : X.G h k n pc Ls (.int z :: st) :=
  X.fin (fun q => by rw [X.2.2.2.2.2.1, hret] at q; cases q) (fun T _ Y fs hr => retOut Y X.1 (X.2.2.2.2.2.1.trans hret) rfl (Or.inl ⟨rfl, Or.inl rfl, z, rfl⟩) (X.hd d) hr) hk hn hΦ
theorem OwC.retN {z z' : Int32} {t : FieldType} (d : decode bytes pc = .ok (.ireturn, 1)) (hret : ret = some t) (ht : t = .boolean ∨ t = .byte ∨ t = .char ∨ t = .short) (hz : nar t z = z') (hk : k ≤ kM) (hn : n ≤ nM) (hΦ : Φ (some (.int z')) h) : X.G h k n pc Ls (.int z :: st) := by
  subst hz
  exact X.fin (fun q => by rw [X.2.2.2.2.2.1, hret] at q; cases q) (fun T _ Y fs hr => RoadKit.retN Y X.1 (X.2.2.2.2.2.1.trans hret) ht (X.hd d) hr) hk hn hΦ
theorem OwC.retJ {z : Int64} (d : decode bytes pc = .ok (.lreturn, 1)) (hret : ret = some .long) (hk : k ≤ kM) (hn : n ≤ nM) (hΦ : Φ (some (.long z)) h) : X.G h k n pc Ls (.long z :: st) :=
  X.fin (fun q => by rw [X.2.2.2.2.2.1, hret] at q; cases q) (fun T _ Y fs hr => retOut Y X.1 (X.2.2.2.2.2.1.trans hret) rfl (Or.inr (Or.inl ⟨rfl, rfl, z, rfl⟩)) (X.hd d) hr) hk hn hΦ
theorem OwC.retA {v : Value} {t : FieldType} (d : decode bytes pc = .ok (.areturn, 1)) (hret : ret = some t) (ht : t.isReference = true) (hv : v.isRef = true) (hnv : narrow t v = v) (hk : k ≤ kM) (hn : n ≤ nM) (hΦ : Φ (some v) h) : X.G h k n pc Ls (v :: st) :=
  X.fin (fun q => by rw [X.2.2.2.2.2.1, hret] at q; cases q) (fun T _ Y fs hr => retOut Y X.1 (X.2.2.2.2.2.1.trans hret) hnv (Or.inr (Or.inr (Or.inr (Or.inr ⟨rfl, ht, hv⟩)))) (X.hd d) hr) hk hn hΦ
/-! the heap -/
theorem OwC.getF {R0 O fn d0 host : String} {i : Nat} {a : Addr} {v : Value} (w : (Cond.fieldLink own i R0 fn d0).before a0 Z = true ∨ (Cond.fieldLinkNest own i R0 fn d0 host).before a0 Z = true) (via : Via Z R0 O fn d0) (F : Fld Z h a O fn d0 v) (d : decode bytes pc = .ok (.getfield i, 3)) (hq : pc + 3 = q) (g : X.G h k n q Ls (v :: st)) : X.G h k n pc Ls (.ref a :: st) := fun T locs Y eT N => by
  subst hq
  obtain ⟨T', Y', eT', w'⟩ := RoadKit.getF Y X.1 X.2.2.2.2.1 X.2.2.2.1 w via eT F (g := mkF m pc Ls (.ref a :: st)) rfl rfl (X.hd d)
  obtain ⟨v, s₂, L, r1, r⟩ := g T' locs Y' eT' N
  exact ⟨v, s₂, L, w' _ r1, r⟩
theorem OwC.getS {R0 O fn d0 : String} {i : Nat} {v : Value} (w : (Cond.fieldLink own i R0 fn d0).before a0 Z = true) (via : Via Z R0 O fn d0) (F : Sta Z h O fn d0 v) (d : decode bytes pc = .ok (.getstatic i, 3)) (hq : pc + 3 = q) (g : X.G h k n q Ls (v :: st)) : X.G h k n pc Ls st := fun T locs Y eT N => by
  subst hq
  obtain ⟨T', Y', eT', w'⟩ := RoadKit.getS (host := "") Y X.1 X.2.2.2.2.1 X.2.2.2.1 w via eT F (g := mkF m pc Ls st) rfl (X.hd d)
  obtain ⟨v, s₂, L, r1, r⟩ := g T' locs Y' eT' N
  exact ⟨v, s₂, L, w' _ r1, r⟩
theorem OwC.putF {R0 O fn d0 host C : String} {i kk : Nat} {a : Addr} {v old : Value} {ty : FieldType} (w : (Cond.fieldLink own i R0 fn d0).before a0 Z = true ∨ (Cond.fieldLinkNest own i R0 fn d0 host).before a0 Z = true) (via : Via Z R0 O fn d0) (F : Fld Z h a O fn d0 old) (E : Exa Z h a C)
    (L : (Cond.lays C O fn d0).before a0 Z = true ∨ ((Cond.laysFinal C O fn d0).before a0 Z = true ∧ own = O ∧ nm = "<init>")) (wi : (Cond.instantiable C kk).before a0 Z = true) (hty : parseFieldDescriptor d0 = some ty) (hnv : narrow ty v = v) (hf : fits ty v = true) (ge : n0 ≤ a)
    (d : decode bytes pc = .ok (.putfield i, 3)) (hq : pc + 3 = q) (g : ∀ h', Wr h h' a (RoadKit.slotOf Z O fn d0) v → X.G h' k n q Ls st) : X.G h k n pc Ls (v :: .ref a :: st) := fun T locs Y eT N => by
  subst hq
  obtain ⟨T', h', Y', eT', W, w'⟩ := RoadKit.putF Y X.1 X.2.2.2.2.1 X.2.2.2.1 w via eT F E (L.imp_right fun z => ⟨z.1, z.2.1, X.2.2.2.2.2.2.2.trans z.2.2⟩) wi hty hnv hf (g := mkF m pc Ls (v :: .ref a :: st)) rfl rfl (X.hd d)
  obtain ⟨v, s₂, L, r1, r⟩ := g h' W T' _ Y' eT' (Fr.snoc Y' N ge)
  exact ⟨v, s₂, L, w' _ r1, r⟩
theorem OwC.newO {C : String} {i N k' n' : Nat} (w : (Cond.classLink own i C).before a0 Z = true) (wi : (Cond.instantiable C N).before a0 Z = true) (wz : (Cond.initialized C).before a0 Z = true) (d : decode bytes pc = .ok (.new i, 3)) (hk : k + 1 = k') (hn : n + N = n') (hc : k' ≤ R.cells) (hs : n' ≤ R.slots) (hq : pc + 3 = q)
    (g : ∀ h' a, a = h.size → Ext h h' → Exa Z h' a C → (∀ {O fn d0 : String} {ty : FieldType}, Laid Z a0 C O fn d0 → parseFieldDescriptor d0 = some ty → Fld Z h' a O fn d0 (defaultValue ty)) → X.G h' k' n' q Ls (.ref a :: st)) : X.G h k n pc Ls st := fun T locs Y eT Nf => by
  subst hq hk hn
  obtain ⟨T', h', Y', eT', E, A, D, -, w'⟩ := RoadKit.newO Y X.1 X.2.2.2.2.1 X.2.2.2.1 w wi wz eT (g := mkF m pc Ls st) rfl (X.hd d) hc hs
  obtain ⟨v, s₂, L, r1, r⟩ := g h' h.size rfl E A D T' _ Y' eT' Nf
  exact ⟨v, s₂, L, w' _ r1, r⟩
theorem OwC.initO {i W : Nat} {a : Addr} (w1 : (Cond.methodLink own i Lib.objectInit).before a0 Z = true) (w2 : (Cond.instanceMethod Lib.objectInit).before a0 Z = true) (w3 : (Cond.code Lib.objectInit ⟨#[0xb1]⟩ 1 none).before a0 Z = true) (d : decode bytes pc = .ok (.invokespecial i, 3)) (hsz : Ls.size = mL) (hf : 1 ≤ R.frames) (hW : (st.map fun v => v.category).sum ≤ W) (hl : W + 12 ≤ R.locals) (hq : pc + 3 = q)
    (g : X.G h k n q Ls st) : X.G h k n pc Ls (.ref a :: st) := fun T locs Y eT N => by
  subst hq
  obtain ⟨T', Y', eT', w'⟩ := RoadKit.initO Y X.1 X.2.2.2.2.1 X.2.2.2.1 w1 w2 w3 eT (g := mkF m pc Ls (.ref a :: st)) rfl (hsz.trans X.2.2.1.symm) rfl (X.hd d) hf (W := W) (by show 2 * 0 + _ ≤ _; omega) hl
  obtain ⟨v, s₂, L, r1, r⟩ := g T' locs Y' eT' N
  exact ⟨v, s₂, L, w' _ r1, r⟩
/-! arrays: what stands in one, as a list -/
def OwA (Z : State) (h : Heap) (a : Addr) (ty : FieldType) (vs : List Value) : Prop := ∃ cl : Cell, Arr Z h a cl ty ∧ cl.slots.toList = vs ∧ vs.length < 2 ^ 31
variable {a : Addr} {ty : FieldType} {vs : List Value}
theorem OwA.lt (A : OwA Z h a ty vs) : a < h.size := by obtain ⟨cl, A, -⟩ := A; exact A.lt
theorem OwA.len (A : OwA Z h a ty vs) : vs.length < 2 ^ 31 := by obtain ⟨cl, A, -, r⟩ := A; exact r
theorem OwA.ext {h' : Heap} (A : OwA Z h a ty vs) (E : Ext h h') : OwA Z h' a ty vs := by obtain ⟨cl, A, r⟩ := A; exact ⟨cl, A.ext E, r⟩
theorem OwA.other {h' : Heap} {b : Addr} {sl : Nat} {v : Value} (A : OwA Z h a ty vs) (W : Wr h h' b sl v) (ne : a ≠ b) : OwA Z h' a ty vs := by obtain ⟨cl, A, r⟩ := A; exact ⟨cl, A.other W ne, r⟩
theorem OwA.keep {h' : Heap} {ws : List Addr} (A : OwA Z h a ty vs) (K : Keep h h' ws) (ni : a ∉ ws) : OwA Z h' a ty vs := by obtain ⟨cl, A, r⟩ := A; exact ⟨cl, ⟨K.2.1 a cl A.1 ni, A.2⟩, r⟩
theorem OwA.set {h' : Heap} {j : Nat} {v : Value} (A : OwA Z h a ty vs) (W : Wr h h' a j v) : OwA Z h' a ty (vs.set j v) := by
  obtain ⟨cl, A, r1, r2⟩ := A
  exact ⟨cl.setSlot j v, A.same W, by simp [Cell.setSlot, r1], by simpa using r2⟩
theorem ow_idx {i : Int32} {j : Nat} (hi : i.toInt = (j : Int)) : ¬ i < 0 ∧ i.toNatClampNeg = j := by
  refine ⟨?_, ?_⟩
  · rw [Int32.lt_iff_toInt_lt]; have : (0 : Int32).toInt = 0 := rfl; omega
  · have : i.toNatClampNeg = i.toInt.toNat := rfl
    omega
theorem OwA.inb {cl : Cell} {i : Int32} {j : Nat} (e : cl.slots.toList = vs) (hi : i.toInt = (j : Int)) (hj : j < vs.length) : ¬ (i < 0 ∨ cl.slots.size ≤ i.toNatClampNeg) := by
  obtain ⟨h1, h2⟩ := ow_idx hi
  have : cl.slots.size = vs.length := by rw [← e]; simp
  rintro (q | q)
  · exact h1 q
  · omega
theorem OwA.at {cl : Cell} {i : Int32} {j : Nat} {v : Value} (e : cl.slots.toList = vs) (hi : i.toInt = (j : Int)) (hv : vs[j]? = some v) : cl.slots[i.toNatClampNeg]? = some v := by
  rw [(ow_idx hi).2, ← hv, ← e]; simp
theorem ow_getlt {j : Nat} {v : Value} (hv : vs[j]? = some v) : j < vs.length := (List.getElem?_eq_some_iff.mp hv).1
theorem OwC.newP {aty : ArrayType} {z : Int32} {N k' n' : Nat} (w : (Cond.arrayClass (newarray.typeOf aty)).before a0 Z = true) (d : decode bytes pc = .ok (.newarray aty, 2)) (ht : newarray.typeOf aty = ty) (hz : z.toInt = (N : Int)) {cap : Nat} (hcap : N ≤ cap) (hb : cap * 8 ≤ 536870912) (hk : k + 1 = k') (hn : n + cap = n') (hc : k' ≤ R.cells) (hs : n' ≤ R.slots) (hq : pc + 2 = q)
    (g : ∀ h' a, a = h.size → Ext h h' → OwA Z h' a ty (List.replicate N (defaultValue ty)) → X.G h' k' n' q Ls (.ref a :: st)) : X.G h k n pc Ls (.int z :: st) := fun T locs Y eT Nf => by
  subst hq hk hn ht
  obtain ⟨z1, z2⟩ := ow_idx hz
  obtain ⟨T', h', cA, Y', eT', E, A, w'⟩ := RoadKit.newP Y X.1 X.2.2.2.2.1 w eT (g := mkF m pc Ls (.int z :: st)) rfl (X.hd d) rfl z1 (cap := cap) (by omega) hb hc hs
  obtain ⟨v, s₂, L, r1, r⟩ := g h' h.size rfl E ⟨_, A, by simp [newA, z2], by have := z.toInt_lt; simp; omega⟩ T' _ Y' eT' Nf
  exact ⟨v, s₂, L, w' _ r1, r⟩
theorem OwC.alen {z : Int32} (A : OwA Z h a ty vs) (hz : z.toInt = (vs.length : Int)) (d : decode bytes pc = .ok (.arraylength, 1)) (hq : pc + 1 = q) (g : X.G h k n q Ls (.int z :: st)) : X.G h k n pc Ls (.ref a :: st) := fun T locs Y eT N => by
  subst hq
  obtain ⟨cl, A, e, hl⟩ := A
  obtain ⟨v, s₂, L, r1, r⟩ := g T locs Y eT N
  have hsz : cl.slots.size = vs.length := by rw [← e]; simp
  have ez : cl.slots.size.toInt32 = z := by rw [hsz, ← Int32.toInt_inj, len_toInt hl, hz]
  exact ⟨v, s₂, L, Y.arraylength X.1 (by rw [eT]; exact A.1) (State.isArrayOf_alike X.2.2.2.2.1.alike A.2.1) (g := mkF m pc Ls (.ref a :: st)) rfl rfl (X.hd d) _ (by rw [ez]; exact r1), r⟩
theorem OwC.iaload {i : Int32} {j : Nat} {v : Value} (A : OwA Z h a .int vs) (hi : i.toInt = (j : Int)) (hv : vs[j]? = some v) (d : decode bytes pc = .ok (.iaload, 1)) (hq : pc + 1 = q) (g : X.G h k n q Ls (v :: st)) : X.G h k n pc Ls (.int i :: .ref a :: st) := fun T locs Y eT N => by
  subst hq
  obtain ⟨cl, A, e, -⟩ := A
  obtain ⟨v, s₂, L, r1, r⟩ := g T locs Y eT N
  exact ⟨v, s₂, L, Y.iaload X.1 (by rw [eT]; exact A.1) (State.isArrayOf_alike X.2.2.2.2.1.alike A.2.1) A.2.2 (OwA.inb e hi (ow_getlt hv)) (OwA.at e hi hv) (g := mkF m pc Ls (.int i :: .ref a :: st)) rfl rfl (X.hd d) _ r1, r⟩
theorem OwC.laload {i : Int32} {j : Nat} {v : Value} (A : OwA Z h a .long vs) (hi : i.toInt = (j : Int)) (hv : vs[j]? = some v) (d : decode bytes pc = .ok (.laload, 1)) (hq : pc + 1 = q) (g : X.G h k n q Ls (v :: st)) : X.G h k n pc Ls (.int i :: .ref a :: st) := fun T locs Y eT N => by
  subst hq
  obtain ⟨cl, A, e, -⟩ := A
  obtain ⟨v, s₂, L, r1, r⟩ := g T locs Y eT N
  exact ⟨v, s₂, L, Y.laload X.1 (by rw [eT]; exact A.1) (State.isArrayOf_alike X.2.2.2.2.1.alike A.2.1) A.2.2 (OwA.inb e hi (ow_getlt hv)) (OwA.at e hi hv) (g := mkF m pc Ls (.int i :: .ref a :: st)) rfl rfl (X.hd d) _ r1, r⟩
theorem OwC.baload {i : Int32} {j : Nat} {v : Value} (A : OwA Z h a .byte vs) (hi : i.toInt = (j : Int)) (hv : vs[j]? = some v) (d : decode bytes pc = .ok (.baload, 1)) (hq : pc + 1 = q) (g : X.G h k n q Ls (v :: st)) : X.G h k n pc Ls (.int i :: .ref a :: st) := fun T locs Y eT N => by
  subst hq
  obtain ⟨cl, A, e, -⟩ := A
  obtain ⟨v, s₂, L, r1, r⟩ := g T locs Y eT N
  exact ⟨v, s₂, L, Y.baloadBytes X.1 (by rw [eT]; exact A.1) (State.isArrayOf_alike X.2.2.2.2.1.alike A.2.1) A.2.2 (OwA.inb e hi (ow_getlt hv)) (OwA.at e hi hv) (g := mkF m pc Ls (.int i :: .ref a :: st)) rfl rfl (X.hd d) _ r1, r⟩
theorem OwC.caload {i : Int32} {j : Nat} {v : Value} (A : OwA Z h a .char vs) (hi : i.toInt = (j : Int)) (hv : vs[j]? = some v) (d : decode bytes pc = .ok (.caload, 1)) (hq : pc + 1 = q) (g : X.G h k n q Ls (v :: st)) : X.G h k n pc Ls (.int i :: .ref a :: st) := fun T locs Y eT N => by
  subst hq
  obtain ⟨cl, A, e, -⟩ := A
  obtain ⟨v, s₂, L, r1, r⟩ := g T locs Y eT N
  exact ⟨v, s₂, L, Y.caload X.1 (by rw [eT]; exact A.1) (State.isArrayOf_alike X.2.2.2.2.1.alike A.2.1) A.2.2 (OwA.inb e hi (ow_getlt hv)) (OwA.at e hi hv) (g := mkF m pc Ls (.int i :: .ref a :: st)) rfl rfl (X.hd d) _ r1, r⟩
theorem OwC.iastore {i : Int32} {j : Nat} {x : Int32} (A : OwA Z h a .int vs) (hi : i.toInt = (j : Int)) (hj : j < vs.length) (ge : n0 ≤ a) (d : decode bytes pc = .ok (.iastore, 1)) (hq : pc + 1 = q) (g : ∀ h', Wr h h' a j (.int x) → OwA Z h' a .int (vs.set j (.int x)) → X.G h' k n q Ls st) : X.G h k n pc Ls (.int x :: .int i :: .ref a :: st) := fun T locs Y eT N => by
  subst hq
  obtain ⟨cl, A1, e, hl⟩ := id A
  obtain ⟨T', h', Y', eT', W, w'⟩ := RoadKit.stI Y X.1 X.2.2.2.2.1 eT A1 (OwA.inb e hi hj) (g := mkF m pc Ls (.int x :: .int i :: .ref a :: st)) rfl rfl (X.hd d)
  have N' := Fr.snoc Y' N ge
  rw [(ow_idx hi).2] at W
  obtain ⟨v, s₂, L, r1, r⟩ := g h' W (A.set W) T' _ Y' eT' N'
  exact ⟨v, s₂, L, w' _ r1, r⟩
theorem OwC.lastore {i : Int32} {j : Nat} {x : Int64} (A : OwA Z h a .long vs) (hi : i.toInt = (j : Int)) (hj : j < vs.length) (ge : n0 ≤ a) (d : decode bytes pc = .ok (.lastore, 1)) (hq : pc + 1 = q) (g : ∀ h', Wr h h' a j (.long x) → OwA Z h' a .long (vs.set j (.long x)) → X.G h' k n q Ls st) : X.G h k n pc Ls (.long x :: .int i :: .ref a :: st) := fun T locs Y eT N => by
  subst hq
  obtain ⟨cl, A1, e, hl⟩ := id A
  obtain ⟨T', h', Y', eT', W, w'⟩ := RoadKit.stJ Y X.1 X.2.2.2.2.1 eT A1 (OwA.inb e hi hj) (g := mkF m pc Ls (.long x :: .int i :: .ref a :: st)) rfl rfl (X.hd d)
  have N' := Fr.snoc Y' N ge
  rw [(ow_idx hi).2] at W
  obtain ⟨v, s₂, L, r1, r⟩ := g h' W (A.set W) T' _ Y' eT' N'
  exact ⟨v, s₂, L, w' _ r1, r⟩
theorem OwC.bastore {i : Int32} {j : Nat} {x : Int32} (A : OwA Z h a .byte vs) (hi : i.toInt = (j : Int)) (hj : j < vs.length) (ge : n0 ≤ a) (d : decode bytes pc = .ok (.bastore, 1)) (hq : pc + 1 = q) (g : ∀ h', Wr h h' a j (.int (nar .byte x)) → OwA Z h' a .byte (vs.set j (.int (nar .byte x))) → X.G h' k n q Ls st) : X.G h k n pc Ls (.int x :: .int i :: .ref a :: st) := fun T locs Y eT N => by
  subst hq
  obtain ⟨cl, A1, e, hl⟩ := id A
  obtain ⟨T', h', Y', eT', W, w'⟩ := RoadKit.stB Y X.1 X.2.2.2.2.1 eT A1 (OwA.inb e hi hj) (g := mkF m pc Ls (.int x :: .int i :: .ref a :: st)) rfl rfl (X.hd d)
  have N' := Fr.snoc Y' N ge
  rw [(ow_idx hi).2] at W
  obtain ⟨v, s₂, L, r1, r⟩ := g h' W (A.set W) T' _ Y' eT' N'
  exact ⟨v, s₂, L, w' _ r1, r⟩
theorem OwC.castore {i : Int32} {j : Nat} {x : Int32} (A : OwA Z h a .char vs) (hi : i.toInt = (j : Int)) (hj : j < vs.length) (ge : n0 ≤ a) (d : decode bytes pc = .ok (.castore, 1)) (hq : pc + 1 = q) (g : ∀ h', Wr h h' a j (.int (nar .char x)) → OwA Z h' a .char (vs.set j (.int (nar .char x))) → X.G h' k n q Ls st) : X.G h k n pc Ls (.int x :: .int i :: .ref a :: st) := fun T locs Y eT N => by
  subst hq
  obtain ⟨cl, A1, e, hl⟩ := id A
  obtain ⟨T', h', Y', eT', W, w'⟩ := RoadKit.stC Y X.1 X.2.2.2.2.1 eT A1 (OwA.inb e hi hj) (g := mkF m pc Ls (.int x :: .int i :: .ref a :: st)) rfl rfl (X.hd d)
  have N' := Fr.snoc Y' N ge
  rw [(ow_idx hi).2] at W
  obtain ⟨v, s₂, L, r1, r⟩ := g h' W (A.set W) T' _ Y' eT' N'
  exact ⟨v, s₂, L, w' _ r1, r⟩
/-! contracts and calls -/
def OwM (l : Launch) (Z : State) (y : MethodName) (bytes : ByteArray) (mL : Nat) (ret : Option FieldType) (rm : Room) (kM nM : Nat) (ws : List Cond) (as : Array Value) (h0 : Heap) (n0 : Nat) (Φ : Option Value → Heap → Prop) : Prop :=
  MetFree l y (head1 (Cond.code y bytes mL ret :: ws) rm) (fun a U => a = as ∧ Z.Warmed39 U.vm ∧ U.heap = h0) (fun _ _ _ _ _ => True) (fun _ U o U' => ∃ v L, o = .returned v ∧ (Φ v U'.heap ∧ Fr n0 L) ∧ FrameEnd U o U' L kM nM)
theorem OwM.of {y : MethodName} {rm : Room} {ws : List Cond} {as : Array Value} {h0 : Heap} (hpn : plainFor y = true) (hef : ∀ m, entryFrame m as mL = mkF m 0 Ls [])
    (body : ∀ p e s m below meth c (X : OwC p l e rm s m as below meth c Z y.cls y.name bytes mL ret n0 kM nM Φ), X.G h0 0 0 0 Ls []) : OwM l Z y bytes mL ret rm kM nM ws as h0 n0 Φ := by
  refine MetFree.of_bodySF hpn hisR ?_
  intro p e s m args below meth c s₁ Bd hml0 hP hK
  obtain ⟨rfl, hZ, hh⟩ := hP
  have X : OwC p l e rm s m args below meth c Z y.cls y.name bytes mL ret n0 kM nM Φ := ⟨Bd.exec, Bd.bytes, hml0, findClass_of_methodNamed Bd.named, hZ, Bd.returns, Bd.notSynchronized, (name_of_methodNamed Bd.named Bd.method).1⟩
  obtain ⟨v, s₂, L, r1, r2, r3, r4, r5⟩ := body p e s m below meth c X s₁ [] (Stand.of_body Bd) (by rw [← hh, Bd.state]; rfl) (Fr.nil n0)
  exact ⟨s₂, _, castTop (hef m) r1, r2, r3, v, L, rfl, r4, r5⟩
variable {y : MethodName} {by' : ByteArray} {mL' : Nat} {ret' : Option FieldType} {rm : Room} {as : Array Value} {Ψ : Option Value → Heap → Prop}
theorem OwC.back (X : OwC p l e R s m args below meth c Z own nm bytes mL ret n0 kM nM Φ) {len W : Nat} (K : OwM l Z y by' mL' ret' rm rm.cells rm.slots [] as h n0 Ψ) (wc : (Cond.code y by' mL' ret').before a0 Z = true) (wz : (Cond.initialized y.cls).before a0 Z = true) (hf : rm.frames + 1 ≤ R.frames) (hl : W + (mL' + 11) + rm.locals ≤ R.locals) :
    Back l R p e below s args y len W (fun A a => a = as ∧ A.U.heap = h ∧ A.cells + rm.cells ≤ R.cells ∧ A.slots + rm.slots ≤ R.slots)
      (fun A _ v B => ∃ L, (Ψ v B.U.heap ∧ Fr n0 L) ∧ B.locs = A.locs ++ L ∧ B.cells = A.cells + rm.cells ∧ B.slots = A.slots + rm.slots) :=
  backOf (Q := fun v h L => Ψ v h ∧ Fr n0 L) K X.2.2.2.2.1 wc wz hf hl
theorem OwC.callS {i W k' n' : Nat} {argsL : List Value} {ps : List FieldType} {rt : Option FieldType} (K : OwM l Z y by' mL' ret' rm rm.cells rm.slots [] as h n0 Ψ) (w1 : (Cond.methodLink own i y).before a0 Z = true) (w2 : (Cond.static y).before a0 Z = true) (w3 : (Cond.initialized y.cls).before a0 Z = true) (w4 : (Cond.code y by' mL' ret').before a0 Z = true) (hy : y.cls ≠ "java/lang/invoke/MethodHandle" ∧ y.cls ≠ "java/lang/invoke/VarHandle")
    (pd : parseMethodDescriptor y.desc = some ⟨ps, rt⟩) (hlen : argsL.length = ps.length) (has : argsL.toArray = as) (hst : st = argsL.reverse ++ rest) (hW : (rest.map fun v => v.category).sum ≤ W) (hsz : Ls.size = mL) (hf : rm.frames + 1 ≤ R.frames) (hl : W + (mL' + 11) + rm.locals ≤ R.locals) (hk : k + rm.cells = k') (hn : n + rm.slots = n') (hc : k' ≤ R.cells) (hs : n' ≤ R.slots)
    (d : decode bytes pc = .ok (.invokestatic i, 3)) (hq : pc + 3 = q) (g : ∀ v h', Ψ v h' → X.G h' k' n' q Ls (v.toList ++ rest)) : X.G h k n pc Ls st := fun T locs Y eT N => by
  subst hq hk hn has
  obtain ⟨v, vm1, B, -, Y', ⟨L0, ⟨hΨ, N0⟩, l1, l2, l3⟩, w'⟩ := Jvm.LawKit.callS Y X.1 (y := y) X.2.2.2.1 (mvT X.2.2.2.2.1 w1) (mvT X.2.2.2.2.1 w2) (mvT X.2.2.2.2.1 w3) (mvT X.2.2.2.2.1 w4) hy (X.back K w4 w3 hf hl) (g := mkF m pc Ls st) rfl (hsz.trans X.2.2.1.symm) (argsL := argsL) (rest := rest) (lenOf pd hlen) hst (by show 2 * 0 + _ ≤ _; omega) (X.hd d) (fun _ _ => ⟨rfl, eT, hc, hs⟩)
  obtain ⟨T', L', k', n'⟩ := B
  dsimp only [Pt.U, Pt.locs, Pt.cells, Pt.slots] at Y' l1 l2 l3 w' hΨ
  subst l1 l2 l3
  obtain ⟨v, s₂, L, r1, r⟩ := g v _ hΨ T' _ Y' rfl (N.app N0)
  exact ⟨v, s₂, L, w' _ r1, r⟩
theorem OwC.special {i W k' n' : Nat} {a : Addr} {argsL : List Value} {ps : List FieldType} {rt : Option FieldType} (K : OwM l Z y by' mL' none rm rm.cells rm.slots [] as h n0 Ψ) (hin : y.name = "<init>") (w1 : (Cond.methodLink own i y).before a0 Z = true) (w2 : (Cond.instanceMethod y).before a0 Z = true) (w3 : (Cond.initialized y.cls).before a0 Z = true) (w4 : (Cond.code y by' mL' none).before a0 Z = true) (hy : y.cls ≠ "java/lang/invoke/MethodHandle" ∧ y.cls ≠ "java/lang/invoke/VarHandle")
    (pd : parseMethodDescriptor y.desc = some ⟨ps, rt⟩) (hlen : argsL.length = ps.length) (has : (.ref a :: argsL).toArray = as) (hst : st = argsL.reverse ++ .ref a :: rest) (hW : (rest.map fun v => v.category).sum ≤ W) (hsz : Ls.size = mL) (hf : rm.frames + 1 ≤ R.frames) (hl : W + (mL' + 11) + rm.locals ≤ R.locals) (hk : k + rm.cells = k') (hn : n + rm.slots = n') (hc : k' ≤ R.cells) (hs : n' ≤ R.slots)
    (d : decode bytes pc = .ok (.invokespecial i, 3)) (hq : pc + 3 = q) (g : ∀ v h', Ψ v h' → X.G h' k' n' q Ls (v.toList ++ rest)) : X.G h k n pc Ls st := fun T locs Y eT N => by
  subst hq hk hn has
  obtain ⟨v, vm1, B, -, Y', ⟨L0, ⟨hΨ, N0⟩, l1, l2, l3⟩, w'⟩ := Y.specialBack X.1 (y := y) hin X.2.2.2.1 (mvT X.2.2.2.2.1 w1) (mvT X.2.2.2.2.1 w2) (mvT X.2.2.2.2.1 w4) hy (X.back K w4 w3 hf hl) (g := mkF m pc Ls st) rfl (hsz.trans X.2.2.1.symm) (Steps.refl _) (a := a) (argsL := argsL) (rest := rest) (lenOf pd hlen) hst (by show 2 * 0 + _ ≤ _; omega) (X.hd d) (fun _ _ => ⟨rfl, eT, hc, hs⟩)
  obtain ⟨T', L', k', n'⟩ := B
  dsimp only [Pt.U, Pt.locs, Pt.cells, Pt.slots] at Y' l1 l2 l3 w' hΨ
  subst l1 l2 l3
  obtain ⟨v, s₂, L, r1, r⟩ := g v _ hΨ T' _ Y' rfl (N.app N0)
  exact ⟨v, s₂, L, w'.trans r1, r⟩
theorem OwC.virtual {C : String} {i W k' n' : Nat} {a : Addr} {argsL : List Value} {ps : List FieldType} {rt : Option FieldType} (K : OwM l Z y by' mL' ret' rm rm.cells rm.slots [] as h n0 Ψ) (w1 : (Cond.methodLink own i y).before a0 Z = true) (w2 : (Cond.declares y).before a0 Z = true) (w5 : (Cond.selects C y y).before a0 Z = true) (w6 : (Cond.instanceMethod y).before a0 Z = true) (w3 : (Cond.initialized y.cls).before a0 Z = true) (w4 : (Cond.code y by' mL' ret').before a0 Z = true) (hy : y.cls ≠ "java/lang/invoke/MethodHandle" ∧ y.cls ≠ "java/lang/invoke/VarHandle") (E : Exa Z h a C)
    (pd : parseMethodDescriptor y.desc = some ⟨ps, rt⟩) (hlen : argsL.length = ps.length) (has : (.ref a :: argsL).toArray = as) (hst : st = argsL.reverse ++ .ref a :: rest) (hW : (rest.map fun v => v.category).sum ≤ W) (hsz : Ls.size = mL) (hf : rm.frames + 1 ≤ R.frames) (hl : W + (mL' + 11) + rm.locals ≤ R.locals) (hk : k + rm.cells = k') (hn : n + rm.slots = n') (hc : k' ≤ R.cells) (hs : n' ≤ R.slots)
    (d : decode bytes pc = .ok (.invokevirtual i, 3)) (hq : pc + 3 = q) (g : ∀ v h', Ψ v h' → X.G h' k' n' q Ls (v.toList ++ rest)) : X.G h k n pc Ls st := fun T locs Y eT N => by
  subst hq hk hn has
  obtain ⟨cB, kB, q1, q2, q3⟩ := isOf (T := T) X.2.2.2.2.1 eT E
  obtain ⟨v, vm1, B, -, Y', ⟨L0, ⟨hΨ, N0⟩, l1, l2, l3⟩, w'⟩ := Y.virtualBack X.1 (y := y) (z := y) X.2.2.2.1 (mvT X.2.2.2.2.1 w1) (mvT X.2.2.2.2.1 w2) (notFace_of_selects (args := #[]) (mvT X.2.2.2.2.1 w5)) (mvT X.2.2.2.2.1 w5) (mvT X.2.2.2.2.1 w6) hy (X.back K w4 w3 hf hl) q1 q3 (g := mkF m pc Ls st) rfl (hsz.trans X.2.2.1.symm) (Steps.refl _) (argsL := argsL) (rest := rest) (lenOf pd hlen) hst (by show 2 * 0 + _ ≤ _; omega) (X.hd d) (fun _ _ => ⟨rfl, eT, hc, hs⟩)
  obtain ⟨T', L', k', n'⟩ := B
  dsimp only [Pt.U, Pt.locs, Pt.cells, Pt.slots] at Y' l1 l2 l3 w' hΨ
  subst l1 l2 l3
  obtain ⟨v, s₂, L, r1, r⟩ := g v _ hΨ T' _ Y' rfl (N.app N0)
  exact ⟨v, s₂, L, w'.trans r1, r⟩
end OwKit
/-! numbers -/
theorem own_ofNat {c : Int32} (h1 : 0 ≤ c.toInt) (h2 : c.toInt < 2147483648) : c = Int32.ofNat c.toInt.toNat := by
  rw [← Int32.toInt_inj, Int32.toInt_ofNat_small (by omega)]; omega
theorem own_natInt (x : Int32) : x.toInt = if x.toBitVec.toNat < 2147483648 then (x.toBitVec.toNat : Int) else (x.toBitVec.toNat : Int) - 4294967296 := by
  show x.toBitVec.toInt = _
  rw [BitVec.toInt_eq_toNat_cond]
  split <;> split <;> omega
theorem own_c16 (x : Int32) : x.toUInt32.toUInt16.toUInt32.toInt32.toInt = x.toInt % 65536 := by
  have e : x.toUInt32.toUInt16.toUInt32.toInt32.toBitVec.toNat = x.toBitVec.toNat % 65536 := rfl
  have h1 := own_natInt x.toUInt32.toUInt16.toUInt32.toInt32
  have h2 := own_natInt x
  have h3 := x.toBitVec.isLt
  rw [e] at h1
  split at h1 <;> split at h2 <;> omega

theorem own_sub {x y : Int32} {b : Int} (hy : y.toInt = b) (h1 : -2147483648 ≤ x.toInt - b) (h2 : x.toInt - b < 2147483648) : (x - y).toInt = x.toInt - b := by
  subst hy; rw [Int32.toInt_sub]; exact Int.bmod_eq_of_le (by omega) (by omega)
theorem own_add {x y : Int32} {b : Int} (hy : y.toInt = b) (h1 : -2147483648 ≤ x.toInt + b) (h2 : x.toInt + b < 2147483648) : (x + y).toInt = x.toInt + b := by
  subst hy; rw [Int32.toInt_add]; exact Int.bmod_eq_of_le (by omega) (by omega)
theorem own_nor32 (n : Nat) : n ||| 32 = n + 32 * (1 - n / 32 % 2) := by
  have h1 : (n ||| 32) / 64 = n / 64 := by
    have := Nat.or_div_two_pow (a := n) (b := 32) (n := 6)
    simpa using this
  have h2 : (n ||| 32) % 64 = (n % 64) ||| 32 := by
    have := Nat.or_mod_two_pow (a := n) (b := 32) (n := 6)
    simpa using this
  have key : ∀ k : Fin 64, k.val ||| 32 = k.val + 32 * (1 - k.val / 32 % 2) := by decide
  have h3 := key ⟨n % 64, Nat.mod_lt _ (by omega)⟩
  simp only at h3
  rw [h3] at h2
  omega
theorem own_or32 (c : Int32) (h0 : 0 ≤ c.toInt) : (c ||| 32).toInt = c.toInt + 32 * (1 - c.toInt / 32 % 2) := by
  have e : (c ||| 32).toBitVec.toNat = c.toBitVec.toNat ||| 32 := rfl
  have h1 := own_natInt (c ||| 32)
  have h2 := own_natInt c
  have h3 := c.toBitVec.isLt
  rw [e, own_nor32] at h1
  split at h1 <;> split at h2 <;> omega

/-! bits of longs -/
theorem own_k63 {y : Int32} {j : Nat} (hj : y.toInt = (j : Int)) (h : j < 64) : ((y.toInt64 &&& 63).toBitVec.smod 64).toNat = j := by
  have key : ∀ k : Fin 64, (((Int32.ofNat k.val).toInt64 &&& 63).toBitVec.smod 64).toNat = k.val := by decide +kernel
  have e := own_ofNat (c := y) (by omega) (by omega)
  have e2 : y.toInt.toNat = j := by omega
  rw [e2] at e
  rw [e]; exact key ⟨j, h⟩
theorem own_u63 {y : Int32} {j : Nat} (hj : y.toInt = (j : Int)) (h : j < 64) : ((y.toInt64.toUInt64 &&& Int64.toUInt64 63).toBitVec % 64#64).toNat = j := by
  have key : ∀ k : Fin 64, (((Int32.ofNat k.val).toInt64.toUInt64 &&& Int64.toUInt64 63).toBitVec % 64#64).toNat = k.val := by decide +kernel
  have e := own_ofNat (c := y) (by omega) (by omega)
  have e2 : y.toInt.toNat = j := by omega
  rw [e2] at e
  rw [e]; exact key ⟨j, h⟩
theorem own_shl (x : Int64) {y : Int32} {j : Nat} (hj : y.toInt = (j : Int)) (h : j < 64) : (x <<< (y.toInt64 &&& 63)).toBitVec = x.toBitVec <<< j := by
  have e : (x <<< (y.toInt64 &&& 63)).toBitVec = x.toBitVec <<< ((y.toInt64 &&& 63).toBitVec.smod 64) := rfl
  rw [e, BitVec.shiftLeft_eq', own_k63 hj h]
theorem own_ushr (x : Int64) {y : Int32} {j : Nat} (hj : y.toInt = (j : Int)) (h : j < 64) : (XT.ushrL x y).toBitVec = x.toBitVec >>> j := by
  have e : (XT.ushrL x y).toBitVec = x.toBitVec >>> ((y.toInt64.toUInt64 &&& Int64.toUInt64 63).toBitVec % 64#64) := rfl
  rw [e, BitVec.ushiftRight_eq', own_u63 hj h]
theorem own_bit1 (x : Int64) {y : Int32} {j : Nat} (hj : y.toInt = (j : Int)) (h : j < 64) : XT.ushrL x y &&& 1 = if x.toBitVec.getLsbD j then 1 else 0 := by
  rw [← Int64.toBitVec_inj, Int64.toBitVec_and, own_ushr x hj h]
  have e1 : (1 : Int64).toBitVec = 1#64 := rfl
  have e0 : (0 : Int64).toBitVec = 0#64 := rfl
  apply BitVec.eq_of_getLsbD_eq
  intro i hi
  rw [e1, BitVec.getLsbD_and, BitVec.getLsbD_ushiftRight]
  by_cases q : i = 0
  · subst q; cases hb : x.toBitVec.getLsbD j <;> simp [hb, e1, e0]
  · cases hb : x.toBitVec.getLsbD j <;> simp [hb, e1, e0, q, BitVec.getLsbD_one]

theorem own_byte8 (x : Int64) {y : Int32} {j : Nat} (hj : y.toInt = (j : Int)) (h : j < 64) : ((nar .byte (XT.ushrL x y).toInt32.toInt8.toInt32).toInt64 &&& 255).toBitVec.toNat = x.toBitVec.toNat / 2 ^ j % 256 := by
  have e : ((nar .byte (XT.ushrL x y).toInt32.toInt8.toInt32).toInt64 &&& 255).toInt = (XT.ushrL x y).toInt % 256 := by
    rw [Jvm.Kit.i64_mask (k := 8) _ _ (by decide) (by decide), Int32.toInt_toInt64]
    show ((XT.ushrL x y).toInt32.toInt8.toInt32.toInt8.toInt32).toInt % _ = _
    simp only [Int8.toInt_toInt32, Int32.toInt_toInt8, Int64.toInt_toInt32]
    have h1 := Int.bmod_emod (x := (XT.ushrL x y).toInt) (m := 2 ^ 32)
    have h2 := Int.bmod_emod (x := (XT.ushrL x y).toInt.bmod (2 ^ 32)) (m := 2 ^ 8)
    have h3 := Int.bmod_emod (x := ((XT.ushrL x y).toInt.bmod (2 ^ 32)).bmod (2 ^ 8)) (m := 2 ^ 8)
    generalize (XT.ushrL x y).toInt.bmod (2 ^ 32) = u at *
    generalize u.bmod (2 ^ 8) = v at *
    generalize v.bmod (2 ^ 8) = w at *
    omega
  have e2 := own_ushr x hj h
  have e3 : (XT.ushrL x y).toBitVec.toNat = x.toBitVec.toNat / 2 ^ j := by rw [e2, BitVec.toNat_ushiftRight, Nat.shiftRight_eq_div_pow]
  rw [← e3]
  generalize XT.ushrL x y = z at *
  generalize (nar .byte z.toInt32.toInt8.toInt32).toInt64 &&& 255 = t at *
  have q1 : t.toInt = t.toBitVec.toInt := rfl
  have q2 : z.toInt = z.toBitVec.toInt := rfl
  have q3 := BitVec.toInt_eq_toNat_cond t.toBitVec
  have q4 := BitVec.toInt_eq_toNat_cond z.toBitVec
  have q5 := t.toBitVec.isLt
  have q6 := z.toBitVec.isLt
  split at q3 <;> split at q4 <;> omega
theorem own_orN {a b i : Nat} (h : a < 2 ^ i) : a ||| (b * 2 ^ i) = b * 2 ^ i + a := by
  rw [Nat.or_comm, ← Nat.shiftLeft_eq, Nat.shiftLeft_add_eq_or_of_lt h]
theorem own_lorN (a t : Int64) {y : Int32} {i : Nat} (hy : y.toInt = (i : Int)) (hi : i < 57) (ha : a.toBitVec.toNat < 2 ^ i) (ht : t.toBitVec.toNat < 256) : (a ||| t <<< (y.toInt64 &&& 63)).toBitVec.toNat = t.toBitVec.toNat * 2 ^ i + a.toBitVec.toNat := by
  have e : (t <<< (y.toInt64 &&& 63)).toBitVec.toNat = t.toBitVec.toNat * 2 ^ i := by
    rw [own_shl t hy (by omega), BitVec.toNat_shiftLeft, Nat.shiftLeft_eq]
    apply Nat.mod_eq_of_lt
    have h1 : (2 : Nat) ^ i ≤ 2 ^ 56 := Nat.pow_le_pow_right (by decide) (by omega)
    have h2 : t.toBitVec.toNat * 2 ^ i ≤ 255 * 2 ^ 56 := Nat.mul_le_mul (by omega) h1
    omega
  rw [Int64.toBitVec_or, BitVec.toNat_or, e, own_orN ha]
theorem own_sum (x : Int64) : (((((((((nar .byte (XT.ushrL x 0).toInt32.toInt8.toInt32).toInt64 &&& 255) ||| (((nar .byte (XT.ushrL x 8).toInt32.toInt8.toInt32).toInt64 &&& 255) <<< ((8 : Int32).toInt64 &&& 63))) ||| (((nar .byte (XT.ushrL x 16).toInt32.toInt8.toInt32).toInt64 &&& 255) <<< ((16 : Int32).toInt64 &&& 63))) ||| (((nar .byte (XT.ushrL x 24).toInt32.toInt8.toInt32).toInt64 &&& 255) <<< ((24 : Int32).toInt64 &&& 63))) ||| (((nar .byte (XT.ushrL x 32).toInt32.toInt8.toInt32).toInt64 &&& 255) <<< ((32 : Int32).toInt64 &&& 63))) ||| (((nar .byte (XT.ushrL x 40).toInt32.toInt8.toInt32).toInt64 &&& 255) <<< ((40 : Int32).toInt64 &&& 63))) ||| (((nar .byte (XT.ushrL x 48).toInt32.toInt8.toInt32).toInt64 &&& 255) <<< ((48 : Int32).toInt64 &&& 63))) ||| (((nar .byte (XT.ushrL x 56).toInt32.toInt8.toInt32).toInt64 &&& 255) <<< ((56 : Int32).toInt64 &&& 63))) = x := by
  have b0 := own_byte8 x (y := 0) (j := 0) rfl (by decide)
  have b1 := own_byte8 x (y := 8) (j := 8) rfl (by decide)
  have b2 := own_byte8 x (y := 16) (j := 16) rfl (by decide)
  have b3 := own_byte8 x (y := 24) (j := 24) rfl (by decide)
  have b4 := own_byte8 x (y := 32) (j := 32) rfl (by decide)
  have b5 := own_byte8 x (y := 40) (j := 40) rfl (by decide)
  have b6 := own_byte8 x (y := 48) (j := 48) rfl (by decide)
  have b7 := own_byte8 x (y := 56) (j := 56) rfl (by decide)
  have hx := x.toBitVec.isLt
  rw [← Int64.toBitVec_inj]
  apply BitVec.eq_of_toNat_eq
  generalize hn : x.toBitVec.toNat = n at *
  generalize (nar .byte (XT.ushrL x 0).toInt32.toInt8.toInt32).toInt64 &&& 255 = t0 at *
  generalize (nar .byte (XT.ushrL x 8).toInt32.toInt8.toInt32).toInt64 &&& 255 = t1 at *
  generalize (nar .byte (XT.ushrL x 16).toInt32.toInt8.toInt32).toInt64 &&& 255 = t2 at *
  generalize (nar .byte (XT.ushrL x 24).toInt32.toInt8.toInt32).toInt64 &&& 255 = t3 at *
  generalize (nar .byte (XT.ushrL x 32).toInt32.toInt8.toInt32).toInt64 &&& 255 = t4 at *
  generalize (nar .byte (XT.ushrL x 40).toInt32.toInt8.toInt32).toInt64 &&& 255 = t5 at *
  generalize (nar .byte (XT.ushrL x 48).toInt32.toInt8.toInt32).toInt64 &&& 255 = t6 at *
  generalize (nar .byte (XT.ushrL x 56).toInt32.toInt8.toInt32).toInt64 &&& 255 = t7 at *
  have c1 := own_lorN t0 t1 (y := 8) (i := 8) rfl (by decide) (by omega) (by omega)
  generalize t0 ||| t1 <<< ((8 : Int32).toInt64 &&& 63) = a1 at *
  have c2 := own_lorN a1 t2 (y := 16) (i := 16) rfl (by decide) (by omega) (by omega)
  generalize a1 ||| t2 <<< ((16 : Int32).toInt64 &&& 63) = a2 at *
  have c3 := own_lorN a2 t3 (y := 24) (i := 24) rfl (by decide) (by omega) (by omega)
  generalize a2 ||| t3 <<< ((24 : Int32).toInt64 &&& 63) = a3 at *
  have c4 := own_lorN a3 t4 (y := 32) (i := 32) rfl (by decide) (by omega) (by omega)
  generalize a3 ||| t4 <<< ((32 : Int32).toInt64 &&& 63) = a4 at *
  have c5 := own_lorN a4 t5 (y := 40) (i := 40) rfl (by decide) (by omega) (by omega)
  generalize a4 ||| t5 <<< ((40 : Int32).toInt64 &&& 63) = a5 at *
  have c6 := own_lorN a5 t6 (y := 48) (i := 48) rfl (by decide) (by omega) (by omega)
  generalize a5 ||| t6 <<< ((48 : Int32).toInt64 &&& 63) = a6 at *
  have c7 := own_lorN a6 t7 (y := 56) (i := 56) rfl (by decide) (by omega) (by omega)
  generalize a6 ||| t7 <<< ((56 : Int32).toInt64 &&& 63) = a7 at *
  omega

theorem own_d_prog_28_method_3_0 : decode prog_28_method_3_code 0 = .ok (.bipush 8, 2) := by decide +kernel
theorem own_d_prog_28_method_3_2 : decode prog_28_method_3_code 2 = .ok (.newarray .byte, 2) := by decide +kernel
theorem own_d_prog_28_method_3_4 : decode prog_28_method_3_code 4 = .ok (.astore_n 2, 1) := by decide +kernel
theorem own_d_prog_28_method_3_5 : decode prog_28_method_3_code 5 = .ok (.iconst 0, 1) := by decide +kernel
theorem own_d_prog_28_method_3_6 : decode prog_28_method_3_code 6 = .ok (.istore_n 3, 1) := by decide +kernel
theorem own_d_prog_28_method_3_7 : decode prog_28_method_3_code 7 = .ok (.iload_n 3, 1) := by decide +kernel
theorem own_d_prog_28_method_3_8 : decode prog_28_method_3_code 8 = .ok (.bipush 8, 2) := by decide +kernel
theorem own_d_prog_28_method_3_10 : decode prog_28_method_3_code 10 = .ok (.if_icmp .ge 20, 3) := by decide +kernel
theorem own_d_prog_28_method_3_13 : decode prog_28_method_3_code 13 = .ok (.aload_n 2, 1) := by decide +kernel
theorem own_d_prog_28_method_3_14 : decode prog_28_method_3_code 14 = .ok (.iload_n 3, 1) := by decide +kernel
theorem own_d_prog_28_method_3_15 : decode prog_28_method_3_code 15 = .ok (.lload_n 0, 1) := by decide +kernel
theorem own_d_prog_28_method_3_16 : decode prog_28_method_3_code 16 = .ok (.bipush 8, 2) := by decide +kernel
theorem own_d_prog_28_method_3_18 : decode prog_28_method_3_code 18 = .ok (.iload_n 3, 1) := by decide +kernel
theorem own_d_prog_28_method_3_19 : decode prog_28_method_3_code 19 = .ok (.imul, 1) := by decide +kernel
theorem own_d_prog_28_method_3_20 : decode prog_28_method_3_code 20 = .ok (.lushr, 1) := by decide +kernel
theorem own_d_prog_28_method_3_21 : decode prog_28_method_3_code 21 = .ok (.l2i, 1) := by decide +kernel
theorem own_d_prog_28_method_3_22 : decode prog_28_method_3_code 22 = .ok (.i2b, 1) := by decide +kernel
theorem own_d_prog_28_method_3_23 : decode prog_28_method_3_code 23 = .ok (.bastore, 1) := by decide +kernel
theorem own_d_prog_28_method_3_24 : decode prog_28_method_3_code 24 = .ok (.iinc 3 1, 3) := by decide +kernel
theorem own_d_prog_28_method_3_27 : decode prog_28_method_3_code 27 = .ok (.goto (-20), 3) := by decide +kernel
theorem own_d_prog_28_method_3_30 : decode prog_28_method_3_code 30 = .ok (.aload_n 2, 1) := by decide +kernel
theorem own_d_prog_28_method_3_31 : decode prog_28_method_3_code 31 = .ok (.areturn, 1) := by decide +kernel
def own_rm_own_le : Room := ({ frames := 0, cells := 1, slots := 8, locals := 0 } : Room)
set_option maxRecDepth 65536 in
set_option maxHeartbeats 1000000 in
theorem own_le (l : Launch) (Z : State) (a0 : Array Value) (hw : ∀ d ∈ tables_1, d.before a0 Z = true) (h : Heap) (n0 : Nat) (x : Int64)  (hn0 : n0 ≤ h.size) :
    OwM l Z (⟨"com/example/boann/boann/hashing/Items", "littleEndian", "(J)[B"⟩ : MethodName) prog_28_method_3_code 4 (some (.array .byte)) own_rm_own_le 1 8 [] #[(.long x)] h n0 (fun r h' => ∃ b, r = some (.ref b) ∧ Keep h h' [] ∧ h.size ≤ b ∧ OwA Z h' b .byte [(.int (nar .byte (XT.ushrL x (0 : Int32)).toInt32.toInt8.toInt32)), (.int (nar .byte (XT.ushrL x (8 : Int32)).toInt32.toInt8.toInt32)), (.int (nar .byte (XT.ushrL x (16 : Int32)).toInt32.toInt8.toInt32)), (.int (nar .byte (XT.ushrL x (24 : Int32)).toInt32.toInt8.toInt32)), (.int (nar .byte (XT.ushrL x (32 : Int32)).toInt32.toInt8.toInt32)), (.int (nar .byte (XT.ushrL x (40 : Int32)).toInt32.toInt8.toInt32)), (.int (nar .byte (XT.ushrL x (48 : Int32)).toInt32.toInt8.toInt32)), (.int (nar .byte (XT.ushrL x (56 : Int32)).toInt32.toInt8.toInt32))]) := by
  refine OwM.of (Ls := #[.val (.long x), .second, .unset, .unset]) (by decide +kernel) (fun m => by first | (simp [entryFrame, mkF, argsToLocals, Value.category]; done) | rfl) ?_
  intro _ _ _ _ _ _ _ X
  have K0 : Keep h h [] := Keep.refl _ _
  refine X.bipush (q := 2) (8 : Int32) own_d_prog_28_method_3_0 (by decide) rfl ?_
  refine X.newP (q := 4) (ty := .byte) (N := 8) (cap := 8) (k' := 1) (n' := 8) (hw _ (List.mem_of_getElem? (i := 4) rfl)) own_d_prog_28_method_3_2 rfl rfl (Nat.le_refl _) (by decide) rfl rfl (by decide) (by decide) rfl (fun h1 a2 ga2 Eh1 Aa2 => ?_)
  have gea2 : n0 ≤ a2 := by rw [ga2]; exact hn0
  have hsh1 : n0 ≤ h1.size := Nat.le_trans hn0 Eh1.1
  have fra2 : h.size ≤ a2 := by rw [ga2]; exact K0.1
  have Kh1 : Keep h h1 [] := Keep.ext K0 Eh1
  have Aa2 : OwA Z h1 a2 .byte [(.int (0 : Int32)), (.int (0 : Int32)), (.int (0 : Int32)), (.int (0 : Int32)), (.int (0 : Int32)), (.int (0 : Int32)), (.int (0 : Int32)), (.int (0 : Int32))] := Aa2
  refine X.astoreN (q := 5) (Ls' := #[.val (.long x), .second, .val (.ref a2), .unset]) own_d_prog_28_method_3_4 rfl rfl rfl ?_
  refine X.iconst (q := 6) (0 : Int32) own_d_prog_28_method_3_5 (by decide) rfl ?_
  refine X.istoreN (q := 7) (Ls' := #[.val (.long x), .second, .val (.ref a2), .val (.int (0 : Int32))]) own_d_prog_28_method_3_6 rfl rfl ?_
  refine X.iloadN (q := 8) own_d_prog_28_method_3_7 rfl rfl ?_
  refine X.bipush (q := 10) (8 : Int32) own_d_prog_28_method_3_8 (by decide) rfl ?_
  refine X.icmp_ge (a := 0) (b := 8) (q' := 30) (q := 13) own_d_prog_28_method_3_10 rfl rfl (by decide) rfl (fun c10 => ?_) (fun c10 => ?_)
  · omega
  · refine X.aloadN (q := 14) own_d_prog_28_method_3_13 rfl rfl rfl ?_
    refine X.iloadN (q := 15) own_d_prog_28_method_3_14 rfl rfl ?_
    refine X.lloadN (q := 16) own_d_prog_28_method_3_15 rfl rfl ?_
    refine X.bipush (q := 18) (8 : Int32) own_d_prog_28_method_3_16 (by decide) rfl ?_
    refine X.iloadN (q := 19) own_d_prog_28_method_3_18 rfl rfl ?_
    refine X.imul (q := 20) own_d_prog_28_method_3_19 rfl ?_
    refine X.foldI (v := (0 : Int32)) (by decide) ?_
    refine X.lushr (q := 21) own_d_prog_28_method_3_20 rfl ?_
    refine X.l2i (q := 22) own_d_prog_28_method_3_21 rfl ?_
    refine X.i2b (q := 23) own_d_prog_28_method_3_22 rfl ?_
    refine X.bastore (q := 24) (j := 0) Aa2 rfl (by simp) gea2 own_d_prog_28_method_3_23 rfl (fun h3 Wh3 Ah3 => ?_)
    have hsh3 : n0 ≤ h3.size := by rw [Wr.size Wh3]; exact hsh1
    have Kh3 : Keep h h3 [] := Keep.wr Kh1 Wh3 (Or.inr fra2)
    have Ah3_ : OwA Z h3 a2 .byte [(.int (nar .byte (XT.ushrL x (0 : Int32)).toInt32.toInt8.toInt32)), (.int (0 : Int32)), (.int (0 : Int32)), (.int (0 : Int32)), (.int (0 : Int32)), (.int (0 : Int32)), (.int (0 : Int32)), (.int (0 : Int32))] := Ah3
    refine X.iinc (q := 27) (Ls' := #[.val (.long x), .second, .val (.ref a2), .val (.int (1 : Int32))]) (1 : Int32) own_d_prog_28_method_3_24 (by decide) rfl rfl rfl ?_
    refine X.goto (q' := 7) own_d_prog_28_method_3_27 (by decide) ?_
    refine X.iloadN (q := 8) own_d_prog_28_method_3_7 rfl rfl ?_
    refine X.bipush (q := 10) (8 : Int32) own_d_prog_28_method_3_8 (by decide) rfl ?_
    refine X.icmp_ge (a := 1) (b := 8) (q' := 30) (q := 13) own_d_prog_28_method_3_10 rfl rfl (by decide) rfl (fun c10 => ?_) (fun c10 => ?_)
    · omega
    · refine X.aloadN (q := 14) own_d_prog_28_method_3_13 rfl rfl rfl ?_
      refine X.iloadN (q := 15) own_d_prog_28_method_3_14 rfl rfl ?_
      refine X.lloadN (q := 16) own_d_prog_28_method_3_15 rfl rfl ?_
      refine X.bipush (q := 18) (8 : Int32) own_d_prog_28_method_3_16 (by decide) rfl ?_
      refine X.iloadN (q := 19) own_d_prog_28_method_3_18 rfl rfl ?_
      refine X.imul (q := 20) own_d_prog_28_method_3_19 rfl ?_
      refine X.foldI (v := (8 : Int32)) (by decide) ?_
      refine X.lushr (q := 21) own_d_prog_28_method_3_20 rfl ?_
      refine X.l2i (q := 22) own_d_prog_28_method_3_21 rfl ?_
      refine X.i2b (q := 23) own_d_prog_28_method_3_22 rfl ?_
      refine X.bastore (q := 24) (j := 1) Ah3_ rfl (by simp) gea2 own_d_prog_28_method_3_23 rfl (fun h4 Wh4 Ah4 => ?_)
      have hsh4 : n0 ≤ h4.size := by rw [Wr.size Wh4]; exact hsh3
      have Kh4 : Keep h h4 [] := Keep.wr Kh3 Wh4 (Or.inr fra2)
      have Ah4_ : OwA Z h4 a2 .byte [(.int (nar .byte (XT.ushrL x (0 : Int32)).toInt32.toInt8.toInt32)), (.int (nar .byte (XT.ushrL x (8 : Int32)).toInt32.toInt8.toInt32)), (.int (0 : Int32)), (.int (0 : Int32)), (.int (0 : Int32)), (.int (0 : Int32)), (.int (0 : Int32)), (.int (0 : Int32))] := Ah4
      refine X.iinc (q := 27) (Ls' := #[.val (.long x), .second, .val (.ref a2), .val (.int (2 : Int32))]) (1 : Int32) own_d_prog_28_method_3_24 (by decide) rfl rfl rfl ?_
      refine X.goto (q' := 7) own_d_prog_28_method_3_27 (by decide) ?_
      refine X.iloadN (q := 8) own_d_prog_28_method_3_7 rfl rfl ?_
      refine X.bipush (q := 10) (8 : Int32) own_d_prog_28_method_3_8 (by decide) rfl ?_
      refine X.icmp_ge (a := 2) (b := 8) (q' := 30) (q := 13) own_d_prog_28_method_3_10 rfl rfl (by decide) rfl (fun c10 => ?_) (fun c10 => ?_)
      · omega
      · refine X.aloadN (q := 14) own_d_prog_28_method_3_13 rfl rfl rfl ?_
        refine X.iloadN (q := 15) own_d_prog_28_method_3_14 rfl rfl ?_
        refine X.lloadN (q := 16) own_d_prog_28_method_3_15 rfl rfl ?_
        refine X.bipush (q := 18) (8 : Int32) own_d_prog_28_method_3_16 (by decide) rfl ?_
        refine X.iloadN (q := 19) own_d_prog_28_method_3_18 rfl rfl ?_
        refine X.imul (q := 20) own_d_prog_28_method_3_19 rfl ?_
        refine X.foldI (v := (16 : Int32)) (by decide) ?_
        refine X.lushr (q := 21) own_d_prog_28_method_3_20 rfl ?_
        refine X.l2i (q := 22) own_d_prog_28_method_3_21 rfl ?_
        refine X.i2b (q := 23) own_d_prog_28_method_3_22 rfl ?_
        refine X.bastore (q := 24) (j := 2) Ah4_ rfl (by simp) gea2 own_d_prog_28_method_3_23 rfl (fun h5 Wh5 Ah5 => ?_)
        have hsh5 : n0 ≤ h5.size := by rw [Wr.size Wh5]; exact hsh4
        have Kh5 : Keep h h5 [] := Keep.wr Kh4 Wh5 (Or.inr fra2)
        have Ah5_ : OwA Z h5 a2 .byte [(.int (nar .byte (XT.ushrL x (0 : Int32)).toInt32.toInt8.toInt32)), (.int (nar .byte (XT.ushrL x (8 : Int32)).toInt32.toInt8.toInt32)), (.int (nar .byte (XT.ushrL x (16 : Int32)).toInt32.toInt8.toInt32)), (.int (0 : Int32)), (.int (0 : Int32)), (.int (0 : Int32)), (.int (0 : Int32)), (.int (0 : Int32))] := Ah5
        refine X.iinc (q := 27) (Ls' := #[.val (.long x), .second, .val (.ref a2), .val (.int (3 : Int32))]) (1 : Int32) own_d_prog_28_method_3_24 (by decide) rfl rfl rfl ?_
        refine X.goto (q' := 7) own_d_prog_28_method_3_27 (by decide) ?_
        refine X.iloadN (q := 8) own_d_prog_28_method_3_7 rfl rfl ?_
        refine X.bipush (q := 10) (8 : Int32) own_d_prog_28_method_3_8 (by decide) rfl ?_
        refine X.icmp_ge (a := 3) (b := 8) (q' := 30) (q := 13) own_d_prog_28_method_3_10 rfl rfl (by decide) rfl (fun c10 => ?_) (fun c10 => ?_)
        · omega
        · refine X.aloadN (q := 14) own_d_prog_28_method_3_13 rfl rfl rfl ?_
          refine X.iloadN (q := 15) own_d_prog_28_method_3_14 rfl rfl ?_
          refine X.lloadN (q := 16) own_d_prog_28_method_3_15 rfl rfl ?_
          refine X.bipush (q := 18) (8 : Int32) own_d_prog_28_method_3_16 (by decide) rfl ?_
          refine X.iloadN (q := 19) own_d_prog_28_method_3_18 rfl rfl ?_
          refine X.imul (q := 20) own_d_prog_28_method_3_19 rfl ?_
          refine X.foldI (v := (24 : Int32)) (by decide) ?_
          refine X.lushr (q := 21) own_d_prog_28_method_3_20 rfl ?_
          refine X.l2i (q := 22) own_d_prog_28_method_3_21 rfl ?_
          refine X.i2b (q := 23) own_d_prog_28_method_3_22 rfl ?_
          refine X.bastore (q := 24) (j := 3) Ah5_ rfl (by simp) gea2 own_d_prog_28_method_3_23 rfl (fun h6 Wh6 Ah6 => ?_)
          have hsh6 : n0 ≤ h6.size := by rw [Wr.size Wh6]; exact hsh5
          have Kh6 : Keep h h6 [] := Keep.wr Kh5 Wh6 (Or.inr fra2)
          have Ah6_ : OwA Z h6 a2 .byte [(.int (nar .byte (XT.ushrL x (0 : Int32)).toInt32.toInt8.toInt32)), (.int (nar .byte (XT.ushrL x (8 : Int32)).toInt32.toInt8.toInt32)), (.int (nar .byte (XT.ushrL x (16 : Int32)).toInt32.toInt8.toInt32)), (.int (nar .byte (XT.ushrL x (24 : Int32)).toInt32.toInt8.toInt32)), (.int (0 : Int32)), (.int (0 : Int32)), (.int (0 : Int32)), (.int (0 : Int32))] := Ah6
          refine X.iinc (q := 27) (Ls' := #[.val (.long x), .second, .val (.ref a2), .val (.int (4 : Int32))]) (1 : Int32) own_d_prog_28_method_3_24 (by decide) rfl rfl rfl ?_
          refine X.goto (q' := 7) own_d_prog_28_method_3_27 (by decide) ?_
          refine X.iloadN (q := 8) own_d_prog_28_method_3_7 rfl rfl ?_
          refine X.bipush (q := 10) (8 : Int32) own_d_prog_28_method_3_8 (by decide) rfl ?_
          refine X.icmp_ge (a := 4) (b := 8) (q' := 30) (q := 13) own_d_prog_28_method_3_10 rfl rfl (by decide) rfl (fun c10 => ?_) (fun c10 => ?_)
          · omega
          · refine X.aloadN (q := 14) own_d_prog_28_method_3_13 rfl rfl rfl ?_
            refine X.iloadN (q := 15) own_d_prog_28_method_3_14 rfl rfl ?_
            refine X.lloadN (q := 16) own_d_prog_28_method_3_15 rfl rfl ?_
            refine X.bipush (q := 18) (8 : Int32) own_d_prog_28_method_3_16 (by decide) rfl ?_
            refine X.iloadN (q := 19) own_d_prog_28_method_3_18 rfl rfl ?_
            refine X.imul (q := 20) own_d_prog_28_method_3_19 rfl ?_
            refine X.foldI (v := (32 : Int32)) (by decide) ?_
            refine X.lushr (q := 21) own_d_prog_28_method_3_20 rfl ?_
            refine X.l2i (q := 22) own_d_prog_28_method_3_21 rfl ?_
            refine X.i2b (q := 23) own_d_prog_28_method_3_22 rfl ?_
            refine X.bastore (q := 24) (j := 4) Ah6_ rfl (by simp) gea2 own_d_prog_28_method_3_23 rfl (fun h7 Wh7 Ah7 => ?_)
            have hsh7 : n0 ≤ h7.size := by rw [Wr.size Wh7]; exact hsh6
            have Kh7 : Keep h h7 [] := Keep.wr Kh6 Wh7 (Or.inr fra2)
            have Ah7_ : OwA Z h7 a2 .byte [(.int (nar .byte (XT.ushrL x (0 : Int32)).toInt32.toInt8.toInt32)), (.int (nar .byte (XT.ushrL x (8 : Int32)).toInt32.toInt8.toInt32)), (.int (nar .byte (XT.ushrL x (16 : Int32)).toInt32.toInt8.toInt32)), (.int (nar .byte (XT.ushrL x (24 : Int32)).toInt32.toInt8.toInt32)), (.int (nar .byte (XT.ushrL x (32 : Int32)).toInt32.toInt8.toInt32)), (.int (0 : Int32)), (.int (0 : Int32)), (.int (0 : Int32))] := Ah7
            refine X.iinc (q := 27) (Ls' := #[.val (.long x), .second, .val (.ref a2), .val (.int (5 : Int32))]) (1 : Int32) own_d_prog_28_method_3_24 (by decide) rfl rfl rfl ?_
            refine X.goto (q' := 7) own_d_prog_28_method_3_27 (by decide) ?_
            refine X.iloadN (q := 8) own_d_prog_28_method_3_7 rfl rfl ?_
            refine X.bipush (q := 10) (8 : Int32) own_d_prog_28_method_3_8 (by decide) rfl ?_
            refine X.icmp_ge (a := 5) (b := 8) (q' := 30) (q := 13) own_d_prog_28_method_3_10 rfl rfl (by decide) rfl (fun c10 => ?_) (fun c10 => ?_)
            · omega
            · refine X.aloadN (q := 14) own_d_prog_28_method_3_13 rfl rfl rfl ?_
              refine X.iloadN (q := 15) own_d_prog_28_method_3_14 rfl rfl ?_
              refine X.lloadN (q := 16) own_d_prog_28_method_3_15 rfl rfl ?_
              refine X.bipush (q := 18) (8 : Int32) own_d_prog_28_method_3_16 (by decide) rfl ?_
              refine X.iloadN (q := 19) own_d_prog_28_method_3_18 rfl rfl ?_
              refine X.imul (q := 20) own_d_prog_28_method_3_19 rfl ?_
              refine X.foldI (v := (40 : Int32)) (by decide) ?_
              refine X.lushr (q := 21) own_d_prog_28_method_3_20 rfl ?_
              refine X.l2i (q := 22) own_d_prog_28_method_3_21 rfl ?_
              refine X.i2b (q := 23) own_d_prog_28_method_3_22 rfl ?_
              refine X.bastore (q := 24) (j := 5) Ah7_ rfl (by simp) gea2 own_d_prog_28_method_3_23 rfl (fun h8 Wh8 Ah8 => ?_)
              have hsh8 : n0 ≤ h8.size := by rw [Wr.size Wh8]; exact hsh7
              have Kh8 : Keep h h8 [] := Keep.wr Kh7 Wh8 (Or.inr fra2)
              have Ah8_ : OwA Z h8 a2 .byte [(.int (nar .byte (XT.ushrL x (0 : Int32)).toInt32.toInt8.toInt32)), (.int (nar .byte (XT.ushrL x (8 : Int32)).toInt32.toInt8.toInt32)), (.int (nar .byte (XT.ushrL x (16 : Int32)).toInt32.toInt8.toInt32)), (.int (nar .byte (XT.ushrL x (24 : Int32)).toInt32.toInt8.toInt32)), (.int (nar .byte (XT.ushrL x (32 : Int32)).toInt32.toInt8.toInt32)), (.int (nar .byte (XT.ushrL x (40 : Int32)).toInt32.toInt8.toInt32)), (.int (0 : Int32)), (.int (0 : Int32))] := Ah8
              refine X.iinc (q := 27) (Ls' := #[.val (.long x), .second, .val (.ref a2), .val (.int (6 : Int32))]) (1 : Int32) own_d_prog_28_method_3_24 (by decide) rfl rfl rfl ?_
              refine X.goto (q' := 7) own_d_prog_28_method_3_27 (by decide) ?_
              refine X.iloadN (q := 8) own_d_prog_28_method_3_7 rfl rfl ?_
              refine X.bipush (q := 10) (8 : Int32) own_d_prog_28_method_3_8 (by decide) rfl ?_
              refine X.icmp_ge (a := 6) (b := 8) (q' := 30) (q := 13) own_d_prog_28_method_3_10 rfl rfl (by decide) rfl (fun c10 => ?_) (fun c10 => ?_)
              · omega
              · refine X.aloadN (q := 14) own_d_prog_28_method_3_13 rfl rfl rfl ?_
                refine X.iloadN (q := 15) own_d_prog_28_method_3_14 rfl rfl ?_
                refine X.lloadN (q := 16) own_d_prog_28_method_3_15 rfl rfl ?_
                refine X.bipush (q := 18) (8 : Int32) own_d_prog_28_method_3_16 (by decide) rfl ?_
                refine X.iloadN (q := 19) own_d_prog_28_method_3_18 rfl rfl ?_
                refine X.imul (q := 20) own_d_prog_28_method_3_19 rfl ?_
                refine X.foldI (v := (48 : Int32)) (by decide) ?_
                refine X.lushr (q := 21) own_d_prog_28_method_3_20 rfl ?_
                refine X.l2i (q := 22) own_d_prog_28_method_3_21 rfl ?_
                refine X.i2b (q := 23) own_d_prog_28_method_3_22 rfl ?_
                refine X.bastore (q := 24) (j := 6) Ah8_ rfl (by simp) gea2 own_d_prog_28_method_3_23 rfl (fun h9 Wh9 Ah9 => ?_)
                have hsh9 : n0 ≤ h9.size := by rw [Wr.size Wh9]; exact hsh8
                have Kh9 : Keep h h9 [] := Keep.wr Kh8 Wh9 (Or.inr fra2)
                have Ah9_ : OwA Z h9 a2 .byte [(.int (nar .byte (XT.ushrL x (0 : Int32)).toInt32.toInt8.toInt32)), (.int (nar .byte (XT.ushrL x (8 : Int32)).toInt32.toInt8.toInt32)), (.int (nar .byte (XT.ushrL x (16 : Int32)).toInt32.toInt8.toInt32)), (.int (nar .byte (XT.ushrL x (24 : Int32)).toInt32.toInt8.toInt32)), (.int (nar .byte (XT.ushrL x (32 : Int32)).toInt32.toInt8.toInt32)), (.int (nar .byte (XT.ushrL x (40 : Int32)).toInt32.toInt8.toInt32)), (.int (nar .byte (XT.ushrL x (48 : Int32)).toInt32.toInt8.toInt32)), (.int (0 : Int32))] := Ah9
                refine X.iinc (q := 27) (Ls' := #[.val (.long x), .second, .val (.ref a2), .val (.int (7 : Int32))]) (1 : Int32) own_d_prog_28_method_3_24 (by decide) rfl rfl rfl ?_
                refine X.goto (q' := 7) own_d_prog_28_method_3_27 (by decide) ?_
                refine X.iloadN (q := 8) own_d_prog_28_method_3_7 rfl rfl ?_
                refine X.bipush (q := 10) (8 : Int32) own_d_prog_28_method_3_8 (by decide) rfl ?_
                refine X.icmp_ge (a := 7) (b := 8) (q' := 30) (q := 13) own_d_prog_28_method_3_10 rfl rfl (by decide) rfl (fun c10 => ?_) (fun c10 => ?_)
                · omega
                · refine X.aloadN (q := 14) own_d_prog_28_method_3_13 rfl rfl rfl ?_
                  refine X.iloadN (q := 15) own_d_prog_28_method_3_14 rfl rfl ?_
                  refine X.lloadN (q := 16) own_d_prog_28_method_3_15 rfl rfl ?_
                  refine X.bipush (q := 18) (8 : Int32) own_d_prog_28_method_3_16 (by decide) rfl ?_
                  refine X.iloadN (q := 19) own_d_prog_28_method_3_18 rfl rfl ?_
                  refine X.imul (q := 20) own_d_prog_28_method_3_19 rfl ?_
                  refine X.foldI (v := (56 : Int32)) (by decide) ?_
                  refine X.lushr (q := 21) own_d_prog_28_method_3_20 rfl ?_
                  refine X.l2i (q := 22) own_d_prog_28_method_3_21 rfl ?_
                  refine X.i2b (q := 23) own_d_prog_28_method_3_22 rfl ?_
                  refine X.bastore (q := 24) (j := 7) Ah9_ rfl (by simp) gea2 own_d_prog_28_method_3_23 rfl (fun h10 Wh10 Ah10 => ?_)
                  have hsh10 : n0 ≤ h10.size := by rw [Wr.size Wh10]; exact hsh9
                  have Kh10 : Keep h h10 [] := Keep.wr Kh9 Wh10 (Or.inr fra2)
                  have Ah10_ : OwA Z h10 a2 .byte [(.int (nar .byte (XT.ushrL x (0 : Int32)).toInt32.toInt8.toInt32)), (.int (nar .byte (XT.ushrL x (8 : Int32)).toInt32.toInt8.toInt32)), (.int (nar .byte (XT.ushrL x (16 : Int32)).toInt32.toInt8.toInt32)), (.int (nar .byte (XT.ushrL x (24 : Int32)).toInt32.toInt8.toInt32)), (.int (nar .byte (XT.ushrL x (32 : Int32)).toInt32.toInt8.toInt32)), (.int (nar .byte (XT.ushrL x (40 : Int32)).toInt32.toInt8.toInt32)), (.int (nar .byte (XT.ushrL x (48 : Int32)).toInt32.toInt8.toInt32)), (.int (nar .byte (XT.ushrL x (56 : Int32)).toInt32.toInt8.toInt32))] := Ah10
                  refine X.iinc (q := 27) (Ls' := #[.val (.long x), .second, .val (.ref a2), .val (.int (8 : Int32))]) (1 : Int32) own_d_prog_28_method_3_24 (by decide) rfl rfl rfl ?_
                  refine X.goto (q' := 7) own_d_prog_28_method_3_27 (by decide) ?_
                  refine X.iloadN (q := 8) own_d_prog_28_method_3_7 rfl rfl ?_
                  refine X.bipush (q := 10) (8 : Int32) own_d_prog_28_method_3_8 (by decide) rfl ?_
                  refine X.icmp_ge (a := 8) (b := 8) (q' := 30) (q := 13) own_d_prog_28_method_3_10 rfl rfl (by decide) rfl (fun c10 => ?_) (fun c10 => ?_)
                  · refine X.aloadN (q := 31) own_d_prog_28_method_3_30 rfl rfl rfl ?_
                    refine X.retA (t := (.array .byte)) own_d_prog_28_method_3_31 rfl rfl rfl rfl (by decide) (by decide) ?_
                    exact ⟨a2, rfl, Kh10, fra2, Ah10_⟩
                  · omega
theorem own_pd0 : parseMethodDescriptor "(J)[B" = some ⟨[.long], some (.array .byte)⟩ := by decide +kernel
set_option maxRecDepth 65536 in
set_option maxHeartbeats 1000000 in
theorem own_law (l : Launch) (Z : State) (a0 : Array Value) (hw : ∀ d ∈ tables_1, d.before a0 Z = true) (h : Heap) (n0 : Nat) (hn0 : n0 ≤ h.size) (x : Int64)  :
    OwM l Z (⟨"com/example/boann/boann/hashing/ItemsLittleEndianPinLaw", "law", "(J)Z"⟩ : MethodName) code 6 (some .boolean) room_1 16 128 tables_1 #[(.long x)] h n0 (fun r h' => r = some (.int 1)) := by
  refine OwM.of (Ls := #[.val (.long x), .second, .unset, .unset, .unset, .unset]) (by decide +kernel) (fun m => by first | (simp [entryFrame, mkF, argsToLocals, Value.category]; done) | rfl) ?_
  intro _ _ _ _ _ _ _ X
  refine X.lloadN (q := 1) at_0 rfl rfl ?_
  refine X.callS (own_le l Z a0 hw h n0 x hn0) (hw _ (List.mem_of_getElem? (i := 0) rfl)) (hw _ (List.mem_of_getElem? (i := 1) rfl)) (hw _ (List.mem_of_getElem? (i := 2) rfl)) (hw _ (List.mem_of_getElem? (i := 3) rfl)) (by decide) own_pd0 (argsL := [(.long x)]) (rest := []) rfl rfl rfl (W := 0) (Nat.le_of_eq rfl) rfl (by decide) (by decide) (k' := 1) (n' := 8) rfl rfl (by decide) (by decide) at_1 (q := 4) rfl ?_
  rintro _ h1 ⟨b, rfl, Kh1c, frb, Ab⟩
  have hsh1 : n0 ≤ h1.size := Nat.le_trans hn0 Kh1c.1
  show X.G h1 1 8 4 #[.val (.long x), .second, .unset, .unset, .unset, .unset] [(.ref b)]
  refine X.astoreN (q := 5) (Ls' := #[.val (.long x), .second, .val (.ref b), .unset, .unset, .unset]) at_4 rfl rfl rfl ?_
  refine X.aloadN (q := 6) at_5 rfl rfl rfl ?_
  refine X.ifnullF (q := 9) at_6 rfl ?_
  refine X.aloadN (q := 10) at_9 rfl rfl rfl ?_
  refine X.alen (q := 11) (z := (8 : Int32)) Ab rfl at_10 rfl ?_
  refine X.bipush (q := 13) (8 : Int32) at_11 (by decide) rfl ?_
  refine X.icmp_eq (a := 8) (b := 8) (q' := 18) (q := 16) at_13 rfl rfl (by decide) rfl (fun c13 => ?_) (fun c13 => ?_)
  · refine X.aloadN (q := 19) at_18 rfl rfl rfl ?_
    refine X.iconst (q := 20) (0 : Int32) at_19 (by decide) rfl ?_
    refine X.baload (q := 21) (j := 0) (v := (.int (nar .byte (XT.ushrL x (0 : Int32)).toInt32.toInt8.toInt32))) Ab rfl rfl at_20 rfl ?_
    refine X.i2l (q := 22) at_21 rfl ?_
    refine X.ldc2_w (q := 25) (v := (255 : Int64)) (hw _ (List.mem_of_getElem? (i := 5) rfl)) at_22 rfl ?_
    refine X.land (q := 26) at_25 rfl ?_
    refine X.aloadN (q := 27) at_26 rfl rfl rfl ?_
    refine X.iconst (q := 28) (1 : Int32) at_27 (by decide) rfl ?_
    refine X.baload (q := 29) (j := 1) (v := (.int (nar .byte (XT.ushrL x (8 : Int32)).toInt32.toInt8.toInt32))) Ab rfl rfl at_28 rfl ?_
    refine X.i2l (q := 30) at_29 rfl ?_
    refine X.ldc2_w (q := 33) (v := (255 : Int64)) (hw _ (List.mem_of_getElem? (i := 5) rfl)) at_30 rfl ?_
    refine X.land (q := 34) at_33 rfl ?_
    refine X.bipush (q := 36) (8 : Int32) at_34 (by decide) rfl ?_
    refine X.lshl (q := 37) at_36 rfl ?_
    refine X.lor (q := 38) at_37 rfl ?_
    refine X.aloadN (q := 39) at_38 rfl rfl rfl ?_
    refine X.iconst (q := 40) (2 : Int32) at_39 (by decide) rfl ?_
    refine X.baload (q := 41) (j := 2) (v := (.int (nar .byte (XT.ushrL x (16 : Int32)).toInt32.toInt8.toInt32))) Ab rfl rfl at_40 rfl ?_
    refine X.i2l (q := 42) at_41 rfl ?_
    refine X.ldc2_w (q := 45) (v := (255 : Int64)) (hw _ (List.mem_of_getElem? (i := 5) rfl)) at_42 rfl ?_
    refine X.land (q := 46) at_45 rfl ?_
    refine X.bipush (q := 48) (16 : Int32) at_46 (by decide) rfl ?_
    refine X.lshl (q := 49) at_48 rfl ?_
    refine X.lor (q := 50) at_49 rfl ?_
    refine X.aloadN (q := 51) at_50 rfl rfl rfl ?_
    refine X.iconst (q := 52) (3 : Int32) at_51 (by decide) rfl ?_
    refine X.baload (q := 53) (j := 3) (v := (.int (nar .byte (XT.ushrL x (24 : Int32)).toInt32.toInt8.toInt32))) Ab rfl rfl at_52 rfl ?_
    refine X.i2l (q := 54) at_53 rfl ?_
    refine X.ldc2_w (q := 57) (v := (255 : Int64)) (hw _ (List.mem_of_getElem? (i := 5) rfl)) at_54 rfl ?_
    refine X.land (q := 58) at_57 rfl ?_
    refine X.bipush (q := 60) (24 : Int32) at_58 (by decide) rfl ?_
    refine X.lshl (q := 61) at_60 rfl ?_
    refine X.lor (q := 62) at_61 rfl ?_
    refine X.aloadN (q := 63) at_62 rfl rfl rfl ?_
    refine X.iconst (q := 64) (4 : Int32) at_63 (by decide) rfl ?_
    refine X.baload (q := 65) (j := 4) (v := (.int (nar .byte (XT.ushrL x (32 : Int32)).toInt32.toInt8.toInt32))) Ab rfl rfl at_64 rfl ?_
    refine X.i2l (q := 66) at_65 rfl ?_
    refine X.ldc2_w (q := 69) (v := (255 : Int64)) (hw _ (List.mem_of_getElem? (i := 5) rfl)) at_66 rfl ?_
    refine X.land (q := 70) at_69 rfl ?_
    refine X.bipush (q := 72) (32 : Int32) at_70 (by decide) rfl ?_
    refine X.lshl (q := 73) at_72 rfl ?_
    refine X.lor (q := 74) at_73 rfl ?_
    refine X.aloadN (q := 75) at_74 rfl rfl rfl ?_
    refine X.iconst (q := 76) (5 : Int32) at_75 (by decide) rfl ?_
    refine X.baload (q := 77) (j := 5) (v := (.int (nar .byte (XT.ushrL x (40 : Int32)).toInt32.toInt8.toInt32))) Ab rfl rfl at_76 rfl ?_
    refine X.i2l (q := 78) at_77 rfl ?_
    refine X.ldc2_w (q := 81) (v := (255 : Int64)) (hw _ (List.mem_of_getElem? (i := 5) rfl)) at_78 rfl ?_
    refine X.land (q := 82) at_81 rfl ?_
    refine X.bipush (q := 84) (40 : Int32) at_82 (by decide) rfl ?_
    refine X.lshl (q := 85) at_84 rfl ?_
    refine X.lor (q := 86) at_85 rfl ?_
    refine X.aloadN (q := 87) at_86 rfl rfl rfl ?_
    refine X.bipush (q := 89) (6 : Int32) at_87 (by decide) rfl ?_
    refine X.baload (q := 90) (j := 6) (v := (.int (nar .byte (XT.ushrL x (48 : Int32)).toInt32.toInt8.toInt32))) Ab rfl rfl at_89 rfl ?_
    refine X.i2l (q := 91) at_90 rfl ?_
    refine X.ldc2_w (q := 94) (v := (255 : Int64)) (hw _ (List.mem_of_getElem? (i := 5) rfl)) at_91 rfl ?_
    refine X.land (q := 95) at_94 rfl ?_
    refine X.bipush (q := 97) (48 : Int32) at_95 (by decide) rfl ?_
    refine X.lshl (q := 98) at_97 rfl ?_
    refine X.lor (q := 99) at_98 rfl ?_
    refine X.aloadN (q := 100) at_99 rfl rfl rfl ?_
    refine X.bipush (q := 102) (7 : Int32) at_100 (by decide) rfl ?_
    refine X.baload (q := 103) (j := 7) (v := (.int (nar .byte (XT.ushrL x (56 : Int32)).toInt32.toInt8.toInt32))) Ab rfl rfl at_102 rfl ?_
    refine X.i2l (q := 104) at_103 rfl ?_
    refine X.ldc2_w (q := 107) (v := (255 : Int64)) (hw _ (List.mem_of_getElem? (i := 5) rfl)) at_104 rfl ?_
    refine X.land (q := 108) at_107 rfl ?_
    refine X.bipush (q := 110) (56 : Int32) at_108 (by decide) rfl ?_
    refine X.lshl (q := 111) at_110 rfl ?_
    refine X.lor (q := 112) at_111 rfl ?_
    refine X.nmJ (fun y hy => ?_)
    have hyx : x = y := by rw [hy]; exact (own_sum x).symm
    clear hy
    subst hyx
    refine X.lstoreN (q := 113) (Ls' := #[.val (.long x), .second, .val (.ref b), .val (.long x), .second, .unset]) at_112 rfl rfl ?_
    refine X.lloadN (q := 114) at_113 rfl rfl ?_
    refine X.lloadN (q := 115) at_114 rfl rfl ?_
    refine X.lcmp_eq (q1 := 116) (q' := 121) (q := 119) at_115 rfl at_116 rfl rfl (by decide) rfl (fun c115 => ?_) (fun c115 => ?_)
    · refine X.lloadN (q := 122) at_121 rfl rfl ?_
      refine X.callS (own_le l Z a0 hw h1 n0 x hsh1) (hw _ (List.mem_of_getElem? (i := 0) rfl)) (hw _ (List.mem_of_getElem? (i := 1) rfl)) (hw _ (List.mem_of_getElem? (i := 2) rfl)) (hw _ (List.mem_of_getElem? (i := 3) rfl)) (by decide) own_pd0 (argsL := [(.long x)]) (rest := []) rfl rfl rfl (W := 0) (Nat.le_of_eq rfl) rfl (by decide) (by decide) (k' := 2) (n' := 16) rfl rfl (by decide) (by decide) at_122 (q := 125) rfl ?_
      rintro _ h2 ⟨c, rfl, Kh2c, frc, Ac⟩
      have Ab'h2 : OwA Z h2 b .byte [(.int (nar .byte (XT.ushrL x (0 : Int32)).toInt32.toInt8.toInt32)), (.int (nar .byte (XT.ushrL x (8 : Int32)).toInt32.toInt8.toInt32)), (.int (nar .byte (XT.ushrL x (16 : Int32)).toInt32.toInt8.toInt32)), (.int (nar .byte (XT.ushrL x (24 : Int32)).toInt32.toInt8.toInt32)), (.int (nar .byte (XT.ushrL x (32 : Int32)).toInt32.toInt8.toInt32)), (.int (nar .byte (XT.ushrL x (40 : Int32)).toInt32.toInt8.toInt32)), (.int (nar .byte (XT.ushrL x (48 : Int32)).toInt32.toInt8.toInt32)), (.int (nar .byte (XT.ushrL x (56 : Int32)).toInt32.toInt8.toInt32))] := OwA.keep Ab Kh2c nin0
      have hsh2 : n0 ≤ h2.size := Nat.le_trans hsh1 Kh2c.1
      show X.G h2 2 16 125 #[.val (.long x), .second, .val (.ref b), .val (.long x), .second, .unset] [(.ref c)]
      have lbc : b < c := Nat.lt_of_lt_of_le Ab.lt frc
      refine X.astore (q := 127) (Ls' := #[.val (.long x), .second, .val (.ref b), .val (.long x), .second, .val (.ref c)]) at_125 rfl rfl rfl ?_
      refine X.aload (q := 129) at_127 rfl rfl rfl ?_
      refine X.aloadN (q := 130) at_129 rfl rfl rfl ?_
      refine X.acmp_eq (q' := 137) (q := 133) at_130 (by decide) rfl (fun c130 => ?_) (fun c130 => ?_)
      · exact absurd c130 (Nat.ne_of_gt lbc)
      · refine X.iconst (q := 134) (1 : Int32) at_133 (by decide) rfl ?_
        refine X.goto (q' := 138) at_134 (by decide) ?_
        refine X.retN (t := .boolean) (z' := (1 : Int32)) at_138 rfl (by simp) (by decide) (by decide) (by decide) ?_
        rfl
    · omega
  · omega
set_option maxRecDepth 65536 in
set_option maxHeartbeats 1000000 in
theorem comes_1 {Post : Tables → Env → Array Value → State → Outcome → State → Prop} (hpost : ∀ tb e args s v u, (limb_1_1.after args s (.returned v) u = true ∧ limb_1_2.after args s (.returned v) u = true ∧ True) → FrameEnd s (.returned v) u (Jvm.fieldLocs frame_1_writes args s ++ Jvm.arrayLocs frame_1_arrays args s ++ Jvm.staticLocs frame_1_statics s) 16 128 → Post tb e args s (.returned v) u) :
    ArmFor flags0 classFile x code maxLocals ret World_1 tables_1 room_1 Calls_1 rest_1 Pre_1 Post := by
  intro l hfl _ _ p e ha hc hk s m args below hf hA hF happ hP
  obtain ⟨hcalls, hrest, hpre⟩ := hP
  obtain ⟨-, -, -, hnamed, -, -, -, hat⟩ := (Spec.applies_iff hf).mp happ
  obtain ⟨hg, hn⟩ := and_e (Cond.before_iff.mp (show (Jvm.Cond.and given_1 narrow_1).before args s = true from hpre))
  obtain ⟨hg0, hg⟩ := and_e hg
  obtain ⟨w0, rfl⟩ : ∃ w0 : Value, args = #[w0] := by
    have hs : args.size = 1 := by simpa [Cond.value, given_1] using hg0
    obtain ⟨L⟩ := args
    match L, hs with
    | [w0], _ => exact ⟨w0, rfl⟩
  have hw := fun d (hd : d ∈ tables_1) => atoms_spec (ws := Jvm.Cond.code x code maxLocals ret :: tables_1) hat d (List.mem_cons_of_mem _ hd)
  have ha0 := hg
  obtain ⟨i0, e0⟩ := isL_v ha0
  obtain rfl : w0 = (.long i0) := Option.some.inj e0
  obtain ⟨n, o, h1, h2, h3, _, L, rfl, ⟨rfl, N⟩, hq⟩ := own_law l s _ hw s.heap s.heap.size (Nat.le_refl _) i0 p e ha hc hk s m _ below hf ((Spec.applies_iff_loose hf).mp happ).1 ⟨rfl, State.Warmed39.refl s, rfl⟩ trivial
  refine ⟨n, _, h1, h2, h3, hpost _ _ _ _ _ _ ⟨Cond.after_iff.mpr rfl, Cond.after_iff.mpr (eq_i res_at (Term.int_eval (1)) rfl), trivial⟩ ⟨hq.1, hq.2.1, (hq.2.2.sift fun y hy => Or.inr (N y hy)).mono (by decide) (by decide)⟩⟩
theorem main_1_1 : Claimed_1_1 := comes_1 fun _ _ _ _ _ _ h hF => ⟨h.1, hF⟩
theorem main_1_2 : Claimed_1_2 := comes_1 fun _ _ _ _ _ _ h hF => ⟨h.2.1, hF⟩
end Jvm.Pilot.@@N@@
namespace Jvm.Pilot.@@N@@
open Jvm Jvm.ClassFile Sem Op Lib Jvm.Free Jvm.Stand Jvm.Pilot.@@N@@.Jvm.D
/-! MADE BY PROGRAM (witnessworld.py) out of the Statement's table words and the real class files: 9 classes; the members and pool entries that the words name. The judged class is class 1, her method 1. -/
namespace start1
open Jvm.ClassFile
def u (s : String) : CpInfo := .utf8 (stringToUtf16 s)
/-- a pool by its gaps: so many unusable entries, then the entry; so many at the end -/
def gap : Nat → List CpInfo → List CpInfo
  | 0, r => r
  | n + 1, r => .unusable :: gap n r
def poolList (es : List (Nat × CpInfo)) (last : Nat) : List CpInfo := es.foldr (fun e r => gap e.1 (e.2 :: r)) (gap last [])
def pool (es : List (Nat × CpInfo)) (last : Nat) : Array CpInfo := ⟨poolList es last⟩
def fileOf (pool : Array CpInfo) (this : Nat) (attrs : Array Attribute := #[]) (ms : Array MethodInfo := #[]) (fl : Nat := 33) (sup : Nat := 0) (ifs : Array Nat := #[]) (fds : Array FieldInfo := #[]) : ClassFile where
  minorVersion := 0
  majorVersion := 65
  constantPool := pool
  accessFlags := fl
  thisClass := this
  superClass := sup
  interfaces := ifs
  fields := fds
  methods := ms
  attributes := attrs
def plain (name : String) (sup : Option ClassId) : Class where
  name := name
  kind := .ordinary
  loader := none
  accessFlags := 33
  super := sup
  interfaces := #[]
  cf := none
  fields := #[]
  methods := #[]
  instanceTypes := #[]
  staticTypes := #[]
  resolved := #[]
  callSites := []
  init := .initialized
  statics := none
  mirror := none

def pool0 : Array CpInfo := pool [(5, u "<init>"), (0, u "()V"), (1, .class_ 10), (1, u "java/lang/Object")] 113

def k0m0 : Method := { name := "<init>", desc := "()V", sig := { parameters := [], returnType := none }, accessFlags := 1, code := none }
/-- java/lang/Object -/
def k0 : Class := { plain "java/lang/Object" none with
  accessFlags := 33
  interfaces := #[]
  cf := some (fileOf pool0 8 #[] #[{ accessFlags := 1, nameIndex := 5, descriptorIndex := 6, attributes := #[] }] 33 0 #[] #[])
  fields := #[]
  methods := #[k0m0]
  instanceTypes := #[]
  staticTypes := #[]
  resolved := Array.replicate 124 none
  statics := none }

def pool1 : Array CpInfo := pool [(2, .class_ 4), (1, u "java/lang/Object"), (0, u "<init>"), (0, u "()V"), (0, .methodref 8 9), (0, .class_ 10), (0, .nameAndType 11 12), (0, u "com/example/boann/boann/hashing/Items"), (0, u "littleEndian"), (0, u "(J)[B"), (0, .long 255), (1, .class_ 16), (0, u "com/example/boann/boann/hashing/ItemsLittleEndianPinLaw"), (2, u "law"), (0, u "(J)Z")] 5

def k1m0 : Method := { name := "<init>", desc := "()V", sig := { parameters := [], returnType := none }, accessFlags := 2, code := none }
def k1c1 : Code := { maxStack := 6, maxLocals := 6, code := code, exceptionTable := #[], attributes := #[] }
def k1m1 : Method := { name := "law", desc := "(J)Z", sig := { parameters := [.long], returnType := some .boolean }, accessFlags := 9, code := some k1c1 }
/-- com/example/boann/boann/hashing/ItemsLittleEndianPinLaw -/
def k1 : Class := { plain "com/example/boann/boann/hashing/ItemsLittleEndianPinLaw" (some 0) with
  accessFlags := 49
  interfaces := #[]
  cf := some (fileOf pool1 15 #[] #[{ accessFlags := 2, nameIndex := 5, descriptorIndex := 6, attributes := #[] }, { accessFlags := 9, nameIndex := 19, descriptorIndex := 20, attributes := #[] }] 49 2 #[] #[])
  fields := #[]
  methods := #[k1m0, k1m1]
  instanceTypes := #[]
  staticTypes := #[]
  resolved := Array.replicate 26 none
  statics := none }

def pool2 : Array CpInfo := pool [(2, .class_ 4), (1, u "java/lang/Object"), (0, u "<init>"), (0, u "()V"), (1, .class_ 10), (1, u "com/example/boann/boann/hashing/Items"), (52, u "littleEndian"), (0, u "(J)[B")] 19

def k2m0 : Method := { name := "<init>", desc := "()V", sig := { parameters := [], returnType := none }, accessFlags := 2, code := none }
def k2c1 : Code := { maxStack := 6, maxLocals := 4, code := prog_28_method_3_code, exceptionTable := #[], attributes := #[] }
def k2m1 : Method := { name := "littleEndian", desc := "(J)[B", sig := { parameters := [.long], returnType := some (.array .byte) }, accessFlags := 9, code := some k2c1 }
/-- com/example/boann/boann/hashing/Items -/
def k2 : Class := { plain "com/example/boann/boann/hashing/Items" (some 0) with
  accessFlags := 49
  interfaces := #[]
  cf := some (fileOf pool2 8 #[] #[{ accessFlags := 2, nameIndex := 5, descriptorIndex := 6, attributes := #[] }, { accessFlags := 9, nameIndex := 63, descriptorIndex := 64, attributes := #[] }] 49 2 #[] #[])
  fields := #[]
  methods := #[k2m0, k2m1]
  instanceTypes := #[]
  staticTypes := #[]
  resolved := Array.replicate 84 none
  statics := none }

def pool3 : Array CpInfo := pool [(1, u "java/lang/Cloneable"), (0, .class_ 1), (0, u "java/lang/Object"), (0, .class_ 3)] 3

/-- java/lang/Cloneable -/
def k3 : Class := { plain "java/lang/Cloneable" (some 0) with
  accessFlags := 1537
  interfaces := #[]
  cf := some (fileOf pool3 2 #[] #[] 1537 4 #[] #[])
  fields := #[]
  methods := #[]
  instanceTypes := #[]
  staticTypes := #[]
  resolved := Array.replicate 8 none
  statics := none }

def pool4 : Array CpInfo := pool [(1, u "java/io/Serializable"), (0, .class_ 1), (0, u "java/lang/Object"), (0, .class_ 3)] 3

/-- java/io/Serializable -/
def k4 : Class := { plain "java/io/Serializable" (some 0) with
  accessFlags := 1537
  interfaces := #[]
  cf := some (fileOf pool4 2 #[] #[] 1537 4 #[] #[])
  fields := #[]
  methods := #[]
  instanceTypes := #[]
  staticTypes := #[]
  resolved := Array.replicate 8 none
  statics := none }

/-- the primitive byte -/
def k5 : Class := { plain "byte" none with kind := .primitive 'B', accessFlags := 0x411 }
/-- [B -/
def k6 : Class := { plain "[B" (some 0) with kind := .array 5 .byte, interfaces := #[3, 4], accessFlags := 1041 }

/-- the primitive int -/
def k7 : Class := { plain "int" none with kind := .primitive 'I', accessFlags := 0x411 }
/-- [I -/
def k8 : Class := { plain "[I" (some 0) with kind := .array 7 .int, interfaces := #[3, 4], accessFlags := 1041 }

def heap : Heap := #[]
def classes : Array Class := #[k0, k1, k2, k3, k4, k5, k6, k7, k8]
def interned : List (Array UInt16 × Addr) := []
def slotsUsed : Nat := 0
def theMethod : MethodId := ⟨1, 1⟩
def args0 : Array Value := #[.long 5]
def aboutOver (below : List Frame) : State where
  vm := { classes := classes, interned := interned.toArray }
  heap := heap
  slotsUsed := slotsUsed
  threads := #[{ frames := .invoking theMethod args0 :: below }]
def below0 : List Frame := [.native { method := ⟨0, 0⟩, args := #[] }]
def about1 : State := aboutOver below0
def p0 : Program := .bare "" "" ""
def e0 : Env := launch0.env 0 0 0
theorem w_frames : about1.frames = Frame.invoking theMethod args0 :: below0 := rfl
set_option maxRecDepth 65536 in
theorem w_args : argsFit about1.vm theMethod args0 = true := by decide +kernel
set_option maxRecDepth 65536 in
theorem w_heap : heapFits about1 = true := by decide +kernel
set_option maxRecDepth 65536 in
theorem w_runnable : about1.curStatus? = some .runnable := by decide +kernel
set_option maxRecDepth 65536 in
theorem w_alone : about1.alone = true := by decide +kernel
set_option maxRecDepth 65536 in
theorem w_named : about1.methodNamed? x = some theMethod := by decide +kernel
set_option maxRecDepth 65536 in
theorem w_hears : about1.hears theMethod below0 = true := by decide +kernel
set_option maxRecDepth 65536 in
theorem w_ripe : about1.ripe theMethod args0 below0 = true := by decide +kernel
theorem w_running : about1.status = .running := rfl
set_option maxRecDepth 65536 in
theorem w_room : about1.hasRoom e0.platform room_1 = true :=
  launch0.hasRoom_least _ room_1 (by decide +kernel) (by decide +kernel) (by decide +kernel) (by decide +kernel) (by decide +kernel) (by decide +kernel)
theorem allAtoms_all (ts : List Jvm.Cond) (a : Array Jvm.Value) (st : Jvm.State) : (allAtoms ts).before a st = ts.all (fun c => c.before a st) := by
  induction ts with
  | nil => rfl
  | cons c t ih =>
    show (Jvm.Cond.and c (allAtoms t)).before a st = _
    rw [Jvm.Cond.before_and, ih, List.all_cons]
def words1 : List Jvm.Cond := Jvm.Cond.code x code maxLocals ret :: tables_1
/-- a 'code' word, met by the world's own term for the bytes: nothing is compared byte by byte -/
theorem code_word {y : MethodName} {bytes : ByteArray} {mx : Nat} {rt : Option FieldType} {a : Array Value} {s : State} {m : MethodId} {meth : Method} {c : Code} (h1 : s.methodNamed? y = some m) (h2 : s.vm.method? m = some meth) (h3 : meth.code = some c) (h4 : c.code = bytes)
    (h5 : (c.maxLocals == mx && c.exceptionTable.isEmpty && decide (c.maxStack ≤ mostOperands) && decide (meth.sig.returnType = rt) && !meth.locks && decide (parseMethodDescriptor y.desc = some meth.sig)) = true) : (Jvm.Cond.code y bytes mx rt).before a s = true := by
  simp only [Bool.and_eq_true, beq_iff_eq, Bool.not_eq_true', decide_eq_true_eq] at h5
  obtain ⟨⟨⟨⟨⟨g1, g2⟩, g3⟩, g4⟩, g5⟩, g6⟩ := h5
  simp [Cond.before, Cond.holds, Cond.value, h1, h2, h3, h4, g1, g2, g3, g4, g5, g6]
def isCode : Jvm.Cond → Bool
  | .code _ _ _ _ => true
  | _ => false
theorem all_split {L : List Jvm.Cond} {P : Jvm.Cond → Bool} (h1 : L.all (fun c => isCode c || P c) = true) (h2 : ∀ c ∈ L.filter isCode, P c = true) : L.all P = true := by
  refine List.all_eq_true.mpr fun c hc => ?_
  have h := List.all_eq_true.mp h1 c hc
  rcases Bool.eq_false_or_eq_true (isCode c) with hi | hi
  · exact h2 c (List.mem_filter.mpr ⟨hc, hi⟩)
  · simpa [hi] using h
set_option maxRecDepth 65536 in
theorem w_c0 : (Jvm.Cond.code x code maxLocals ret).before args0 about1 = true := code_word (m := ⟨1, 1⟩) (meth := k1m1) (c := k1c1) (by decide +kernel) rfl rfl rfl (by decide +kernel)
set_option maxRecDepth 65536 in
theorem w_c1 : (Jvm.Cond.code ({ cls := "com/example/boann/boann/hashing/Items", name := "littleEndian", desc := "(J)[B" } : Jvm.MethodName) prog_28_method_3_code (4 : Nat) (Option.some (Jvm.ClassFile.FieldType.array Jvm.ClassFile.FieldType.byte))).before args0 about1 = true := code_word (m := ⟨2, 1⟩) (meth := k2m1) (c := k2c1) (by decide +kernel) rfl rfl rfl (by decide +kernel)
def codes1 : List Jvm.Cond := [Jvm.Cond.code x code maxLocals ret, Jvm.Cond.code ({ cls := "com/example/boann/boann/hashing/Items", name := "littleEndian", desc := "(J)[B" } : Jvm.MethodName) prog_28_method_3_code (4 : Nat) (Option.some (Jvm.ClassFile.FieldType.array Jvm.ClassFile.FieldType.byte))]
set_option maxRecDepth 65536 in
theorem codes_eq : words1.filter isCode = codes1 := rfl
theorem w_codes : ∀ c ∈ words1.filter isCode, c.before args0 about1 = true := by
  rw [codes_eq]
  intro c hc
  simp only [codes1, List.mem_cons, List.not_mem_nil, or_false] at hc
  rcases hc with rfl | rfl
  · exact w_c0
  · exact w_c1
set_option maxRecDepth 65536 in
theorem w_t1 : words1.all (fun c => isCode c || c.before args0 about1) = true := by decide +kernel
theorem w_tables : (allAtoms (Jvm.Cond.code x code maxLocals ret :: tables_1)).before args0 about1 = true := by
  rw [allAtoms_all]
  show words1.all (fun c => c.before args0 about1) = true
  refine all_split ?_ w_codes
  rw [w_t1]
set_option maxRecDepth 65536 in
theorem w_case : (Jvm.Cond.and given_1 narrow_1).before args0 about1 = true := by decide +kernel
theorem w_applies : (headSpec (Jvm.Cond.code x code maxLocals ret :: tables_1) room_1).applies x e0.platform about1 = true :=
  (Spec.applies_iff w_frames).mpr ⟨w_running, w_runnable, w_alone, w_named, w_hears, w_ripe, w_room, w_tables⟩
theorem atStart : AtStart classFile x code maxLocals ret World_1 tables_1 room_1 Calls_1 rest_1 Pre_1 launch0 p0 e0 about1 theMethod args0 below0 :=
  ⟨lists_1, trivial, launch0.admits_env _ _ _, launch0.least_env, fairChoices_fair.cas, fairChoices_fair.clock, w_frames, w_args, w_heap, w_applies, trivial, trivial, w_case⟩
end start1
theorem witness_1 : WitnessClaimed_1 := ⟨start1.p0, start1.e0, start1.about1, start1.theMethod, start1.args0, start1.below0, start1.atStart⟩
end Jvm.Pilot.@@N@@
