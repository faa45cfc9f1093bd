import JvmDerived
import JvmDerived.Pilot.@@N@@Statement
import JvmDerived.Pilot.@@N@@Code
set_option linter.unusedVariables false
set_option linter.unusedSimpArgs false
@@BLOCK:NumsL.lean.txt@@
namespace Jvm.Pilot.@@N@@
open Jvm Jvm.ClassFile Sem Op Lib Jvm.Free Jvm.Stand Jvm.LawKit Jvm.RoadKit Bundle Jvm.Pilot.@@N@@.Jvm.D
/-! ## the walk's own kit: 'from this pc on the body comes to its end, in Φ' (X.G), and one rule a step -/
def OwC (p : Program) (l : Launch) (e : Env) (R : Room) (s : State) (m : MethodId) (args : Array Value) (below : List Frame) (meth : Method) (c : Code) (Z : State) (own nm : String) (bytes : ByteArray) (mL : Nat) (ret : Option FieldType) (n0 kM nM : Nat) (Φ : Option Value → Heap → Prop) : Prop :=
  p.tables.exec = Jvm.exec ∧ c.code = bytes ∧ c.maxLocals = mL ∧ s.vm.findClass own = some m.cls ∧ Z.Warmed39 s.vm ∧ meth.sig.returnType = ret ∧ meth.locks = false ∧ meth.name = nm
section OwKit
variable {p : Program} {l : Launch} {e : Env} {R : Room} {s : State} {m : MethodId} {args : Array Value} {below : List Frame} {meth : Method} {c : Code} {Z : State} {own nm : String} {bytes : ByteArray} {mL : Nat} {ret : Option FieldType} {n0 kM nM : Nat} {Φ : Option Value → Heap → Prop}
variable {a0 : Array Value} {h : Heap} {k n pc q : Nat} {Ls Ls' : Array Slot} {st rest : List Value}
def OwC.G (_X : OwC p l e R s m args below meth c Z own nm bytes mL ret n0 kM nM Φ) (h : Heap) (k n pc : Nat) (Ls : Array Slot) (st : List Value) : Prop :=
  ∀ T locs, Stand p l e R s m args below meth c T locs k n → T.heap = h → Fr n0 locs →
    ∃ v s₂ L, Steps p.tables e below (T.setTop (mkF m pc Ls st)) s₂ ∧ s₂.status = .running ∧ Ended s₂ below (.returned v) ∧ (Φ v s₂.heap ∧ Fr n0 L) ∧ FrameEnd s (.returned v) s₂ L kM nM
variable (X : OwC p l e R s m args below meth c Z own nm bytes mL ret n0 kM nM Φ)
theorem OwC.step {pc' : Nat} {st' : List Value} (g : X.G h k n pc' Ls' st') (w : ∀ T locs, Stand p l e R s m args below meth c T locs k n → ∀ t, Steps p.tables e below (T.setTop (mkF m pc' Ls' st')) t → Steps p.tables e below (T.setTop (mkF m pc Ls st)) t) : X.G h k n pc Ls st := fun T locs Y eT N => by
  obtain ⟨v, s₂, L, r1, r⟩ := g T locs Y eT N
  exact ⟨v, s₂, L, w T locs Y _ r1, r⟩
theorem OwC.hd (X : OwC p l e R s m args below meth c Z own nm bytes mL ret n0 kM nM Φ) {i : Instr} {len : Nat} (d : decode bytes pc = .ok (i, len)) : decode c.code pc = .ok (i, len) := hb X.2.1 d
/-! a name for the top of the stack -/
theorem OwC.nmI {x : Int32} (g : ∀ v : Int32, v = x → X.G h k n pc Ls (.int v :: st)) : X.G h k n pc Ls (.int x :: st) := g x rfl
theorem OwC.nmJ {x : Int64} (g : ∀ v : Int64, v = x → X.G h k n pc Ls (.long v :: st)) : X.G h k n pc Ls (.long x :: st) := g x rfl
theorem OwC.foldI {x v : Int32} (e : x = v) (g : X.G h k n pc Ls (.int v :: st)) : X.G h k n pc Ls (.int x :: st) := by subst e; exact g
theorem OwC.foldJ {x v : Int64} (e : x = v) (g : X.G h k n pc Ls (.long v :: st)) : X.G h k n pc Ls (.long x :: st) := by subst e; exact g
/-! loads and stores -/
theorem OwC.iloadN {j : Fin 4} {v : Int32} (d : decode bytes pc = .ok (.iload_n j, 1)) (hl : Ls[j.val]? = some (.val (.int v))) (hq : pc + 1 = q) (g : X.G h k n q Ls (.int v :: st)) : X.G h k n pc Ls st := by
  subst hq; exact X.step g fun T _ Y t r => XS.iloadN Y.here X.1 rfl (X.hd d) hl r
theorem OwC.iload {j : Nat} {v : Int32} (d : decode bytes pc = .ok (.iload j, 2)) (hl : Ls[j]? = some (.val (.int v))) (hq : pc + 2 = q) (g : X.G h k n q Ls (.int v :: st)) : X.G h k n pc Ls st := by
  subst hq; exact X.step g fun T _ Y t r => XS.iload Y.here X.1 rfl (X.hd d) hl r
theorem OwC.lloadN {j : Fin 4} {v : Int64} (d : decode bytes pc = .ok (.lload_n j, 1)) (hl : Ls[j.val]? = some (.val (.long v))) (hq : pc + 1 = q) (g : X.G h k n q Ls (.long v :: st)) : X.G h k n pc Ls st := by
  subst hq; exact X.step g fun T _ Y t r => XT.lloadN Y.here X.1 rfl (X.hd d) hl r
theorem OwC.lload {j : Nat} {v : Int64} (d : decode bytes pc = .ok (.lload j, 2)) (hl : Ls[j]? = some (.val (.long v))) (hq : pc + 2 = q) (g : X.G h k n q Ls (.long v :: st)) : X.G h k n pc Ls st := by
  subst hq; exact X.step g fun T _ Y t r => XT.lload Y.here X.1 rfl (X.hd d) hl r
theorem OwC.aloadN {j : Fin 4} {v : Value} (d : decode bytes pc = .ok (.aload_n j, 1)) (hl : Ls[j.val]? = some (.val v)) (hv : v.isRef = true) (hq : pc + 1 = q) (g : X.G h k n q Ls (v :: st)) : X.G h k n pc Ls st := by
  subst hq; exact X.step g fun T _ Y t r => XS.aloadN Y.here X.1 rfl (X.hd d) hl hv r
theorem OwC.aload {j : Nat} {v : Value} (d : decode bytes pc = .ok (.aload j, 2)) (hl : Ls[j]? = some (.val v)) (hv : v.isRef = true) (hq : pc + 2 = q) (g : X.G h k n q Ls (v :: st)) : X.G h k n pc Ls st := by
  subst hq; exact X.step g fun T _ Y t r => XS.aload Y.here X.1 rfl (X.hd d) hl hv r
theorem OwC.istoreN {j : Fin 4} {x : Int32} (d : decode bytes pc = .ok (.istore_n j, 1)) (hl : storeLocals Ls j.val (.int x) = some Ls') (hq : pc + 1 = q) (g : X.G h k n q Ls' st) : X.G h k n pc Ls (.int x :: st) := by
  subst hq; exact X.step g fun T _ Y t r => XS.istoreN Y.here X.1 rfl (X.hd d) rfl hl r
theorem OwC.istore {j : Nat} {x : Int32} (d : decode bytes pc = .ok (.istore j, 2)) (hl : storeLocals Ls j (.int x) = some Ls') (hq : pc + 2 = q) (g : X.G h k n q Ls' st) : X.G h k n pc Ls (.int x :: st) := by
  subst hq; exact X.step g fun T _ Y t r => XS.istore Y.here X.1 rfl (X.hd d) rfl hl r
theorem OwC.lstoreN {j : Fin 4} {x : Int64} (d : decode bytes pc = .ok (.lstore_n j, 1)) (hl : storeLocals Ls j.val (.long x) = some Ls') (hq : pc + 1 = q) (g : X.G h k n q Ls' st) : X.G h k n pc Ls (.long x :: st) := by
  subst hq; exact X.step g fun T _ Y t r => XT.lstoreN Y.here X.1 rfl (X.hd d) rfl hl r
theorem OwC.lstore {j : Nat} {x : Int64} (d : decode bytes pc = .ok (.lstore j, 2)) (hl : storeLocals Ls j (.long x) = some Ls') (hq : pc + 2 = q) (g : X.G h k n q Ls' st) : X.G h k n pc Ls (.long x :: st) := by
  subst hq; exact X.step g fun T _ Y t r => XT.lstore Y.here X.1 rfl (X.hd d) rfl hl r
theorem OwC.astoreN {j : Fin 4} {x : Value} (d : decode bytes pc = .ok (.astore_n j, 1)) (hv : x.isRef = true) (hl : storeLocals Ls j.val x = some Ls') (hq : pc + 1 = q) (g : X.G h k n q Ls' st) : X.G h k n pc Ls (x :: st) := by
  subst hq; exact X.step g fun T _ Y t r => XS.astoreN Y.here X.1 rfl (X.hd d) rfl hv hl r
theorem OwC.astore {j : Nat} {x : Value} (d : decode bytes pc = .ok (.astore j, 2)) (hv : x.isRef = true) (hl : storeLocals Ls j x = some Ls') (hq : pc + 2 = q) (g : X.G h k n q Ls' st) : X.G h k n pc Ls (x :: st) := by
  subst hq; exact X.step g fun T _ Y t r => XS.astore Y.here X.1 rfl (X.hd d) rfl hv hl r
/-! constants -/
theorem OwC.iconst {i : Int} (v : Int32) (d : decode bytes pc = .ok (.iconst i, 1)) (hv : Int32.ofInt i = v) (hq : pc + 1 = q) (g : X.G h k n q Ls (.int v :: st)) : X.G h k n pc Ls st := by
  subst hq hv; exact X.step g fun T _ Y t r => XS.iconst Y.here X.1 rfl (X.hd d) r
theorem OwC.bipush {i : Int} (v : Int32) (d : decode bytes pc = .ok (.bipush i, 2)) (hv : (Int8.ofInt i).toInt32 = v) (hq : pc + 2 = q) (g : X.G h k n q Ls (.int v :: st)) : X.G h k n pc Ls st := by
  subst hq hv; exact X.step g fun T _ Y t r => XS.bipush Y.here X.1 rfl (X.hd d) r
theorem OwC.sipush {i : Int} (v : Int32) (d : decode bytes pc = .ok (.sipush i, 3)) (hv : (Int16.ofInt i).toInt32 = v) (hq : pc + 3 = q) (g : X.G h k n q Ls (.int v :: st)) : X.G h k n pc Ls st := by
  subst hq hv; exact X.step g fun T _ Y t r => XS.sipush Y.here X.1 rfl (X.hd d) r
theorem OwC.lconst {j : Fin 2} (v : Int64) (d : decode bytes pc = .ok (.lconst j, 1)) (hv : Int64.ofNat j = v) (hq : pc + 1 = q) (g : X.G h k n q Ls (.long v :: st)) : X.G h k n pc Ls st := by
  subst hq hv; exact X.step g fun T _ Y t r => XT.lconst Y.here X.1 rfl (X.hd d) r
theorem OwC.aconstNull (d : decode bytes pc = .ok (.aconst_null, 1)) (hq : pc + 1 = q) (g : X.G h k n q Ls (.null :: st)) : X.G h k n pc Ls st := by
  subst hq; exact X.step g fun T _ Y t r => XS.aconstNull Y.here X.1 rfl (X.hd d) r
theorem OwC.ldc {i : Nat} {v : Int32} (w : (Cond.constant own i v).before a0 Z = true) (d : decode bytes pc = .ok (.ldc i, 2)) (hq : pc + 2 = q) (g : X.G h k n q Ls (.int v :: st)) : X.G h k n pc Ls st := by
  subst hq; exact X.step g fun T _ Y t r => Y.ldcI X.1 X.2.2.2.1 (mvT X.2.2.2.2.1 w) rfl (X.hd d) r
theorem OwC.ldc_w {i : Nat} {v : Int32} (w : (Cond.constant own i v).before a0 Z = true) (d : decode bytes pc = .ok (.ldc_w i, 3)) (hq : pc + 3 = q) (g : X.G h k n q Ls (.int v :: st)) : X.G h k n pc Ls st := by
  subst hq; exact X.step g fun T _ Y t r => Y.ldcWI X.1 X.2.2.2.1 (mvT X.2.2.2.2.1 w) rfl (X.hd d) r
theorem OwC.ldc2_w {i : Nat} {v : Int64} (w : (Cond.constantLong own i v).before a0 Z = true) (d : decode bytes pc = .ok (.ldc2_w i, 3)) (hq : pc + 3 = q) (g : X.G h k n q Ls (.long v :: st)) : X.G h k n pc Ls st := by
  subst hq; exact X.step g fun T _ Y t r => Y.ldc2J X.1 X.2.2.2.1 (mvT X.2.2.2.2.1 w) rfl (X.hd d) r
/-! arithmetic -/
theorem OwC.iadd {x y : Int32} (d : decode bytes pc = .ok (.iadd, 1)) (hq : pc + 1 = q) (g : X.G h k n q Ls (.int (x + y) :: st)) : X.G h k n pc Ls (.int y :: .int x :: st) := by
  subst hq; exact X.step g fun T _ Y t r => XS.iadd Y.here X.1 rfl (X.hd d) rfl r
theorem OwC.isub {x y : Int32} (d : decode bytes pc = .ok (.isub, 1)) (hq : pc + 1 = q) (g : X.G h k n q Ls (.int (x - y) :: st)) : X.G h k n pc Ls (.int y :: .int x :: st) := by
  subst hq; exact X.step g fun T _ Y t r => XS.isub Y.here X.1 rfl (X.hd d) rfl r
theorem OwC.imul {x y : Int32} (d : decode bytes pc = .ok (.imul, 1)) (hq : pc + 1 = q) (g : X.G h k n q Ls (.int (x * y) :: st)) : X.G h k n pc Ls (.int y :: .int x :: st) := by
  subst hq; exact X.step g fun T _ Y t r => XS.imul Y.here X.1 rfl (X.hd d) rfl r
theorem OwC.iand {x y : Int32} (d : decode bytes pc = .ok (.iand, 1)) (hq : pc + 1 = q) (g : X.G h k n q Ls (.int (x &&& y) :: st)) : X.G h k n pc Ls (.int y :: .int x :: st) := by
  subst hq; exact X.step g fun T _ Y t r => XS.iand Y.here X.1 rfl (X.hd d) rfl r
theorem OwC.ixor {x y : Int32} (d : decode bytes pc = .ok (.ixor, 1)) (hq : pc + 1 = q) (g : X.G h k n q Ls (.int (x ^^^ y) :: st)) : X.G h k n pc Ls (.int y :: .int x :: st) := by
  subst hq; exact X.step g fun T _ Y t r => XT.ixor Y.here X.1 rfl (X.hd d) rfl r
theorem OwC.ior {x y : Int32} (d : decode bytes pc = .ok (.ior, 1)) (hq : pc + 1 = q) (g : X.G h k n q Ls (.int (x ||| y) :: st)) : X.G h k n pc Ls (.int y :: .int x :: st) := by
  subst hq; exact X.step g fun T _ Y t r => XT.ior Y.here X.1 rfl (X.hd d) rfl r
theorem OwC.ishl {x y : Int32} (d : decode bytes pc = .ok (.ishl, 1)) (hq : pc + 1 = q) (g : X.G h k n q Ls (.int (x <<< (y &&& 31)) :: st)) : X.G h k n pc Ls (.int y :: .int x :: st) := by
  subst hq; exact X.step g fun T _ Y t r => XT.ishl Y.here X.1 rfl (X.hd d) rfl r
theorem OwC.ishr {x y : Int32} (d : decode bytes pc = .ok (.ishr, 1)) (hq : pc + 1 = q) (g : X.G h k n q Ls (.int (x >>> (y &&& 31)) :: st)) : X.G h k n pc Ls (.int y :: .int x :: st) := by
  subst hq; exact X.step g fun T _ Y t r => XT.ishr Y.here X.1 rfl (X.hd d) rfl r
theorem OwC.iushr {x y : Int32} (d : decode bytes pc = .ok (.iushr, 1)) (hq : pc + 1 = q) (g : X.G h k n q Ls (.int (XT.ushr x y) :: st)) : X.G h k n pc Ls (.int y :: .int x :: st) := by
  subst hq; exact X.step g fun T _ Y t r => XT.iushr Y.here X.1 rfl (X.hd d) rfl r
theorem OwC.ladd {x y : Int64} (d : decode bytes pc = .ok (.ladd, 1)) (hq : pc + 1 = q) (g : X.G h k n q Ls (.long (x + y) :: st)) : X.G h k n pc Ls (.long y :: .long x :: st) := by
  subst hq; exact X.step g fun T _ Y t r => XT.ladd Y.here X.1 rfl (X.hd d) rfl r
theorem OwC.lsub {x y : Int64} (d : decode bytes pc = .ok (.lsub, 1)) (hq : pc + 1 = q) (g : X.G h k n q Ls (.long (x - y) :: st)) : X.G h k n pc Ls (.long y :: .long x :: st) := by
  subst hq; exact X.step g fun T _ Y t r => XT.lsub Y.here X.1 rfl (X.hd d) rfl r
theorem OwC.lmul {x y : Int64} (d : decode bytes pc = .ok (.lmul, 1)) (hq : pc + 1 = q) (g : X.G h k n q Ls (.long (x * y) :: st)) : X.G h k n pc Ls (.long y :: .long x :: st) := by
  subst hq; exact X.step g fun T _ Y t r => XT.lmul Y.here X.1 rfl (X.hd d) rfl r
theorem OwC.land {x y : Int64} (d : decode bytes pc = .ok (.land, 1)) (hq : pc + 1 = q) (g : X.G h k n q Ls (.long (x &&& y) :: st)) : X.G h k n pc Ls (.long y :: .long x :: st) := by
  subst hq; exact X.step g fun T _ Y t r => XT.land Y.here X.1 rfl (X.hd d) rfl r
theorem OwC.lxor {x y : Int64} (d : decode bytes pc = .ok (.lxor, 1)) (hq : pc + 1 = q) (g : X.G h k n q Ls (.long (x ^^^ y) :: st)) : X.G h k n pc Ls (.long y :: .long x :: st) := by
  subst hq; exact X.step g fun T _ Y t r => XT.lxor Y.here X.1 rfl (X.hd d) rfl r
theorem OwC.lor {x y : Int64} (d : decode bytes pc = .ok (.lor, 1)) (hq : pc + 1 = q) (g : X.G h k n q Ls (.long (x ||| y) :: st)) : X.G h k n pc Ls (.long y :: .long x :: st) := by
  subst hq; exact X.step g fun T _ Y t r => XT.lor Y.here X.1 rfl (X.hd d) rfl r
theorem OwC.lshl {x : Int64} {y : Int32} (d : decode bytes pc = .ok (.lshl, 1)) (hq : pc + 1 = q) (g : X.G h k n q Ls (.long (x <<< (y.toInt64 &&& 63)) :: st)) : X.G h k n pc Ls (.int y :: .long x :: st) := by
  subst hq; exact X.step g fun T _ Y t r => XT.lshl Y.here X.1 rfl (X.hd d) rfl r
theorem OwC.lshr {x : Int64} {y : Int32} (d : decode bytes pc = .ok (.lshr, 1)) (hq : pc + 1 = q) (g : X.G h k n q Ls (.long (x >>> (y.toInt64 &&& 63)) :: st)) : X.G h k n pc Ls (.int y :: .long x :: st) := by
  subst hq; exact X.step g fun T _ Y t r => XT.lshr Y.here X.1 rfl (X.hd d) rfl r
theorem OwC.lushr {x : Int64} {y : Int32} (d : decode bytes pc = .ok (.lushr, 1)) (hq : pc + 1 = q) (g : X.G h k n q Ls (.long (XT.ushrL x y) :: st)) : X.G h k n pc Ls (.int y :: .long x :: st) := by
  subst hq; exact X.step g fun T _ Y t r => XT.lushr Y.here X.1 rfl (X.hd d) rfl r
theorem OwC.idiv {x y : Int32} (d : decode bytes pc = .ok (.idiv, 1)) (hy : y ≠ 0) (hq : pc + 1 = q) (g : X.G h k n q Ls (.int (x / y) :: st)) : X.G h k n pc Ls (.int y :: .int x :: st) := by
  subst hq; exact X.step g fun T _ Y t r => XS.idiv Y.here X.1 rfl (X.hd d) rfl hy r
theorem OwC.ldiv {x y : Int64} (d : decode bytes pc = .ok (.ldiv, 1)) (hy : y ≠ 0) (hq : pc + 1 = q) (g : X.G h k n q Ls (.long (x / y) :: st)) : X.G h k n pc Ls (.long y :: .long x :: st) := by
  subst hq; exact X.step g fun T _ Y t r => XT.ldiv Y.here X.1 rfl (X.hd d) rfl hy r
theorem OwC.irem {x y : Int32} (d : decode bytes pc = .ok (.irem, 1)) (hy : y ≠ 0) (hq : pc + 1 = q) (g : X.G h k n q Ls (.int (x % y) :: st)) : X.G h k n pc Ls (.int y :: .int x :: st) := by
  subst hq; exact X.step g fun T _ Y t r => iremM Y X.1 rfl (X.hd d) rfl hy r
theorem ow_lrem (x y : Int64) : x - (x / y) * y = x % y := by
  rw [← Int64.toInt_inj, Int64.toInt_sub, Int64.toInt_mul, Int64.toInt_mod, Int64.toInt_div]
  have h1 : (((x.toInt.tdiv y.toInt).bmod (2 ^ 64) * y.toInt).bmod (2 ^ 64)) = (x.toInt.tdiv y.toInt * y.toInt).bmod (2 ^ 64) := by simp [Int.bmod_mul_bmod]
  rw [h1, Int.sub_bmod_bmod]
  have h2 : x.toInt - x.toInt.tdiv y.toInt * y.toInt = x.toInt.tmod y.toInt := by
    have := Int.mul_tdiv_add_tmod x.toInt y.toInt
    rw [Int.mul_comm] at this; omega
  rw [h2, ← Int64.toInt_mod, Int64.toInt_bmod]
theorem OwC.lrem {x y : Int64} (d : decode bytes pc = .ok (.lrem, 1)) (hy : y ≠ 0) (hq : pc + 1 = q) (g : X.G h k n q Ls (.long (x % y) :: st)) : X.G h k n pc Ls (.long y :: .long x :: st) := by
  subst hq; exact X.step g fun T _ Y t r => XT.lrem Y.here X.1 rfl (X.hd d) rfl hy (by rw [ow_lrem]; exact r)
theorem OwC.ineg {x : Int32} (d : decode bytes pc = .ok (.ineg, 1)) (hq : pc + 1 = q) (g : X.G h k n q Ls (.int (-x) :: st)) : X.G h k n pc Ls (.int x :: st) := by
  subst hq; exact X.step g fun T _ Y t r => XS.ineg Y.here X.1 rfl (X.hd d) rfl r
theorem OwC.lneg {x : Int64} (d : decode bytes pc = .ok (.lneg, 1)) (hq : pc + 1 = q) (g : X.G h k n q Ls (.long (-x) :: st)) : X.G h k n pc Ls (.long x :: st) := by
  subst hq; exact X.step g fun T _ Y t r => XT.lneg Y.here X.1 rfl (X.hd d) rfl r
theorem OwC.i2l {x : Int32} (d : decode bytes pc = .ok (.i2l, 1)) (hq : pc + 1 = q) (g : X.G h k n q Ls (.long (x.toInt64) :: st)) : X.G h k n pc Ls (.int x :: st) := by
  subst hq; exact X.step g fun T _ Y t r => XT.i2l Y.here X.1 rfl (X.hd d) rfl r
theorem OwC.l2i {x : Int64} (d : decode bytes pc = .ok (.l2i, 1)) (hq : pc + 1 = q) (g : X.G h k n q Ls (.int (x.toInt32) :: st)) : X.G h k n pc Ls (.long x :: st) := by
  subst hq; exact X.step g fun T _ Y t r => XT.l2i Y.here X.1 rfl (X.hd d) rfl r
theorem OwC.i2b {x : Int32} (d : decode bytes pc = .ok (.i2b, 1)) (hq : pc + 1 = q) (g : X.G h k n q Ls (.int (x.toInt8.toInt32) :: st)) : X.G h k n pc Ls (.int x :: st) := by
  subst hq; exact X.step g fun T _ Y t r => XT.i2b Y.here X.1 rfl (X.hd d) rfl r
theorem OwC.i2c {x : Int32} (d : decode bytes pc = .ok (.i2c, 1)) (hq : pc + 1 = q) (g : X.G h k n q Ls (.int (x.toUInt32.toUInt16.toUInt32.toInt32) :: st)) : X.G h k n pc Ls (.int x :: st) := by
  subst hq; exact X.step g fun T _ Y t r => XT.i2c Y.here X.1 rfl (X.hd d) rfl r
theorem OwC.iinc {j : Nat} {cst : Int} {x : Int32} (v : Int32) (d : decode bytes pc = .ok (.iinc j cst, 3)) (hv : Int32.ofInt cst = v) (hl : Ls[j]? = some (.val (.int x))) (hl' : storeLocals Ls j (.int (x + v)) = some Ls') (hq : pc + 3 = q) (g : X.G h k n q Ls' st) : X.G h k n pc Ls st := by
  subst hq hv; exact X.step g fun T _ Y t r => XS.iinc Y.here X.1 rfl (X.hd d) hl hl' r
/-! the stack -/
theorem OwC.dup {x : Value} (d : decode bytes pc = .ok (.dup, 1)) (hc : x.category = 1) (hq : pc + 1 = q) (g : X.G h k n q Ls (x :: x :: st)) : X.G h k n pc Ls (x :: st) := by
  subst hq; exact X.step g fun T _ Y t r => XS.dup Y.here X.1 rfl (X.hd d) rfl hc r
theorem OwC.pop {x : Value} (d : decode bytes pc = .ok (.pop, 1)) (hc : x.category = 1) (hq : pc + 1 = q) (g : X.G h k n q Ls st) : X.G h k n pc Ls (x :: st) := by
  subst hq; exact X.step g fun T _ Y t r => XT.pop Y.here X.1 rfl (X.hd d) rfl hc r
theorem OwC.dup_x1 {x y : Value} (d : decode bytes pc = .ok (.dup_x1, 1)) (hc : x.category = 1) (hc' : y.category = 1) (hq : pc + 1 = q) (g : X.G h k n q Ls (x :: y :: x :: st)) : X.G h k n pc Ls (x :: y :: st) := by
  subst hq; exact X.step g fun T _ Y t r => XT.dupX1 Y.here X.1 rfl (X.hd d) rfl hc hc' r
theorem OwC.dup2 {x y : Value} (d : decode bytes pc = .ok (.dup2, 1)) (hc : x.category = 1) (hc' : y.category = 1) (hq : pc + 1 = q) (g : X.G h k n q Ls (x :: y :: x :: y :: st)) : X.G h k n pc Ls (x :: y :: st) := by
  subst hq; exact X.step g fun T _ Y t r => XT.dup2 Y.here X.1 rfl (X.hd d) rfl hc hc' r
theorem OwC.dup2L {x : Int64} (d : decode bytes pc = .ok (.dup2, 1)) (hq : pc + 1 = q) (g : X.G h k n q Ls (.long x :: .long x :: st)) : X.G h k n pc Ls (.long x :: st) := by
  subst hq; exact X.step g fun T _ Y t r => XT.dup2L Y.here X.1 rfl (X.hd d) rfl r
/-! branches -/
theorem OwC.goto {o : Int} {q' : Nat} (d : decode bytes pc = .ok (.goto o, 3)) (hp : 0 ≤ (pc : Int) + o ∧ ((pc : Int) + o).toNat = q') (g : X.G h k n q' Ls st) : X.G h k n pc Ls st :=
  X.step g fun T _ Y t r => XS.goto Y.here X.1 rfl rfl (X.hd d) hp.1 hp.2 r
theorem OwC.icmpB {cd : ClassFile.Cond} {o : Int} {q' : Nat} {x y : Int32} (d : decode bytes pc = .ok (.if_icmp cd o, 3)) (hp : 0 ≤ (pc : Int) + o ∧ ((pc : Int) + o).toNat = q') (hq : pc + 3 = q) (g1 : if_icmp.holds cd x y = true → X.G h k n q' Ls st) (g0 : if_icmp.holds cd x y = false → X.G h k n q Ls st) : X.G h k n pc Ls (.int y :: .int x :: st) := by
  subst hq
  cases hc : if_icmp.holds cd x y with
  | true => exact X.step (g1 hc) fun T _ Y t r => XS.icmpYes Y.here X.1 rfl rfl (X.hd d) rfl hc hp.1 hp.2 r
  | false => exact X.step (g0 hc) fun T _ Y t r => XS.icmpNo Y.here X.1 rfl (X.hd d) rfl hc r
theorem OwC.ifB {cd : ClassFile.Cond} {o : Int} {q' : Nat} {x : Int32} (d : decode bytes pc = .ok (.ifCond cd o, 3)) (hp : 0 ≤ (pc : Int) + o ∧ ((pc : Int) + o).toNat = q') (hq : pc + 3 = q) (g1 : ifCond.holds cd x = true → X.G h k n q' Ls st) (g0 : ifCond.holds cd x = false → X.G h k n q Ls st) : X.G h k n pc Ls (.int x :: st) := by
  subst hq
  cases hc : ifCond.holds cd x with
  | true => exact X.step (g1 hc) fun T _ Y t r => XS.ifYes Y.here X.1 rfl rfl (X.hd d) rfl hc hp.1 hp.2 r
  | false => exact X.step (g0 hc) fun T _ Y t r => XS.ifNo Y.here X.1 rfl (X.hd d) rfl hc r
def owCd : ClassFile.Cond → Int → Int → Prop
  | .eq, a, b => a = b | .ne, a, b => ¬ a = b | .lt, a, b => a < b | .ge, a, b => b ≤ a | .gt, a, b => b < a | .le, a, b => a ≤ b
theorem ow_icmp (cd : ClassFile.Cond) (x y : Int32) : if_icmp.holds cd x y = true ↔ owCd cd x.toInt y.toInt := by
  cases cd <;> simp [if_icmp.holds, owCd, ← Int32.toInt_inj, Int32.lt_iff_toInt_lt, Int32.le_iff_toInt_le]
theorem ow_if (cd : ClassFile.Cond) (x : Int32) : ifCond.holds cd x = true ↔ owCd cd x.toInt 0 := by rw [if0, ow_icmp]; rfl
theorem ow_icmpF {cd : ClassFile.Cond} {x y : Int32} (hc : if_icmp.holds cd x y = false) : ¬ owCd cd x.toInt y.toInt := fun q => by rw [(ow_icmp cd x y).mpr q] at hc; cases hc
theorem ow_ifF {cd : ClassFile.Cond} {x : Int32} (hc : ifCond.holds cd x = false) : ¬ owCd cd x.toInt 0 := fun q => by rw [(ow_if cd x).mpr q] at hc; cases hc
theorem ow_lc (cd : ClassFile.Cond) (x y : Int64) : owCd cd (XT.cmpL x y).toInt 0 ↔ owCd cd x.toInt y.toInt := by
  have e1 : (1 : Int32).toInt = 1 := rfl
  have e0 : (0 : Int32).toInt = 0 := rfl
  have em : (-1 : Int32).toInt = -1 := rfl
  unfold XT.cmpL
  split
  · rename_i h1; rw [Int64.lt_iff_toInt_lt] at h1; cases cd <;> simp only [owCd, e1] <;> omega
  · rename_i h1; rw [Int64.lt_iff_toInt_lt] at h1
    split
    · rename_i h2; subst h2; cases cd <;> simp only [owCd, e0] <;> omega
    · rename_i h2; rw [← Int64.toInt_inj] at h2; cases cd <;> simp only [owCd, em] <;> omega
theorem OwC.icmp_eq {o : Int} {q' : Nat} {x y : Int32} {a b : Int} (d : decode bytes pc = .ok (.if_icmp .eq o, 3)) (hx : x.toInt = a) (hy : y.toInt = b) (hp : 0 ≤ (pc : Int) + o ∧ ((pc : Int) + o).toNat = q') (hq : pc + 3 = q) (g1 : a = b → X.G h k n q' Ls st) (g0 : ¬ a = b → X.G h k n q Ls st) : X.G h k n pc Ls (.int y :: .int x :: st) := by
  subst hx hy; exact X.icmpB d hp hq (fun hc => g1 ((ow_icmp _ _ _).mp hc)) (fun hc => g0 (by have := ow_icmpF hc; simp only [owCd] at this; omega))
theorem OwC.if_eq {o : Int} {q' : Nat} {x : Int32} {a : Int} (d : decode bytes pc = .ok (.ifCond .eq o, 3)) (hx : x.toInt = a) (hp : 0 ≤ (pc : Int) + o ∧ ((pc : Int) + o).toNat = q') (hq : pc + 3 = q) (g1 : a = 0 → X.G h k n q' Ls st) (g0 : ¬ a = 0 → X.G h k n q Ls st) : X.G h k n pc Ls (.int x :: st) := by
  subst hx; exact X.ifB d hp hq (fun hc => g1 ((ow_if _ _).mp hc)) (fun hc => g0 (by have := ow_ifF hc; simp only [owCd] at this; omega))
theorem OwC.lcmp_eq {o : Int} {q1 q' : Nat} {x y : Int64} {a b : Int} (d1 : decode bytes pc = .ok (.lcmp, 1)) (hq1 : pc + 1 = q1) (d : decode bytes q1 = .ok (.ifCond .eq o, 3)) (hx : x.toInt = a) (hy : y.toInt = b) (hp : 0 ≤ (q1 : Int) + o ∧ ((q1 : Int) + o).toNat = q') (hq : q1 + 3 = q) (g1 : a = b → X.G h k n q' Ls st) (g0 : ¬ a = b → X.G h k n q Ls st) : X.G h k n pc Ls (.long y :: .long x :: st) := by
  subst hx hy hq1; refine X.step (X.ifB d hp hq (fun hc => g1 ((ow_lc _ _ _).mp ((ow_if _ _).mp hc))) (fun hc => g0 (by have := mt (ow_lc _ _ _).mpr (ow_ifF hc); simp only [owCd] at this; omega))) fun T _ Y t r => XT.lcmp Y.here X.1 rfl (X.hd d1) rfl r
theorem OwC.icmp_ne {o : Int} {q' : Nat} {x y : Int32} {a b : Int} (d : decode bytes pc = .ok (.if_icmp .ne o, 3)) (hx : x.toInt = a) (hy : y.toInt = b) (hp : 0 ≤ (pc : Int) + o ∧ ((pc : Int) + o).toNat = q') (hq : pc + 3 = q) (g1 : ¬ a = b → X.G h k n q' Ls st) (g0 : a = b → X.G h k n q Ls st) : X.G h k n pc Ls (.int y :: .int x :: st) := by
  subst hx hy; exact X.icmpB d hp hq (fun hc => g1 ((ow_icmp _ _ _).mp hc)) (fun hc => g0 (by have := ow_icmpF hc; simp only [owCd] at this; omega))
theorem OwC.if_ne {o : Int} {q' : Nat} {x : Int32} {a : Int} (d : decode bytes pc = .ok (.ifCond .ne o, 3)) (hx : x.toInt = a) (hp : 0 ≤ (pc : Int) + o ∧ ((pc : Int) + o).toNat = q') (hq : pc + 3 = q) (g1 : ¬ a = 0 → X.G h k n q' Ls st) (g0 : a = 0 → X.G h k n q Ls st) : X.G h k n pc Ls (.int x :: st) := by
  subst hx; exact X.ifB d hp hq (fun hc => g1 ((ow_if _ _).mp hc)) (fun hc => g0 (by have := ow_ifF hc; simp only [owCd] at this; omega))
theorem OwC.lcmp_ne {o : Int} {q1 q' : Nat} {x y : Int64} {a b : Int} (d1 : decode bytes pc = .ok (.lcmp, 1)) (hq1 : pc + 1 = q1) (d : decode bytes q1 = .ok (.ifCond .ne o, 3)) (hx : x.toInt = a) (hy : y.toInt = b) (hp : 0 ≤ (q1 : Int) + o ∧ ((q1 : Int) + o).toNat = q') (hq : q1 + 3 = q) (g1 : ¬ a = b → X.G h k n q' Ls st) (g0 : a = b → X.G h k n q Ls st) : X.G h k n pc Ls (.long y :: .long x :: st) := by
  subst hx hy hq1; refine X.step (X.ifB d hp hq (fun hc => g1 ((ow_lc _ _ _).mp ((ow_if _ _).mp hc))) (fun hc => g0 (by have := mt (ow_lc _ _ _).mpr (ow_ifF hc); simp only [owCd] at this; omega))) fun T _ Y t r => XT.lcmp Y.here X.1 rfl (X.hd d1) rfl r
theorem OwC.icmp_lt {o : Int} {q' : Nat} {x y : Int32} {a b : Int} (d : decode bytes pc = .ok (.if_icmp .lt o, 3)) (hx : x.toInt = a) (hy : y.toInt = b) (hp : 0 ≤ (pc : Int) + o ∧ ((pc : Int) + o).toNat = q') (hq : pc + 3 = q) (g1 : a < b → X.G h k n q' Ls st) (g0 : b ≤ a → X.G h k n q Ls st) : X.G h k n pc Ls (.int y :: .int x :: st) := by
  subst hx hy; exact X.icmpB d hp hq (fun hc => g1 ((ow_icmp _ _ _).mp hc)) (fun hc => g0 (by have := ow_icmpF hc; simp only [owCd] at this; omega))
theorem OwC.if_lt {o : Int} {q' : Nat} {x : Int32} {a : Int} (d : decode bytes pc = .ok (.ifCond .lt o, 3)) (hx : x.toInt = a) (hp : 0 ≤ (pc : Int) + o ∧ ((pc : Int) + o).toNat = q') (hq : pc + 3 = q) (g1 : a < 0 → X.G h k n q' Ls st) (g0 : 0 ≤ a → X.G h k n q Ls st) : X.G h k n pc Ls (.int x :: st) := by
  subst hx; exact X.ifB d hp hq (fun hc => g1 ((ow_if _ _).mp hc)) (fun hc => g0 (by have := ow_ifF hc; simp only [owCd] at this; omega))
theorem OwC.lcmp_lt {o : Int} {q1 q' : Nat} {x y : Int64} {a b : Int} (d1 : decode bytes pc = .ok (.lcmp, 1)) (hq1 : pc + 1 = q1) (d : decode bytes q1 = .ok (.ifCond .lt o, 3)) (hx : x.toInt = a) (hy : y.toInt = b) (hp : 0 ≤ (q1 : Int) + o ∧ ((q1 : Int) + o).toNat = q') (hq : q1 + 3 = q) (g1 : a < b → X.G h k n q' Ls st) (g0 : b ≤ a → X.G h k n q Ls st) : X.G h k n pc Ls (.long y :: .long x :: st) := by
  subst hx hy hq1; refine X.step (X.ifB d hp hq (fun hc => g1 ((ow_lc _ _ _).mp ((ow_if _ _).mp hc))) (fun hc => g0 (by have := mt (ow_lc _ _ _).mpr (ow_ifF hc); simp only [owCd] at this; omega))) fun T _ Y t r => XT.lcmp Y.here X.1 rfl (X.hd d1) rfl r
theorem OwC.icmp_ge {o : Int} {q' : Nat} {x y : Int32} {a b : Int} (d : decode bytes pc = .ok (.if_icmp .ge o, 3)) (hx : x.toInt = a) (hy : y.toInt = b) (hp : 0 ≤ (pc : Int) + o ∧ ((pc : Int) + o).toNat = q') (hq : pc + 3 = q) (g1 : b ≤ a → X.G h k n q' Ls st) (g0 : a < b → X.G h k n q Ls st) : X.G h k n pc Ls (.int y :: .int x :: st) := by
  subst hx hy; exact X.icmpB d hp hq (fun hc => g1 ((ow_icmp _ _ _).mp hc)) (fun hc => g0 (by have := ow_icmpF hc; simp only [owCd] at this; omega))
theorem OwC.if_ge {o : Int} {q' : Nat} {x : Int32} {a : Int} (d : decode bytes pc = .ok (.ifCond .ge o, 3)) (hx : x.toInt = a) (hp : 0 ≤ (pc : Int) + o ∧ ((pc : Int) + o).toNat = q') (hq : pc + 3 = q) (g1 : 0 ≤ a → X.G h k n q' Ls st) (g0 : a < 0 → X.G h k n q Ls st) : X.G h k n pc Ls (.int x :: st) := by
  subst hx; exact X.ifB d hp hq (fun hc => g1 ((ow_if _ _).mp hc)) (fun hc => g0 (by have := ow_ifF hc; simp only [owCd] at this; omega))
theorem OwC.lcmp_ge {o : Int} {q1 q' : Nat} {x y : Int64} {a b : Int} (d1 : decode bytes pc = .ok (.lcmp, 1)) (hq1 : pc + 1 = q1) (d : decode bytes q1 = .ok (.ifCond .ge o, 3)) (hx : x.toInt = a) (hy : y.toInt = b) (hp : 0 ≤ (q1 : Int) + o ∧ ((q1 : Int) + o).toNat = q') (hq : q1 + 3 = q) (g1 : b ≤ a → X.G h k n q' Ls st) (g0 : a < b → X.G h k n q Ls st) : X.G h k n pc Ls (.long y :: .long x :: st) := by
  subst hx hy hq1; refine X.step (X.ifB d hp hq (fun hc => g1 ((ow_lc _ _ _).mp ((ow_if _ _).mp hc))) (fun hc => g0 (by have := mt (ow_lc _ _ _).mpr (ow_ifF hc); simp only [owCd] at this; omega))) fun T _ Y t r => XT.lcmp Y.here X.1 rfl (X.hd d1) rfl r
theorem OwC.icmp_gt {o : Int} {q' : Nat} {x y : Int32} {a b : Int} (d : decode bytes pc = .ok (.if_icmp .gt o, 3)) (hx : x.toInt = a) (hy : y.toInt = b) (hp : 0 ≤ (pc : Int) + o ∧ ((pc : Int) + o).toNat = q') (hq : pc + 3 = q) (g1 : b < a → X.G h k n q' Ls st) (g0 : a ≤ b → X.G h k n q Ls st) : X.G h k n pc Ls (.int y :: .int x :: st) := by
  subst hx hy; exact X.icmpB d hp hq (fun hc => g1 ((ow_icmp _ _ _).mp hc)) (fun hc => g0 (by have := ow_icmpF hc; simp only [owCd] at this; omega))
theorem OwC.if_gt {o : Int} {q' : Nat} {x : Int32} {a : Int} (d : decode bytes pc = .ok (.ifCond .gt o, 3)) (hx : x.toInt = a) (hp : 0 ≤ (pc : Int) + o ∧ ((pc : Int) + o).toNat = q') (hq : pc + 3 = q) (g1 : 0 < a → X.G h k n q' Ls st) (g0 : a ≤ 0 → X.G h k n q Ls st) : X.G h k n pc Ls (.int x :: st) := by
  subst hx; exact X.ifB d hp hq (fun hc => g1 ((ow_if _ _).mp hc)) (fun hc => g0 (by have := ow_ifF hc; simp only [owCd] at this; omega))
theorem OwC.lcmp_gt {o : Int} {q1 q' : Nat} {x y : Int64} {a b : Int} (d1 : decode bytes pc = .ok (.lcmp, 1)) (hq1 : pc + 1 = q1) (d : decode bytes q1 = .ok (.ifCond .gt o, 3)) (hx : x.toInt = a) (hy : y.toInt = b) (hp : 0 ≤ (q1 : Int) + o ∧ ((q1 : Int) + o).toNat = q') (hq : q1 + 3 = q) (g1 : b < a → X.G h k n q' Ls st) (g0 : a ≤ b → X.G h k n q Ls st) : X.G h k n pc Ls (.long y :: .long x :: st) := by
  subst hx hy hq1; refine X.step (X.ifB d hp hq (fun hc => g1 ((ow_lc _ _ _).mp ((ow_if _ _).mp hc))) (fun hc => g0 (by have := mt (ow_lc _ _ _).mpr (ow_ifF hc); simp only [owCd] at this; omega))) fun T _ Y t r => XT.lcmp Y.here X.1 rfl (X.hd d1) rfl r
theorem OwC.icmp_le {o : Int} {q' : Nat} {x y : Int32} {a b : Int} (d : decode bytes pc = .ok (.if_icmp .le o, 3)) (hx : x.toInt = a) (hy : y.toInt = b) (hp : 0 ≤ (pc : Int) + o ∧ ((pc : Int) + o).toNat = q') (hq : pc + 3 = q) (g1 : a ≤ b → X.G h k n q' Ls st) (g0 : b < a → X.G h k n q Ls st) : X.G h k n pc Ls (.int y :: .int x :: st) := by
  subst hx hy; exact X.icmpB d hp hq (fun hc => g1 ((ow_icmp _ _ _).mp hc)) (fun hc => g0 (by have := ow_icmpF hc; simp only [owCd] at this; omega))
theorem OwC.if_le {o : Int} {q' : Nat} {x : Int32} {a : Int} (d : decode bytes pc = .ok (.ifCond .le o, 3)) (hx : x.toInt = a) (hp : 0 ≤ (pc : Int) + o ∧ ((pc : Int) + o).toNat = q') (hq : pc + 3 = q) (g1 : a ≤ 0 → X.G h k n q' Ls st) (g0 : 0 < a → X.G h k n q Ls st) : X.G h k n pc Ls (.int x :: st) := by
  subst hx; exact X.ifB d hp hq (fun hc => g1 ((ow_if _ _).mp hc)) (fun hc => g0 (by have := ow_ifF hc; simp only [owCd] at this; omega))
theorem OwC.lcmp_le {o : Int} {q1 q' : Nat} {x y : Int64} {a b : Int} (d1 : decode bytes pc = .ok (.lcmp, 1)) (hq1 : pc + 1 = q1) (d : decode bytes q1 = .ok (.ifCond .le o, 3)) (hx : x.toInt = a) (hy : y.toInt = b) (hp : 0 ≤ (q1 : Int) + o ∧ ((q1 : Int) + o).toNat = q') (hq : q1 + 3 = q) (g1 : a ≤ b → X.G h k n q' Ls st) (g0 : b < a → X.G h k n q Ls st) : X.G h k n pc Ls (.long y :: .long x :: st) := by
  subst hx hy hq1; refine X.step (X.ifB d hp hq (fun hc => g1 ((ow_lc _ _ _).mp ((ow_if _ _).mp hc))) (fun hc => g0 (by have := mt (ow_lc _ _ _).mpr (ow_ifF hc); simp only [owCd] at this; omega))) fun T _ Y t r => XT.lcmp Y.here X.1 rfl (X.hd d1) rfl r
theorem OwC.ifnullT {o : Int} {q' : Nat} (d : decode bytes pc = .ok (.ifnull o, 3)) (hp : 0 ≤ (pc : Int) + o ∧ ((pc : Int) + o).toNat = q') (g : X.G h k n q' Ls st) : X.G h k n pc Ls (.null :: st) :=
  X.step g fun T _ Y t r => XS.ifnullYes Y.here X.1 rfl rfl (X.hd d) rfl hp.1 hp.2 r
theorem OwC.ifnullF {o : Int} {b : Addr} (d : decode bytes pc = .ok (.ifnull o, 3)) (hq : pc + 3 = q) (g : X.G h k n q Ls st) : X.G h k n pc Ls (.ref b :: st) := by
  subst hq; exact X.step g fun T _ Y t r => XS.ifnullNo Y.here X.1 rfl (X.hd d) rfl r
theorem OwC.ifnonnullT {o : Int} {q' : Nat} {b : Addr} (d : decode bytes pc = .ok (.ifnonnull o, 3)) (hp : 0 ≤ (pc : Int) + o ∧ ((pc : Int) + o).toNat = q') (g : X.G h k n q' Ls st) : X.G h k n pc Ls (.ref b :: st) :=
  X.step g fun T _ Y t r => XT.ifnonnullYes Y.here X.1 rfl rfl (X.hd d) rfl hp.1 hp.2 r
theorem OwC.ifnonnullF {o : Int} (d : decode bytes pc = .ok (.ifnonnull o, 3)) (hq : pc + 3 = q) (g : X.G h k n q Ls st) : X.G h k n pc Ls (.null :: st) := by
  subst hq; exact X.step g fun T _ Y t r => XT.ifnonnullNo Y.here X.1 rfl (X.hd d) rfl r
theorem OwC.acmp_ne {o : Int} {q' : Nat} {x y : Addr} (d : decode bytes pc = .ok (.if_acmp .ne o, 3)) (hp : 0 ≤ (pc : Int) + o ∧ ((pc : Int) + o).toNat = q') (hq : pc + 3 = q) (g1 : ¬ x = y → X.G h k n q' Ls st) (g0 : x = y → X.G h k n q Ls st) : X.G h k n pc Ls (.ref y :: .ref x :: st) := by
  subst hq
  by_cases hc : x = y
  · exact X.step (g0 hc) fun T _ Y t r => XT.acmpNo Y.here X.1 rfl (X.hd d) rfl rfl rfl (by simp [XT.acmp, hc]) r
  · exact X.step (g1 hc) fun T _ Y t r => XT.acmpYes Y.here X.1 rfl rfl (X.hd d) rfl rfl rfl (by simp [XT.acmp, hc]) hp.1 hp.2 r
theorem OwC.acmp_eq {o : Int} {q' : Nat} {x y : Addr} (d : decode bytes pc = .ok (.if_acmp .eq o, 3)) (hp : 0 ≤ (pc : Int) + o ∧ ((pc : Int) + o).toNat = q') (hq : pc + 3 = q) (g1 : x = y → X.G h k n q' Ls st) (g0 : ¬ x = y → X.G h k n q Ls st) : X.G h k n pc Ls (.ref y :: .ref x :: st) := by
  subst hq
  by_cases hc : x = y
  · exact X.step (g1 hc) fun T _ Y t r => XT.acmpYes Y.here X.1 rfl rfl (X.hd d) rfl rfl rfl (by simp [XT.acmp, hc]) hp.1 hp.2 r
  · exact X.step (g0 hc) fun T _ Y t r => XT.acmpNo Y.here X.1 rfl (X.hd d) rfl rfl rfl (by simp [XT.acmp, hc]) r
/-! returns -/
theorem OwC.fin {v : Option Value} (hv : meth.sig.returnType = none → v = none) (w : ∀ T locs, Stand p l e R s m args below meth c T locs k n → ∀ fs, (∀ (f : JFrame) (acts : List Action), f.method = m → f.locked = none → f.entered = [] → (doReturn e (T.setTop f) acts v).1 = T.setFrames fs) → Steps p.tables e below (T.setTop (mkF m pc Ls st)) (T.setFrames fs)) (hk : k ≤ kM) (hn : n ≤ nM) (hΦ : Φ v h) : X.G h k n pc Ls st := fun T locs Y eT N => by
  obtain ⟨fs, hr, hrun, hended, hW, hsame⟩ := Y.leave (v := v) hv X.2.2.2.2.2.2.1
  exact ⟨v, _, locs, w T locs Y fs hr, hrun, hended, ⟨by show Φ v T.heap; rw [eT]; exact hΦ, N⟩, ⟨_, rfl⟩, hW, hsame.mono hk hn⟩
theorem OwC.retV (d : decode bytes pc = .ok (.return_, 1)) (hret : ret = none) (hk : k ≤ kM) (hn : n ≤ nM) (hΦ : Φ none h) : X.G h k n pc Ls [] :=
  X.fin (fun _ => rfl) (fun T _ Y fs hr => Y.returnOut X.1 (X.2.2.2.2.2.1.trans hret) (X.hd d) hr) hk hn hΦ
theorem OwC.retI {z : Int32} (d : decode bytes pc = .ok (.ireturn, 1)) (hret : ret = some .int) (hk : k ≤ kM) (hn : n ≤ nM) (hΦ : Φ (some (.int z)) h) : X.G h k n pc Ls (.int z :: st) :=
  X.fin (fun q => by rw [X.2.2.2.2.2.1, hret] at q; cases q) (fun T _ Y fs hr => retOut Y X.1 (X.2.2.2.2.2.1.trans hret) rfl (Or.inl ⟨rfl, Or.inl rfl, z, rfl⟩) (X.hd d) hr) hk hn hΦ
theorem OwC.retN {z z' : Int32} {t : FieldType} (d : decode bytes pc = .ok (.ireturn, 1)) (hret : ret = some t) (ht : t = .boolean ∨ t = .byte ∨ t = .char ∨ t = .short) (hz : nar t z = z') (hk : k ≤ kM) (hn : n ≤ nM) (hΦ : Φ (some (.int z')) h) : X.G h k n pc Ls (.int z :: st) := by
  subst hz
  exact X.fin (fun q => by rw [X.2.2.2.2.2.1, hret] at q; cases q) (fun T _ Y fs hr => RoadKit.retN Y X.1 (X.2.2.2.2.2.1.trans hret) ht (X.hd d) hr) hk hn hΦ
theorem OwC.retJ {z : Int64} (d : decode bytes pc = .ok (.lreturn, 1)) (hret : ret = some .long) (hk : k ≤ kM) (hn : n ≤ nM) (hΦ : Φ (some (.long z)) h) : X.G h k n pc Ls (.long z :: st) :=
  X.fin (fun q => by rw [X.2.2.2.2.2.1, hret] at q; cases q) (fun T _ Y fs hr => retOut Y X.1 (X.2.2.2.2.2.1.trans hret) rfl (Or.inr (Or.inl ⟨rfl, rfl, z, rfl⟩)) (X.hd d) hr) hk hn hΦ
theorem OwC.retA {v : Value} {t : FieldType} (d : decode bytes pc = .ok (.areturn, 1)) (hret : ret = some t) (ht : t.isReference = true) (hv : v.isRef = true) (hnv : narrow t v = v) (hk : k ≤ kM) (hn : n ≤ nM) (hΦ : Φ (some v) h) : X.G h k n pc Ls (v :: st) :=
  X.fin (fun q => by rw [X.2.2.2.2.2.1, hret] at q; cases q) (fun T _ Y fs hr => retOut Y X.1 (X.2.2.2.2.2.1.trans hret) hnv (Or.inr (Or.inr (Or.inr (Or.inr ⟨rfl, ht, hv⟩)))) (X.hd d) hr) hk hn hΦ
/-! the heap -/
theorem OwC.getF {R0 O fn d0 host : String} {i : Nat} {a : Addr} {v : Value} (w : (Cond.fieldLink own i R0 fn d0).before a0 Z = true ∨ (Cond.fieldLinkNest own i R0 fn d0 host).before a0 Z = true) (via : Via Z R0 O fn d0) (F : Fld Z h a O fn d0 v) (d : decode bytes pc = .ok (.getfield i, 3)) (hq : pc + 3 = q) (g : X.G h k n q Ls (v :: st)) : X.G h k n pc Ls (.ref a :: st) := fun T locs Y eT N => by
  subst hq
  obtain ⟨T', Y', eT', w'⟩ := RoadKit.getF Y X.1 X.2.2.2.2.1 X.2.2.2.1 w via eT F (g := mkF m pc Ls (.ref a :: st)) rfl rfl (X.hd d)
  obtain ⟨v, s₂, L, r1, r⟩ := g T' locs Y' eT' N
  exact ⟨v, s₂, L, w' _ r1, r⟩
theorem OwC.getS {R0 O fn d0 : String} {i : Nat} {v : Value} (w : (Cond.fieldLink own i R0 fn d0).before a0 Z = true) (via : Via Z R0 O fn d0) (F : Sta Z h O fn d0 v) (d : decode bytes pc = .ok (.getstatic i, 3)) (hq : pc + 3 = q) (g : X.G h k n q Ls (v :: st)) : X.G h k n pc Ls st := fun T locs Y eT N => by
  subst hq
  obtain ⟨T', Y', eT', w'⟩ := RoadKit.getS (host := "") Y X.1 X.2.2.2.2.1 X.2.2.2.1 w via eT F (g := mkF m pc Ls st) rfl (X.hd d)
  obtain ⟨v, s₂, L, r1, r⟩ := g T' locs Y' eT' N
  exact ⟨v, s₂, L, w' _ r1, r⟩
theorem OwC.putF {R0 O fn d0 host C : String} {i kk : Nat} {a : Addr} {v old : Value} {ty : FieldType} (w : (Cond.fieldLink own i R0 fn d0).before a0 Z = true ∨ (Cond.fieldLinkNest own i R0 fn d0 host).before a0 Z = true) (via : Via Z R0 O fn d0) (F : Fld Z h a O fn d0 old) (E : Exa Z h a C)
    (L : (Cond.lays C O fn d0).before a0 Z = true ∨ ((Cond.laysFinal C O fn d0).before a0 Z = true ∧ own = O ∧ nm = "<init>")) (wi : (Cond.instantiable C kk).before a0 Z = true) (hty : parseFieldDescriptor d0 = some ty) (hnv : narrow ty v = v) (hf : fits ty v = true) (ge : n0 ≤ a)
    (d : decode bytes pc = .ok (.putfield i, 3)) (hq : pc + 3 = q) (g : ∀ h', Wr h h' a (RoadKit.slotOf Z O fn d0) v → X.G h' k n q Ls st) : X.G h k n pc Ls (v :: .ref a :: st) := fun T locs Y eT N => by
  subst hq
  obtain ⟨T', h', Y', eT', W, w'⟩ := RoadKit.putF Y X.1 X.2.2.2.2.1 X.2.2.2.1 w via eT F E (L.imp_right fun z => ⟨z.1, z.2.1, X.2.2.2.2.2.2.2.trans z.2.2⟩) wi hty hnv hf (g := mkF m pc Ls (v :: .ref a :: st)) rfl rfl (X.hd d)
  obtain ⟨v, s₂, L, r1, r⟩ := g h' W T' _ Y' eT' (Fr.snoc Y' N ge)
  exact ⟨v, s₂, L, w' _ r1, r⟩
theorem OwC.newO {C : String} {i N k' n' : Nat} (w : (Cond.classLink own i C).before a0 Z = true) (wi : (Cond.instantiable C N).before a0 Z = true) (wz : (Cond.initialized C).before a0 Z = true) (d : decode bytes pc = .ok (.new i, 3)) (hk : k + 1 = k') (hn : n + N = n') (hc : k' ≤ R.cells) (hs : n' ≤ R.slots) (hq : pc + 3 = q)
    (g : ∀ h' a, a = h.size → Ext h h' → Exa Z h' a C → (∀ {O fn d0 : String} {ty : FieldType}, Laid Z a0 C O fn d0 → parseFieldDescriptor d0 = some ty → Fld Z h' a O fn d0 (defaultValue ty)) → X.G h' k' n' q Ls (.ref a :: st)) : X.G h k n pc Ls st := fun T locs Y eT Nf => by
  subst hq hk hn
  obtain ⟨T', h', Y', eT', E, A, D, -, w'⟩ := RoadKit.newO Y X.1 X.2.2.2.2.1 X.2.2.2.1 w wi wz eT (g := mkF m pc Ls st) rfl (X.hd d) hc hs
  obtain ⟨v, s₂, L, r1, r⟩ := g h' h.size rfl E A D T' _ Y' eT' Nf
  exact ⟨v, s₂, L, w' _ r1, r⟩
theorem OwC.initO {i W : Nat} {a : Addr} (w1 : (Cond.methodLink own i Lib.objectInit).before a0 Z = true) (w2 : (Cond.instanceMethod Lib.objectInit).before a0 Z = true) (w3 : (Cond.code Lib.objectInit ⟨#[0xb1]⟩ 1 none).before a0 Z = true) (d : decode bytes pc = .ok (.invokespecial i, 3)) (hsz : Ls.size = mL) (hf : 1 ≤ R.frames) (hW : (st.map fun v => v.category).sum ≤ W) (hl : W + 12 ≤ R.locals) (hq : pc + 3 = q)
    (g : X.G h k n q Ls st) : X.G h k n pc Ls (.ref a :: st) := fun T locs Y eT N => by
  subst hq
  obtain ⟨T', Y', eT', w'⟩ := RoadKit.initO Y X.1 X.2.2.2.2.1 X.2.2.2.1 w1 w2 w3 eT (g := mkF m pc Ls (.ref a :: st)) rfl (hsz.trans X.2.2.1.symm) rfl (X.hd d) hf (W := W) (by show 2 * 0 + _ ≤ _; omega) hl
  obtain ⟨v, s₂, L, r1, r⟩ := g T' locs Y' eT' N
  exact ⟨v, s₂, L, w' _ r1, r⟩
/-! arrays: what stands in one, as a list -/
def OwA (Z : State) (h : Heap) (a : Addr) (ty : FieldType) (vs : List Value) : Prop := ∃ cl : Cell, Arr Z h a cl ty ∧ cl.slots.toList = vs ∧ vs.length < 2 ^ 31
variable {a : Addr} {ty : FieldType} {vs : List Value}
theorem OwA.lt (A : OwA Z h a ty vs) : a < h.size := by obtain ⟨cl, A, -⟩ := A; exact A.lt
theorem OwA.len (A : OwA Z h a ty vs) : vs.length < 2 ^ 31 := by obtain ⟨cl, A, -, r⟩ := A; exact r
theorem OwA.ext {h' : Heap} (A : OwA Z h a ty vs) (E : Ext h h') : OwA Z h' a ty vs := by obtain ⟨cl, A, r⟩ := A; exact ⟨cl, A.ext E, r⟩
theorem OwA.other {h' : Heap} {b : Addr} {sl : Nat} {v : Value} (A : OwA Z h a ty vs) (W : Wr h h' b sl v) (ne : a ≠ b) : OwA Z h' a ty vs := by obtain ⟨cl, A, r⟩ := A; exact ⟨cl, A.other W ne, r⟩
theorem OwA.keep {h' : Heap} {ws : List Addr} (A : OwA Z h a ty vs) (K : Keep h h' ws) (ni : a ∉ ws) : OwA Z h' a ty vs := by obtain ⟨cl, A, r⟩ := A; exact ⟨cl, ⟨K.2.1 a cl A.1 ni, A.2⟩, r⟩
theorem OwA.set {h' : Heap} {j : Nat} {v : Value} (A : OwA Z h a ty vs) (W : Wr h h' a j v) : OwA Z h' a ty (vs.set j v) := by
  obtain ⟨cl, A, r1, r2⟩ := A
  exact ⟨cl.setSlot j v, A.same W, by simp [Cell.setSlot, r1], by simpa using r2⟩
theorem ow_idx {i : Int32} {j : Nat} (hi : i.toInt = (j : Int)) : ¬ i < 0 ∧ i.toNatClampNeg = j := by
  refine ⟨?_, ?_⟩
  · rw [Int32.lt_iff_toInt_lt]; have : (0 : Int32).toInt = 0 := rfl; omega
  · have : i.toNatClampNeg = i.toInt.toNat := rfl
    omega
theorem OwA.inb {cl : Cell} {i : Int32} {j : Nat} (e : cl.slots.toList = vs) (hi : i.toInt = (j : Int)) (hj : j < vs.length) : ¬ (i < 0 ∨ cl.slots.size ≤ i.toNatClampNeg) := by
  obtain ⟨h1, h2⟩ := ow_idx hi
  have : cl.slots.size = vs.length := by rw [← e]; simp
  rintro (q | q)
  · exact h1 q
  · omega
theorem OwA.at {cl : Cell} {i : Int32} {j : Nat} {v : Value} (e : cl.slots.toList = vs) (hi : i.toInt = (j : Int)) (hv : vs[j]? = some v) : cl.slots[i.toNatClampNeg]? = some v := by
  rw [(ow_idx hi).2, ← hv, ← e]; simp
theorem ow_getlt {j : Nat} {v : Value} (hv : vs[j]? = some v) : j < vs.length := (List.getElem?_eq_some_iff.mp hv).1
theorem OwC.newP {aty : ArrayType} {z : Int32} {N k' n' : Nat} (w : (Cond.arrayClass (newarray.typeOf aty)).before a0 Z = true) (d : decode bytes pc = .ok (.newarray aty, 2)) (ht : newarray.typeOf aty = ty) (hz : z.toInt = (N : Int)) {cap : Nat} (hcap : N ≤ cap) (hb : cap * 8 ≤ 536870912) (hk : k + 1 = k') (hn : n + cap = n') (hc : k' ≤ R.cells) (hs : n' ≤ R.slots) (hq : pc + 2 = q)
    (g : ∀ h' a, a = h.size → Ext h h' → OwA Z h' a ty (List.replicate N (defaultValue ty)) → X.G h' k' n' q Ls (.ref a :: st)) : X.G h k n pc Ls (.int z :: st) := fun T locs Y eT Nf => by
  subst hq hk hn ht
  obtain ⟨z1, z2⟩ := ow_idx hz
  obtain ⟨T', h', cA, Y', eT', E, A, w'⟩ := RoadKit.newP Y X.1 X.2.2.2.2.1 w eT (g := mkF m pc Ls (.int z :: st)) rfl (X.hd d) rfl z1 (cap := cap) (by omega) hb hc hs
  obtain ⟨v, s₂, L, r1, r⟩ := g h' h.size rfl E ⟨_, A, by simp [newA, z2], by have := z.toInt_lt; simp; omega⟩ T' _ Y' eT' Nf
  exact ⟨v, s₂, L, w' _ r1, r⟩
theorem OwC.alen {z : Int32} (A : OwA Z h a ty vs) (hz : z.toInt = (vs.length : Int)) (d : decode bytes pc = .ok (.arraylength, 1)) (hq : pc + 1 = q) (g : X.G h k n q Ls (.int z :: st)) : X.G h k n pc Ls (.ref a :: st) := fun T locs Y eT N => by
  subst hq
  obtain ⟨cl, A, e, hl⟩ := A
  obtain ⟨v, s₂, L, r1, r⟩ := g T locs Y eT N
  have hsz : cl.slots.size = vs.length := by rw [← e]; simp
  have ez : cl.slots.size.toInt32 = z := by rw [hsz, ← Int32.toInt_inj, len_toInt hl, hz]
  exact ⟨v, s₂, L, Y.arraylength X.1 (by rw [eT]; exact A.1) (State.isArrayOf_alike X.2.2.2.2.1.alike A.2.1) (g := mkF m pc Ls (.ref a :: st)) rfl rfl (X.hd d) _ (by rw [ez]; exact r1), r⟩
theorem OwC.iaload {i : Int32} {j : Nat} {v : Value} (A : OwA Z h a .int vs) (hi : i.toInt = (j : Int)) (hv : vs[j]? = some v) (d : decode bytes pc = .ok (.iaload, 1)) (hq : pc + 1 = q) (g : X.G h k n q Ls (v :: st)) : X.G h k n pc Ls (.int i :: .ref a :: st) := fun T locs Y eT N => by
  subst hq
  obtain ⟨cl, A, e, -⟩ := A
  obtain ⟨v, s₂, L, r1, r⟩ := g T locs Y eT N
  exact ⟨v, s₂, L, Y.iaload X.1 (by rw [eT]; exact A.1) (State.isArrayOf_alike X.2.2.2.2.1.alike A.2.1) A.2.2 (OwA.inb e hi (ow_getlt hv)) (OwA.at e hi hv) (g := mkF m pc Ls (.int i :: .ref a :: st)) rfl rfl (X.hd d) _ r1, r⟩
theorem OwC.laload {i : Int32} {j : Nat} {v : Value} (A : OwA Z h a .long vs) (hi : i.toInt = (j : Int)) (hv : vs[j]? = some v) (d : decode bytes pc = .ok (.laload, 1)) (hq : pc + 1 = q) (g : X.G h k n q Ls (v :: st)) : X.G h k n pc Ls (.int i :: .ref a :: st) := fun T locs Y eT N => by
  subst hq
  obtain ⟨cl, A, e, -⟩ := A
  obtain ⟨v, s₂, L, r1, r⟩ := g T locs Y eT N
  exact ⟨v, s₂, L, Y.laload X.1 (by rw [eT]; exact A.1) (State.isArrayOf_alike X.2.2.2.2.1.alike A.2.1) A.2.2 (OwA.inb e hi (ow_getlt hv)) (OwA.at e hi hv) (g := mkF m pc Ls (.int i :: .ref a :: st)) rfl rfl (X.hd d) _ r1, r⟩
theorem OwC.baload {i : Int32} {j : Nat} {v : Value} (A : OwA Z h a .byte vs) (hi : i.toInt = (j : Int)) (hv : vs[j]? = some v) (d : decode bytes pc = .ok (.baload, 1)) (hq : pc + 1 = q) (g : X.G h k n q Ls (v :: st)) : X.G h k n pc Ls (.int i :: .ref a :: st) := fun T locs Y eT N => by
  subst hq
  obtain ⟨cl, A, e, -⟩ := A
  obtain ⟨v, s₂, L, r1, r⟩ := g T locs Y eT N
  exact ⟨v, s₂, L, Y.baloadBytes X.1 (by rw [eT]; exact A.1) (State.isArrayOf_alike X.2.2.2.2.1.alike A.2.1) A.2.2 (OwA.inb e hi (ow_getlt hv)) (OwA.at e hi hv) (g := mkF m pc Ls (.int i :: .ref a :: st)) rfl rfl (X.hd d) _ r1, r⟩
theorem OwC.caload {i : Int32} {j : Nat} {v : Value} (A : OwA Z h a .char vs) (hi : i.toInt = (j : Int)) (hv : vs[j]? = some v) (d : decode bytes pc = .ok (.caload, 1)) (hq : pc + 1 = q) (g : X.G h k n q Ls (v :: st)) : X.G h k n pc Ls (.int i :: .ref a :: st) := fun T locs Y eT N => by
  subst hq
  obtain ⟨cl, A, e, -⟩ := A
  obtain ⟨v, s₂, L, r1, r⟩ := g T locs Y eT N
  exact ⟨v, s₂, L, Y.caload X.1 (by rw [eT]; exact A.1) (State.isArrayOf_alike X.2.2.2.2.1.alike A.2.1) A.2.2 (OwA.inb e hi (ow_getlt hv)) (OwA.at e hi hv) (g := mkF m pc Ls (.int i :: .ref a :: st)) rfl rfl (X.hd d) _ r1, r⟩
theorem OwC.iastore {i : Int32} {j : Nat} {x : Int32} (A : OwA Z h a .int vs) (hi : i.toInt = (j : Int)) (hj : j < vs.length) (ge : n0 ≤ a) (d : decode bytes pc = .ok (.iastore, 1)) (hq : pc + 1 = q) (g : ∀ h', Wr h h' a j (.int x) → OwA Z h' a .int (vs.set j (.int x)) → X.G h' k n q Ls st) : X.G h k n pc Ls (.int x :: .int i :: .ref a :: st) := fun T locs Y eT N => by
  subst hq
  obtain ⟨cl, A1, e, hl⟩ := id A
  obtain ⟨T', h', Y', eT', W, w'⟩ := RoadKit.stI Y X.1 X.2.2.2.2.1 eT A1 (OwA.inb e hi hj) (g := mkF m pc Ls (.int x :: .int i :: .ref a :: st)) rfl rfl (X.hd d)
  have N' := Fr.snoc Y' N ge
  rw [(ow_idx hi).2] at W
  obtain ⟨v, s₂, L, r1, r⟩ := g h' W (A.set W) T' _ Y' eT' N'
  exact ⟨v, s₂, L, w' _ r1, r⟩
theorem OwC.lastore {i : Int32} {j : Nat} {x : Int64} (A : OwA Z h a .long vs) (hi : i.toInt = (j : Int)) (hj : j < vs.length) (ge : n0 ≤ a) (d : decode bytes pc = .ok (.lastore, 1)) (hq : pc + 1 = q) (g : ∀ h', Wr h h' a j (.long x) → OwA Z h' a .long (vs.set j (.long x)) → X.G h' k n q Ls st) : X.G h k n pc Ls (.long x :: .int i :: .ref a :: st) := fun T locs Y eT N => by
  subst hq
  obtain ⟨cl, A1, e, hl⟩ := id A
  obtain ⟨T', h', Y', eT', W, w'⟩ := RoadKit.stJ Y X.1 X.2.2.2.2.1 eT A1 (OwA.inb e hi hj) (g := mkF m pc Ls (.long x :: .int i :: .ref a :: st)) rfl rfl (X.hd d)
  have N' := Fr.snoc Y' N ge
  rw [(ow_idx hi).2] at W
  obtain ⟨v, s₂, L, r1, r⟩ := g h' W (A.set W) T' _ Y' eT' N'
  exact ⟨v, s₂, L, w' _ r1, r⟩
theorem OwC.bastore {i : Int32} {j : Nat} {x : Int32} (A : OwA Z h a .byte vs) (hi : i.toInt = (j : Int)) (hj : j < vs.length) (ge : n0 ≤ a) (d : decode bytes pc = .ok (.bastore, 1)) (hq : pc + 1 = q) (g : ∀ h', Wr h h' a j (.int (nar .byte x)) → OwA Z h' a .byte (vs.set j (.int (nar .byte x))) → X.G h' k n q Ls st) : X.G h k n pc Ls (.int x :: .int i :: .ref a :: st) := fun T locs Y eT N => by
  subst hq
  obtain ⟨cl, A1, e, hl⟩ := id A
  obtain ⟨T', h', Y', eT', W, w'⟩ := RoadKit.stB Y X.1 X.2.2.2.2.1 eT A1 (OwA.inb e hi hj) (g := mkF m pc Ls (.int x :: .int i :: .ref a :: st)) rfl rfl (X.hd d)
  have N' := Fr.snoc Y' N ge
  rw [(ow_idx hi).2] at W
  obtain ⟨v, s₂, L, r1, r⟩ := g h' W (A.set W) T' _ Y' eT' N'
  exact ⟨v, s₂, L, w' _ r1, r⟩
theorem OwC.castore {i : Int32} {j : Nat} {x : Int32} (A : OwA Z h a .char vs) (hi : i.toInt = (j : Int)) (hj : j < vs.length) (ge : n0 ≤ a) (d : decode bytes pc = .ok (.castore, 1)) (hq : pc + 1 = q) (g : ∀ h', Wr h h' a j (.int (nar .char x)) → OwA Z h' a .char (vs.set j (.int (nar .char x))) → X.G h' k n q Ls st) : X.G h k n pc Ls (.int x :: .int i :: .ref a :: st) := fun T locs Y eT N => by
  subst hq
  obtain ⟨cl, A1, e, hl⟩ := id A
  obtain ⟨T', h', Y', eT', W, w'⟩ := RoadKit.stC Y X.1 X.2.2.2.2.1 eT A1 (OwA.inb e hi hj) (g := mkF m pc Ls (.int x :: .int i :: .ref a :: st)) rfl rfl (X.hd d)
  have N' := Fr.snoc Y' N ge
  rw [(ow_idx hi).2] at W
  obtain ⟨v, s₂, L, r1, r⟩ := g h' W (A.set W) T' _ Y' eT' N'
  exact ⟨v, s₂, L, w' _ r1, r⟩
/-! contracts and calls -/
def OwM (l : Launch) (Z : State) (y : MethodName) (bytes : ByteArray) (mL : Nat) (ret : Option FieldType) (rm : Room) (kM nM : Nat) (ws : List Cond) (as : Array Value) (h0 : Heap) (n0 : Nat) (Φ : Option Value → Heap → Prop) : Prop :=
  MetFree l y (head1 (Cond.code y bytes mL ret :: ws) rm) (fun a U => a = as ∧ Z.Warmed39 U.vm ∧ U.heap = h0) (fun _ _ _ _ _ => True) (fun _ U o U' => ∃ v L, o = .returned v ∧ (Φ v U'.heap ∧ Fr n0 L) ∧ FrameEnd U o U' L kM nM)
theorem OwM.of {y : MethodName} {rm : Room} {ws : List Cond} {as : Array Value} {h0 : Heap} (hpn : plainFor y = true) (hef : ∀ m, entryFrame m as mL = mkF m 0 Ls [])
    (body : ∀ p e s m below meth c (X : OwC p l e rm s m as below meth c Z y.cls y.name bytes mL ret n0 kM nM Φ), X.G h0 0 0 0 Ls []) : OwM l Z y bytes mL ret rm kM nM ws as h0 n0 Φ := by
  refine MetFree.of_bodySF hpn hisR ?_
  intro p e s m args below meth c s₁ Bd hml0 hP hK
  obtain ⟨rfl, hZ, hh⟩ := hP
  have X : OwC p l e rm s m args below meth c Z y.cls y.name bytes mL ret n0 kM nM Φ := ⟨Bd.exec, Bd.bytes, hml0, findClass_of_methodNamed Bd.named, hZ, Bd.returns, Bd.notSynchronized, (name_of_methodNamed Bd.named Bd.method).1⟩
  obtain ⟨v, s₂, L, r1, r2, r3, r4, r5⟩ := body p e s m below meth c X s₁ [] (Stand.of_body Bd) (by rw [← hh, Bd.state]; rfl) (Fr.nil n0)
  exact ⟨s₂, _, castTop (hef m) r1, r2, r3, v, L, rfl, r4, r5⟩
variable {y : MethodName} {by' : ByteArray} {mL' : Nat} {ret' : Option FieldType} {rm : Room} {as : Array Value} {Ψ : Option Value → Heap → Prop}
theorem OwC.back (X : OwC p l e R s m args below meth c Z own nm bytes mL ret n0 kM nM Φ) {len W : Nat} (K : OwM l Z y by' mL' ret' rm rm.cells rm.slots [] as h n0 Ψ) (wc : (Cond.code y by' mL' ret').before a0 Z = true) (wz : (Cond.initialized y.cls).before a0 Z = true) (hf : rm.frames + 1 ≤ R.frames) (hl : W + (mL' + 11) + rm.locals ≤ R.locals) :
    Back l R p e below s args y len W (fun A a => a = as ∧ A.U.heap = h ∧ A.cells + rm.cells ≤ R.cells ∧ A.slots + rm.slots ≤ R.slots)
      (fun A _ v B => ∃ L, (Ψ v B.U.heap ∧ Fr n0 L) ∧ B.locs = A.locs ++ L ∧ B.cells = A.cells + rm.cells ∧ B.slots = A.slots + rm.slots) :=
  backOf (Q := fun v h L => Ψ v h ∧ Fr n0 L) K X.2.2.2.2.1 wc wz hf hl
theorem OwC.callS {i W k' n' : Nat} {argsL : List Value} {ps : List FieldType} {rt : Option FieldType} (K : OwM l Z y by' mL' ret' rm rm.cells rm.slots [] as h n0 Ψ) (w1 : (Cond.methodLink own i y).before a0 Z = true) (w2 : (Cond.static y).before a0 Z = true) (w3 : (Cond.initialized y.cls).before a0 Z = true) (w4 : (Cond.code y by' mL' ret').before a0 Z = true) (hy : y.cls ≠ "java/lang/invoke/MethodHandle" ∧ y.cls ≠ "java/lang/invoke/VarHandle")
    (pd : parseMethodDescriptor y.desc = some ⟨ps, rt⟩) (hlen : argsL.length = ps.length) (has : argsL.toArray = as) (hst : st = argsL.reverse ++ rest) (hW : (rest.map fun v => v.category).sum ≤ W) (hsz : Ls.size = mL) (hf : rm.frames + 1 ≤ R.frames) (hl : W + (mL' + 11) + rm.locals ≤ R.locals) (hk : k + rm.cells = k') (hn : n + rm.slots = n') (hc : k' ≤ R.cells) (hs : n' ≤ R.slots)
    (d : decode bytes pc = .ok (.invokestatic i, 3)) (hq : pc + 3 = q) (g : ∀ v h', Ψ v h' → X.G h' k' n' q Ls (v.toList ++ rest)) : X.G h k n pc Ls st := fun T locs Y eT N => by
  subst hq hk hn has
  obtain ⟨v, vm1, B, -, Y', ⟨L0, ⟨hΨ, N0⟩, l1, l2, l3⟩, w'⟩ := Jvm.LawKit.callS Y X.1 (y := y) X.2.2.2.1 (mvT X.2.2.2.2.1 w1) (mvT X.2.2.2.2.1 w2) (mvT X.2.2.2.2.1 w3) (mvT X.2.2.2.2.1 w4) hy (X.back K w4 w3 hf hl) (g := mkF m pc Ls st) rfl (hsz.trans X.2.2.1.symm) (argsL := argsL) (rest := rest) (lenOf pd hlen) hst (by show 2 * 0 + _ ≤ _; omega) (X.hd d) (fun _ _ => ⟨rfl, eT, hc, hs⟩)
  obtain ⟨T', L', k', n'⟩ := B
  dsimp only [Pt.U, Pt.locs, Pt.cells, Pt.slots] at Y' l1 l2 l3 w' hΨ
  subst l1 l2 l3
  obtain ⟨v, s₂, L, r1, r⟩ := g v _ hΨ T' _ Y' rfl (N.app N0)
  exact ⟨v, s₂, L, w' _ r1, r⟩
theorem OwC.special {i W k' n' : Nat} {a : Addr} {argsL : List Value} {ps : List FieldType} {rt : Option FieldType} (K : OwM l Z y by' mL' none rm rm.cells rm.slots [] as h n0 Ψ) (hin : y.name = "<init>") (w1 : (Cond.methodLink own i y).before a0 Z = true) (w2 : (Cond.instanceMethod y).before a0 Z = true) (w3 : (Cond.initialized y.cls).before a0 Z = true) (w4 : (Cond.code y by' mL' none).before a0 Z = true) (hy : y.cls ≠ "java/lang/invoke/MethodHandle" ∧ y.cls ≠ "java/lang/invoke/VarHandle")
    (pd : parseMethodDescriptor y.desc = some ⟨ps, rt⟩) (hlen : argsL.length = ps.length) (has : (.ref a :: argsL).toArray = as) (hst : st = argsL.reverse ++ .ref a :: rest) (hW : (rest.map fun v => v.category).sum ≤ W) (hsz : Ls.size = mL) (hf : rm.frames + 1 ≤ R.frames) (hl : W + (mL' + 11) + rm.locals ≤ R.locals) (hk : k + rm.cells = k') (hn : n + rm.slots = n') (hc : k' ≤ R.cells) (hs : n' ≤ R.slots)
    (d : decode bytes pc = .ok (.invokespecial i, 3)) (hq : pc + 3 = q) (g : ∀ v h', Ψ v h' → X.G h' k' n' q Ls (v.toList ++ rest)) : X.G h k n pc Ls st := fun T locs Y eT N => by
  subst hq hk hn has
  obtain ⟨v, vm1, B, -, Y', ⟨L0, ⟨hΨ, N0⟩, l1, l2, l3⟩, w'⟩ := Y.specialBack X.1 (y := y) hin X.2.2.2.1 (mvT X.2.2.2.2.1 w1) (mvT X.2.2.2.2.1 w2) (mvT X.2.2.2.2.1 w4) hy (X.back K w4 w3 hf hl) (g := mkF m pc Ls st) rfl (hsz.trans X.2.2.1.symm) (Steps.refl _) (a := a) (argsL := argsL) (rest := rest) (lenOf pd hlen) hst (by show 2 * 0 + _ ≤ _; omega) (X.hd d) (fun _ _ => ⟨rfl, eT, hc, hs⟩)
  obtain ⟨T', L', k', n'⟩ := B
  dsimp only [Pt.U, Pt.locs, Pt.cells, Pt.slots] at Y' l1 l2 l3 w' hΨ
  subst l1 l2 l3
  obtain ⟨v, s₂, L, r1, r⟩ := g v _ hΨ T' _ Y' rfl (N.app N0)
  exact ⟨v, s₂, L, w'.trans r1, r⟩
theorem OwC.virtual {C : String} {i W k' n' : Nat} {a : Addr} {argsL : List Value} {ps : List FieldType} {rt : Option FieldType} (K : OwM l Z y by' mL' ret' rm rm.cells rm.slots [] as h n0 Ψ) (w1 : (Cond.methodLink own i y).before a0 Z = true) (w2 : (Cond.declares y).before a0 Z = true) (w5 : (Cond.selects C y y).before a0 Z = true) (w6 : (Cond.instanceMethod y).before a0 Z = true) (w3 : (Cond.initialized y.cls).before a0 Z = true) (w4 : (Cond.code y by' mL' ret').before a0 Z = true) (hy : y.cls ≠ "java/lang/invoke/MethodHandle" ∧ y.cls ≠ "java/lang/invoke/VarHandle") (E : Exa Z h a C)
    (pd : parseMethodDescriptor y.desc = some ⟨ps, rt⟩) (hlen : argsL.length = ps.length) (has : (.ref a :: argsL).toArray = as) (hst : st = argsL.reverse ++ .ref a :: rest) (hW : (rest.map fun v => v.category).sum ≤ W) (hsz : Ls.size = mL) (hf : rm.frames + 1 ≤ R.frames) (hl : W + (mL' + 11) + rm.locals ≤ R.locals) (hk : k + rm.cells = k') (hn : n + rm.slots = n') (hc : k' ≤ R.cells) (hs : n' ≤ R.slots)
    (d : decode bytes pc = .ok (.invokevirtual i, 3)) (hq : pc + 3 = q) (g : ∀ v h', Ψ v h' → X.G h' k' n' q Ls (v.toList ++ rest)) : X.G h k n pc Ls st := fun T locs Y eT N => by
  subst hq hk hn has
  obtain ⟨cB, kB, q1, q2, q3⟩ := isOf (T := T) X.2.2.2.2.1 eT E
  obtain ⟨v, vm1, B, -, Y', ⟨L0, ⟨hΨ, N0⟩, l1, l2, l3⟩, w'⟩ := Y.virtualBack X.1 (y := y) (z := y) X.2.2.2.1 (mvT X.2.2.2.2.1 w1) (mvT X.2.2.2.2.1 w2) (notFace_of_selects (args := #[]) (mvT X.2.2.2.2.1 w5)) (mvT X.2.2.2.2.1 w5) (mvT X.2.2.2.2.1 w6) hy (X.back K w4 w3 hf hl) q1 q3 (g := mkF m pc Ls st) rfl (hsz.trans X.2.2.1.symm) (Steps.refl _) (argsL := argsL) (rest := rest) (lenOf pd hlen) hst (by show 2 * 0 + _ ≤ _; omega) (X.hd d) (fun _ _ => ⟨rfl, eT, hc, hs⟩)
  obtain ⟨T', L', k', n'⟩ := B
  dsimp only [Pt.U, Pt.locs, Pt.cells, Pt.slots] at Y' l1 l2 l3 w' hΨ
  subst l1 l2 l3
  obtain ⟨v, s₂, L, r1, r⟩ := g v _ hΨ T' _ Y' rfl (N.app N0)
  exact ⟨v, s₂, L, w'.trans r1, r⟩
end OwKit
/-! numbers -/
theorem own_ofNat {c : Int32} (h1 : 0 ≤ c.toInt) (h2 : c.toInt < 2147483648) : c = Int32.ofNat c.toInt.toNat := by
  rw [← Int32.toInt_inj, Int32.toInt_ofNat_small (by omega)]; omega
theorem own_natInt (x : Int32) : x.toInt = if x.toBitVec.toNat < 2147483648 then (x.toBitVec.toNat : Int) else (x.toBitVec.toNat : Int) - 4294967296 := by
  show x.toBitVec.toInt = _
  rw [BitVec.toInt_eq_toNat_cond]
  split <;> split <;> omega
theorem own_c16 (x : Int32) : x.toUInt32.toUInt16.toUInt32.toInt32.toInt = x.toInt % 65536 := by
  have e : x.toUInt32.toUInt16.toUInt32.toInt32.toBitVec.toNat = x.toBitVec.toNat % 65536 := rfl
  have h1 := own_natInt x.toUInt32.toUInt16.toUInt32.toInt32
  have h2 := own_natInt x
  have h3 := x.toBitVec.isLt
  rw [e] at h1
  split at h1 <;> split at h2 <;> omega

theorem own_d_prog_34_method_1_0 : decode prog_34_method_1_code 0 = .ok (.aload_n 0, 1) := by decide +kernel
theorem own_d_prog_34_method_1_1 : decode prog_34_method_1_code 1 = .ok (.invokespecial 1, 3) := by decide +kernel
theorem own_d_prog_34_method_1_4 : decode prog_34_method_1_code 4 = .ok (.aload_n 0, 1) := by decide +kernel
theorem own_d_prog_34_method_1_5 : decode prog_34_method_1_code 5 = .ok (.lload_n 1, 1) := by decide +kernel
theorem own_d_prog_34_method_1_6 : decode prog_34_method_1_code 6 = .ok (.putfield 7, 3) := by decide +kernel
theorem own_d_prog_34_method_1_9 : decode prog_34_method_1_code 9 = .ok (.return_, 1) := by decide +kernel
def own_rm_own_init : Room := ({ frames := 1, cells := 0, slots := 0, locals := 12 } : Room)
set_option maxRecDepth 65536 in
set_option maxHeartbeats 1000000 in
theorem own_init (l : Launch) (Z : State) (a0 : Array Value) (hw : ∀ d ∈ tables_1, d.before a0 Z = true) (h : Heap) (n0 : Nat) (a : Addr) (t : Int64)  (hn0 : n0 ≤ h.size) (B : Exa Z h a "com/example/cohortloom/cohortloom/RequestReader$Budget") (F1 : Fld Z h a "com/example/cohortloom/cohortloom/RequestReader$Budget" "left" "J" (.long (0 : Int64))) (gea : n0 ≤ a) :
    OwM l Z (⟨"com/example/cohortloom/cohortloom/RequestReader$Budget", "<init>", "(J)V"⟩ : MethodName) prog_34_method_1_code 3 none own_rm_own_init 0 0 [] #[(.ref a), (.long t)] h n0 (fun r h' => r = none ∧ Keep h h' [a] ∧ Fld Z h' a "com/example/cohortloom/cohortloom/RequestReader$Budget" "left" "J" (.long t)) := by
  refine OwM.of (Ls := #[.val (.ref a), .val (.long t), .second]) (by decide +kernel) (fun m => by first | (simp [entryFrame, mkF, argsToLocals, Value.category]; done) | rfl) ?_
  intro _ _ _ _ _ _ _ X
  have K0 : Keep h h [a] := Keep.refl _ _
  refine X.aloadN (q := 1) own_d_prog_34_method_1_0 rfl rfl rfl ?_
  refine X.initO (q := 4) (W := 0) (hw _ (List.mem_of_getElem? (i := 11) rfl)) (hw _ (List.mem_of_getElem? (i := 12) rfl)) (hw _ (List.mem_of_getElem? (i := 13) rfl)) own_d_prog_34_method_1_1 rfl (by decide) (Nat.le_of_eq rfl) (by decide) rfl ?_
  refine X.aloadN (q := 5) own_d_prog_34_method_1_4 rfl rfl rfl ?_
  refine X.lloadN (q := 6) own_d_prog_34_method_1_5 rfl rfl ?_
  refine X.putF (q := 9) (host := "") (Or.inl (hw _ (List.mem_of_getElem? (i := 14) rfl))) Via.refl F1 B (Or.inl (hw _ (List.mem_of_getElem? (i := 15) rfl))) (hw _ (List.mem_of_getElem? (i := 6) rfl)) (ty := .long) (by decide) rfl rfl gea own_d_prog_34_method_1_6 rfl (fun h1 Wh1 => ?_)
  have B'h1 : Exa Z h1 a "com/example/cohortloom/cohortloom/RequestReader$Budget" := Exa.wr Wh1 B
  have F1'h1 : Fld Z h1 a "com/example/cohortloom/cohortloom/RequestReader$Budget" "left" "J" (.long t) := Fld.same Wh1 F1
  have hsh1 : n0 ≤ h1.size := by rw [Wr.size Wh1]; exact hn0
  have Kh1 : Keep h h1 [a] := Keep.wr K0 Wh1 (Or.inl (List.mem_of_getElem? (i := 0) rfl))
  refine X.retV own_d_prog_34_method_1_9 rfl (by decide) (by decide) ?_
  exact ⟨rfl, Kh1, F1'h1⟩
theorem own_d_prog_34_method_2_0 : decode prog_34_method_2_code 0 = .ok (.lload_n 1, 1) := by decide +kernel
theorem own_d_prog_34_method_2_1 : decode prog_34_method_2_code 1 = .ok (.aload_n 0, 1) := by decide +kernel
theorem own_d_prog_34_method_2_2 : decode prog_34_method_2_code 2 = .ok (.getfield 7, 3) := by decide +kernel
theorem own_d_prog_34_method_2_5 : decode prog_34_method_2_code 5 = .ok (.lcmp, 1) := by decide +kernel
theorem own_d_prog_34_method_2_6 : decode prog_34_method_2_code 6 = .ok (.ifCond .le 5, 3) := by decide +kernel
theorem own_d_prog_34_method_2_11 : decode prog_34_method_2_code 11 = .ok (.aload_n 0, 1) := by decide +kernel
theorem own_d_prog_34_method_2_12 : decode prog_34_method_2_code 12 = .ok (.dup, 1) := by decide +kernel
theorem own_d_prog_34_method_2_13 : decode prog_34_method_2_code 13 = .ok (.getfield 7, 3) := by decide +kernel
theorem own_d_prog_34_method_2_16 : decode prog_34_method_2_code 16 = .ok (.lload_n 1, 1) := by decide +kernel
theorem own_d_prog_34_method_2_17 : decode prog_34_method_2_code 17 = .ok (.lsub, 1) := by decide +kernel
theorem own_d_prog_34_method_2_18 : decode prog_34_method_2_code 18 = .ok (.putfield 7, 3) := by decide +kernel
theorem own_d_prog_34_method_2_21 : decode prog_34_method_2_code 21 = .ok (.iconst 1, 1) := by decide +kernel
theorem own_d_prog_34_method_2_22 : decode prog_34_method_2_code 22 = .ok (.ireturn, 1) := by decide +kernel
theorem own_d_prog_34_method_2_9 : decode prog_34_method_2_code 9 = .ok (.iconst 0, 1) := by decide +kernel
theorem own_d_prog_34_method_2_10 : decode prog_34_method_2_code 10 = .ok (.ireturn, 1) := by decide +kernel
def own_rm_own_take : Room := ({ frames := 0, cells := 0, slots := 0, locals := 0 } : Room)
set_option maxRecDepth 65536 in
set_option maxHeartbeats 1000000 in
theorem own_take (l : Launch) (Z : State) (a0 : Array Value) (hw : ∀ d ∈ tables_1, d.before a0 Z = true) (h : Heap) (n0 : Nat) (a : Addr) (t x : Int64)  (hn0 : n0 ≤ h.size) (B : Exa Z h a "com/example/cohortloom/cohortloom/RequestReader$Budget") (F1 : Fld Z h a "com/example/cohortloom/cohortloom/RequestReader$Budget" "left" "J" (.long t)) (gea : n0 ≤ a) :
    OwM l Z (⟨"com/example/cohortloom/cohortloom/RequestReader$Budget", "take", "(J)Z"⟩ : MethodName) prog_34_method_2_code 3 (some .boolean) own_rm_own_take 0 0 [] #[(.ref a), (.long x)] h n0 (fun r h' => ∃ (z : Int32) (u : Int64), r = some (.int z) ∧ Keep h h' [a] ∧ Fld Z h' a "com/example/cohortloom/cohortloom/RequestReader$Budget" "left" "J" (.long u) ∧ ((z.toInt = 1 ∧ x.toInt ≤ t.toInt ∧ u = t - x) ∨ (z.toInt = 0 ∧ t.toInt < x.toInt ∧ u = t))) := by
  refine OwM.of (Ls := #[.val (.ref a), .val (.long x), .second]) (by decide +kernel) (fun m => by first | (simp [entryFrame, mkF, argsToLocals, Value.category]; done) | rfl) ?_
  intro _ _ _ _ _ _ _ X
  have K0 : Keep h h [a] := Keep.refl _ _
  have e0 : (0 : Int32).toInt = 0 := rfl
  have e1 : (1 : Int32).toInt = 1 := rfl
  refine X.lloadN (q := 1) own_d_prog_34_method_2_0 rfl rfl ?_
  refine X.aloadN (q := 2) own_d_prog_34_method_2_1 rfl rfl rfl ?_
  refine X.getF (q := 5) (host := "") (Or.inl (hw _ (List.mem_of_getElem? (i := 14) rfl))) Via.refl F1 own_d_prog_34_method_2_2 rfl ?_
  refine X.lcmp_le (q1 := 6) (q' := 11) (q := 9) own_d_prog_34_method_2_5 rfl own_d_prog_34_method_2_6 rfl rfl (by decide) rfl (fun c5 => ?_) (fun c5 => ?_)
  · refine X.aloadN (q := 12) own_d_prog_34_method_2_11 rfl rfl rfl ?_
    refine X.dup (q := 13) own_d_prog_34_method_2_12 rfl rfl ?_
    refine X.getF (q := 16) (host := "") (Or.inl (hw _ (List.mem_of_getElem? (i := 14) rfl))) Via.refl F1 own_d_prog_34_method_2_13 rfl ?_
    refine X.lloadN (q := 17) own_d_prog_34_method_2_16 rfl rfl ?_
    refine X.lsub (q := 18) own_d_prog_34_method_2_17 rfl ?_
    refine X.putF (q := 21) (host := "") (Or.inl (hw _ (List.mem_of_getElem? (i := 14) rfl))) Via.refl F1 B (Or.inl (hw _ (List.mem_of_getElem? (i := 15) rfl))) (hw _ (List.mem_of_getElem? (i := 6) rfl)) (ty := .long) (by decide) rfl rfl gea own_d_prog_34_method_2_18 rfl (fun h1 Wh1 => ?_)
    have B'h1 : Exa Z h1 a "com/example/cohortloom/cohortloom/RequestReader$Budget" := Exa.wr Wh1 B
    have F1'h1 : Fld Z h1 a "com/example/cohortloom/cohortloom/RequestReader$Budget" "left" "J" (.long (t - x)) := Fld.same Wh1 F1
    have hsh1 : n0 ≤ h1.size := by rw [Wr.size Wh1]; exact hn0
    have Kh1 : Keep h h1 [a] := Keep.wr K0 Wh1 (Or.inl (List.mem_of_getElem? (i := 0) rfl))
    refine X.iconst (q := 22) (1 : Int32) own_d_prog_34_method_2_21 (by decide) rfl ?_
    refine X.retN (t := .boolean) (z' := (1 : Int32)) own_d_prog_34_method_2_22 rfl (by simp) (by decide) (by decide) (by decide) ?_
    exact ⟨_, _, rfl, Kh1, F1'h1, Or.inl ⟨e1, by omega, rfl⟩⟩
  · refine X.iconst (q := 10) (0 : Int32) own_d_prog_34_method_2_9 (by decide) rfl ?_
    refine X.retN (t := .boolean) (z' := (0 : Int32)) own_d_prog_34_method_2_10 rfl (by simp) (by decide) (by decide) (by decide) ?_
    exact ⟨_, _, rfl, K0, F1, Or.inr ⟨e0, by omega, rfl⟩⟩
theorem own_d_jdk_29_method_66_0 : decode jdk_29_method_66_code 0 = .ok (.lload_n 0, 1) := by decide +kernel
theorem own_d_jdk_29_method_66_1 : decode jdk_29_method_66_code 1 = .ok (.lload_n 2, 1) := by decide +kernel
theorem own_d_jdk_29_method_66_2 : decode jdk_29_method_66_code 2 = .ok (.lcmp, 1) := by decide +kernel
theorem own_d_jdk_29_method_66_3 : decode jdk_29_method_66_code 3 = .ok (.ifCond .lt 7, 3) := by decide +kernel
theorem own_d_jdk_29_method_66_10 : decode jdk_29_method_66_code 10 = .ok (.lload_n 2, 1) := by decide +kernel
theorem own_d_jdk_29_method_66_11 : decode jdk_29_method_66_code 11 = .ok (.lreturn, 1) := by decide +kernel
theorem own_d_jdk_29_method_66_6 : decode jdk_29_method_66_code 6 = .ok (.lload_n 0, 1) := by decide +kernel
theorem own_d_jdk_29_method_66_7 : decode jdk_29_method_66_code 7 = .ok (.goto 4, 3) := by decide +kernel
def own_rm_own_max : Room := ({ frames := 0, cells := 0, slots := 0, locals := 0 } : Room)
set_option maxRecDepth 65536 in
set_option maxHeartbeats 1000000 in
theorem own_max (l : Launch) (Z : State) (a0 : Array Value) (hw : ∀ d ∈ tables_1, d.before a0 Z = true) (h : Heap) (n0 : Nat) (x y : Int64)  :
    OwM l Z (⟨"java/lang/Math", "max", "(JJ)J"⟩ : MethodName) jdk_29_method_66_code 4 (some .long) own_rm_own_max 0 0 [] #[(.long x), (.long y)] h n0 (fun r h' => ∃ z : Int64, r = some (.long z) ∧ (x.toInt ≤ z.toInt ∧ y.toInt ≤ z.toInt ∧ (z = x ∨ z = y)) ∧ h = h') := by
  refine OwM.of (Ls := #[.val (.long x), .second, .val (.long y), .second]) (by decide +kernel) (fun m => by first | (simp [entryFrame, mkF, argsToLocals, Value.category]; done) | rfl) ?_
  intro _ _ _ _ _ _ _ X
  refine X.lloadN (q := 1) own_d_jdk_29_method_66_0 rfl rfl ?_
  refine X.lloadN (q := 2) own_d_jdk_29_method_66_1 rfl rfl ?_
  refine X.lcmp_lt (q1 := 3) (q' := 10) (q := 6) own_d_jdk_29_method_66_2 rfl own_d_jdk_29_method_66_3 rfl rfl (by decide) rfl (fun c2 => ?_) (fun c2 => ?_)
  · refine X.lloadN (q := 11) own_d_jdk_29_method_66_10 rfl rfl ?_
    refine X.retJ own_d_jdk_29_method_66_11 rfl (by decide) (by decide) ?_
    exact ⟨_, rfl, ⟨by omega, by omega, by simp⟩, rfl⟩
  · refine X.lloadN (q := 7) own_d_jdk_29_method_66_6 rfl rfl ?_
    refine X.goto (q' := 11) own_d_jdk_29_method_66_7 (by decide) ?_
    refine X.retJ own_d_jdk_29_method_66_11 rfl (by decide) (by decide) ?_
    exact ⟨_, rfl, ⟨by omega, by omega, by simp⟩, rfl⟩
theorem own_d_method_3_0 : decode method_3_code 0 = .ok (.iload_n 0, 1) := by decide +kernel
theorem own_d_method_3_1 : decode method_3_code 1 = .ok (.ifCond .ne 9, 3) := by decide +kernel
theorem own_d_method_3_10 : decode method_3_code 10 = .ok (.iload_n 0, 1) := by decide +kernel
theorem own_d_method_3_11 : decode method_3_code 11 = .ok (.iconst 1, 1) := by decide +kernel
theorem own_d_method_3_12 : decode method_3_code 12 = .ok (.if_icmp .ne 15, 3) := by decide +kernel
theorem own_d_method_3_27 : decode method_3_code 27 = .ok (.iload_n 0, 1) := by decide +kernel
theorem own_d_method_3_28 : decode method_3_code 28 = .ok (.iconst 2, 1) := by decide +kernel
theorem own_d_method_3_29 : decode method_3_code 29 = .ok (.if_icmp .ne 5, 3) := by decide +kernel
theorem own_d_method_3_34 : decode method_3_code 34 = .ok (.lload_n 1, 1) := by decide +kernel
theorem own_d_method_3_35 : decode method_3_code 35 = .ok (.ldc2_w 9, 3) := by decide +kernel
theorem own_d_method_3_38 : decode method_3_code 38 = .ok (.lcmp, 1) := by decide +kernel
theorem own_d_method_3_39 : decode method_3_code 39 = .ok (.ifCond .ge 9, 3) := by decide +kernel
theorem own_d_method_3_48 : decode method_3_code 48 = .ok (.lload_n 1, 1) := by decide +kernel
theorem own_d_method_3_49 : decode method_3_code 49 = .ok (.lreturn, 1) := by decide +kernel
theorem own_d_method_3_42 : decode method_3_code 42 = .ok (.lload_n 1, 1) := by decide +kernel
theorem own_d_method_3_43 : decode method_3_code 43 = .ok (.lconst 1, 1) := by decide +kernel
theorem own_d_method_3_44 : decode method_3_code 44 = .ok (.ladd, 1) := by decide +kernel
theorem own_d_method_3_45 : decode method_3_code 45 = .ok (.goto 4, 3) := by decide +kernel
theorem own_d_method_3_32 : decode method_3_code 32 = .ok (.lload_n 1, 1) := by decide +kernel
theorem own_d_method_3_33 : decode method_3_code 33 = .ok (.lreturn, 1) := by decide +kernel
theorem own_d_method_3_15 : decode method_3_code 15 = .ok (.lconst 0, 1) := by decide +kernel
theorem own_d_method_3_16 : decode method_3_code 16 = .ok (.lload_n 1, 1) := by decide +kernel
theorem own_d_method_3_17 : decode method_3_code 17 = .ok (.lload_n 3, 1) := by decide +kernel
theorem own_d_method_3_18 : decode method_3_code 18 = .ok (.ldc2_w 26, 3) := by decide +kernel
theorem own_d_method_3_21 : decode method_3_code 21 = .ok (.land, 1) := by decide +kernel
theorem own_d_method_3_22 : decode method_3_code 22 = .ok (.lsub, 1) := by decide +kernel
theorem own_d_method_3_23 : decode method_3_code 23 = .ok (.invokestatic 28, 3) := by decide +kernel
theorem own_pd0 : parseMethodDescriptor "(JJ)J" = some ⟨[.long, .long], some .long⟩ := by decide +kernel
theorem own_d_method_3_26 : decode method_3_code 26 = .ok (.lreturn, 1) := by decide +kernel
theorem own_d_method_3_4 : decode method_3_code 4 = .ok (.lload_n 3, 1) := by decide +kernel
theorem own_d_method_3_5 : decode method_3_code 5 = .ok (.ldc2_w 9, 3) := by decide +kernel
theorem own_d_method_3_8 : decode method_3_code 8 = .ok (.land, 1) := by decide +kernel
theorem own_d_method_3_9 : decode method_3_code 9 = .ok (.lreturn, 1) := by decide +kernel
def own_rm_own_pick : Room := ({ frames := 1, cells := 0, slots := 0, locals := 15 } : Room)
set_option maxRecDepth 65536 in
set_option maxHeartbeats 1000000 in
theorem own_pick (l : Launch) (Z : State) (a0 : Array Value) (hw : ∀ d ∈ tables_1, d.before a0 Z = true) (h : Heap) (n0 : Nat) (i : Int32) (t x : Int64) (ht : 0 ≤ t.toInt)  :
    OwM l Z (⟨"com/example/cohortloom/cohortloom/BudgetTakePinLaw", "pick", "(IJJ)J"⟩ : MethodName) method_3_code 5 (some .long) own_rm_own_pick 0 0 [] #[(.int i), (.long t), (.long x)] h n0 (fun r h' => ∃ z : Int64, r = some (.long z) ∧ 0 ≤ z.toInt ∧ h = h') := by
  refine OwM.of (Ls := #[.val (.int i), .val (.long t), .second, .val (.long x), .second]) (by decide +kernel) (fun m => by first | (simp [entryFrame, mkF, argsToLocals, Value.category]; done) | rfl) ?_
  intro _ _ _ _ _ _ _ X
  have m0 : (0 : Int64).toInt = 0 := rfl
  have m1 : (1 : Int64).toInt = 1 := rfl
  have tr := rng64 t
  refine X.iloadN (q := 1) own_d_method_3_0 rfl rfl ?_
  refine X.if_ne (q' := 10) (q := 4) own_d_method_3_1 rfl (by decide) rfl (fun c1 => ?_) (fun c1 => ?_)
  · refine X.iloadN (q := 11) own_d_method_3_10 rfl rfl ?_
    refine X.iconst (q := 12) (1 : Int32) own_d_method_3_11 (by decide) rfl ?_
    refine X.icmp_ne (b := 1) (q' := 27) (q := 15) own_d_method_3_12 rfl rfl (by decide) rfl (fun c12 => ?_) (fun c12 => ?_)
    · refine X.iloadN (q := 28) own_d_method_3_27 rfl rfl ?_
      refine X.iconst (q := 29) (2 : Int32) own_d_method_3_28 (by decide) rfl ?_
      refine X.icmp_ne (b := 2) (q' := 34) (q := 32) own_d_method_3_29 rfl rfl (by decide) rfl (fun c29 => ?_) (fun c29 => ?_)
      · refine X.lloadN (q := 35) own_d_method_3_34 rfl rfl ?_
        refine X.ldc2_w (q := 38) (v := (9223372036854775807 : Int64)) (hw _ (List.mem_of_getElem? (i := 0) rfl)) own_d_method_3_35 rfl ?_
        refine X.lcmp_ge (b := 9223372036854775807) (q1 := 39) (q' := 48) (q := 42) own_d_method_3_38 rfl own_d_method_3_39 rfl rfl (by decide) rfl (fun c38 => ?_) (fun c38 => ?_)
        · refine X.lloadN (q := 49) own_d_method_3_48 rfl rfl ?_
          refine X.retJ own_d_method_3_49 rfl (by decide) (by decide) ?_
          exact ⟨_, rfl, by omega, rfl⟩
        · refine X.lloadN (q := 43) own_d_method_3_42 rfl rfl ?_
          refine X.lconst (q := 44) (1 : Int64) own_d_method_3_43 (by decide) rfl ?_
          refine X.ladd (q := 45) own_d_method_3_44 rfl ?_
          have had : 0 ≤ (t + (1 : Int64)).toInt := by rw [Jvm.Kit.i64_add (by omega) (by omega)]; omega
          refine X.goto (q' := 49) own_d_method_3_45 (by decide) ?_
          refine X.retJ own_d_method_3_49 rfl (by decide) (by decide) ?_
          exact ⟨_, rfl, by omega, rfl⟩
      · refine X.lloadN (q := 33) own_d_method_3_32 rfl rfl ?_
        refine X.retJ own_d_method_3_33 rfl (by decide) (by decide) ?_
        exact ⟨_, rfl, by omega, rfl⟩
    · refine X.lconst (q := 16) (0 : Int64) own_d_method_3_15 (by decide) rfl ?_
      refine X.lloadN (q := 17) own_d_method_3_16 rfl rfl ?_
      refine X.lloadN (q := 18) own_d_method_3_17 rfl rfl ?_
      refine X.ldc2_w (q := 21) (v := (255 : Int64)) (hw _ (List.mem_of_getElem? (i := 21) rfl)) own_d_method_3_18 rfl ?_
      refine X.land (q := 22) own_d_method_3_21 rfl ?_
      refine X.lsub (q := 23) own_d_method_3_22 rfl ?_
      refine X.callS (own_max l Z a0 hw h n0 (0 : Int64) (t - (x &&& (255 : Int64)))) (hw _ (List.mem_of_getElem? (i := 22) rfl)) (hw _ (List.mem_of_getElem? (i := 23) rfl)) (hw _ (List.mem_of_getElem? (i := 24) rfl)) (hw _ (List.mem_of_getElem? (i := 25) rfl)) (by decide) own_pd0 (argsL := [(.long (0 : Int64)), (.long (t - (x &&& (255 : Int64))))]) (rest := []) rfl rfl rfl (W := 0) (Nat.le_of_eq rfl) rfl (by decide) (by decide) (k' := 0) (n' := 0) rfl rfl (by decide) (by decide) own_d_method_3_23 (q := 26) rfl ?_
      rintro _ _ ⟨z, rfl, hz, rfl⟩
      show X.G h 0 0 26 #[.val (.int i), .val (.long t), .second, .val (.long x), .second] [(.long z)]
      refine X.retJ own_d_method_3_26 rfl (by decide) (by decide) ?_
      exact ⟨_, rfl, by omega, rfl⟩
  · refine X.lloadN (q := 5) own_d_method_3_4 rfl rfl ?_
    refine X.ldc2_w (q := 8) (v := (9223372036854775807 : Int64)) (hw _ (List.mem_of_getElem? (i := 0) rfl)) own_d_method_3_5 rfl ?_
    refine X.land (q := 9) own_d_method_3_8 rfl ?_
    have hand : 0 ≤ (x &&& (9223372036854775807 : Int64)).toInt := by rw [Jvm.Kit.i64_mask (k := 63) _ _ (by decide) (by decide)]; omega
    refine X.retJ own_d_method_3_9 rfl (by decide) (by decide) ?_
    exact ⟨_, rfl, by omega, rfl⟩
theorem own_pd1 : parseMethodDescriptor "(IJJ)J" = some ⟨[.int, .long, .long], some .long⟩ := by decide +kernel
theorem own_pd2 : parseMethodDescriptor "(J)V" = some ⟨[.long], none⟩ := by decide +kernel
theorem own_pd3 : parseMethodDescriptor "(J)Z" = some ⟨[.long], some .boolean⟩ := by decide +kernel
set_option maxRecDepth 65536 in
set_option maxHeartbeats 1000000 in
theorem own_law (l : Launch) (Z : State) (a0 : Array Value) (hw : ∀ d ∈ tables_1, d.before a0 Z = true) (h : Heap) (n0 : Nat) (hn0 : n0 ≤ h.size) (x0 x1 x2 : Int64) (x3 : Int32)  :
    OwM l Z (⟨"com/example/cohortloom/cohortloom/BudgetTakePinLaw", "law", "(JJJI)Z"⟩ : MethodName) code 26 (some .boolean) room_1 16 128 tables_1 #[(.long x0), (.long x1), (.long x2), (.int x3)] h n0 (fun r h' => r = some (.int 1)) := by
  refine OwM.of (Ls := #[.val (.long x0), .second, .val (.long x1), .second, .val (.long x2), .second, .val (.int x3), .unset, .unset, .unset, .unset, .unset, .unset, .unset, .unset, .unset, .unset, .unset, .unset, .unset, .unset, .unset, .unset, .unset, .unset, .unset]) (by decide +kernel) (fun m => by first | (simp [entryFrame, mkF, argsToLocals, Value.category]; done) | rfl) ?_
  intro _ _ _ _ _ _ _ X
  have e0 : (0 : Int32).toInt = 0 := rfl
  have e1 : (1 : Int32).toInt = 1 := rfl
  have m1 : (1 : Int64).toInt = 1 := rfl
  refine X.lloadN (q := 1) at_0 rfl rfl ?_
  refine X.ldc2_w (q := 4) (v := (9223372036854775807 : Int64)) (hw _ (List.mem_of_getElem? (i := 0) rfl)) at_1 rfl ?_
  refine X.land (q := 5) at_4 rfl ?_
  refine X.nmJ (fun t ht => ?_)
  have htr : 0 ≤ t.toInt := by rw [ht, Jvm.Kit.i64_mask (k := 63) _ _ (by decide) (by decide)]; omega
  have htm := rng64 t
  refine X.lstore (q := 7) (Ls' := #[.val (.long x0), .second, .val (.long x1), .second, .val (.long x2), .second, .val (.int x3), .val (.long t), .second, .unset, .unset, .unset, .unset, .unset, .unset, .unset, .unset, .unset, .unset, .unset, .unset, .unset, .unset, .unset, .unset, .unset]) at_5 rfl rfl ?_
  refine X.iload (q := 9) at_7 rfl rfl ?_
  refine X.iconst (q := 10) (3 : Int32) at_9 (by decide) rfl ?_
  refine X.iand (q := 11) at_10 rfl ?_
  refine X.lload (q := 13) at_11 rfl rfl ?_
  refine X.lloadN (q := 14) at_13 rfl rfl ?_
  refine X.callS (own_pick l Z a0 hw h n0 (x3 &&& (3 : Int32)) t x1 (by omega)) (hw _ (List.mem_of_getElem? (i := 1) rfl)) (hw _ (List.mem_of_getElem? (i := 2) rfl)) (hw _ (List.mem_of_getElem? (i := 3) rfl)) (hw _ (List.mem_of_getElem? (i := 4) rfl)) (by decide) own_pd1 (argsL := [(.int (x3 &&& (3 : Int32))), (.long t), (.long x1)]) (rest := []) rfl rfl rfl (W := 0) (Nat.le_of_eq rfl) rfl (by decide) (by decide) (k' := 0) (n' := 0) rfl rfl (by decide) (by decide) at_14 (q := 17) rfl ?_
  rintro _ _ ⟨x, rfl, hx, rfl⟩
  show X.G h 0 0 17 #[.val (.long x0), .second, .val (.long x1), .second, .val (.long x2), .second, .val (.int x3), .val (.long t), .second, .unset, .unset, .unset, .unset, .unset, .unset, .unset, .unset, .unset, .unset, .unset, .unset, .unset, .unset, .unset, .unset, .unset] [(.long x)]
  refine X.lstore (q := 19) (Ls' := #[.val (.long x0), .second, .val (.long x1), .second, .val (.long x2), .second, .val (.int x3), .val (.long t), .second, .val (.long x), .second, .unset, .unset, .unset, .unset, .unset, .unset, .unset, .unset, .unset, .unset, .unset, .unset, .unset, .unset, .unset]) at_17 rfl rfl ?_
  refine X.newO (q := 22) (k' := 1) (n' := 1) (hw _ (List.mem_of_getElem? (i := 5) rfl)) (hw _ (List.mem_of_getElem? (i := 6) rfl)) (hw _ (List.mem_of_getElem? (i := 7) rfl)) at_19 rfl rfl (by decide) (by decide) rfl (fun h1 a2 ga2 Eh1 Ba2 Da2 => ?_)
  have gea2 : n0 ≤ a2 := by rw [ga2]; exact hn0
  have hsh1 : n0 ≤ h1.size := Nat.le_trans hn0 Eh1.1
  have Fa2_left : Fld Z h1 a2 "com/example/cohortloom/cohortloom/RequestReader$Budget" "left" "J" (.long (0 : Int64)) := Da2 (Or.inl (hw _ (List.mem_of_getElem? (i := 15) rfl))) (ty := .long) (by decide)
  refine X.dup (q := 23) at_22 rfl rfl ?_
  refine X.lload (q := 25) at_23 rfl rfl ?_
  refine X.special (a := a2) (own_init l Z a0 hw h1 n0 a2 t hsh1 Ba2 Fa2_left gea2) rfl (hw _ (List.mem_of_getElem? (i := 8) rfl)) (hw _ (List.mem_of_getElem? (i := 9) rfl)) (hw _ (List.mem_of_getElem? (i := 7) rfl)) (hw _ (List.mem_of_getElem? (i := 10) rfl)) (by decide) own_pd2 (argsL := [(.long t)]) (rest := [(.ref a2)]) rfl rfl rfl (W := 1) (Nat.le_of_eq rfl) rfl (by decide) (by decide) (k' := 1) (n' := 1) rfl rfl (by decide) (by decide) at_25 (q := 28) rfl ?_
  rintro _ h3 ⟨rfl, Kh3c, Ft⟩
  have Ba2'h3 : Exa Z h3 a2 "com/example/cohortloom/cohortloom/RequestReader$Budget" := Exa.keep Ba2 Kh3c
  have hsh3 : n0 ≤ h3.size := Nat.le_trans hsh1 Kh3c.1
  show X.G h3 1 1 28 #[.val (.long x0), .second, .val (.long x1), .second, .val (.long x2), .second, .val (.int x3), .val (.long t), .second, .val (.long x), .second, .unset, .unset, .unset, .unset, .unset, .unset, .unset, .unset, .unset, .unset, .unset, .unset, .unset, .unset, .unset] [(.ref a2)]
  refine X.astore (q := 30) (Ls' := #[.val (.long x0), .second, .val (.long x1), .second, .val (.long x2), .second, .val (.int x3), .val (.long t), .second, .val (.long x), .second, .val (.ref a2), .unset, .unset, .unset, .unset, .unset, .unset, .unset, .unset, .unset, .unset, .unset, .unset, .unset, .unset]) at_28 rfl rfl rfl ?_
  refine X.aload (q := 32) at_30 rfl rfl rfl ?_
  refine X.lload (q := 34) at_32 rfl rfl ?_
  refine X.virtual (a := a2) (own_take l Z a0 hw h3 n0 a2 t x hsh3 Ba2'h3 Ft gea2) (hw _ (List.mem_of_getElem? (i := 16) rfl)) (hw _ (List.mem_of_getElem? (i := 17) rfl)) (hw _ (List.mem_of_getElem? (i := 19) rfl)) (hw _ (List.mem_of_getElem? (i := 18) rfl)) (hw _ (List.mem_of_getElem? (i := 7) rfl)) (hw _ (List.mem_of_getElem? (i := 20) rfl)) (by decide) Ba2'h3 own_pd3 (argsL := [(.long x)]) (rest := []) rfl rfl rfl (W := 0) (Nat.le_of_eq rfl) rfl (by decide) (by decide) (k' := 1) (n' := 1) rfl rfl (by decide) (by decide) at_34 (q := 37) rfl ?_
  rintro _ h4 ⟨r1, u1, rfl, Kh4c, Fu1, hr1⟩
  have Ba2'h4 : Exa Z h4 a2 "com/example/cohortloom/cohortloom/RequestReader$Budget" := Exa.keep Ba2'h3 Kh4c
  have hsh4 : n0 ≤ h4.size := Nat.le_trans hsh3 Kh4c.1
  show X.G h4 1 1 37 #[.val (.long x0), .second, .val (.long x1), .second, .val (.long x2), .second, .val (.int x3), .val (.long t), .second, .val (.long x), .second, .val (.ref a2), .unset, .unset, .unset, .unset, .unset, .unset, .unset, .unset, .unset, .unset, .unset, .unset, .unset, .unset] [(.int r1)]
  refine X.istore (q := 39) (Ls' := #[.val (.long x0), .second, .val (.long x1), .second, .val (.long x2), .second, .val (.int x3), .val (.long t), .second, .val (.long x), .second, .val (.ref a2), .val (.int r1), .unset, .unset, .unset, .unset, .unset, .unset, .unset, .unset, .unset, .unset, .unset, .unset, .unset]) at_37 rfl rfl ?_
  have hum0 := rng64 x
  have hu1 : 0 ≤ u1.toInt := by
    rcases hr1 with ⟨_, q, rfl⟩ | ⟨_, q, rfl⟩
    · rw [Jvm.Kit.i64_sub (by omega) (by omega)]; omega
    · exact htr
  have J83 : ∀ (f1 : Int32) (e1v : Int64), (u1 = e1v) →  X.G h4 1 1 83 #[.val (.long x0), .second, .val (.long x1), .second, .val (.long x2), .second, .val (.int x3), .val (.long t), .second, .val (.long x), .second, .val (.ref a2), .val (.int r1), .val (.int f1), .val (.int (1 : Int32)), .unset, .unset, .unset, .unset, .unset, .unset, .unset, .unset, .unset, .unset, .unset] [(.long e1v)] := by
    intro f1 e1v he1
    refine X.lstore (q := 85) (Ls' := #[.val (.long x0), .second, .val (.long x1), .second, .val (.long x2), .second, .val (.int x3), .val (.long t), .second, .val (.long x), .second, .val (.ref a2), .val (.int r1), .val (.int f1), .val (.int (1 : Int32)), .val (.long e1v), .second, .unset, .unset, .unset, .unset, .unset, .unset, .unset, .unset, .unset]) at_83 rfl rfl ?_
    subst he1
    refine X.iload (q := 87) at_85 rfl rfl ?_
    refine X.iconst (q := 88) (2 : Int32) at_87 (by decide) rfl ?_
    refine X.iushr (q := 89) at_88 rfl ?_
    refine X.iconst (q := 90) (3 : Int32) at_89 (by decide) rfl ?_
    refine X.iand (q := 91) at_90 rfl ?_
    refine X.lload (q := 93) at_91 rfl rfl ?_
    refine X.lload (q := 95) at_93 rfl rfl ?_
    refine X.callS (own_pick l Z a0 hw h4 n0 ((XT.ushr x3 (2 : Int32)) &&& (3 : Int32)) u1 x2 (by omega)) (hw _ (List.mem_of_getElem? (i := 1) rfl)) (hw _ (List.mem_of_getElem? (i := 2) rfl)) (hw _ (List.mem_of_getElem? (i := 3) rfl)) (hw _ (List.mem_of_getElem? (i := 4) rfl)) (by decide) own_pd1 (argsL := [(.int ((XT.ushr x3 (2 : Int32)) &&& (3 : Int32))), (.long u1), (.long x2)]) (rest := []) rfl rfl rfl (W := 0) (Nat.le_of_eq rfl) rfl (by decide) (by decide) (k' := 1) (n' := 1) rfl rfl (by decide) (by decide) at_95 (q := 98) rfl ?_
    rintro _ _ ⟨y, rfl, hy, rfl⟩
    show X.G h4 1 1 98 #[.val (.long x0), .second, .val (.long x1), .second, .val (.long x2), .second, .val (.int x3), .val (.long t), .second, .val (.long x), .second, .val (.ref a2), .val (.int r1), .val (.int f1), .val (.int (1 : Int32)), .val (.long u1), .second, .unset, .unset, .unset, .unset, .unset, .unset, .unset, .unset, .unset] [(.long y)]
    refine X.lstore (q := 100) (Ls' := #[.val (.long x0), .second, .val (.long x1), .second, .val (.long x2), .second, .val (.int x3), .val (.long t), .second, .val (.long x), .second, .val (.ref a2), .val (.int r1), .val (.int f1), .val (.int (1 : Int32)), .val (.long u1), .second, .val (.long y), .second, .unset, .unset, .unset, .unset, .unset, .unset, .unset]) at_98 rfl rfl ?_
    refine X.aload (q := 102) at_100 rfl rfl rfl ?_
    refine X.lload (q := 104) at_102 rfl rfl ?_
    refine X.virtual (a := a2) (own_take l Z a0 hw h4 n0 a2 u1 y hsh4 Ba2'h4 Fu1 gea2) (hw _ (List.mem_of_getElem? (i := 16) rfl)) (hw _ (List.mem_of_getElem? (i := 17) rfl)) (hw _ (List.mem_of_getElem? (i := 19) rfl)) (hw _ (List.mem_of_getElem? (i := 18) rfl)) (hw _ (List.mem_of_getElem? (i := 7) rfl)) (hw _ (List.mem_of_getElem? (i := 20) rfl)) (by decide) Ba2'h4 own_pd3 (argsL := [(.long y)]) (rest := []) rfl rfl rfl (W := 0) (Nat.le_of_eq rfl) rfl (by decide) (by decide) (k' := 1) (n' := 1) rfl rfl (by decide) (by decide) at_104 (q := 107) rfl ?_
    rintro _ h5 ⟨r2, u2, rfl, Kh5c, Fu2, hr2⟩
    have Ba2'h5 : Exa Z h5 a2 "com/example/cohortloom/cohortloom/RequestReader$Budget" := Exa.keep Ba2'h4 Kh5c
    have hsh5 : n0 ≤ h5.size := Nat.le_trans hsh4 Kh5c.1
    show X.G h5 1 1 107 #[.val (.long x0), .second, .val (.long x1), .second, .val (.long x2), .second, .val (.int x3), .val (.long t), .second, .val (.long x), .second, .val (.ref a2), .val (.int r1), .val (.int f1), .val (.int (1 : Int32)), .val (.long u1), .second, .val (.long y), .second, .unset, .unset, .unset, .unset, .unset, .unset, .unset] [(.int r2)]
    refine X.istore (q := 109) (Ls' := #[.val (.long x0), .second, .val (.long x1), .second, .val (.long x2), .second, .val (.int x3), .val (.long t), .second, .val (.long x), .second, .val (.ref a2), .val (.int r1), .val (.int f1), .val (.int (1 : Int32)), .val (.long u1), .second, .val (.long y), .second, .val (.int r2), .unset, .unset, .unset, .unset, .unset, .unset]) at_107 rfl rfl ?_
    have hum1 := rng64 u1
    have hum2 := rng64 y
    have hu2 : 0 ≤ u2.toInt := by
      rcases hr2 with ⟨_, q, rfl⟩ | ⟨_, q, rfl⟩
      · rw [Jvm.Kit.i64_sub (by omega) (by omega)]; omega
      · exact hu1
    have J153 : ∀ (f2 : Int32) (e2v : Int64), (u2 = e2v) →  X.G h5 1 1 153 #[.val (.long x0), .second, .val (.long x1), .second, .val (.long x2), .second, .val (.int x3), .val (.long t), .second, .val (.long x), .second, .val (.ref a2), .val (.int r1), .val (.int f1), .val (.int (1 : Int32)), .val (.long u1), .second, .val (.long y), .second, .val (.int r2), .val (.int f2), .val (.int (1 : Int32)), .unset, .unset, .unset, .unset] [(.long e2v)] := by
      intro f2 e2v he2
      refine X.lstore (q := 155) (Ls' := #[.val (.long x0), .second, .val (.long x1), .second, .val (.long x2), .second, .val (.int x3), .val (.long t), .second, .val (.long x), .second, .val (.ref a2), .val (.int r1), .val (.int f1), .val (.int (1 : Int32)), .val (.long u1), .second, .val (.long y), .second, .val (.int r2), .val (.int f2), .val (.int (1 : Int32)), .val (.long e2v), .second, .unset, .unset]) at_153 rfl rfl ?_
      subst he2
      refine X.aload (q := 157) at_155 rfl rfl rfl ?_
      refine X.lload (q := 159) at_157 rfl rfl ?_
      refine X.virtual (a := a2) (own_take l Z a0 hw h5 n0 a2 u2 u2 hsh5 Ba2'h5 Fu2 gea2) (hw _ (List.mem_of_getElem? (i := 16) rfl)) (hw _ (List.mem_of_getElem? (i := 17) rfl)) (hw _ (List.mem_of_getElem? (i := 19) rfl)) (hw _ (List.mem_of_getElem? (i := 18) rfl)) (hw _ (List.mem_of_getElem? (i := 7) rfl)) (hw _ (List.mem_of_getElem? (i := 20) rfl)) (by decide) Ba2'h5 own_pd3 (argsL := [(.long u2)]) (rest := []) rfl rfl rfl (W := 0) (Nat.le_of_eq rfl) rfl (by decide) (by decide) (k' := 1) (n' := 1) rfl rfl (by decide) (by decide) at_159 (q := 162) rfl ?_
      rintro _ h6 ⟨r3, u3, rfl, Kh6c, Fu3, hr3⟩
      have Ba2'h6 : Exa Z h6 a2 "com/example/cohortloom/cohortloom/RequestReader$Budget" := Exa.keep Ba2'h5 Kh6c
      have hsh6 : n0 ≤ h6.size := Nat.le_trans hsh5 Kh6c.1
      show X.G h6 1 1 162 #[.val (.long x0), .second, .val (.long x1), .second, .val (.long x2), .second, .val (.int x3), .val (.long t), .second, .val (.long x), .second, .val (.ref a2), .val (.int r1), .val (.int f1), .val (.int (1 : Int32)), .val (.long u1), .second, .val (.long y), .second, .val (.int r2), .val (.int f2), .val (.int (1 : Int32)), .val (.long u2), .second, .unset, .unset] [(.int r3)]
      refine X.istore (q := 164) (Ls' := #[.val (.long x0), .second, .val (.long x1), .second, .val (.long x2), .second, .val (.int x3), .val (.long t), .second, .val (.long x), .second, .val (.ref a2), .val (.int r1), .val (.int f1), .val (.int (1 : Int32)), .val (.long u1), .second, .val (.long y), .second, .val (.int r2), .val (.int f2), .val (.int (1 : Int32)), .val (.long u2), .second, .val (.int r3), .unset]) at_162 rfl rfl ?_
      refine X.aload (q := 166) at_164 rfl rfl rfl ?_
      refine X.lconst (q := 167) (1 : Int64) at_166 (by decide) rfl ?_
      have hum3 := rng64 u2
      have hu3 : r3.toInt = 1 ∧ u3.toInt = 0 := by
        rcases hr3 with ⟨q0, q, rfl⟩ | ⟨_, q, rfl⟩
        · exact ⟨q0, by rw [Jvm.Kit.i64_sub (by omega) (by omega)]; omega⟩
        · omega
      refine X.virtual (a := a2) (own_take l Z a0 hw h6 n0 a2 u3 (1 : Int64) hsh6 Ba2'h6 Fu3 gea2) (hw _ (List.mem_of_getElem? (i := 16) rfl)) (hw _ (List.mem_of_getElem? (i := 17) rfl)) (hw _ (List.mem_of_getElem? (i := 19) rfl)) (hw _ (List.mem_of_getElem? (i := 18) rfl)) (hw _ (List.mem_of_getElem? (i := 7) rfl)) (hw _ (List.mem_of_getElem? (i := 20) rfl)) (by decide) Ba2'h6 own_pd3 (argsL := [(.long (1 : Int64))]) (rest := []) rfl rfl rfl (W := 0) (Nat.le_of_eq rfl) rfl (by decide) (by decide) (k' := 1) (n' := 1) rfl rfl (by decide) (by decide) at_167 (q := 170) rfl ?_
      rintro _ h7 ⟨r4, u4, rfl, Kh7c, Fu4, hr4⟩
      have Ba2'h7 : Exa Z h7 a2 "com/example/cohortloom/cohortloom/RequestReader$Budget" := Exa.keep Ba2'h6 Kh7c
      have hsh7 : n0 ≤ h7.size := Nat.le_trans hsh6 Kh7c.1
      show X.G h7 1 1 170 #[.val (.long x0), .second, .val (.long x1), .second, .val (.long x2), .second, .val (.int x3), .val (.long t), .second, .val (.long x), .second, .val (.ref a2), .val (.int r1), .val (.int f1), .val (.int (1 : Int32)), .val (.long u1), .second, .val (.long y), .second, .val (.int r2), .val (.int f2), .val (.int (1 : Int32)), .val (.long u2), .second, .val (.int r3), .unset] [(.int r4)]
      refine X.istore (q := 172) (Ls' := #[.val (.long x0), .second, .val (.long x1), .second, .val (.long x2), .second, .val (.int x3), .val (.long t), .second, .val (.long x), .second, .val (.ref a2), .val (.int r1), .val (.int f1), .val (.int (1 : Int32)), .val (.long u1), .second, .val (.long y), .second, .val (.int r2), .val (.int f2), .val (.int (1 : Int32)), .val (.long u2), .second, .val (.int r3), .val (.int r4)]) at_170 rfl rfl ?_
      refine X.iload (q := 174) at_172 rfl rfl ?_
      refine X.if_eq (a := 1) (q' := 196) (q := 177) at_174 rfl (by decide) rfl (fun c174 => ?_) (fun c174 => ?_)
      · omega
      · refine X.iload (q := 179) at_177 rfl rfl ?_
        refine X.if_eq (a := 1) (q' := 196) (q := 182) at_179 rfl (by decide) rfl (fun c179 => ?_) (fun c179 => ?_)
        · omega
        · refine X.iload (q := 184) at_182 rfl rfl ?_
          refine X.if_eq (q' := 196) (q := 187) at_184 rfl (by decide) rfl (fun c184 => ?_) (fun c184 => ?_)
          · omega
          · refine X.iload (q := 189) at_187 rfl rfl ?_
            refine X.if_ne (q' := 196) (q := 192) at_189 rfl (by decide) rfl (fun c189 => ?_) (fun c189 => ?_)
            · omega
            · refine X.iconst (q := 193) (1 : Int32) at_192 (by decide) rfl ?_
              refine X.goto (q' := 197) at_193 (by decide) ?_
              refine X.retN (t := .boolean) (z' := (1 : Int32)) at_197 rfl (by simp) (by decide) (by decide) (by decide) ?_
              rfl
    refine X.lload (q := 111) at_109 rfl rfl ?_
    refine X.lload (q := 113) at_111 rfl rfl ?_
    refine X.lcmp_gt (q1 := 114) (q' := 121) (q := 117) at_113 rfl at_114 rfl rfl (by decide) rfl (fun c113 => ?_) (fun c113 => ?_)
    · refine X.iconst (q := 122) (0 : Int32) at_121 (by decide) rfl ?_
      refine X.istore (q := 124) (Ls' := #[.val (.long x0), .second, .val (.long x1), .second, .val (.long x2), .second, .val (.int x3), .val (.long t), .second, .val (.long x), .second, .val (.ref a2), .val (.int r1), .val (.int f1), .val (.int (1 : Int32)), .val (.long u1), .second, .val (.long y), .second, .val (.int r2), .val (.int (0 : Int32)), .unset, .unset, .unset, .unset, .unset]) at_122 rfl rfl ?_
      refine X.iload (q := 126) at_124 rfl rfl ?_
      refine X.iload (q := 128) at_126 rfl rfl ?_
      refine X.icmp_ne (b := 0) (q' := 135) (q := 131) at_128 rfl rfl (by decide) rfl (fun c128 => ?_) (fun c128 => ?_)
      · omega
      · refine X.iconst (q := 132) (1 : Int32) at_131 (by decide) rfl ?_
        refine X.goto (q' := 136) at_132 (by decide) ?_
        refine X.istore (q := 138) (Ls' := #[.val (.long x0), .second, .val (.long x1), .second, .val (.long x2), .second, .val (.int x3), .val (.long t), .second, .val (.long x), .second, .val (.ref a2), .val (.int r1), .val (.int f1), .val (.int (1 : Int32)), .val (.long u1), .second, .val (.long y), .second, .val (.int r2), .val (.int (0 : Int32)), .val (.int (1 : Int32)), .unset, .unset, .unset, .unset]) at_136 rfl rfl ?_
        refine X.iload (q := 140) at_138 rfl rfl ?_
        refine X.if_eq (a := 0) (q' := 151) (q := 143) at_140 rfl (by decide) rfl (fun c140 => ?_) (fun c140 => ?_)
        · refine X.lload (q := 153) at_151 rfl rfl ?_
          exact J153 _ _ (by rcases hr2 with ⟨_, q, rfl⟩ | ⟨_, q, rfl⟩ <;> first | rfl | (exfalso; omega))
        · omega
    · refine X.iconst (q := 118) (1 : Int32) at_117 (by decide) rfl ?_
      refine X.goto (q' := 122) at_118 (by decide) ?_
      refine X.istore (q := 124) (Ls' := #[.val (.long x0), .second, .val (.long x1), .second, .val (.long x2), .second, .val (.int x3), .val (.long t), .second, .val (.long x), .second, .val (.ref a2), .val (.int r1), .val (.int f1), .val (.int (1 : Int32)), .val (.long u1), .second, .val (.long y), .second, .val (.int r2), .val (.int (1 : Int32)), .unset, .unset, .unset, .unset, .unset]) at_122 rfl rfl ?_
      refine X.iload (q := 126) at_124 rfl rfl ?_
      refine X.iload (q := 128) at_126 rfl rfl ?_
      refine X.icmp_ne (b := 1) (q' := 135) (q := 131) at_128 rfl rfl (by decide) rfl (fun c128 => ?_) (fun c128 => ?_)
      · omega
      · refine X.iconst (q := 132) (1 : Int32) at_131 (by decide) rfl ?_
        refine X.goto (q' := 136) at_132 (by decide) ?_
        refine X.istore (q := 138) (Ls' := #[.val (.long x0), .second, .val (.long x1), .second, .val (.long x2), .second, .val (.int x3), .val (.long t), .second, .val (.long x), .second, .val (.ref a2), .val (.int r1), .val (.int f1), .val (.int (1 : Int32)), .val (.long u1), .second, .val (.long y), .second, .val (.int r2), .val (.int (1 : Int32)), .val (.int (1 : Int32)), .unset, .unset, .unset, .unset]) at_136 rfl rfl ?_
        refine X.iload (q := 140) at_138 rfl rfl ?_
        refine X.if_eq (a := 1) (q' := 151) (q := 143) at_140 rfl (by decide) rfl (fun c140 => ?_) (fun c140 => ?_)
        · omega
        · refine X.lload (q := 145) at_143 rfl rfl ?_
          refine X.lload (q := 147) at_145 rfl rfl ?_
          refine X.lsub (q := 148) at_147 rfl ?_
          refine X.goto (q' := 153) at_148 (by decide) ?_
          exact J153 _ _ (by rcases hr2 with ⟨_, q, rfl⟩ | ⟨_, q, rfl⟩ <;> first | rfl | (exfalso; omega))
  refine X.lload (q := 41) at_39 rfl rfl ?_
  refine X.lload (q := 43) at_41 rfl rfl ?_
  refine X.lcmp_gt (q1 := 44) (q' := 51) (q := 47) at_43 rfl at_44 rfl rfl (by decide) rfl (fun c43 => ?_) (fun c43 => ?_)
  · refine X.iconst (q := 52) (0 : Int32) at_51 (by decide) rfl ?_
    refine X.istore (q := 54) (Ls' := #[.val (.long x0), .second, .val (.long x1), .second, .val (.long x2), .second, .val (.int x3), .val (.long t), .second, .val (.long x), .second, .val (.ref a2), .val (.int r1), .val (.int (0 : Int32)), .unset, .unset, .unset, .unset, .unset, .unset, .unset, .unset, .unset, .unset, .unset, .unset]) at_52 rfl rfl ?_
    refine X.iload (q := 56) at_54 rfl rfl ?_
    refine X.iload (q := 58) at_56 rfl rfl ?_
    refine X.icmp_ne (b := 0) (q' := 65) (q := 61) at_58 rfl rfl (by decide) rfl (fun c58 => ?_) (fun c58 => ?_)
    · omega
    · refine X.iconst (q := 62) (1 : Int32) at_61 (by decide) rfl ?_
      refine X.goto (q' := 66) at_62 (by decide) ?_
      refine X.istore (q := 68) (Ls' := #[.val (.long x0), .second, .val (.long x1), .second, .val (.long x2), .second, .val (.int x3), .val (.long t), .second, .val (.long x), .second, .val (.ref a2), .val (.int r1), .val (.int (0 : Int32)), .val (.int (1 : Int32)), .unset, .unset, .unset, .unset, .unset, .unset, .unset, .unset, .unset, .unset, .unset]) at_66 rfl rfl ?_
      refine X.iload (q := 70) at_68 rfl rfl ?_
      refine X.if_eq (a := 0) (q' := 81) (q := 73) at_70 rfl (by decide) rfl (fun c70 => ?_) (fun c70 => ?_)
      · refine X.lload (q := 83) at_81 rfl rfl ?_
        exact J83 _ _ (by rcases hr1 with ⟨_, q, rfl⟩ | ⟨_, q, rfl⟩ <;> first | rfl | (exfalso; omega))
      · omega
  · refine X.iconst (q := 48) (1 : Int32) at_47 (by decide) rfl ?_
    refine X.goto (q' := 52) at_48 (by decide) ?_
    refine X.istore (q := 54) (Ls' := #[.val (.long x0), .second, .val (.long x1), .second, .val (.long x2), .second, .val (.int x3), .val (.long t), .second, .val (.long x), .second, .val (.ref a2), .val (.int r1), .val (.int (1 : Int32)), .unset, .unset, .unset, .unset, .unset, .unset, .unset, .unset, .unset, .unset, .unset, .unset]) at_52 rfl rfl ?_
    refine X.iload (q := 56) at_54 rfl rfl ?_
    refine X.iload (q := 58) at_56 rfl rfl ?_
    refine X.icmp_ne (b := 1) (q' := 65) (q := 61) at_58 rfl rfl (by decide) rfl (fun c58 => ?_) (fun c58 => ?_)
    · omega
    · refine X.iconst (q := 62) (1 : Int32) at_61 (by decide) rfl ?_
      refine X.goto (q' := 66) at_62 (by decide) ?_
      refine X.istore (q := 68) (Ls' := #[.val (.long x0), .second, .val (.long x1), .second, .val (.long x2), .second, .val (.int x3), .val (.long t), .second, .val (.long x), .second, .val (.ref a2), .val (.int r1), .val (.int (1 : Int32)), .val (.int (1 : Int32)), .unset, .unset, .unset, .unset, .unset, .unset, .unset, .unset, .unset, .unset, .unset]) at_66 rfl rfl ?_
      refine X.iload (q := 70) at_68 rfl rfl ?_
      refine X.if_eq (a := 1) (q' := 81) (q := 73) at_70 rfl (by decide) rfl (fun c70 => ?_) (fun c70 => ?_)
      · omega
      · refine X.lload (q := 75) at_73 rfl rfl ?_
        refine X.lload (q := 77) at_75 rfl rfl ?_
        refine X.lsub (q := 78) at_77 rfl ?_
        refine X.goto (q' := 83) at_78 (by decide) ?_
        exact J83 _ _ (by rcases hr1 with ⟨_, q, rfl⟩ | ⟨_, q, rfl⟩ <;> first | rfl | (exfalso; omega))
set_option maxRecDepth 65536 in
set_option maxHeartbeats 1000000 in
theorem comes_1 {Post : Tables → Env → Array Value → State → Outcome → State → Prop} (hpost : ∀ tb e args s v u, (limb_1_1.after args s (.returned v) u = true ∧ limb_1_2.after args s (.returned v) u = true ∧ True) → FrameEnd s (.returned v) u (Jvm.fieldLocs frame_1_writes args s ++ Jvm.arrayLocs frame_1_arrays args s ++ Jvm.staticLocs frame_1_statics s) 16 128 → Post tb e args s (.returned v) u) :
    ArmFor flags0 classFile x code maxLocals ret World_1 tables_1 room_1 Calls_1 rest_1 Pre_1 Post := by
  intro l hfl _ _ p e ha hc hk s m args below hf hA hF happ hP
  obtain ⟨hcalls, hrest, hpre⟩ := hP
  obtain ⟨-, -, -, hnamed, -, -, -, hat⟩ := (Spec.applies_iff hf).mp happ
  obtain ⟨hg, hn⟩ := and_e (Cond.before_iff.mp (show (Jvm.Cond.and given_1 narrow_1).before args s = true from hpre))
  obtain ⟨hg0, hg⟩ := and_e hg
  obtain ⟨w0, w1, w2, w3, rfl⟩ : ∃ w0 w1 w2 w3 : Value, args = #[w0, w1, w2, w3] := by
    have hs : args.size = 4 := by simpa [Cond.value, given_1] using hg0
    obtain ⟨L⟩ := args
    match L, hs with
    | [w0, w1, w2, w3], _ => exact ⟨w0, w1, w2, w3, rfl⟩
  have hw := fun d (hd : d ∈ tables_1) => atoms_spec (ws := Jvm.Cond.code x code maxLocals ret :: tables_1) hat d (List.mem_cons_of_mem _ hd)
  obtain ⟨ha0, hg⟩ := and_e hg
  obtain ⟨i0, e0⟩ := isL_v ha0
  obtain rfl : w0 = (.long i0) := Option.some.inj e0
  obtain ⟨ha1, hg⟩ := and_e hg
  obtain ⟨i1, e1⟩ := isL_v ha1
  obtain rfl : w1 = (.long i1) := Option.some.inj e1
  obtain ⟨ha2, hg⟩ := and_e hg
  obtain ⟨i2, e2⟩ := isL_v ha2
  obtain rfl : w2 = (.long i2) := Option.some.inj e2
  have ha3 := hg
  obtain ⟨i3, e3⟩ := is_v ha3
  obtain rfl : w3 = (.int i3) := Option.some.inj e3
  obtain ⟨n, o, h1, h2, h3, _, L, rfl, ⟨rfl, N⟩, hq⟩ := own_law l s _ hw s.heap s.heap.size (Nat.le_refl _) i0 i1 i2 i3 p e ha hc hk s m _ below hf ((Spec.applies_iff_loose hf).mp happ).1 ⟨rfl, State.Warmed39.refl s, rfl⟩ trivial
  refine ⟨n, _, h1, h2, h3, hpost _ _ _ _ _ _ ⟨Cond.after_iff.mpr rfl, Cond.after_iff.mpr (eq_i res_at (Term.int_eval (1)) rfl), trivial⟩ ⟨hq.1, hq.2.1, (hq.2.2.sift fun y hy => Or.inr (N y hy)).mono (by decide) (by decide)⟩⟩
theorem main_1_1 : Claimed_1_1 := comes_1 fun _ _ _ _ _ _ h hF => ⟨h.1, hF⟩
theorem main_1_2 : Claimed_1_2 := comes_1 fun _ _ _ _ _ _ h hF => ⟨h.2.1, hF⟩
end Jvm.Pilot.@@N@@
namespace Jvm.Pilot.@@N@@
open Jvm Jvm.ClassFile Sem Op Lib Jvm.Free Jvm.Stand Jvm.Pilot.@@N@@.Jvm.D
/-! MADE BY PROGRAM (witnessworld.py) out of the Statement's table words and the real class files: 10 classes; the members and pool entries that the words name. The judged class is class 1, her method 1. -/
namespace start1
open Jvm.ClassFile
def u (s : String) : CpInfo := .utf8 (stringToUtf16 s)
/-- a pool by its gaps: so many unusable entries, then the entry; so many at the end -/
def gap : Nat → List CpInfo → List CpInfo
  | 0, r => r
  | n + 1, r => .unusable :: gap n r
def poolList (es : List (Nat × CpInfo)) (last : Nat) : List CpInfo := es.foldr (fun e r => gap e.1 (e.2 :: r)) (gap last [])
def pool (es : List (Nat × CpInfo)) (last : Nat) : Array CpInfo := ⟨poolList es last⟩
def fileOf (pool : Array CpInfo) (this : Nat) (attrs : Array Attribute := #[]) (ms : Array MethodInfo := #[]) (fl : Nat := 33) (sup : Nat := 0) (ifs : Array Nat := #[]) (fds : Array FieldInfo := #[]) : ClassFile where
  minorVersion := 0
  majorVersion := 65
  constantPool := pool
  accessFlags := fl
  thisClass := this
  superClass := sup
  interfaces := ifs
  fields := fds
  methods := ms
  attributes := attrs
def plain (name : String) (sup : Option ClassId) : Class where
  name := name
  kind := .ordinary
  loader := none
  accessFlags := 33
  super := sup
  interfaces := #[]
  cf := none
  fields := #[]
  methods := #[]
  instanceTypes := #[]
  staticTypes := #[]
  resolved := #[]
  callSites := []
  init := .initialized
  statics := none
  mirror := none

def pool0 : Array CpInfo := pool [(5, u "<init>"), (0, u "()V"), (1, .class_ 10), (1, u "java/lang/Object")] 113

def k0c0 : Code := { maxStack := 0, maxLocals := 1, code := object_method_1_code, exceptionTable := #[], attributes := #[] }
def k0m0 : Method := { name := "<init>", desc := "()V", sig := { parameters := [], returnType := none }, accessFlags := 1, code := some k0c0 }
/-- java/lang/Object -/
def k0 : Class := { plain "java/lang/Object" none with
  accessFlags := 33
  interfaces := #[]
  cf := some (fileOf pool0 8 #[] #[{ accessFlags := 1, nameIndex := 5, descriptorIndex := 6, attributes := #[] }] 33 0 #[] #[])
  fields := #[]
  methods := #[k0m0]
  instanceTypes := #[]
  staticTypes := #[]
  resolved := Array.replicate 124 none
  statics := none }

def pool1 : Array CpInfo := pool [(2, .class_ 4), (1, u "java/lang/Object"), (0, u "<init>"), (0, u "()V"), (2, .long 9223372036854775807), (1, .methodref 12 13), (0, .class_ 14), (0, .nameAndType 15 16), (0, u "com/example/cohortloom/cohortloom/BudgetTakePinLaw"), (0, u "pick"), (0, u "(IJJ)J"), (0, .class_ 18), (0, u "com/example/cohortloom/cohortloom/RequestReader$Budget"), (0, .methodref 17 20), (0, .nameAndType 5 21), (0, u "(J)V"), (0, .methodref 17 23), (0, .nameAndType 24 25), (0, u "take"), (0, u "(J)Z"), (0, .long 255), (1, .methodref 29 30), (0, .class_ 31), (0, .nameAndType 32 33), (0, u "java/lang/Math"), (0, u "max"), (0, u "(JJ)J"), (2, u "law"), (0, u "(JJJI)Z")] 7

def k1m0 : Method := { name := "<init>", desc := "()V", sig := { parameters := [], returnType := none }, accessFlags := 2, code := none }
def k1c1 : Code := { maxStack := 5, maxLocals := 26, code := code, exceptionTable := #[], attributes := #[] }
def k1m1 : Method := { name := "law", desc := "(JJJI)Z", sig := { parameters := [.long, .long, .long, .int], returnType := some .boolean }, accessFlags := 9, code := some k1c1 }
def k1c2 : Code := { maxStack := 8, maxLocals := 5, code := method_3_code, exceptionTable := #[], attributes := #[] }
def k1m2 : Method := { name := "pick", desc := "(IJJ)J", sig := { parameters := [.int, .long, .long], returnType := some .long }, accessFlags := 10, code := some k1c2 }
/-- com/example/cohortloom/cohortloom/BudgetTakePinLaw -/
def k1 : Class := { plain "com/example/cohortloom/cohortloom/BudgetTakePinLaw" (some 0) with
  accessFlags := 49
  interfaces := #[]
  cf := some (fileOf pool1 12 #[] #[{ accessFlags := 2, nameIndex := 5, descriptorIndex := 6, attributes := #[] }, { accessFlags := 9, nameIndex := 36, descriptorIndex := 37, attributes := #[] }, { accessFlags := 10, nameIndex := 15, descriptorIndex := 16, attributes := #[] }] 49 2 #[] #[])
  fields := #[]
  methods := #[k1m0, k1m1, k1m2]
  instanceTypes := #[]
  staticTypes := #[]
  resolved := Array.replicate 45 none
  statics := none }

def pool2 : Array CpInfo := pool [(1, .methodref 2 3), (0, .class_ 4), (0, .nameAndType 5 6), (0, u "java/lang/Object"), (0, u "<init>"), (0, u "()V"), (0, .fieldref 8 9), (0, .class_ 10), (0, .nameAndType 11 12), (0, u "com/example/cohortloom/cohortloom/RequestReader$Budget"), (0, u "left"), (0, u "J"), (0, u "(J)V"), (2, u "take"), (0, u "(J)Z"), (5, .class_ 24), (0, u "com/example/cohortloom/cohortloom/RequestReader")] 2

def k2c0 : Code := { maxStack := 3, maxLocals := 3, code := prog_34_method_1_code, exceptionTable := #[], attributes := #[] }
def k2m0 : Method := { name := "<init>", desc := "(J)V", sig := { parameters := [.long], returnType := none }, accessFlags := 0, code := some k2c0 }
def k2c1 : Code := { maxStack := 5, maxLocals := 3, code := prog_34_method_2_code, exceptionTable := #[], attributes := #[] }
def k2m1 : Method := { name := "take", desc := "(J)Z", sig := { parameters := [.long], returnType := some .boolean }, accessFlags := 0, code := some k2c1 }
/-- com/example/cohortloom/cohortloom/RequestReader$Budget -/
def k2 : Class := { plain "com/example/cohortloom/cohortloom/RequestReader$Budget" (some 0) with
  accessFlags := 48
  interfaces := #[]
  cf := some (fileOf pool2 8 #[.nestHost 23] #[{ accessFlags := 0, nameIndex := 5, descriptorIndex := 13, attributes := #[] }, { accessFlags := 0, nameIndex := 16, descriptorIndex := 17, attributes := #[] }] 48 2 #[] #[{ accessFlags := 2, nameIndex := 11, descriptorIndex := 12, attributes := #[] }])
  fields := #[{ name := "left", type := .long, accessFlags := 2, slot := 0, constantValue := 0 }]
  methods := #[k2m0, k2m1]
  instanceTypes := #[.long]
  staticTypes := #[]
  resolved := Array.replicate 27 none
  statics := none }

def pool3 : Array CpInfo := pool [(1, .class_ 2), (0, u "java/lang/Math"), (1, .class_ 6), (1, u "java/lang/Object"), (0, u "<init>"), (0, u "()V"), (89, .class_ 100), (1, u "java/lang/Math$RandomNumberGeneratorHolder"), (20, u "(JJ)J"), (50, u "negativeZeroFloatBits"), (0, u "J"), (2, u "negativeZeroDoubleBits"), (21, u "max"), (46, u "$assertionsDisabled"), (0, u "Z"), (91, u "twoToTheDoubleScaleDown"), (0, u "D"), (4, u "twoToTheDoubleScaleUp"), (9, u "E"), (3, u "PI"), (2, u "TAU"), (2, u "DEGREES_TO_RADIANS"), (0, u "RADIANS_TO_DEGREES")] 94

def k3m0 : Method := { name := "<init>", desc := "()V", sig := { parameters := [], returnType := none }, accessFlags := 2, code := none }
def k3c1 : Code := { maxStack := 4, maxLocals := 4, code := jdk_29_method_66_code, exceptionTable := #[], attributes := #[] }
def k3m1 : Method := { name := "max", desc := "(JJ)J", sig := { parameters := [.long, .long], returnType := some .long }, accessFlags := 9, code := some k3c1 }
/-- java/lang/Math -/
def k3 : Class := { plain "java/lang/Math" (some 0) with
  accessFlags := 49
  interfaces := #[]
  cf := some (fileOf pool3 1 #[.nestMembers #[98]] #[{ accessFlags := 2, nameIndex := 7, descriptorIndex := 8, attributes := #[] }, { accessFlags := 9, nameIndex := 198, descriptorIndex := 121, attributes := #[] }] 49 4 #[] #[{ accessFlags := 25, nameIndex := 354, descriptorIndex := 339, attributes := #[] }, { accessFlags := 25, nameIndex := 358, descriptorIndex := 339, attributes := #[] }, { accessFlags := 25, nameIndex := 361, descriptorIndex := 339, attributes := #[] }, { accessFlags := 26, nameIndex := 364, descriptorIndex := 339, attributes := #[] }, { accessFlags := 26, nameIndex := 365, descriptorIndex := 339, attributes := #[] }, { accessFlags := 26, nameIndex := 172, descriptorIndex := 173, attributes := #[] }, { accessFlags := 26, nameIndex := 176, descriptorIndex := 173, attributes := #[] }, { accessFlags := 8, nameIndex := 344, descriptorIndex := 339, attributes := #[] }, { accessFlags := 8, nameIndex := 338, descriptorIndex := 339, attributes := #[] }, { accessFlags := 4120, nameIndex := 245, descriptorIndex := 246, attributes := #[] }])
  fields := #[{ name := "E", type := .double, accessFlags := 25, slot := 0, constantValue := 0 }, { name := "PI", type := .double, accessFlags := 25, slot := 1, constantValue := 0 }, { name := "TAU", type := .double, accessFlags := 25, slot := 2, constantValue := 0 }, { name := "DEGREES_TO_RADIANS", type := .double, accessFlags := 26, slot := 3, constantValue := 0 }, { name := "RADIANS_TO_DEGREES", type := .double, accessFlags := 26, slot := 4, constantValue := 0 }, { name := "negativeZeroFloatBits", type := .long, accessFlags := 26, slot := 5, constantValue := 0 }, { name := "negativeZeroDoubleBits", type := .long, accessFlags := 26, slot := 6, constantValue := 0 }, { name := "twoToTheDoubleScaleUp", type := .double, accessFlags := 8, slot := 7, constantValue := 0 }, { name := "twoToTheDoubleScaleDown", type := .double, accessFlags := 8, slot := 8, constantValue := 0 }, { name := "$assertionsDisabled", type := .boolean, accessFlags := 4120, slot := 9, constantValue := 0 }]
  methods := #[k3m0, k3m1]
  instanceTypes := #[]
  staticTypes := #[.double, .double, .double, .double, .double, .long, .long, .double, .double, .boolean]
  resolved := Array.replicate 460 none
  statics := none }

def pool4 : Array CpInfo := pool [(1, u "java/lang/Cloneable"), (0, .class_ 1), (0, u "java/lang/Object"), (0, .class_ 3)] 3

/-- java/lang/Cloneable -/
def k4 : Class := { plain "java/lang/Cloneable" (some 0) with
  accessFlags := 1537
  interfaces := #[]
  cf := some (fileOf pool4 2 #[] #[] 1537 4 #[] #[])
  fields := #[]
  methods := #[]
  instanceTypes := #[]
  staticTypes := #[]
  resolved := Array.replicate 8 none
  statics := none }

def pool5 : Array CpInfo := pool [(1, u "java/io/Serializable"), (0, .class_ 1), (0, u "java/lang/Object"), (0, .class_ 3)] 3

/-- java/io/Serializable -/
def k5 : Class := { plain "java/io/Serializable" (some 0) with
  accessFlags := 1537
  interfaces := #[]
  cf := some (fileOf pool5 2 #[] #[] 1537 4 #[] #[])
  fields := #[]
  methods := #[]
  instanceTypes := #[]
  staticTypes := #[]
  resolved := Array.replicate 8 none
  statics := none }

/-- the primitive byte -/
def k6 : Class := { plain "byte" none with kind := .primitive 'B', accessFlags := 0x411 }
/-- [B -/
def k7 : Class := { plain "[B" (some 0) with kind := .array 6 .byte, interfaces := #[4, 5], accessFlags := 1041 }

/-- the primitive int -/
def k8 : Class := { plain "int" none with kind := .primitive 'I', accessFlags := 0x411 }
/-- [I -/
def k9 : Class := { plain "[I" (some 0) with kind := .array 8 .int, interfaces := #[4, 5], accessFlags := 1041 }

def heap : Heap := #[]
def classes : Array Class := #[k0, k1, k2, k3, k4, k5, k6, k7, k8, k9]
def interned : List (Array UInt16 × Addr) := []
def slotsUsed : Nat := 0
def theMethod : MethodId := ⟨1, 1⟩
def args0 : Array Value := #[.long 5, .long 1, .long 2, .int 3]
def aboutOver (below : List Frame) : State where
  vm := { classes := classes, interned := interned.toArray }
  heap := heap
  slotsUsed := slotsUsed
  threads := #[{ frames := .invoking theMethod args0 :: below }]
def below0 : List Frame := [.native { method := ⟨0, 0⟩, args := #[] }]
def about1 : State := aboutOver below0
def p0 : Program := .bare "" "" ""
def e0 : Env := launch0.env 0 0 0
theorem w_frames : about1.frames = Frame.invoking theMethod args0 :: below0 := rfl
set_option maxRecDepth 65536 in
theorem w_args : argsFit about1.vm theMethod args0 = true := by decide +kernel
set_option maxRecDepth 65536 in
theorem w_heap : heapFits about1 = true := by decide +kernel
set_option maxRecDepth 65536 in
theorem w_runnable : about1.curStatus? = some .runnable := by decide +kernel
set_option maxRecDepth 65536 in
theorem w_alone : about1.alone = true := by decide +kernel
set_option maxRecDepth 65536 in
theorem w_named : about1.methodNamed? x = some theMethod := by decide +kernel
set_option maxRecDepth 65536 in
theorem w_hears : about1.hears theMethod below0 = true := by decide +kernel
set_option maxRecDepth 65536 in
theorem w_ripe : about1.ripe theMethod args0 below0 = true := by decide +kernel
theorem w_running : about1.status = .running := rfl
set_option maxRecDepth 65536 in
theorem w_room : about1.hasRoom e0.platform room_1 = true :=
  launch0.hasRoom_least _ room_1 (by decide +kernel) (by decide +kernel) (by decide +kernel) (by decide +kernel) (by decide +kernel) (by decide +kernel)
theorem allAtoms_all (ts : List Jvm.Cond) (a : Array Jvm.Value) (st : Jvm.State) : (allAtoms ts).before a st = ts.all (fun c => c.before a st) := by
  induction ts with
  | nil => rfl
  | cons c t ih =>
    show (Jvm.Cond.and c (allAtoms t)).before a st = _
    rw [Jvm.Cond.before_and, ih, List.all_cons]
def words1 : List Jvm.Cond := Jvm.Cond.code x code maxLocals ret :: tables_1
/-- a 'code' word, met by the world's own term for the bytes: nothing is compared byte by byte -/
theorem code_word {y : MethodName} {bytes : ByteArray} {mx : Nat} {rt : Option FieldType} {a : Array Value} {s : State} {m : MethodId} {meth : Method} {c : Code} (h1 : s.methodNamed? y = some m) (h2 : s.vm.method? m = some meth) (h3 : meth.code = some c) (h4 : c.code = bytes)
    (h5 : (c.maxLocals == mx && c.exceptionTable.isEmpty && decide (c.maxStack ≤ mostOperands) && decide (meth.sig.returnType = rt) && !meth.locks && decide (parseMethodDescriptor y.desc = some meth.sig)) = true) : (Jvm.Cond.code y bytes mx rt).before a s = true := by
  simp only [Bool.and_eq_true, beq_iff_eq, Bool.not_eq_true', decide_eq_true_eq] at h5
  obtain ⟨⟨⟨⟨⟨g1, g2⟩, g3⟩, g4⟩, g5⟩, g6⟩ := h5
  simp [Cond.before, Cond.holds, Cond.value, h1, h2, h3, h4, g1, g2, g3, g4, g5, g6]
def isCode : Jvm.Cond → Bool
  | .code _ _ _ _ => true
  | _ => false
theorem all_split {L : List Jvm.Cond} {P : Jvm.Cond → Bool} (h1 : L.all (fun c => isCode c || P c) = true) (h2 : ∀ c ∈ L.filter isCode, P c = true) : L.all P = true := by
  refine List.all_eq_true.mpr fun c hc => ?_
  have h := List.all_eq_true.mp h1 c hc
  rcases Bool.eq_false_or_eq_true (isCode c) with hi | hi
  · exact h2 c (List.mem_filter.mpr ⟨hc, hi⟩)
  · simpa [hi] using h
set_option maxRecDepth 65536 in
theorem w_c0 : (Jvm.Cond.code x code maxLocals ret).before args0 about1 = true := code_word (m := ⟨1, 1⟩) (meth := k1m1) (c := k1c1) (by decide +kernel) rfl rfl rfl (by decide +kernel)
set_option maxRecDepth 65536 in
theorem w_c1 : (Jvm.Cond.code ({ cls := "com/example/cohortloom/cohortloom/BudgetTakePinLaw", name := "pick", desc := "(IJJ)J" } : Jvm.MethodName) method_3_code (5 : Nat) (Option.some Jvm.ClassFile.FieldType.long)).before args0 about1 = true := code_word (m := ⟨1, 2⟩) (meth := k1m2) (c := k1c2) (by decide +kernel) rfl rfl rfl (by decide +kernel)
set_option maxRecDepth 65536 in
theorem w_c2 : (Jvm.Cond.code ({ cls := "com/example/cohortloom/cohortloom/RequestReader$Budget", name := "<init>", desc := "(J)V" } : Jvm.MethodName) prog_34_method_1_code (3 : Nat) (Option.none : Option Jvm.ClassFile.FieldType)).before args0 about1 = true := code_word (m := ⟨2, 0⟩) (meth := k2m0) (c := k2c0) (by decide +kernel) rfl rfl rfl (by decide +kernel)
set_option maxRecDepth 65536 in
theorem w_c3 : (Jvm.Cond.code ({ cls := "java/lang/Object", name := "<init>", desc := "()V" } : Jvm.MethodName) object_method_1_code (1 : Nat) (Option.none : Option Jvm.ClassFile.FieldType)).before args0 about1 = true := code_word (m := ⟨0, 0⟩) (meth := k0m0) (c := k0c0) (by decide +kernel) rfl rfl rfl (by decide +kernel)
set_option maxRecDepth 65536 in
theorem w_c4 : (Jvm.Cond.code ({ cls := "com/example/cohortloom/cohortloom/RequestReader$Budget", name := "take", desc := "(J)Z" } : Jvm.MethodName) prog_34_method_2_code (3 : Nat) (Option.some Jvm.ClassFile.FieldType.boolean)).before args0 about1 = true := code_word (m := ⟨2, 1⟩) (meth := k2m1) (c := k2c1) (by decide +kernel) rfl rfl rfl (by decide +kernel)
set_option maxRecDepth 65536 in
theorem w_c5 : (Jvm.Cond.code ({ cls := "java/lang/Math", name := "max", desc := "(JJ)J" } : Jvm.MethodName) jdk_29_method_66_code (4 : Nat) (Option.some Jvm.ClassFile.FieldType.long)).before args0 about1 = true := code_word (m := ⟨3, 1⟩) (meth := k3m1) (c := k3c1) (by decide +kernel) rfl rfl rfl (by decide +kernel)
def codes1 : List Jvm.Cond := [Jvm.Cond.code x code maxLocals ret, Jvm.Cond.code ({ cls := "com/example/cohortloom/cohortloom/BudgetTakePinLaw", name := "pick", desc := "(IJJ)J" } : Jvm.MethodName) method_3_code (5 : Nat) (Option.some Jvm.ClassFile.FieldType.long), Jvm.Cond.code ({ cls := "com/example/cohortloom/cohortloom/RequestReader$Budget", name := "<init>", desc := "(J)V" } : Jvm.MethodName) prog_34_method_1_code (3 : Nat) (Option.none : Option Jvm.ClassFile.FieldType), Jvm.Cond.code ({ cls := "java/lang/Object", name := "<init>", desc := "()V" } : Jvm.MethodName) object_method_1_code (1 : Nat) (Option.none : Option Jvm.ClassFile.FieldType), Jvm.Cond.code ({ cls := "com/example/cohortloom/cohortloom/RequestReader$Budget", name := "take", desc := "(J)Z" } : Jvm.MethodName) prog_34_method_2_code (3 : Nat) (Option.some Jvm.ClassFile.FieldType.boolean), Jvm.Cond.code ({ cls := "java/lang/Math", name := "max", desc := "(JJ)J" } : Jvm.MethodName) jdk_29_method_66_code (4 : Nat) (Option.some Jvm.ClassFile.FieldType.long)]
set_option maxRecDepth 65536 in
theorem codes_eq : words1.filter isCode = codes1 := rfl
theorem w_codes : ∀ c ∈ words1.filter isCode, c.before args0 about1 = true := by
  rw [codes_eq]
  intro c hc
  simp only [codes1, List.mem_cons, List.not_mem_nil, or_false] at hc
  rcases hc with rfl | rfl | rfl | rfl | rfl | rfl
  · exact w_c0
  · exact w_c1
  · exact w_c2
  · exact w_c3
  · exact w_c4
  · exact w_c5
set_option maxRecDepth 65536 in
theorem w_t1 : (words1.take 24).all (fun c => isCode c || c.before args0 about1) = true := by decide +kernel
set_option maxRecDepth 65536 in
theorem w_t2 : (words1.drop 24).all (fun c => isCode c || c.before args0 about1) = true := by decide +kernel
theorem w_tables : (allAtoms (Jvm.Cond.code x code maxLocals ret :: tables_1)).before args0 about1 = true := by
  rw [allAtoms_all]
  show words1.all (fun c => c.before args0 about1) = true
  refine all_split ?_ w_codes
  rw [← List.take_append_drop 24 words1, List.all_append, w_t1, w_t2]
  rfl
set_option maxRecDepth 65536 in
theorem w_case : (Jvm.Cond.and given_1 narrow_1).before args0 about1 = true := by decide +kernel
theorem w_applies : (headSpec (Jvm.Cond.code x code maxLocals ret :: tables_1) room_1).applies x e0.platform about1 = true :=
  (Spec.applies_iff w_frames).mpr ⟨w_running, w_runnable, w_alone, w_named, w_hears, w_ripe, w_room, w_tables⟩
theorem atStart : AtStart classFile x code maxLocals ret World_1 tables_1 room_1 Calls_1 rest_1 Pre_1 launch0 p0 e0 about1 theMethod args0 below0 :=
  ⟨lists_1, trivial, launch0.admits_env _ _ _, launch0.least_env, fairChoices_fair.cas, fairChoices_fair.clock, w_frames, w_args, w_heap, w_applies, trivial, trivial, w_case⟩
end start1
theorem witness_1 : WitnessClaimed_1 := ⟨start1.p0, start1.e0, start1.about1, start1.theMethod, start1.args0, start1.below0, start1.atStart⟩
end Jvm.Pilot.@@N@@
