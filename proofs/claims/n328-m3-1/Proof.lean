import JvmDerived
import JvmDerived.Pilot.@@N@@Statement
import JvmDerived.Pilot.@@N@@Code
set_option linter.unusedVariables false
set_option linter.unusedSimpArgs false
namespace Jvm.Pilot.@@N@@
open Jvm Jvm.ClassFile Sem Op Lib Jvm.Free Jvm.Stand Jvm.LawKit Jvm.RoadKit Bundle Jvm.Pilot.@@N@@.Jvm.D
/-! ## the walk's own kit: 'from this pc on the body comes to its end, in Φ' (X.G), and one rule a step -/
def OwC (p : Program) (l : Launch) (e : Env) (R : Room) (s : State) (m : MethodId) (args : Array Value) (below : List Frame) (meth : Method) (c : Code) (Z : State) (own nm : String) (bytes : ByteArray) (mL : Nat) (ret : Option FieldType) (n0 kM nM : Nat) (Φ : Option Value → Heap → Prop) : Prop :=
  p.tables.exec = Jvm.exec ∧ c.code = bytes ∧ c.maxLocals = mL ∧ s.vm.findClass own = some m.cls ∧ Z.Warmed39 s.vm ∧ meth.sig.returnType = ret ∧ meth.locks = false ∧ meth.name = nm
section OwKit
variable {p : Program} {l : Launch} {e : Env} {R : Room} {s : State} {m : MethodId} {args : Array Value} {below : List Frame} {meth : Method} {c : Code} {Z : State} {own nm : String} {bytes : ByteArray} {mL : Nat} {ret : Option FieldType} {n0 kM nM : Nat} {Φ : Option Value → Heap → Prop}
variable {a0 : Array Value} {h : Heap} {k n pc q : Nat} {Ls Ls' : Array Slot} {st rest : List Value}
def OwC.G (_X : OwC p l e R s m args below meth c Z own nm bytes mL ret n0 kM nM Φ) (h : Heap) (k n pc : Nat) (Ls : Array Slot) (st : List Value) : Prop :=
  ∀ T locs, Stand p l e R s m args below meth c T locs k n → T.heap = h → Fr n0 locs →
    ∃ v s₂ L, Steps p.tables e below (T.setTop (mkF m pc Ls st)) s₂ ∧ s₂.status = .running ∧ Ended s₂ below (.returned v) ∧ (Φ v s₂.heap ∧ Fr n0 L) ∧ FrameEnd s (.returned v) s₂ L kM nM
variable (X : OwC p l e R s m args below meth c Z own nm bytes mL ret n0 kM nM Φ)
theorem OwC.step {pc' : Nat} {st' : List Value} (g : X.G h k n pc' Ls' st') (w : ∀ T locs, Stand p l e R s m args below meth c T locs k n → ∀ t, Steps p.tables e below (T.setTop (mkF m pc' Ls' st')) t → Steps p.tables e below (T.setTop (mkF m pc Ls st)) t) : X.G h k n pc Ls st := fun T locs Y eT N => by
  obtain ⟨v, s₂, L, r1, r⟩ := g T locs Y eT N
  exact ⟨v, s₂, L, w T locs Y _ r1, r⟩
theorem OwC.hd (X : OwC p l e R s m args below meth c Z own nm bytes mL ret n0 kM nM Φ) {i : Instr} {len : Nat} (d : decode bytes pc = .ok (i, len)) : decode c.code pc = .ok (i, len) := hb X.2.1 d
/-! a name for the top of the stack -/
theorem OwC.nmI {x : Int32} (g : ∀ v : Int32, v = x → X.G h k n pc Ls (.int v :: st)) : X.G h k n pc Ls (.int x :: st) := g x rfl
theorem OwC.nmJ {x : Int64} (g : ∀ v : Int64, v = x → X.G h k n pc Ls (.long v :: st)) : X.G h k n pc Ls (.long x :: st) := g x rfl
theorem OwC.foldI {x v : Int32} (e : x = v) (g : X.G h k n pc Ls (.int v :: st)) : X.G h k n pc Ls (.int x :: st) := by subst e; exact g
theorem OwC.foldJ {x v : Int64} (e : x = v) (g : X.G h k n pc Ls (.long v :: st)) : X.G h k n pc Ls (.long x :: st) := by subst e; exact g
/-! loads and stores -/
theorem OwC.iloadN {j : Fin 4} {v : Int32} (d : decode bytes pc = .ok (.iload_n j, 1)) (hl : Ls[j.val]? = some (.val (.int v))) (hq : pc + 1 = q) (g : X.G h k n q Ls (.int v :: st)) : X.G h k n pc Ls st := by
  subst hq; exact X.step g fun T _ Y t r => XS.iloadN Y.here X.1 rfl (X.hd d) hl r
theorem OwC.iload {j : Nat} {v : Int32} (d : decode bytes pc = .ok (.iload j, 2)) (hl : Ls[j]? = some (.val (.int v))) (hq : pc + 2 = q) (g : X.G h k n q Ls (.int v :: st)) : X.G h k n pc Ls st := by
  subst hq; exact X.step g fun T _ Y t r => XS.iload Y.here X.1 rfl (X.hd d) hl r
theorem OwC.lloadN {j : Fin 4} {v : Int64} (d : decode bytes pc = .ok (.lload_n j, 1)) (hl : Ls[j.val]? = some (.val (.long v))) (hq : pc + 1 = q) (g : X.G h k n q Ls (.long v :: st)) : X.G h k n pc Ls st := by
  subst hq; exact X.step g fun T _ Y t r => XT.lloadN Y.here X.1 rfl (X.hd d) hl r
theorem OwC.lload {j : Nat} {v : Int64} (d : decode bytes pc = .ok (.lload j, 2)) (hl : Ls[j]? = some (.val (.long v))) (hq : pc + 2 = q) (g : X.G h k n q Ls (.long v :: st)) : X.G h k n pc Ls st := by
  subst hq; exact X.step g fun T _ Y t r => XT.lload Y.here X.1 rfl (X.hd d) hl r
theorem OwC.aloadN {j : Fin 4} {v : Value} (d : decode bytes pc = .ok (.aload_n j, 1)) (hl : Ls[j.val]? = some (.val v)) (hv : v.isRef = true) (hq : pc + 1 = q) (g : X.G h k n q Ls (v :: st)) : X.G h k n pc Ls st := by
  subst hq; exact X.step g fun T _ Y t r => XS.aloadN Y.here X.1 rfl (X.hd d) hl hv r
theorem OwC.aload {j : Nat} {v : Value} (d : decode bytes pc = .ok (.aload j, 2)) (hl : Ls[j]? = some (.val v)) (hv : v.isRef = true) (hq : pc + 2 = q) (g : X.G h k n q Ls (v :: st)) : X.G h k n pc Ls st := by
  subst hq; exact X.step g fun T _ Y t r => XS.aload Y.here X.1 rfl (X.hd d) hl hv r
theorem OwC.istoreN {j : Fin 4} {x : Int32} (d : decode bytes pc = .ok (.istore_n j, 1)) (hl : storeLocals Ls j.val (.int x) = some Ls') (hq : pc + 1 = q) (g : X.G h k n q Ls' st) : X.G h k n pc Ls (.int x :: st) := by
  subst hq; exact X.step g fun T _ Y t r => XS.istoreN Y.here X.1 rfl (X.hd d) rfl hl r
theorem OwC.istore {j : Nat} {x : Int32} (d : decode bytes pc = .ok (.istore j, 2)) (hl : storeLocals Ls j (.int x) = some Ls') (hq : pc + 2 = q) (g : X.G h k n q Ls' st) : X.G h k n pc Ls (.int x :: st) := by
  subst hq; exact X.step g fun T _ Y t r => XS.istore Y.here X.1 rfl (X.hd d) rfl hl r
theorem OwC.lstoreN {j : Fin 4} {x : Int64} (d : decode bytes pc = .ok (.lstore_n j, 1)) (hl : storeLocals Ls j.val (.long x) = some Ls') (hq : pc + 1 = q) (g : X.G h k n q Ls' st) : X.G h k n pc Ls (.long x :: st) := by
  subst hq; exact X.step g fun T _ Y t r => XT.lstoreN Y.here X.1 rfl (X.hd d) rfl hl r
theorem OwC.lstore {j : Nat} {x : Int64} (d : decode bytes pc = .ok (.lstore j, 2)) (hl : storeLocals Ls j (.long x) = some Ls') (hq : pc + 2 = q) (g : X.G h k n q Ls' st) : X.G h k n pc Ls (.long x :: st) := by
  subst hq; exact X.step g fun T _ Y t r => XT.lstore Y.here X.1 rfl (X.hd d) rfl hl r
theorem OwC.astoreN {j : Fin 4} {x : Value} (d : decode bytes pc = .ok (.astore_n j, 1)) (hv : x.isRef = true) (hl : storeLocals Ls j.val x = some Ls') (hq : pc + 1 = q) (g : X.G h k n q Ls' st) : X.G h k n pc Ls (x :: st) := by
  subst hq; exact X.step g fun T _ Y t r => XS.astoreN Y.here X.1 rfl (X.hd d) rfl hv hl r
theorem OwC.astore {j : Nat} {x : Value} (d : decode bytes pc = .ok (.astore j, 2)) (hv : x.isRef = true) (hl : storeLocals Ls j x = some Ls') (hq : pc + 2 = q) (g : X.G h k n q Ls' st) : X.G h k n pc Ls (x :: st) := by
  subst hq; exact X.step g fun T _ Y t r => XS.astore Y.here X.1 rfl (X.hd d) rfl hv hl r
/-! constants -/
theorem OwC.iconst {i : Int} (v : Int32) (d : decode bytes pc = .ok (.iconst i, 1)) (hv : Int32.ofInt i = v) (hq : pc + 1 = q) (g : X.G h k n q Ls (.int v :: st)) : X.G h k n pc Ls st := by
  subst hq hv; exact X.step g fun T _ Y t r => XS.iconst Y.here X.1 rfl (X.hd d) r
theorem OwC.bipush {i : Int} (v : Int32) (d : decode bytes pc = .ok (.bipush i, 2)) (hv : (Int8.ofInt i).toInt32 = v) (hq : pc + 2 = q) (g : X.G h k n q Ls (.int v :: st)) : X.G h k n pc Ls st := by
  subst hq hv; exact X.step g fun T _ Y t r => XS.bipush Y.here X.1 rfl (X.hd d) r
theorem OwC.sipush {i : Int} (v : Int32) (d : decode bytes pc = .ok (.sipush i, 3)) (hv : (Int16.ofInt i).toInt32 = v) (hq : pc + 3 = q) (g : X.G h k n q Ls (.int v :: st)) : X.G h k n pc Ls st := by
  subst hq hv; exact X.step g fun T _ Y t r => XS.sipush Y.here X.1 rfl (X.hd d) r
theorem OwC.lconst {j : Fin 2} (v : Int64) (d : decode bytes pc = .ok (.lconst j, 1)) (hv : Int64.ofNat j = v) (hq : pc + 1 = q) (g : X.G h k n q Ls (.long v :: st)) : X.G h k n pc Ls st := by
  subst hq hv; exact X.step g fun T _ Y t r => XT.lconst Y.here X.1 rfl (X.hd d) r
theorem OwC.aconstNull (d : decode bytes pc = .ok (.aconst_null, 1)) (hq : pc + 1 = q) (g : X.G h k n q Ls (.null :: st)) : X.G h k n pc Ls st := by
  subst hq; exact X.step g fun T _ Y t r => XS.aconstNull Y.here X.1 rfl (X.hd d) r
theorem OwC.ldc {i : Nat} {v : Int32} (w : (Cond.constant own i v).before a0 Z = true) (d : decode bytes pc = .ok (.ldc i, 2)) (hq : pc + 2 = q) (g : X.G h k n q Ls (.int v :: st)) : X.G h k n pc Ls st := by
  subst hq; exact X.step g fun T _ Y t r => Y.ldcI X.1 X.2.2.2.1 (mvT X.2.2.2.2.1 w) rfl (X.hd d) r
theorem OwC.ldc_w {i : Nat} {v : Int32} (w : (Cond.constant own i v).before a0 Z = true) (d : decode bytes pc = .ok (.ldc_w i, 3)) (hq : pc + 3 = q) (g : X.G h k n q Ls (.int v :: st)) : X.G h k n pc Ls st := by
  subst hq; exact X.step g fun T _ Y t r => Y.ldcWI X.1 X.2.2.2.1 (mvT X.2.2.2.2.1 w) rfl (X.hd d) r
theorem OwC.ldc2_w {i : Nat} {v : Int64} (w : (Cond.constantLong own i v).before a0 Z = true) (d : decode bytes pc = .ok (.ldc2_w i, 3)) (hq : pc + 3 = q) (g : X.G h k n q Ls (.long v :: st)) : X.G h k n pc Ls st := by
  subst hq; exact X.step g fun T _ Y t r => Y.ldc2J X.1 X.2.2.2.1 (mvT X.2.2.2.2.1 w) rfl (X.hd d) r
/-! arithmetic -/
theorem OwC.iadd {x y : Int32} (d : decode bytes pc = .ok (.iadd, 1)) (hq : pc + 1 = q) (g : X.G h k n q Ls (.int (x + y) :: st)) : X.G h k n pc Ls (.int y :: .int x :: st) := by
  subst hq; exact X.step g fun T _ Y t r => XS.iadd Y.here X.1 rfl (X.hd d) rfl r
theorem OwC.isub {x y : Int32} (d : decode bytes pc = .ok (.isub, 1)) (hq : pc + 1 = q) (g : X.G h k n q Ls (.int (x - y) :: st)) : X.G h k n pc Ls (.int y :: .int x :: st) := by
  subst hq; exact X.step g fun T _ Y t r => XS.isub Y.here X.1 rfl (X.hd d) rfl r
theorem OwC.imul {x y : Int32} (d : decode bytes pc = .ok (.imul, 1)) (hq : pc + 1 = q) (g : X.G h k n q Ls (.int (x * y) :: st)) : X.G h k n pc Ls (.int y :: .int x :: st) := by
  subst hq; exact X.step g fun T _ Y t r => XS.imul Y.here X.1 rfl (X.hd d) rfl r
theorem OwC.iand {x y : Int32} (d : decode bytes pc = .ok (.iand, 1)) (hq : pc + 1 = q) (g : X.G h k n q Ls (.int (x &&& y) :: st)) : X.G h k n pc Ls (.int y :: .int x :: st) := by
  subst hq; exact X.step g fun T _ Y t r => XS.iand Y.here X.1 rfl (X.hd d) rfl r
theorem OwC.ixor {x y : Int32} (d : decode bytes pc = .ok (.ixor, 1)) (hq : pc + 1 = q) (g : X.G h k n q Ls (.int (x ^^^ y) :: st)) : X.G h k n pc Ls (.int y :: .int x :: st) := by
  subst hq; exact X.step g fun T _ Y t r => XT.ixor Y.here X.1 rfl (X.hd d) rfl r
theorem OwC.ior {x y : Int32} (d : decode bytes pc = .ok (.ior, 1)) (hq : pc + 1 = q) (g : X.G h k n q Ls (.int (x ||| y) :: st)) : X.G h k n pc Ls (.int y :: .int x :: st) := by
  subst hq; exact X.step g fun T _ Y t r => XT.ior Y.here X.1 rfl (X.hd d) rfl r
theorem OwC.ishl {x y : Int32} (d : decode bytes pc = .ok (.ishl, 1)) (hq : pc + 1 = q) (g : X.G h k n q Ls (.int (x <<< (y &&& 31)) :: st)) : X.G h k n pc Ls (.int y :: .int x :: st) := by
  subst hq; exact X.step g fun T _ Y t r => XT.ishl Y.here X.1 rfl (X.hd d) rfl r
theorem OwC.ishr {x y : Int32} (d : decode bytes pc = .ok (.ishr, 1)) (hq : pc + 1 = q) (g : X.G h k n q Ls (.int (x >>> (y &&& 31)) :: st)) : X.G h k n pc Ls (.int y :: .int x :: st) := by
  subst hq; exact X.step g fun T _ Y t r => XT.ishr Y.here X.1 rfl (X.hd d) rfl r
theorem OwC.iushr {x y : Int32} (d : decode bytes pc = .ok (.iushr, 1)) (hq : pc + 1 = q) (g : X.G h k n q Ls (.int (XT.ushr x y) :: st)) : X.G h k n pc Ls (.int y :: .int x :: st) := by
  subst hq; exact X.step g fun T _ Y t r => XT.iushr Y.here X.1 rfl (X.hd d) rfl r
theorem OwC.ladd {x y : Int64} (d : decode bytes pc = .ok (.ladd, 1)) (hq : pc + 1 = q) (g : X.G h k n q Ls (.long (x + y) :: st)) : X.G h k n pc Ls (.long y :: .long x :: st) := by
  subst hq; exact X.step g fun T _ Y t r => XT.ladd Y.here X.1 rfl (X.hd d) rfl r
theorem OwC.lsub {x y : Int64} (d : decode bytes pc = .ok (.lsub, 1)) (hq : pc + 1 = q) (g : X.G h k n q Ls (.long (x - y) :: st)) : X.G h k n pc Ls (.long y :: .long x :: st) := by
  subst hq; exact X.step g fun T _ Y t r => XT.lsub Y.here X.1 rfl (X.hd d) rfl r
theorem OwC.lmul {x y : Int64} (d : decode bytes pc = .ok (.lmul, 1)) (hq : pc + 1 = q) (g : X.G h k n q Ls (.long (x * y) :: st)) : X.G h k n pc Ls (.long y :: .long x :: st) := by
  subst hq; exact X.step g fun T _ Y t r => XT.lmul Y.here X.1 rfl (X.hd d) rfl r
theorem OwC.land {x y : Int64} (d : decode bytes pc = .ok (.land, 1)) (hq : pc + 1 = q) (g : X.G h k n q Ls (.long (x &&& y) :: st)) : X.G h k n pc Ls (.long y :: .long x :: st) := by
  subst hq; exact X.step g fun T _ Y t r => XT.land Y.here X.1 rfl (X.hd d) rfl r
theorem OwC.lxor {x y : Int64} (d : decode bytes pc = .ok (.lxor, 1)) (hq : pc + 1 = q) (g : X.G h k n q Ls (.long (x ^^^ y) :: st)) : X.G h k n pc Ls (.long y :: .long x :: st) := by
  subst hq; exact X.step g fun T _ Y t r => XT.lxor Y.here X.1 rfl (X.hd d) rfl r
theorem OwC.lor {x y : Int64} (d : decode bytes pc = .ok (.lor, 1)) (hq : pc + 1 = q) (g : X.G h k n q Ls (.long (x ||| y) :: st)) : X.G h k n pc Ls (.long y :: .long x :: st) := by
  subst hq; exact X.step g fun T _ Y t r => XT.lor Y.here X.1 rfl (X.hd d) rfl r
theorem OwC.lshl {x : Int64} {y : Int32} (d : decode bytes pc = .ok (.lshl, 1)) (hq : pc + 1 = q) (g : X.G h k n q Ls (.long (x <<< (y.toInt64 &&& 63)) :: st)) : X.G h k n pc Ls (.int y :: .long x :: st) := by
  subst hq; exact X.step g fun T _ Y t r => XT.lshl Y.here X.1 rfl (X.hd d) rfl r
theorem OwC.lshr {x : Int64} {y : Int32} (d : decode bytes pc = .ok (.lshr, 1)) (hq : pc + 1 = q) (g : X.G h k n q Ls (.long (x >>> (y.toInt64 &&& 63)) :: st)) : X.G h k n pc Ls (.int y :: .long x :: st) := by
  subst hq; exact X.step g fun T _ Y t r => XT.lshr Y.here X.1 rfl (X.hd d) rfl r
theorem OwC.lushr {x : Int64} {y : Int32} (d : decode bytes pc = .ok (.lushr, 1)) (hq : pc + 1 = q) (g : X.G h k n q Ls (.long (XT.ushrL x y) :: st)) : X.G h k n pc Ls (.int y :: .long x :: st) := by
  subst hq; exact X.step g fun T _ Y t r => XT.lushr Y.here X.1 rfl (X.hd d) rfl r
theorem OwC.idiv {x y : Int32} (d : decode bytes pc = .ok (.idiv, 1)) (hy : y ≠ 0) (hq : pc + 1 = q) (g : X.G h k n q Ls (.int (x / y) :: st)) : X.G h k n pc Ls (.int y :: .int x :: st) := by
  subst hq; exact X.step g fun T _ Y t r => XS.idiv Y.here X.1 rfl (X.hd d) rfl hy r
theorem OwC.ldiv {x y : Int64} (d : decode bytes pc = .ok (.ldiv, 1)) (hy : y ≠ 0) (hq : pc + 1 = q) (g : X.G h k n q Ls (.long (x / y) :: st)) : X.G h k n pc Ls (.long y :: .long x :: st) := by
  subst hq; exact X.step g fun T _ Y t r => XT.ldiv Y.here X.1 rfl (X.hd d) rfl hy r
theorem OwC.irem {x y : Int32} (d : decode bytes pc = .ok (.irem, 1)) (hy : y ≠ 0) (hq : pc + 1 = q) (g : X.G h k n q Ls (.int (x % y) :: st)) : X.G h k n pc Ls (.int y :: .int x :: st) := by
  subst hq; exact X.step g fun T _ Y t r => iremM Y X.1 rfl (X.hd d) rfl hy r
theorem ow_lrem (x y : Int64) : x - (x / y) * y = x % y := by
  rw [← Int64.toInt_inj, Int64.toInt_sub, Int64.toInt_mul, Int64.toInt_mod, Int64.toInt_div]
  have h1 : (((x.toInt.tdiv y.toInt).bmod (2 ^ 64) * y.toInt).bmod (2 ^ 64)) = (x.toInt.tdiv y.toInt * y.toInt).bmod (2 ^ 64) := by simp [Int.bmod_mul_bmod]
  rw [h1, Int.sub_bmod_bmod]
  have h2 : x.toInt - x.toInt.tdiv y.toInt * y.toInt = x.toInt.tmod y.toInt := by
    have := Int.mul_tdiv_add_tmod x.toInt y.toInt
    rw [Int.mul_comm] at this; omega
  rw [h2, ← Int64.toInt_mod, Int64.toInt_bmod]
theorem OwC.lrem {x y : Int64} (d : decode bytes pc = .ok (.lrem, 1)) (hy : y ≠ 0) (hq : pc + 1 = q) (g : X.G h k n q Ls (.long (x % y) :: st)) : X.G h k n pc Ls (.long y :: .long x :: st) := by
  subst hq; exact X.step g fun T _ Y t r => XT.lrem Y.here X.1 rfl (X.hd d) rfl hy (by rw [ow_lrem]; exact r)
theorem OwC.ineg {x : Int32} (d : decode bytes pc = .ok (.ineg, 1)) (hq : pc + 1 = q) (g : X.G h k n q Ls (.int (-x) :: st)) : X.G h k n pc Ls (.int x :: st) := by
  subst hq; exact X.step g fun T _ Y t r => XS.ineg Y.here X.1 rfl (X.hd d) rfl r
theorem OwC.lneg {x : Int64} (d : decode bytes pc = .ok (.lneg, 1)) (hq : pc + 1 = q) (g : X.G h k n q Ls (.long (-x) :: st)) : X.G h k n pc Ls (.long x :: st) := by
  subst hq; exact X.step g fun T _ Y t r => XT.lneg Y.here X.1 rfl (X.hd d) rfl r
theorem OwC.i2l {x : Int32} (d : decode bytes pc = .ok (.i2l, 1)) (hq : pc + 1 = q) (g : X.G h k n q Ls (.long (x.toInt64) :: st)) : X.G h k n pc Ls (.int x :: st) := by
  subst hq; exact X.step g fun T _ Y t r => XT.i2l Y.here X.1 rfl (X.hd d) rfl r
theorem OwC.l2i {x : Int64} (d : decode bytes pc = .ok (.l2i, 1)) (hq : pc + 1 = q) (g : X.G h k n q Ls (.int (x.toInt32) :: st)) : X.G h k n pc Ls (.long x :: st) := by
  subst hq; exact X.step g fun T _ Y t r => XT.l2i Y.here X.1 rfl (X.hd d) rfl r
theorem OwC.i2b {x : Int32} (d : decode bytes pc = .ok (.i2b, 1)) (hq : pc + 1 = q) (g : X.G h k n q Ls (.int (x.toInt8.toInt32) :: st)) : X.G h k n pc Ls (.int x :: st) := by
  subst hq; exact X.step g fun T _ Y t r => XT.i2b Y.here X.1 rfl (X.hd d) rfl r
theorem OwC.i2c {x : Int32} (d : decode bytes pc = .ok (.i2c, 1)) (hq : pc + 1 = q) (g : X.G h k n q Ls (.int (x.toUInt32.toUInt16.toUInt32.toInt32) :: st)) : X.G h k n pc Ls (.int x :: st) := by
  subst hq; exact X.step g fun T _ Y t r => XT.i2c Y.here X.1 rfl (X.hd d) rfl r
theorem OwC.iinc {j : Nat} {cst : Int} {x : Int32} (v : Int32) (d : decode bytes pc = .ok (.iinc j cst, 3)) (hv : Int32.ofInt cst = v) (hl : Ls[j]? = some (.val (.int x))) (hl' : storeLocals Ls j (.int (x + v)) = some Ls') (hq : pc + 3 = q) (g : X.G h k n q Ls' st) : X.G h k n pc Ls st := by
  subst hq hv; exact X.step g fun T _ Y t r => XS.iinc Y.here X.1 rfl (X.hd d) hl hl' r
/-! the stack -/
theorem OwC.dup {x : Value} (d : decode bytes pc = .ok (.dup, 1)) (hc : x.category = 1) (hq : pc + 1 = q) (g : X.G h k n q Ls (x :: x :: st)) : X.G h k n pc Ls (x :: st) := by
  subst hq; exact X.step g fun T _ Y t r => XS.dup Y.here X.1 rfl (X.hd d) rfl hc r
theorem OwC.pop {x : Value} (d : decode bytes pc = .ok (.pop, 1)) (hc : x.category = 1) (hq : pc + 1 = q) (g : X.G h k n q Ls st) : X.G h k n pc Ls (x :: st) := by
  subst hq; exact X.step g fun T _ Y t r => XT.pop Y.here X.1 rfl (X.hd d) rfl hc r
theorem OwC.dup_x1 {x y : Value} (d : decode bytes pc = .ok (.dup_x1, 1)) (hc : x.category = 1) (hc' : y.category = 1) (hq : pc + 1 = q) (g : X.G h k n q Ls (x :: y :: x :: st)) : X.G h k n pc Ls (x :: y :: st) := by
  subst hq; exact X.step g fun T _ Y t r => XT.dupX1 Y.here X.1 rfl (X.hd d) rfl hc hc' r
theorem OwC.dup2 {x y : Value} (d : decode bytes pc = .ok (.dup2, 1)) (hc : x.category = 1) (hc' : y.category = 1) (hq : pc + 1 = q) (g : X.G h k n q Ls (x :: y :: x :: y :: st)) : X.G h k n pc Ls (x :: y :: st) := by
  subst hq; exact X.step g fun T _ Y t r => XT.dup2 Y.here X.1 rfl (X.hd d) rfl hc hc' r
theorem OwC.dup2L {x : Int64} (d : decode bytes pc = .ok (.dup2, 1)) (hq : pc + 1 = q) (g : X.G h k n q Ls (.long x :: .long x :: st)) : X.G h k n pc Ls (.long x :: st) := by
  subst hq; exact X.step g fun T _ Y t r => XT.dup2L Y.here X.1 rfl (X.hd d) rfl r
/-! branches -/
theorem OwC.goto {o : Int} {q' : Nat} (d : decode bytes pc = .ok (.goto o, 3)) (hp : 0 ≤ (pc : Int) + o ∧ ((pc : Int) + o).toNat = q') (g : X.G h k n q' Ls st) : X.G h k n pc Ls st :=
  X.step g fun T _ Y t r => XS.goto Y.here X.1 rfl rfl (X.hd d) hp.1 hp.2 r
theorem OwC.icmpB {cd : ClassFile.Cond} {o : Int} {q' : Nat} {x y : Int32} (d : decode bytes pc = .ok (.if_icmp cd o, 3)) (hp : 0 ≤ (pc : Int) + o ∧ ((pc : Int) + o).toNat = q') (hq : pc + 3 = q) (g1 : if_icmp.holds cd x y = true → X.G h k n q' Ls st) (g0 : if_icmp.holds cd x y = false → X.G h k n q Ls st) : X.G h k n pc Ls (.int y :: .int x :: st) := by
  subst hq
  cases hc : if_icmp.holds cd x y with
  | true => exact X.step (g1 hc) fun T _ Y t r => XS.icmpYes Y.here X.1 rfl rfl (X.hd d) rfl hc hp.1 hp.2 r
  | false => exact X.step (g0 hc) fun T _ Y t r => XS.icmpNo Y.here X.1 rfl (X.hd d) rfl hc r
theorem OwC.ifB {cd : ClassFile.Cond} {o : Int} {q' : Nat} {x : Int32} (d : decode bytes pc = .ok (.ifCond cd o, 3)) (hp : 0 ≤ (pc : Int) + o ∧ ((pc : Int) + o).toNat = q') (hq : pc + 3 = q) (g1 : ifCond.holds cd x = true → X.G h k n q' Ls st) (g0 : ifCond.holds cd x = false → X.G h k n q Ls st) : X.G h k n pc Ls (.int x :: st) := by
  subst hq
  cases hc : ifCond.holds cd x with
  | true => exact X.step (g1 hc) fun T _ Y t r => XS.ifYes Y.here X.1 rfl rfl (X.hd d) rfl hc hp.1 hp.2 r
  | false => exact X.step (g0 hc) fun T _ Y t r => XS.ifNo Y.here X.1 rfl (X.hd d) rfl hc r
def owCd : ClassFile.Cond → Int → Int → Prop
  | .eq, a, b => a = b | .ne, a, b => ¬ a = b | .lt, a, b => a < b | .ge, a, b => b ≤ a | .gt, a, b => b < a | .le, a, b => a ≤ b
theorem ow_icmp (cd : ClassFile.Cond) (x y : Int32) : if_icmp.holds cd x y = true ↔ owCd cd x.toInt y.toInt := by
  cases cd <;> simp [if_icmp.holds, owCd, ← Int32.toInt_inj, Int32.lt_iff_toInt_lt, Int32.le_iff_toInt_le]
theorem ow_if (cd : ClassFile.Cond) (x : Int32) : ifCond.holds cd x = true ↔ owCd cd x.toInt 0 := by rw [if0, ow_icmp]; rfl
theorem ow_icmpF {cd : ClassFile.Cond} {x y : Int32} (hc : if_icmp.holds cd x y = false) : ¬ owCd cd x.toInt y.toInt := fun q => by rw [(ow_icmp cd x y).mpr q] at hc; cases hc
theorem ow_ifF {cd : ClassFile.Cond} {x : Int32} (hc : ifCond.holds cd x = false) : ¬ owCd cd x.toInt 0 := fun q => by rw [(ow_if cd x).mpr q] at hc; cases hc
theorem ow_lc (cd : ClassFile.Cond) (x y : Int64) : owCd cd (XT.cmpL x y).toInt 0 ↔ owCd cd x.toInt y.toInt := by
  have e1 : (1 : Int32).toInt = 1 := rfl
  have e0 : (0 : Int32).toInt = 0 := rfl
  have em : (-1 : Int32).toInt = -1 := rfl
  unfold XT.cmpL
  split
  · rename_i h1; rw [Int64.lt_iff_toInt_lt] at h1; cases cd <;> simp only [owCd, e1] <;> omega
  · rename_i h1; rw [Int64.lt_iff_toInt_lt] at h1
    split
    · rename_i h2; subst h2; cases cd <;> simp only [owCd, e0] <;> omega
    · rename_i h2; rw [← Int64.toInt_inj] at h2; cases cd <;> simp only [owCd, em] <;> omega
theorem OwC.icmp_eq {o : Int} {q' : Nat} {x y : Int32} {a b : Int} (d : decode bytes pc = .ok (.if_icmp .eq o, 3)) (hx : x.toInt = a) (hy : y.toInt = b) (hp : 0 ≤ (pc : Int) + o ∧ ((pc : Int) + o).toNat = q') (hq : pc + 3 = q) (g1 : a = b → X.G h k n q' Ls st) (g0 : ¬ a = b → X.G h k n q Ls st) : X.G h k n pc Ls (.int y :: .int x :: st) := by
  subst hx hy; exact X.icmpB d hp hq (fun hc => g1 ((ow_icmp _ _ _).mp hc)) (fun hc => g0 (by have := ow_icmpF hc; simp only [owCd] at this; omega))
theorem OwC.if_eq {o : Int} {q' : Nat} {x : Int32} {a : Int} (d : decode bytes pc = .ok (.ifCond .eq o, 3)) (hx : x.toInt = a) (hp : 0 ≤ (pc : Int) + o ∧ ((pc : Int) + o).toNat = q') (hq : pc + 3 = q) (g1 : a = 0 → X.G h k n q' Ls st) (g0 : ¬ a = 0 → X.G h k n q Ls st) : X.G h k n pc Ls (.int x :: st) := by
  subst hx; exact X.ifB d hp hq (fun hc => g1 ((ow_if _ _).mp hc)) (fun hc => g0 (by have := ow_ifF hc; simp only [owCd] at this; omega))
theorem OwC.lcmp_eq {o : Int} {q1 q' : Nat} {x y : Int64} {a b : Int} (d1 : decode bytes pc = .ok (.lcmp, 1)) (hq1 : pc + 1 = q1) (d : decode bytes q1 = .ok (.ifCond .eq o, 3)) (hx : x.toInt = a) (hy : y.toInt = b) (hp : 0 ≤ (q1 : Int) + o ∧ ((q1 : Int) + o).toNat = q') (hq : q1 + 3 = q) (g1 : a = b → X.G h k n q' Ls st) (g0 : ¬ a = b → X.G h k n q Ls st) : X.G h k n pc Ls (.long y :: .long x :: st) := by
  subst hx hy hq1; refine X.step (X.ifB d hp hq (fun hc => g1 ((ow_lc _ _ _).mp ((ow_if _ _).mp hc))) (fun hc => g0 (by have := mt (ow_lc _ _ _).mpr (ow_ifF hc); simp only [owCd] at this; omega))) fun T _ Y t r => XT.lcmp Y.here X.1 rfl (X.hd d1) rfl r
theorem OwC.icmp_ne {o : Int} {q' : Nat} {x y : Int32} {a b : Int} (d : decode bytes pc = .ok (.if_icmp .ne o, 3)) (hx : x.toInt = a) (hy : y.toInt = b) (hp : 0 ≤ (pc : Int) + o ∧ ((pc : Int) + o).toNat = q') (hq : pc + 3 = q) (g1 : ¬ a = b → X.G h k n q' Ls st) (g0 : a = b → X.G h k n q Ls st) : X.G h k n pc Ls (.int y :: .int x :: st) := by
  subst hx hy; exact X.icmpB d hp hq (fun hc => g1 ((ow_icmp _ _ _).mp hc)) (fun hc => g0 (by have := ow_icmpF hc; simp only [owCd] at this; omega))
theorem OwC.if_ne {o : Int} {q' : Nat} {x : Int32} {a : Int} (d : decode bytes pc = .ok (.ifCond .ne o, 3)) (hx : x.toInt = a) (hp : 0 ≤ (pc : Int) + o ∧ ((pc : Int) + o).toNat = q') (hq : pc + 3 = q) (g1 : ¬ a = 0 → X.G h k n q' Ls st) (g0 : a = 0 → X.G h k n q Ls st) : X.G h k n pc Ls (.int x :: st) := by
  subst hx; exact X.ifB d hp hq (fun hc => g1 ((ow_if _ _).mp hc)) (fun hc => g0 (by have := ow_ifF hc; simp only [owCd] at this; omega))
theorem OwC.lcmp_ne {o : Int} {q1 q' : Nat} {x y : Int64} {a b : Int} (d1 : decode bytes pc = .ok (.lcmp, 1)) (hq1 : pc + 1 = q1) (d : decode bytes q1 = .ok (.ifCond .ne o, 3)) (hx : x.toInt = a) (hy : y.toInt = b) (hp : 0 ≤ (q1 : Int) + o ∧ ((q1 : Int) + o).toNat = q') (hq : q1 + 3 = q) (g1 : ¬ a = b → X.G h k n q' Ls st) (g0 : a = b → X.G h k n q Ls st) : X.G h k n pc Ls (.long y :: .long x :: st) := by
  subst hx hy hq1; refine X.step (X.ifB d hp hq (fun hc => g1 ((ow_lc _ _ _).mp ((ow_if _ _).mp hc))) (fun hc => g0 (by have := mt (ow_lc _ _ _).mpr (ow_ifF hc); simp only [owCd] at this; omega))) fun T _ Y t r => XT.lcmp Y.here X.1 rfl (X.hd d1) rfl r
theorem OwC.icmp_lt {o : Int} {q' : Nat} {x y : Int32} {a b : Int} (d : decode bytes pc = .ok (.if_icmp .lt o, 3)) (hx : x.toInt = a) (hy : y.toInt = b) (hp : 0 ≤ (pc : Int) + o ∧ ((pc : Int) + o).toNat = q') (hq : pc + 3 = q) (g1 : a < b → X.G h k n q' Ls st) (g0 : b ≤ a → X.G h k n q Ls st) : X.G h k n pc Ls (.int y :: .int x :: st) := by
  subst hx hy; exact X.icmpB d hp hq (fun hc => g1 ((ow_icmp _ _ _).mp hc)) (fun hc => g0 (by have := ow_icmpF hc; simp only [owCd] at this; omega))
theorem OwC.if_lt {o : Int} {q' : Nat} {x : Int32} {a : Int} (d : decode bytes pc = .ok (.ifCond .lt o, 3)) (hx : x.toInt = a) (hp : 0 ≤ (pc : Int) + o ∧ ((pc : Int) + o).toNat = q') (hq : pc + 3 = q) (g1 : a < 0 → X.G h k n q' Ls st) (g0 : 0 ≤ a → X.G h k n q Ls st) : X.G h k n pc Ls (.int x :: st) := by
  subst hx; exact X.ifB d hp hq (fun hc => g1 ((ow_if _ _).mp hc)) (fun hc => g0 (by have := ow_ifF hc; simp only [owCd] at this; omega))
theorem OwC.lcmp_lt {o : Int} {q1 q' : Nat} {x y : Int64} {a b : Int} (d1 : decode bytes pc = .ok (.lcmp, 1)) (hq1 : pc + 1 = q1) (d : decode bytes q1 = .ok (.ifCond .lt o, 3)) (hx : x.toInt = a) (hy : y.toInt = b) (hp : 0 ≤ (q1 : Int) + o ∧ ((q1 : Int) + o).toNat = q') (hq : q1 + 3 = q) (g1 : a < b → X.G h k n q' Ls st) (g0 : b ≤ a → X.G h k n q Ls st) : X.G h k n pc Ls (.long y :: .long x :: st) := by
  subst hx hy hq1; refine X.step (X.ifB d hp hq (fun hc => g1 ((ow_lc _ _ _).mp ((ow_if _ _).mp hc))) (fun hc => g0 (by have := mt (ow_lc _ _ _).mpr (ow_ifF hc); simp only [owCd] at this; omega))) fun T _ Y t r => XT.lcmp Y.here X.1 rfl (X.hd d1) rfl r
theorem OwC.icmp_ge {o : Int} {q' : Nat} {x y : Int32} {a b : Int} (d : decode bytes pc = .ok (.if_icmp .ge o, 3)) (hx : x.toInt = a) (hy : y.toInt = b) (hp : 0 ≤ (pc : Int) + o ∧ ((pc : Int) + o).toNat = q') (hq : pc + 3 = q) (g1 : b ≤ a → X.G h k n q' Ls st) (g0 : a < b → X.G h k n q Ls st) : X.G h k n pc Ls (.int y :: .int x :: st) := by
  subst hx hy; exact X.icmpB d hp hq (fun hc => g1 ((ow_icmp _ _ _).mp hc)) (fun hc => g0 (by have := ow_icmpF hc; simp only [owCd] at this; omega))
theorem OwC.if_ge {o : Int} {q' : Nat} {x : Int32} {a : Int} (d : decode bytes pc = .ok (.ifCond .ge o, 3)) (hx : x.toInt = a) (hp : 0 ≤ (pc : Int) + o ∧ ((pc : Int) + o).toNat = q') (hq : pc + 3 = q) (g1 : 0 ≤ a → X.G h k n q' Ls st) (g0 : a < 0 → X.G h k n q Ls st) : X.G h k n pc Ls (.int x :: st) := by
  subst hx; exact X.ifB d hp hq (fun hc => g1 ((ow_if _ _).mp hc)) (fun hc => g0 (by have := ow_ifF hc; simp only [owCd] at this; omega))
theorem OwC.lcmp_ge {o : Int} {q1 q' : Nat} {x y : Int64} {a b : Int} (d1 : decode bytes pc = .ok (.lcmp, 1)) (hq1 : pc + 1 = q1) (d : decode bytes q1 = .ok (.ifCond .ge o, 3)) (hx : x.toInt = a) (hy : y.toInt = b) (hp : 0 ≤ (q1 : Int) + o ∧ ((q1 : Int) + o).toNat = q') (hq : q1 + 3 = q) (g1 : b ≤ a → X.G h k n q' Ls st) (g0 : a < b → X.G h k n q Ls st) : X.G h k n pc Ls (.long y :: .long x :: st) := by
  subst hx hy hq1; refine X.step (X.ifB d hp hq (fun hc => g1 ((ow_lc _ _ _).mp ((ow_if _ _).mp hc))) (fun hc => g0 (by have := mt (ow_lc _ _ _).mpr (ow_ifF hc); simp only [owCd] at this; omega))) fun T _ Y t r => XT.lcmp Y.here X.1 rfl (X.hd d1) rfl r
theorem OwC.icmp_gt {o : Int} {q' : Nat} {x y : Int32} {a b : Int} (d : decode bytes pc = .ok (.if_icmp .gt o, 3)) (hx : x.toInt = a) (hy : y.toInt = b) (hp : 0 ≤ (pc : Int) + o ∧ ((pc : Int) + o).toNat = q') (hq : pc + 3 = q) (g1 : b < a → X.G h k n q' Ls st) (g0 : a ≤ b → X.G h k n q Ls st) : X.G h k n pc Ls (.int y :: .int x :: st) := by
  subst hx hy; exact X.icmpB d hp hq (fun hc => g1 ((ow_icmp _ _ _).mp hc)) (fun hc => g0 (by have := ow_icmpF hc; simp only [owCd] at this; omega))
theorem OwC.if_gt {o : Int} {q' : Nat} {x : Int32} {a : Int} (d : decode bytes pc = .ok (.ifCond .gt o, 3)) (hx : x.toInt = a) (hp : 0 ≤ (pc : Int) + o ∧ ((pc : Int) + o).toNat = q') (hq : pc + 3 = q) (g1 : 0 < a → X.G h k n q' Ls st) (g0 : a ≤ 0 → X.G h k n q Ls st) : X.G h k n pc Ls (.int x :: st) := by
  subst hx; exact X.ifB d hp hq (fun hc => g1 ((ow_if _ _).mp hc)) (fun hc => g0 (by have := ow_ifF hc; simp only [owCd] at this; omega))
theorem OwC.lcmp_gt {o : Int} {q1 q' : Nat} {x y : Int64} {a b : Int} (d1 : decode bytes pc = .ok (.lcmp, 1)) (hq1 : pc + 1 = q1) (d : decode bytes q1 = .ok (.ifCond .gt o, 3)) (hx : x.toInt = a) (hy : y.toInt = b) (hp : 0 ≤ (q1 : Int) + o ∧ ((q1 : Int) + o).toNat = q') (hq : q1 + 3 = q) (g1 : b < a → X.G h k n q' Ls st) (g0 : a ≤ b → X.G h k n q Ls st) : X.G h k n pc Ls (.long y :: .long x :: st) := by
  subst hx hy hq1; refine X.step (X.ifB d hp hq (fun hc => g1 ((ow_lc _ _ _).mp ((ow_if _ _).mp hc))) (fun hc => g0 (by have := mt (ow_lc _ _ _).mpr (ow_ifF hc); simp only [owCd] at this; omega))) fun T _ Y t r => XT.lcmp Y.here X.1 rfl (X.hd d1) rfl r
theorem OwC.icmp_le {o : Int} {q' : Nat} {x y : Int32} {a b : Int} (d : decode bytes pc = .ok (.if_icmp .le o, 3)) (hx : x.toInt = a) (hy : y.toInt = b) (hp : 0 ≤ (pc : Int) + o ∧ ((pc : Int) + o).toNat = q') (hq : pc + 3 = q) (g1 : a ≤ b → X.G h k n q' Ls st) (g0 : b < a → X.G h k n q Ls st) : X.G h k n pc Ls (.int y :: .int x :: st) := by
  subst hx hy; exact X.icmpB d hp hq (fun hc => g1 ((ow_icmp _ _ _).mp hc)) (fun hc => g0 (by have := ow_icmpF hc; simp only [owCd] at this; omega))
theorem OwC.if_le {o : Int} {q' : Nat} {x : Int32} {a : Int} (d : decode bytes pc = .ok (.ifCond .le o, 3)) (hx : x.toInt = a) (hp : 0 ≤ (pc : Int) + o ∧ ((pc : Int) + o).toNat = q') (hq : pc + 3 = q) (g1 : a ≤ 0 → X.G h k n q' Ls st) (g0 : 0 < a → X.G h k n q Ls st) : X.G h k n pc Ls (.int x :: st) := by
  subst hx; exact X.ifB d hp hq (fun hc => g1 ((ow_if _ _).mp hc)) (fun hc => g0 (by have := ow_ifF hc; simp only [owCd] at this; omega))
theorem OwC.lcmp_le {o : Int} {q1 q' : Nat} {x y : Int64} {a b : Int} (d1 : decode bytes pc = .ok (.lcmp, 1)) (hq1 : pc + 1 = q1) (d : decode bytes q1 = .ok (.ifCond .le o, 3)) (hx : x.toInt = a) (hy : y.toInt = b) (hp : 0 ≤ (q1 : Int) + o ∧ ((q1 : Int) + o).toNat = q') (hq : q1 + 3 = q) (g1 : a ≤ b → X.G h k n q' Ls st) (g0 : b < a → X.G h k n q Ls st) : X.G h k n pc Ls (.long y :: .long x :: st) := by
  subst hx hy hq1; refine X.step (X.ifB d hp hq (fun hc => g1 ((ow_lc _ _ _).mp ((ow_if _ _).mp hc))) (fun hc => g0 (by have := mt (ow_lc _ _ _).mpr (ow_ifF hc); simp only [owCd] at this; omega))) fun T _ Y t r => XT.lcmp Y.here X.1 rfl (X.hd d1) rfl r
theorem OwC.ifnullT {o : Int} {q' : Nat} (d : decode bytes pc = .ok (.ifnull o, 3)) (hp : 0 ≤ (pc : Int) + o ∧ ((pc : Int) + o).toNat = q') (g : X.G h k n q' Ls st) : X.G h k n pc Ls (.null :: st) :=
  X.step g fun T _ Y t r => XS.ifnullYes Y.here X.1 rfl rfl (X.hd d) rfl hp.1 hp.2 r
theorem OwC.ifnullF {o : Int} {b : Addr} (d : decode bytes pc = .ok (.ifnull o, 3)) (hq : pc + 3 = q) (g : X.G h k n q Ls st) : X.G h k n pc Ls (.ref b :: st) := by
  subst hq; exact X.step g fun T _ Y t r => XS.ifnullNo Y.here X.1 rfl (X.hd d) rfl r
theorem OwC.ifnonnullT {o : Int} {q' : Nat} {b : Addr} (d : decode bytes pc = .ok (.ifnonnull o, 3)) (hp : 0 ≤ (pc : Int) + o ∧ ((pc : Int) + o).toNat = q') (g : X.G h k n q' Ls st) : X.G h k n pc Ls (.ref b :: st) :=
  X.step g fun T _ Y t r => XT.ifnonnullYes Y.here X.1 rfl rfl (X.hd d) rfl hp.1 hp.2 r
theorem OwC.ifnonnullF {o : Int} (d : decode bytes pc = .ok (.ifnonnull o, 3)) (hq : pc + 3 = q) (g : X.G h k n q Ls st) : X.G h k n pc Ls (.null :: st) := by
  subst hq; exact X.step g fun T _ Y t r => XT.ifnonnullNo Y.here X.1 rfl (X.hd d) rfl r
theorem OwC.acmp_ne {o : Int} {q' : Nat} {x y : Addr} (d : decode bytes pc = .ok (.if_acmp .ne o, 3)) (hp : 0 ≤ (pc : Int) + o ∧ ((pc : Int) + o).toNat = q') (hq : pc + 3 = q) (g1 : ¬ x = y → X.G h k n q' Ls st) (g0 : x = y → X.G h k n q Ls st) : X.G h k n pc Ls (.ref y :: .ref x :: st) := by
  subst hq
  by_cases hc : x = y
  · exact X.step (g0 hc) fun T _ Y t r => XT.acmpNo Y.here X.1 rfl (X.hd d) rfl rfl rfl (by simp [XT.acmp, hc]) r
  · exact X.step (g1 hc) fun T _ Y t r => XT.acmpYes Y.here X.1 rfl rfl (X.hd d) rfl rfl rfl (by simp [XT.acmp, hc]) hp.1 hp.2 r
theorem OwC.acmp_eq {o : Int} {q' : Nat} {x y : Addr} (d : decode bytes pc = .ok (.if_acmp .eq o, 3)) (hp : 0 ≤ (pc : Int) + o ∧ ((pc : Int) + o).toNat = q') (hq : pc + 3 = q) (g1 : x = y → X.G h k n q' Ls st) (g0 : ¬ x = y → X.G h k n q Ls st) : X.G h k n pc Ls (.ref y :: .ref x :: st) := by
  subst hq
  by_cases hc : x = y
  · exact X.step (g1 hc) fun T _ Y t r => XT.acmpYes Y.here X.1 rfl rfl (X.hd d) rfl rfl rfl (by simp [XT.acmp, hc]) hp.1 hp.2 r
  · exact X.step (g0 hc) fun T _ Y t r => XT.acmpNo Y.here X.1 rfl (X.hd d) rfl rfl rfl (by simp [XT.acmp, hc]) r
/-! returns -/
theorem OwC.fin {v : Option Value} (hv : meth.sig.returnType = none → v = none) (w : ∀ T locs, Stand p l e R s m args below meth c T locs k n → ∀ fs, (∀ (f : JFrame) (acts : List Action), f.method = m → f.locked = none → f.entered = [] → (doReturn e (T.setTop f) acts v).1 = T.setFrames fs) → Steps p.tables e below (T.setTop (mkF m pc Ls st)) (T.setFrames fs)) (hk : k ≤ kM) (hn : n ≤ nM) (hΦ : Φ v h) : X.G h k n pc Ls st := fun T locs Y eT N => by
  obtain ⟨fs, hr, hrun, hended, hW, hsame⟩ := Y.leave (v := v) hv X.2.2.2.2.2.2.1
  exact ⟨v, _, locs, w T locs Y fs hr, hrun, hended, ⟨by show Φ v T.heap; rw [eT]; exact hΦ, N⟩, ⟨_, rfl⟩, hW, hsame.mono hk hn⟩
theorem OwC.retV (d : decode bytes pc = .ok (.return_, 1)) (hret : ret = none) (hk : k ≤ kM) (hn : n ≤ nM) (hΦ : Φ none h) : X.G h k n pc Ls [] :=
  X.fin (fun _ => rfl) (fun T _ Y fs hr => Y.returnOut X.1 (X.2.2.2.2.2.1.trans hret) (X.hd d) hr) hk hn hΦ
theorem OwC.retI {z : Int32} (d : decode bytes pc = .ok (.ireturn, 1)) (hret : ret = some .int) (hk : k ≤ kM) (hn : n ≤ nM) (hΦ : Φ (some (.int z)) h) : X.G h k n pc Ls (.int z :: st) :=
  X.fin (fun q => by rw [X.2.2.2.2.2.1, hret] at q; cases q) (fun T _ Y fs hr => retOut Y X.1 (X.2.2.2.2.2.1.trans hret) rfl (Or.inl ⟨rfl, Or.inl rfl, z, rfl⟩) (X.hd d) hr) hk hn hΦ
theorem OwC.retN {z z' : Int32} {t : FieldType} (d : decode bytes pc = .ok (.ireturn, 1)) (hret : ret = some t) (ht : t = .boolean ∨ t = .byte ∨ t = .char ∨ t = .short) (hz : nar t z = z') (hk : k ≤ kM) (hn : n ≤ nM) (hΦ : Φ (some (.int z')) h) : X.G h k n pc Ls (.int z :: st) := by
  subst hz
  exact X.fin (fun q => by rw [X.2.2.2.2.2.1, hret] at q; cases q) (fun T _ Y fs hr => RoadKit.retN Y X.1 (X.2.2.2.2.2.1.trans hret) ht (X.hd d) hr) hk hn hΦ
theorem OwC.retJ {z : Int64} (d : decode bytes pc = .ok (.lreturn, 1)) (hret : ret = some .long) (hk : k ≤ kM) (hn : n ≤ nM) (hΦ : Φ (some (.long z)) h) : X.G h k n pc Ls (.long z :: st) :=
  X.fin (fun q => by rw [X.2.2.2.2.2.1, hret] at q; cases q) (fun T _ Y fs hr => retOut Y X.1 (X.2.2.2.2.2.1.trans hret) rfl (Or.inr (Or.inl ⟨rfl, rfl, z, rfl⟩)) (X.hd d) hr) hk hn hΦ
theorem OwC.retA {v : Value} {t : FieldType} (d : decode bytes pc = .ok (.areturn, 1)) (hret : ret = some t) (ht : t.isReference = true) (hv : v.isRef = true) (hnv : narrow t v = v) (hk : k ≤ kM) (hn : n ≤ nM) (hΦ : Φ (some v) h) : X.G h k n pc Ls (v :: st) :=
  X.fin (fun q => by rw [X.2.2.2.2.2.1, hret] at q; cases q) (fun T _ Y fs hr => retOut Y X.1 (X.2.2.2.2.2.1.trans hret) hnv (Or.inr (Or.inr (Or.inr (Or.inr ⟨rfl, ht, hv⟩)))) (X.hd d) hr) hk hn hΦ
/-! the heap -/
theorem OwC.getF {R0 O fn d0 host : String} {i : Nat} {a : Addr} {v : Value} (w : (Cond.fieldLink own i R0 fn d0).before a0 Z = true ∨ (Cond.fieldLinkNest own i R0 fn d0 host).before a0 Z = true) (via : Via Z R0 O fn d0) (F : Fld Z h a O fn d0 v) (d : decode bytes pc = .ok (.getfield i, 3)) (hq : pc + 3 = q) (g : X.G h k n q Ls (v :: st)) : X.G h k n pc Ls (.ref a :: st) := fun T locs Y eT N => by
  subst hq
  obtain ⟨T', Y', eT', w'⟩ := RoadKit.getF Y X.1 X.2.2.2.2.1 X.2.2.2.1 w via eT F (g := mkF m pc Ls (.ref a :: st)) rfl rfl (X.hd d)
  obtain ⟨v, s₂, L, r1, r⟩ := g T' locs Y' eT' N
  exact ⟨v, s₂, L, w' _ r1, r⟩
theorem OwC.getR {R0 fn d0 : String} {i : Nat} {a : Addr} {v : Value} (w : (Cond.fieldRef own i R0 fn d0).before a0 Z = true) (F : Fld Z h a R0 fn d0 v) (d : decode bytes pc = .ok (.getfield i, 3)) (hq : pc + 3 = q) (g : X.G h k n q Ls (v :: st)) : X.G h k n pc Ls (.ref a :: st) := fun T locs Y eT N => by
  subst hq
  have hT : Z.Warmed39 T.vm := wtrans X.2.2.2.2.1 Y.warmed
  have w' := Cond.fieldRef_warmed39 hT w
  have hcur : (Z.setVm T.vm).vm.findClass own = some m.cls := by rw [State.vm_setVm, Y.warmed.alike.findClass]; exact X.2.2.2.1
  obtain ⟨c1, k1, i1, f1, e1, e2⟩ := Cond.fieldRef_spec hcur w'
  obtain ⟨cell, cf, k, j, f, h1, h2, h3, h4, h5, h6, h7⟩ := F
  obtain ⟨k', q1, -⟩ := State.fieldFound?_setVm (s := Z) hT.alike h2
  cases q1.symm.trans e1
  obtain ⟨v', s₂, L, r1, r⟩ := g T locs Y eT N
  exact ⟨v', s₂, L, (Y.getfieldR X.1 (g := mkF m pc Ls (.ref a :: st)) rfl e2 h3 rfl (by rw [eT]; exact h1) h4 h7 (X.hd d) (Steps.refl _)).trans r1, r⟩
theorem OwC.getS {R0 O fn d0 : String} {i : Nat} {v : Value} (w : (Cond.fieldLink own i R0 fn d0).before a0 Z = true) (via : Via Z R0 O fn d0) (F : Sta Z h O fn d0 v) (d : decode bytes pc = .ok (.getstatic i, 3)) (hq : pc + 3 = q) (g : X.G h k n q Ls (v :: st)) : X.G h k n pc Ls st := fun T locs Y eT N => by
  subst hq
  obtain ⟨T', Y', eT', w'⟩ := RoadKit.getS (host := "") Y X.1 X.2.2.2.2.1 X.2.2.2.1 w via eT F (g := mkF m pc Ls st) rfl (X.hd d)
  obtain ⟨v, s₂, L, r1, r⟩ := g T' locs Y' eT' N
  exact ⟨v, s₂, L, w' _ r1, r⟩
theorem OwC.putF {R0 O fn d0 host C : String} {i kk : Nat} {a : Addr} {v old : Value} {ty : FieldType} (w : (Cond.fieldLink own i R0 fn d0).before a0 Z = true ∨ (Cond.fieldLinkNest own i R0 fn d0 host).before a0 Z = true) (via : Via Z R0 O fn d0) (F : Fld Z h a O fn d0 old) (E : Exa Z h a C)
    (L : (Cond.lays C O fn d0).before a0 Z = true ∨ ((Cond.laysFinal C O fn d0).before a0 Z = true ∧ own = O ∧ nm = "<init>")) (wi : (Cond.instantiable C kk).before a0 Z = true) (hty : parseFieldDescriptor d0 = some ty) (hnv : narrow ty v = v) (hf : fits ty v = true) (ge : n0 ≤ a)
    (d : decode bytes pc = .ok (.putfield i, 3)) (hq : pc + 3 = q) (g : ∀ h', Wr h h' a (RoadKit.slotOf Z O fn d0) v → X.G h' k n q Ls st) : X.G h k n pc Ls (v :: .ref a :: st) := fun T locs Y eT N => by
  subst hq
  obtain ⟨T', h', Y', eT', W, w'⟩ := RoadKit.putF Y X.1 X.2.2.2.2.1 X.2.2.2.1 w via eT F E (L.imp_right fun z => ⟨z.1, z.2.1, X.2.2.2.2.2.2.2.trans z.2.2⟩) wi hty hnv hf (g := mkF m pc Ls (v :: .ref a :: st)) rfl rfl (X.hd d)
  obtain ⟨v, s₂, L, r1, r⟩ := g h' W T' _ Y' eT' (Fr.snoc Y' N ge)
  exact ⟨v, s₂, L, w' _ r1, r⟩
theorem OwC.newO {C : String} {i N k' n' : Nat} (w : (Cond.classLink own i C).before a0 Z = true) (wi : (Cond.instantiable C N).before a0 Z = true) (wz : (Cond.initialized C).before a0 Z = true) (d : decode bytes pc = .ok (.new i, 3)) (hk : k + 1 = k') (hn : n + N = n') (hc : k' ≤ R.cells) (hs : n' ≤ R.slots) (hq : pc + 3 = q)
    (g : ∀ h' a, a = h.size → Ext h h' → Exa Z h' a C → (∀ {O fn d0 : String} {ty : FieldType}, Laid Z a0 C O fn d0 → parseFieldDescriptor d0 = some ty → Fld Z h' a O fn d0 (defaultValue ty)) → X.G h' k' n' q Ls (.ref a :: st)) : X.G h k n pc Ls st := fun T locs Y eT Nf => by
  subst hq hk hn
  obtain ⟨T', h', Y', eT', E, A, D, -, w'⟩ := RoadKit.newO Y X.1 X.2.2.2.2.1 X.2.2.2.1 w wi wz eT (g := mkF m pc Ls st) rfl (X.hd d) hc hs
  obtain ⟨v, s₂, L, r1, r⟩ := g h' h.size rfl E A D T' _ Y' eT' Nf
  exact ⟨v, s₂, L, w' _ r1, r⟩
theorem OwC.initO {i W : Nat} {a : Addr} (w1 : (Cond.methodLink own i Lib.objectInit).before a0 Z = true) (w2 : (Cond.instanceMethod Lib.objectInit).before a0 Z = true) (w3 : (Cond.code Lib.objectInit ⟨#[0xb1]⟩ 1 none).before a0 Z = true) (d : decode bytes pc = .ok (.invokespecial i, 3)) (hsz : Ls.size = mL) (hf : 1 ≤ R.frames) (hW : (st.map fun v => v.category).sum ≤ W) (hl : W + 12 ≤ R.locals) (hq : pc + 3 = q)
    (g : X.G h k n q Ls st) : X.G h k n pc Ls (.ref a :: st) := fun T locs Y eT N => by
  subst hq
  obtain ⟨T', Y', eT', w'⟩ := RoadKit.initO Y X.1 X.2.2.2.2.1 X.2.2.2.1 w1 w2 w3 eT (g := mkF m pc Ls (.ref a :: st)) rfl (hsz.trans X.2.2.1.symm) rfl (X.hd d) hf (W := W) (by show 2 * 0 + _ ≤ _; omega) hl
  obtain ⟨v, s₂, L, r1, r⟩ := g T' locs Y' eT' N
  exact ⟨v, s₂, L, w' _ r1, r⟩
/-! arrays: what stands in one, as a list -/
def OwA (Z : State) (h : Heap) (a : Addr) (ty : FieldType) (vs : List Value) : Prop := ∃ cl : Cell, Arr Z h a cl ty ∧ cl.slots.toList = vs ∧ vs.length < 2 ^ 31
variable {a : Addr} {ty : FieldType} {vs : List Value}
theorem OwA.lt (A : OwA Z h a ty vs) : a < h.size := by obtain ⟨cl, A, -⟩ := A; exact A.lt
theorem OwA.len (A : OwA Z h a ty vs) : vs.length < 2 ^ 31 := by obtain ⟨cl, A, -, r⟩ := A; exact r
theorem OwA.ext {h' : Heap} (A : OwA Z h a ty vs) (E : Ext h h') : OwA Z h' a ty vs := by obtain ⟨cl, A, r⟩ := A; exact ⟨cl, A.ext E, r⟩
theorem OwA.other {h' : Heap} {b : Addr} {sl : Nat} {v : Value} (A : OwA Z h a ty vs) (W : Wr h h' b sl v) (ne : a ≠ b) : OwA Z h' a ty vs := by obtain ⟨cl, A, r⟩ := A; exact ⟨cl, A.other W ne, r⟩
theorem OwA.keep {h' : Heap} {ws : List Addr} (A : OwA Z h a ty vs) (K : Keep h h' ws) (ni : a ∉ ws) : OwA Z h' a ty vs := by obtain ⟨cl, A, r⟩ := A; exact ⟨cl, ⟨K.2.1 a cl A.1 ni, A.2⟩, r⟩
theorem OwA.set {h' : Heap} {j : Nat} {v : Value} (A : OwA Z h a ty vs) (W : Wr h h' a j v) : OwA Z h' a ty (vs.set j v) := by
  obtain ⟨cl, A, r1, r2⟩ := A
  exact ⟨cl.setSlot j v, A.same W, by simp [Cell.setSlot, r1], by simpa using r2⟩
theorem ow_idx {i : Int32} {j : Nat} (hi : i.toInt = (j : Int)) : ¬ i < 0 ∧ i.toNatClampNeg = j := by
  refine ⟨?_, ?_⟩
  · rw [Int32.lt_iff_toInt_lt]; have : (0 : Int32).toInt = 0 := rfl; omega
  · have : i.toNatClampNeg = i.toInt.toNat := rfl
    omega
theorem OwA.inb {cl : Cell} {i : Int32} {j : Nat} (e : cl.slots.toList = vs) (hi : i.toInt = (j : Int)) (hj : j < vs.length) : ¬ (i < 0 ∨ cl.slots.size ≤ i.toNatClampNeg) := by
  obtain ⟨h1, h2⟩ := ow_idx hi
  have : cl.slots.size = vs.length := by rw [← e]; simp
  rintro (q | q)
  · exact h1 q
  · omega
theorem OwA.at {cl : Cell} {i : Int32} {j : Nat} {v : Value} (e : cl.slots.toList = vs) (hi : i.toInt = (j : Int)) (hv : vs[j]? = some v) : cl.slots[i.toNatClampNeg]? = some v := by
  rw [(ow_idx hi).2, ← hv, ← e]; simp
theorem ow_getlt {j : Nat} {v : Value} (hv : vs[j]? = some v) : j < vs.length := (List.getElem?_eq_some_iff.mp hv).1
theorem OwC.newP {aty : ArrayType} {z : Int32} {N k' n' : Nat} (w : (Cond.arrayClass (newarray.typeOf aty)).before a0 Z = true) (d : decode bytes pc = .ok (.newarray aty, 2)) (ht : newarray.typeOf aty = ty) (hz : z.toInt = (N : Int)) {cap : Nat} (hcap : N ≤ cap) (hb : cap * 8 ≤ 536870912) (hk : k + 1 = k') (hn : n + cap = n') (hc : k' ≤ R.cells) (hs : n' ≤ R.slots) (hq : pc + 2 = q)
    (g : ∀ h' a, a = h.size → Ext h h' → OwA Z h' a ty (List.replicate N (defaultValue ty)) → X.G h' k' n' q Ls (.ref a :: st)) : X.G h k n pc Ls (.int z :: st) := fun T locs Y eT Nf => by
  subst hq hk hn ht
  obtain ⟨z1, z2⟩ := ow_idx hz
  obtain ⟨T', h', cA, Y', eT', E, A, w'⟩ := RoadKit.newP Y X.1 X.2.2.2.2.1 w eT (g := mkF m pc Ls (.int z :: st)) rfl (X.hd d) rfl z1 (cap := cap) (by omega) hb hc hs
  obtain ⟨v, s₂, L, r1, r⟩ := g h' h.size rfl E ⟨_, A, by simp [newA, z2], by have := z.toInt_lt; simp; omega⟩ T' _ Y' eT' Nf
  exact ⟨v, s₂, L, w' _ r1, r⟩
theorem OwC.alen {z : Int32} (A : OwA Z h a ty vs) (hz : z.toInt = (vs.length : Int)) (d : decode bytes pc = .ok (.arraylength, 1)) (hq : pc + 1 = q) (g : X.G h k n q Ls (.int z :: st)) : X.G h k n pc Ls (.ref a :: st) := fun T locs Y eT N => by
  subst hq
  obtain ⟨cl, A, e, hl⟩ := A
  obtain ⟨v, s₂, L, r1, r⟩ := g T locs Y eT N
  have hsz : cl.slots.size = vs.length := by rw [← e]; simp
  have ez : cl.slots.size.toInt32 = z := by rw [hsz, ← Int32.toInt_inj, len_toInt hl, hz]
  exact ⟨v, s₂, L, Y.arraylength X.1 (by rw [eT]; exact A.1) (State.isArrayOf_alike X.2.2.2.2.1.alike A.2.1) (g := mkF m pc Ls (.ref a :: st)) rfl rfl (X.hd d) _ (by rw [ez]; exact r1), r⟩
theorem OwC.iaload {i : Int32} {j : Nat} {v : Value} (A : OwA Z h a .int vs) (hi : i.toInt = (j : Int)) (hv : vs[j]? = some v) (d : decode bytes pc = .ok (.iaload, 1)) (hq : pc + 1 = q) (g : X.G h k n q Ls (v :: st)) : X.G h k n pc Ls (.int i :: .ref a :: st) := fun T locs Y eT N => by
  subst hq
  obtain ⟨cl, A, e, -⟩ := A
  obtain ⟨v, s₂, L, r1, r⟩ := g T locs Y eT N
  exact ⟨v, s₂, L, Y.iaload X.1 (by rw [eT]; exact A.1) (State.isArrayOf_alike X.2.2.2.2.1.alike A.2.1) A.2.2 (OwA.inb e hi (ow_getlt hv)) (OwA.at e hi hv) (g := mkF m pc Ls (.int i :: .ref a :: st)) rfl rfl (X.hd d) _ r1, r⟩
theorem OwC.laload {i : Int32} {j : Nat} {v : Value} (A : OwA Z h a .long vs) (hi : i.toInt = (j : Int)) (hv : vs[j]? = some v) (d : decode bytes pc = .ok (.laload, 1)) (hq : pc + 1 = q) (g : X.G h k n q Ls (v :: st)) : X.G h k n pc Ls (.int i :: .ref a :: st) := fun T locs Y eT N => by
  subst hq
  obtain ⟨cl, A, e, -⟩ := A
  obtain ⟨v, s₂, L, r1, r⟩ := g T locs Y eT N
  exact ⟨v, s₂, L, Y.laload X.1 (by rw [eT]; exact A.1) (State.isArrayOf_alike X.2.2.2.2.1.alike A.2.1) A.2.2 (OwA.inb e hi (ow_getlt hv)) (OwA.at e hi hv) (g := mkF m pc Ls (.int i :: .ref a :: st)) rfl rfl (X.hd d) _ r1, r⟩
theorem OwC.baload {i : Int32} {j : Nat} {v : Value} (A : OwA Z h a .byte vs) (hi : i.toInt = (j : Int)) (hv : vs[j]? = some v) (d : decode bytes pc = .ok (.baload, 1)) (hq : pc + 1 = q) (g : X.G h k n q Ls (v :: st)) : X.G h k n pc Ls (.int i :: .ref a :: st) := fun T locs Y eT N => by
  subst hq
  obtain ⟨cl, A, e, -⟩ := A
  obtain ⟨v, s₂, L, r1, r⟩ := g T locs Y eT N
  exact ⟨v, s₂, L, Y.baloadBytes X.1 (by rw [eT]; exact A.1) (State.isArrayOf_alike X.2.2.2.2.1.alike A.2.1) A.2.2 (OwA.inb e hi (ow_getlt hv)) (OwA.at e hi hv) (g := mkF m pc Ls (.int i :: .ref a :: st)) rfl rfl (X.hd d) _ r1, r⟩
theorem OwC.caload {i : Int32} {j : Nat} {v : Value} (A : OwA Z h a .char vs) (hi : i.toInt = (j : Int)) (hv : vs[j]? = some v) (d : decode bytes pc = .ok (.caload, 1)) (hq : pc + 1 = q) (g : X.G h k n q Ls (v :: st)) : X.G h k n pc Ls (.int i :: .ref a :: st) := fun T locs Y eT N => by
  subst hq
  obtain ⟨cl, A, e, -⟩ := A
  obtain ⟨v, s₂, L, r1, r⟩ := g T locs Y eT N
  exact ⟨v, s₂, L, Y.caload X.1 (by rw [eT]; exact A.1) (State.isArrayOf_alike X.2.2.2.2.1.alike A.2.1) A.2.2 (OwA.inb e hi (ow_getlt hv)) (OwA.at e hi hv) (g := mkF m pc Ls (.int i :: .ref a :: st)) rfl rfl (X.hd d) _ r1, r⟩
theorem OwC.iastore {i : Int32} {j : Nat} {x : Int32} (A : OwA Z h a .int vs) (hi : i.toInt = (j : Int)) (hj : j < vs.length) (ge : n0 ≤ a) (d : decode bytes pc = .ok (.iastore, 1)) (hq : pc + 1 = q) (g : ∀ h', Wr h h' a j (.int x) → OwA Z h' a .int (vs.set j (.int x)) → X.G h' k n q Ls st) : X.G h k n pc Ls (.int x :: .int i :: .ref a :: st) := fun T locs Y eT N => by
  subst hq
  obtain ⟨cl, A1, e, hl⟩ := id A
  obtain ⟨T', h', Y', eT', W, w'⟩ := RoadKit.stI Y X.1 X.2.2.2.2.1 eT A1 (OwA.inb e hi hj) (g := mkF m pc Ls (.int x :: .int i :: .ref a :: st)) rfl rfl (X.hd d)
  have N' := Fr.snoc Y' N ge
  rw [(ow_idx hi).2] at W
  obtain ⟨v, s₂, L, r1, r⟩ := g h' W (A.set W) T' _ Y' eT' N'
  exact ⟨v, s₂, L, w' _ r1, r⟩
theorem OwC.lastore {i : Int32} {j : Nat} {x : Int64} (A : OwA Z h a .long vs) (hi : i.toInt = (j : Int)) (hj : j < vs.length) (ge : n0 ≤ a) (d : decode bytes pc = .ok (.lastore, 1)) (hq : pc + 1 = q) (g : ∀ h', Wr h h' a j (.long x) → OwA Z h' a .long (vs.set j (.long x)) → X.G h' k n q Ls st) : X.G h k n pc Ls (.long x :: .int i :: .ref a :: st) := fun T locs Y eT N => by
  subst hq
  obtain ⟨cl, A1, e, hl⟩ := id A
  obtain ⟨T', h', Y', eT', W, w'⟩ := RoadKit.stJ Y X.1 X.2.2.2.2.1 eT A1 (OwA.inb e hi hj) (g := mkF m pc Ls (.long x :: .int i :: .ref a :: st)) rfl rfl (X.hd d)
  have N' := Fr.snoc Y' N ge
  rw [(ow_idx hi).2] at W
  obtain ⟨v, s₂, L, r1, r⟩ := g h' W (A.set W) T' _ Y' eT' N'
  exact ⟨v, s₂, L, w' _ r1, r⟩
theorem OwC.bastore {i : Int32} {j : Nat} {x : Int32} (A : OwA Z h a .byte vs) (hi : i.toInt = (j : Int)) (hj : j < vs.length) (ge : n0 ≤ a) (d : decode bytes pc = .ok (.bastore, 1)) (hq : pc + 1 = q) (g : ∀ h', Wr h h' a j (.int (nar .byte x)) → OwA Z h' a .byte (vs.set j (.int (nar .byte x))) → X.G h' k n q Ls st) : X.G h k n pc Ls (.int x :: .int i :: .ref a :: st) := fun T locs Y eT N => by
  subst hq
  obtain ⟨cl, A1, e, hl⟩ := id A
  obtain ⟨T', h', Y', eT', W, w'⟩ := RoadKit.stB Y X.1 X.2.2.2.2.1 eT A1 (OwA.inb e hi hj) (g := mkF m pc Ls (.int x :: .int i :: .ref a :: st)) rfl rfl (X.hd d)
  have N' := Fr.snoc Y' N ge
  rw [(ow_idx hi).2] at W
  obtain ⟨v, s₂, L, r1, r⟩ := g h' W (A.set W) T' _ Y' eT' N'
  exact ⟨v, s₂, L, w' _ r1, r⟩
theorem OwC.castore {i : Int32} {j : Nat} {x : Int32} (A : OwA Z h a .char vs) (hi : i.toInt = (j : Int)) (hj : j < vs.length) (ge : n0 ≤ a) (d : decode bytes pc = .ok (.castore, 1)) (hq : pc + 1 = q) (g : ∀ h', Wr h h' a j (.int (nar .char x)) → OwA Z h' a .char (vs.set j (.int (nar .char x))) → X.G h' k n q Ls st) : X.G h k n pc Ls (.int x :: .int i :: .ref a :: st) := fun T locs Y eT N => by
  subst hq
  obtain ⟨cl, A1, e, hl⟩ := id A
  obtain ⟨T', h', Y', eT', W, w'⟩ := RoadKit.stC Y X.1 X.2.2.2.2.1 eT A1 (OwA.inb e hi hj) (g := mkF m pc Ls (.int x :: .int i :: .ref a :: st)) rfl rfl (X.hd d)
  have N' := Fr.snoc Y' N ge
  rw [(ow_idx hi).2] at W
  obtain ⟨v, s₂, L, r1, r⟩ := g h' W (A.set W) T' _ Y' eT' N'
  exact ⟨v, s₂, L, w' _ r1, r⟩
/-! contracts and calls -/
def OwM (l : Launch) (Z : State) (y : MethodName) (bytes : ByteArray) (mL : Nat) (ret : Option FieldType) (rm : Room) (kM nM : Nat) (ws : List Cond) (as : Array Value) (h0 : Heap) (n0 : Nat) (Φ : Option Value → Heap → Prop) : Prop :=
  MetFree l y (head1 (Cond.code y bytes mL ret :: ws) rm) (fun a U => a = as ∧ Z.Warmed39 U.vm ∧ U.heap = h0) (fun _ _ _ _ _ => True) (fun _ U o U' => ∃ v L, o = .returned v ∧ (Φ v U'.heap ∧ Fr n0 L) ∧ FrameEnd U o U' L kM nM)
theorem OwM.of {y : MethodName} {rm : Room} {ws : List Cond} {as : Array Value} {h0 : Heap} (hpn : plainFor y = true) (hef : ∀ m, entryFrame m as mL = mkF m 0 Ls [])
    (body : ∀ p e s m below meth c (X : OwC p l e rm s m as below meth c Z y.cls y.name bytes mL ret n0 kM nM Φ), X.G h0 0 0 0 Ls []) : OwM l Z y bytes mL ret rm kM nM ws as h0 n0 Φ := by
  refine MetFree.of_bodySF hpn hisR ?_
  intro p e s m args below meth c s₁ Bd hml0 hP hK
  obtain ⟨rfl, hZ, hh⟩ := hP
  have X : OwC p l e rm s m args below meth c Z y.cls y.name bytes mL ret n0 kM nM Φ := ⟨Bd.exec, Bd.bytes, hml0, findClass_of_methodNamed Bd.named, hZ, Bd.returns, Bd.notSynchronized, (name_of_methodNamed Bd.named Bd.method).1⟩
  obtain ⟨v, s₂, L, r1, r2, r3, r4, r5⟩ := body p e s m below meth c X s₁ [] (Stand.of_body Bd) (by rw [← hh, Bd.state]; rfl) (Fr.nil n0)
  exact ⟨s₂, _, castTop (hef m) r1, r2, r3, v, L, rfl, r4, r5⟩
variable {y : MethodName} {by' : ByteArray} {mL' : Nat} {ret' : Option FieldType} {rm : Room} {as : Array Value} {Ψ : Option Value → Heap → Prop}
theorem OwC.back (X : OwC p l e R s m args below meth c Z own nm bytes mL ret n0 kM nM Φ) {len W : Nat} (K : OwM l Z y by' mL' ret' rm rm.cells rm.slots [] as h n0 Ψ) (wc : (Cond.code y by' mL' ret').before a0 Z = true) (wz : (Cond.initialized y.cls).before a0 Z = true) (hf : rm.frames + 1 ≤ R.frames) (hl : W + (mL' + 11) + rm.locals ≤ R.locals) :
    Back l R p e below s args y len W (fun A a => a = as ∧ A.U.heap = h ∧ A.cells + rm.cells ≤ R.cells ∧ A.slots + rm.slots ≤ R.slots)
      (fun A _ v B => ∃ L, (Ψ v B.U.heap ∧ Fr n0 L) ∧ B.locs = A.locs ++ L ∧ B.cells = A.cells + rm.cells ∧ B.slots = A.slots + rm.slots) :=
  backOf (Q := fun v h L => Ψ v h ∧ Fr n0 L) K X.2.2.2.2.1 wc wz hf hl
theorem OwC.callS {i W k' n' : Nat} {argsL : List Value} {ps : List FieldType} {rt : Option FieldType} (K : OwM l Z y by' mL' ret' rm rm.cells rm.slots [] as h n0 Ψ) (w1 : (Cond.methodLink own i y).before a0 Z = true) (w2 : (Cond.static y).before a0 Z = true) (w3 : (Cond.initialized y.cls).before a0 Z = true) (w4 : (Cond.code y by' mL' ret').before a0 Z = true) (hy : y.cls ≠ "java/lang/invoke/MethodHandle" ∧ y.cls ≠ "java/lang/invoke/VarHandle")
    (pd : parseMethodDescriptor y.desc = some ⟨ps, rt⟩) (hlen : argsL.length = ps.length) (has : argsL.toArray = as) (hst : st = argsL.reverse ++ rest) (hW : (rest.map fun v => v.category).sum ≤ W) (hsz : Ls.size = mL) (hf : rm.frames + 1 ≤ R.frames) (hl : W + (mL' + 11) + rm.locals ≤ R.locals) (hk : k + rm.cells = k') (hn : n + rm.slots = n') (hc : k' ≤ R.cells) (hs : n' ≤ R.slots)
    (d : decode bytes pc = .ok (.invokestatic i, 3)) (hq : pc + 3 = q) (g : ∀ v h', Ψ v h' → X.G h' k' n' q Ls (v.toList ++ rest)) : X.G h k n pc Ls st := fun T locs Y eT N => by
  subst hq hk hn has
  obtain ⟨v, vm1, B, -, Y', ⟨L0, ⟨hΨ, N0⟩, l1, l2, l3⟩, w'⟩ := Jvm.LawKit.callS Y X.1 (y := y) X.2.2.2.1 (mvT X.2.2.2.2.1 w1) (mvT X.2.2.2.2.1 w2) (mvT X.2.2.2.2.1 w3) (mvT X.2.2.2.2.1 w4) hy (X.back K w4 w3 hf hl) (g := mkF m pc Ls st) rfl (hsz.trans X.2.2.1.symm) (argsL := argsL) (rest := rest) (lenOf pd hlen) hst (by show 2 * 0 + _ ≤ _; omega) (X.hd d) (fun _ _ => ⟨rfl, eT, hc, hs⟩)
  obtain ⟨T', L', k', n'⟩ := B
  dsimp only [Pt.U, Pt.locs, Pt.cells, Pt.slots] at Y' l1 l2 l3 w' hΨ
  subst l1 l2 l3
  obtain ⟨v, s₂, L, r1, r⟩ := g v _ hΨ T' _ Y' rfl (N.app N0)
  exact ⟨v, s₂, L, w' _ r1, r⟩
theorem OwC.special {i W k' n' : Nat} {a : Addr} {argsL : List Value} {ps : List FieldType} {rt : Option FieldType} (K : OwM l Z y by' mL' none rm rm.cells rm.slots [] as h n0 Ψ) (hin : y.name = "<init>") (w1 : (Cond.methodLink own i y).before a0 Z = true) (w2 : (Cond.instanceMethod y).before a0 Z = true) (w3 : (Cond.initialized y.cls).before a0 Z = true) (w4 : (Cond.code y by' mL' none).before a0 Z = true) (hy : y.cls ≠ "java/lang/invoke/MethodHandle" ∧ y.cls ≠ "java/lang/invoke/VarHandle")
    (pd : parseMethodDescriptor y.desc = some ⟨ps, rt⟩) (hlen : argsL.length = ps.length) (has : (.ref a :: argsL).toArray = as) (hst : st = argsL.reverse ++ .ref a :: rest) (hW : (rest.map fun v => v.category).sum ≤ W) (hsz : Ls.size = mL) (hf : rm.frames + 1 ≤ R.frames) (hl : W + (mL' + 11) + rm.locals ≤ R.locals) (hk : k + rm.cells = k') (hn : n + rm.slots = n') (hc : k' ≤ R.cells) (hs : n' ≤ R.slots)
    (d : decode bytes pc = .ok (.invokespecial i, 3)) (hq : pc + 3 = q) (g : ∀ v h', Ψ v h' → X.G h' k' n' q Ls (v.toList ++ rest)) : X.G h k n pc Ls st := fun T locs Y eT N => by
  subst hq hk hn has
  obtain ⟨v, vm1, B, -, Y', ⟨L0, ⟨hΨ, N0⟩, l1, l2, l3⟩, w'⟩ := Y.specialBack X.1 (y := y) hin X.2.2.2.1 (mvT X.2.2.2.2.1 w1) (mvT X.2.2.2.2.1 w2) (mvT X.2.2.2.2.1 w4) hy (X.back K w4 w3 hf hl) (g := mkF m pc Ls st) rfl (hsz.trans X.2.2.1.symm) (Steps.refl _) (a := a) (argsL := argsL) (rest := rest) (lenOf pd hlen) hst (by show 2 * 0 + _ ≤ _; omega) (X.hd d) (fun _ _ => ⟨rfl, eT, hc, hs⟩)
  obtain ⟨T', L', k', n'⟩ := B
  dsimp only [Pt.U, Pt.locs, Pt.cells, Pt.slots] at Y' l1 l2 l3 w' hΨ
  subst l1 l2 l3
  obtain ⟨v, s₂, L, r1, r⟩ := g v _ hΨ T' _ Y' rfl (N.app N0)
  exact ⟨v, s₂, L, w'.trans r1, r⟩
theorem OwC.virtual {C : String} {i W k' n' : Nat} {a : Addr} {argsL : List Value} {ps : List FieldType} {rt : Option FieldType} (K : OwM l Z y by' mL' ret' rm rm.cells rm.slots [] as h n0 Ψ) (w1 : (Cond.methodLink own i y).before a0 Z = true) (w2 : (Cond.declares y).before a0 Z = true) (w5 : (Cond.selects C y y).before a0 Z = true) (w6 : (Cond.instanceMethod y).before a0 Z = true) (w3 : (Cond.initialized y.cls).before a0 Z = true) (w4 : (Cond.code y by' mL' ret').before a0 Z = true) (hy : y.cls ≠ "java/lang/invoke/MethodHandle" ∧ y.cls ≠ "java/lang/invoke/VarHandle") (E : Exa Z h a C)
    (pd : parseMethodDescriptor y.desc = some ⟨ps, rt⟩) (hlen : argsL.length = ps.length) (has : (.ref a :: argsL).toArray = as) (hst : st = argsL.reverse ++ .ref a :: rest) (hW : (rest.map fun v => v.category).sum ≤ W) (hsz : Ls.size = mL) (hf : rm.frames + 1 ≤ R.frames) (hl : W + (mL' + 11) + rm.locals ≤ R.locals) (hk : k + rm.cells = k') (hn : n + rm.slots = n') (hc : k' ≤ R.cells) (hs : n' ≤ R.slots)
    (d : decode bytes pc = .ok (.invokevirtual i, 3)) (hq : pc + 3 = q) (g : ∀ v h', Ψ v h' → X.G h' k' n' q Ls (v.toList ++ rest)) : X.G h k n pc Ls st := fun T locs Y eT N => by
  subst hq hk hn has
  obtain ⟨cB, kB, q1, q2, q3⟩ := isOf (T := T) X.2.2.2.2.1 eT E
  obtain ⟨v, vm1, B, -, Y', ⟨L0, ⟨hΨ, N0⟩, l1, l2, l3⟩, w'⟩ := Y.virtualBack X.1 (y := y) (z := y) X.2.2.2.1 (mvT X.2.2.2.2.1 w1) (mvT X.2.2.2.2.1 w2) (notFace_of_selects (args := #[]) (mvT X.2.2.2.2.1 w5)) (mvT X.2.2.2.2.1 w5) (mvT X.2.2.2.2.1 w6) hy (X.back K w4 w3 hf hl) q1 q3 (g := mkF m pc Ls st) rfl (hsz.trans X.2.2.1.symm) (Steps.refl _) (argsL := argsL) (rest := rest) (lenOf pd hlen) hst (by show 2 * 0 + _ ≤ _; omega) (X.hd d) (fun _ _ => ⟨rfl, eT, hc, hs⟩)
  obtain ⟨T', L', k', n'⟩ := B
  dsimp only [Pt.U, Pt.locs, Pt.cells, Pt.slots] at Y' l1 l2 l3 w' hΨ
  subst l1 l2 l3
  obtain ⟨v, s₂, L, r1, r⟩ := g v _ hΨ T' _ Y' rfl (N.app N0)
  exact ⟨v, s₂, L, w'.trans r1, r⟩
theorem OwC.private {C : String} {i W k' n' kk : Nat} {a : Addr} {argsL : List Value} {ps : List FieldType} {rt : Option FieldType} (K : OwM l Z y by' mL' ret' rm rm.cells rm.slots [] as h n0 Ψ) (w1 : (Cond.methodLink own i y).before a0 Z = true) (w6 : (Cond.instanceMethod y).before a0 Z = true) (w7 : (Cond.privateMethod y).before a0 Z = true) (w8 : (Cond.instantiable y.cls kk).before a0 Z = true) (w3 : (Cond.initialized y.cls).before a0 Z = true) (w4 : (Cond.code y by' mL' ret').before a0 Z = true) (hy : y.cls ≠ "java/lang/invoke/MethodHandle" ∧ y.cls ≠ "java/lang/invoke/VarHandle") (E : Exa Z h a C)
    (pd : parseMethodDescriptor y.desc = some ⟨ps, rt⟩) (hlen : argsL.length = ps.length) (has : (.ref a :: argsL).toArray = as) (hst : st = argsL.reverse ++ .ref a :: rest) (hW : (rest.map fun v => v.category).sum ≤ W) (hsz : Ls.size = mL) (hf : rm.frames + 1 ≤ R.frames) (hl : W + (mL' + 11) + rm.locals ≤ R.locals) (hk : k + rm.cells = k') (hn : n + rm.slots = n') (hc : k' ≤ R.cells) (hs : n' ≤ R.slots)
    (d : decode bytes pc = .ok (.invokevirtual i, 3)) (hq : pc + 3 = q) (g : ∀ v h', Ψ v h' → X.G h' k' n' q Ls (v.toList ++ rest)) : X.G h k n pc Ls st := fun T locs Y eT N => by
  subst hq hk hn has
  obtain ⟨cell, e1, e2⟩ := E.cell
  obtain ⟨c8, k8, f1, f2, -, f4, -⟩ := Cond.instantiable_spec (mvT (args := #[]) X.2.2.2.2.1 w8)
  have hni : k8.isInterface = false := by cases hh : k8.isInterface with
    | false => rfl
    | true => rw [hh] at f4; cases f4
  have hpr := Cond.privateMethod_at (mvP X.2.2.2.2.1 w7 (args := #[]))
  obtain ⟨v, vm1, B, -, Y', ⟨L0, ⟨hΨ, N0⟩, l1, l2, l3⟩, w'⟩ := Y.privateBack X.1 (y := y) X.2.2.2.1 (mvT X.2.2.2.2.1 w1) (mvT X.2.2.2.2.1 w6) (Jvm.Stand.selects_self_of_private f1 f2 hni hpr (mvT X.2.2.2.2.1 w6) hy) hpr (mvT X.2.2.2.2.1 w4) hy (X.back K w4 w3 hf hl) (g := mkF m pc Ls st) rfl (hsz.trans X.2.2.1.symm) (Steps.refl _) (a := a) (cell := cell) (by rw [eT]; exact e1) e2 (argsL := argsL) (rest := rest) (lenOf pd hlen) hst (by show 2 * 0 + _ ≤ _; omega) (X.hd d) (fun _ _ => ⟨rfl, eT, hc, hs⟩)
  obtain ⟨T', L', k', n'⟩ := B
  dsimp only [Pt.U, Pt.locs, Pt.cells, Pt.slots] at Y' l1 l2 l3 w' hΨ
  subst l1 l2 l3
  obtain ⟨v, s₂, L, r1, r⟩ := g v _ hΨ T' _ Y' rfl (N.app N0)
  exact ⟨v, s₂, L, w'.trans r1, r⟩
end OwKit
/-! ## the same rules for a body that may load a String constant (OwS): the base s is the true start s0 with later tables -/
def OwK (a0 : Array Value) (s0 s Z : State) (EL : List (String × Nat)) (h : Heap) : Prop := s = s0.setVm s.vm ∧ (∃ k0, s0.Since s.vm k0 ∧ k0 ≤ h.size) ∧ EW Z a0 EL ∧ CHr Z EL s0.vm s0.heap s.vm h
theorem OwK.eq {a0 : Array Value} {s0 s Z : State} {EL : List (String × Nat)} {h : Heap} (K : OwK a0 s0 s Z EL h) : s = s0.setVm s.vm := K.1
theorem OwK.sn {a0 : Array Value} {s0 s Z : State} {EL : List (String × Nat)} {h : Heap} (K : OwK a0 s0 s Z EL h) : ∃ k0, s0.Since s.vm k0 ∧ k0 ≤ h.size := K.2.1
theorem OwK.ew {a0 : Array Value} {s0 s Z : State} {EL : List (String × Nat)} {h : Heap} (K : OwK a0 s0 s Z EL h) : EW Z a0 EL := K.2.2.1
theorem OwK.ch {a0 : Array Value} {s0 s Z : State} {EL : List (String × Nat)} {h : Heap} (K : OwK a0 s0 s Z EL h) : CHr Z EL s0.vm s0.heap s.vm h := K.2.2.2
theorem OwK.ext {a0 : Array Value} {s0 s Z : State} {EL : List (String × Nat)} {h h' : Heap} (K : OwK a0 s0 s Z EL h) (E : Ext h h') : OwK a0 s0 s Z EL h' := by
  obtain ⟨k0, h1, h2⟩ := K.sn
  exact ⟨K.eq, ⟨k0, h1, Nat.le_trans h2 E.1⟩, K.ew, K.ch.trans (CHr.ext E K.ch.1)⟩
theorem OwK.keep {a0 : Array Value} {s0 s Z : State} {EL : List (String × Nat)} {h h' : Heap} {ws : List Addr} (K : OwK a0 s0 s Z EL h) (E : Keep h h' ws) (hs : ∀ x ∈ ws, Safe Z EL s.vm h x) : OwK a0 s0 s Z EL h' := by
  obtain ⟨k0, h1, h2⟩ := K.sn
  exact ⟨K.eq, ⟨k0, h1, Nat.le_trans h2 E.1⟩, K.ew, K.ch.trans (CHr.keep E hs K.ch.1)⟩
theorem OwK.wr {a0 : Array Value} {s0 s Z : State} {EL : List (String × Nat)} {h h' : Heap} {a : Addr} {sl : Nat} {v : Value} (K : OwK a0 s0 s Z EL h) (W : Wr h h' a sl v) (hs : Safe Z EL s.vm h a) : OwK a0 s0 s Z EL h' := by
  obtain ⟨k0, h1, h2⟩ := K.sn
  exact ⟨K.eq, ⟨k0, h1, by rw [Wr.size W]; exact h2⟩, K.ew, K.ch.trans (CHr.wr W hs K.ch.1)⟩
def OwS (p : Program) (l : Launch) (e : Env) (R : Room) (s : State) (m : MethodId) (args : Array Value) (below : List Frame) (meth : Method) (c : Code) (Z : State) (own nm : String) (bytes : ByteArray) (mL : Nat) (ret : Option FieldType) (n0 kM nM : Nat) (Φ : Option Value → Heap → Prop) (_s0 : State) (_EL : List (String × Nat)) : Prop :=
  p.tables.exec = Jvm.exec ∧ c.code = bytes ∧ c.maxLocals = mL ∧ s.vm.findClass own = some m.cls ∧ Z.Warmed39 s.vm ∧ meth.sig.returnType = ret ∧ meth.locks = false ∧ meth.name = nm
section OwSKit
variable {p : Program} {l : Launch} {e : Env} {R : Room} {s : State} {m : MethodId} {args : Array Value} {below : List Frame} {meth : Method} {c : Code} {Z : State} {own nm : String} {bytes : ByteArray} {mL : Nat} {ret : Option FieldType} {n0 kM nM : Nat} {Φ : Option Value → Heap → Prop} {s0 : State} {EL : List (String × Nat)}
variable {a0 : Array Value} {h : Heap} {k n pc q : Nat} {Ls Ls' : Array Slot} {st rest : List Value}
def OwS.G (_X : OwS p l e R s m args below meth c Z own nm bytes mL ret n0 kM nM Φ s0 EL) (h : Heap) (k n pc : Nat) (Ls : Array Slot) (st : List Value) : Prop :=
  ∀ T locs, Stand p l e R s m args below meth c T locs k n → T.heap = h → Fr n0 locs →
    ∃ v s₂ L, Steps p.tables e below (T.setTop (mkF m pc Ls st)) s₂ ∧ s₂.status = .running ∧ Ended s₂ below (.returned v) ∧ (Φ v s₂.heap ∧ Fr n0 L) ∧ CHr Z EL s0.vm s0.heap s₂.vm s₂.heap ∧ ReturnedEndW s0 (.returned v) s₂ L kM nM
variable (X : OwS p l e R s m args below meth c Z own nm bytes mL ret n0 kM nM Φ s0 EL)
theorem OwS.step {pc' : Nat} {st' : List Value} (g : X.G h k n pc' Ls' st') (w : ∀ T locs, Stand p l e R s m args below meth c T locs k n → ∀ t, Steps p.tables e below (T.setTop (mkF m pc' Ls' st')) t → Steps p.tables e below (T.setTop (mkF m pc Ls st)) t) : X.G h k n pc Ls st := fun T locs Y eT N => by
  obtain ⟨v, s₂, L, r1, r⟩ := g T locs Y eT N
  exact ⟨v, s₂, L, w T locs Y _ r1, r⟩
theorem OwS.hd (X : OwS p l e R s m args below meth c Z own nm bytes mL ret n0 kM nM Φ s0 EL) {i : Instr} {len : Nat} (d : decode bytes pc = .ok (i, len)) : decode c.code pc = .ok (i, len) := hb X.2.1 d
theorem OwS.nmI {x : Int32} (g : ∀ v : Int32, v = x → X.G h k n pc Ls (.int v :: st)) : X.G h k n pc Ls (.int x :: st) := g x rfl
theorem OwS.nmJ {x : Int64} (g : ∀ v : Int64, v = x → X.G h k n pc Ls (.long v :: st)) : X.G h k n pc Ls (.long x :: st) := g x rfl
theorem OwS.foldI {x v : Int32} (e : x = v) (g : X.G h k n pc Ls (.int v :: st)) : X.G h k n pc Ls (.int x :: st) := by subst e; exact g
theorem OwS.foldJ {x v : Int64} (e : x = v) (g : X.G h k n pc Ls (.long v :: st)) : X.G h k n pc Ls (.long x :: st) := by subst e; exact g
theorem OwS.iloadN {j : Fin 4} {v : Int32} (d : decode bytes pc = .ok (.iload_n j, 1)) (hl : Ls[j.val]? = some (.val (.int v))) (hq : pc + 1 = q) (g : X.G h k n q Ls (.int v :: st)) : X.G h k n pc Ls st := by
  subst hq; exact X.step g fun T _ Y t r => XS.iloadN Y.here X.1 rfl (X.hd d) hl r
theorem OwS.iload {j : Nat} {v : Int32} (d : decode bytes pc = .ok (.iload j, 2)) (hl : Ls[j]? = some (.val (.int v))) (hq : pc + 2 = q) (g : X.G h k n q Ls (.int v :: st)) : X.G h k n pc Ls st := by
  subst hq; exact X.step g fun T _ Y t r => XS.iload Y.here X.1 rfl (X.hd d) hl r
theorem OwS.lloadN {j : Fin 4} {v : Int64} (d : decode bytes pc = .ok (.lload_n j, 1)) (hl : Ls[j.val]? = some (.val (.long v))) (hq : pc + 1 = q) (g : X.G h k n q Ls (.long v :: st)) : X.G h k n pc Ls st := by
  subst hq; exact X.step g fun T _ Y t r => XT.lloadN Y.here X.1 rfl (X.hd d) hl r
theorem OwS.lload {j : Nat} {v : Int64} (d : decode bytes pc = .ok (.lload j, 2)) (hl : Ls[j]? = some (.val (.long v))) (hq : pc + 2 = q) (g : X.G h k n q Ls (.long v :: st)) : X.G h k n pc Ls st := by
  subst hq; exact X.step g fun T _ Y t r => XT.lload Y.here X.1 rfl (X.hd d) hl r
theorem OwS.aloadN {j : Fin 4} {v : Value} (d : decode bytes pc = .ok (.aload_n j, 1)) (hl : Ls[j.val]? = some (.val v)) (hv : v.isRef = true) (hq : pc + 1 = q) (g : X.G h k n q Ls (v :: st)) : X.G h k n pc Ls st := by
  subst hq; exact X.step g fun T _ Y t r => XS.aloadN Y.here X.1 rfl (X.hd d) hl hv r
theorem OwS.aload {j : Nat} {v : Value} (d : decode bytes pc = .ok (.aload j, 2)) (hl : Ls[j]? = some (.val v)) (hv : v.isRef = true) (hq : pc + 2 = q) (g : X.G h k n q Ls (v :: st)) : X.G h k n pc Ls st := by
  subst hq; exact X.step g fun T _ Y t r => XS.aload Y.here X.1 rfl (X.hd d) hl hv r
theorem OwS.istoreN {j : Fin 4} {x : Int32} (d : decode bytes pc = .ok (.istore_n j, 1)) (hl : storeLocals Ls j.val (.int x) = some Ls') (hq : pc + 1 = q) (g : X.G h k n q Ls' st) : X.G h k n pc Ls (.int x :: st) := by
  subst hq; exact X.step g fun T _ Y t r => XS.istoreN Y.here X.1 rfl (X.hd d) rfl hl r
theorem OwS.istore {j : Nat} {x : Int32} (d : decode bytes pc = .ok (.istore j, 2)) (hl : storeLocals Ls j (.int x) = some Ls') (hq : pc + 2 = q) (g : X.G h k n q Ls' st) : X.G h k n pc Ls (.int x :: st) := by
  subst hq; exact X.step g fun T _ Y t r => XS.istore Y.here X.1 rfl (X.hd d) rfl hl r
theorem OwS.lstoreN {j : Fin 4} {x : Int64} (d : decode bytes pc = .ok (.lstore_n j, 1)) (hl : storeLocals Ls j.val (.long x) = some Ls') (hq : pc + 1 = q) (g : X.G h k n q Ls' st) : X.G h k n pc Ls (.long x :: st) := by
  subst hq; exact X.step g fun T _ Y t r => XT.lstoreN Y.here X.1 rfl (X.hd d) rfl hl r
theorem OwS.lstore {j : Nat} {x : Int64} (d : decode bytes pc = .ok (.lstore j, 2)) (hl : storeLocals Ls j (.long x) = some Ls') (hq : pc + 2 = q) (g : X.G h k n q Ls' st) : X.G h k n pc Ls (.long x :: st) := by
  subst hq; exact X.step g fun T _ Y t r => XT.lstore Y.here X.1 rfl (X.hd d) rfl hl r
theorem OwS.astoreN {j : Fin 4} {x : Value} (d : decode bytes pc = .ok (.astore_n j, 1)) (hv : x.isRef = true) (hl : storeLocals Ls j.val x = some Ls') (hq : pc + 1 = q) (g : X.G h k n q Ls' st) : X.G h k n pc Ls (x :: st) := by
  subst hq; exact X.step g fun T _ Y t r => XS.astoreN Y.here X.1 rfl (X.hd d) rfl hv hl r
theorem OwS.astore {j : Nat} {x : Value} (d : decode bytes pc = .ok (.astore j, 2)) (hv : x.isRef = true) (hl : storeLocals Ls j x = some Ls') (hq : pc + 2 = q) (g : X.G h k n q Ls' st) : X.G h k n pc Ls (x :: st) := by
  subst hq; exact X.step g fun T _ Y t r => XS.astore Y.here X.1 rfl (X.hd d) rfl hv hl r
theorem OwS.iconst {i : Int} (v : Int32) (d : decode bytes pc = .ok (.iconst i, 1)) (hv : Int32.ofInt i = v) (hq : pc + 1 = q) (g : X.G h k n q Ls (.int v :: st)) : X.G h k n pc Ls st := by
  subst hq hv; exact X.step g fun T _ Y t r => XS.iconst Y.here X.1 rfl (X.hd d) r
theorem OwS.bipush {i : Int} (v : Int32) (d : decode bytes pc = .ok (.bipush i, 2)) (hv : (Int8.ofInt i).toInt32 = v) (hq : pc + 2 = q) (g : X.G h k n q Ls (.int v :: st)) : X.G h k n pc Ls st := by
  subst hq hv; exact X.step g fun T _ Y t r => XS.bipush Y.here X.1 rfl (X.hd d) r
theorem OwS.sipush {i : Int} (v : Int32) (d : decode bytes pc = .ok (.sipush i, 3)) (hv : (Int16.ofInt i).toInt32 = v) (hq : pc + 3 = q) (g : X.G h k n q Ls (.int v :: st)) : X.G h k n pc Ls st := by
  subst hq hv; exact X.step g fun T _ Y t r => XS.sipush Y.here X.1 rfl (X.hd d) r
theorem OwS.lconst {j : Fin 2} (v : Int64) (d : decode bytes pc = .ok (.lconst j, 1)) (hv : Int64.ofNat j = v) (hq : pc + 1 = q) (g : X.G h k n q Ls (.long v :: st)) : X.G h k n pc Ls st := by
  subst hq hv; exact X.step g fun T _ Y t r => XT.lconst Y.here X.1 rfl (X.hd d) r
theorem OwS.aconstNull (d : decode bytes pc = .ok (.aconst_null, 1)) (hq : pc + 1 = q) (g : X.G h k n q Ls (.null :: st)) : X.G h k n pc Ls st := by
  subst hq; exact X.step g fun T _ Y t r => XS.aconstNull Y.here X.1 rfl (X.hd d) r
theorem OwS.ldc {i : Nat} {v : Int32} (w : (Cond.constant own i v).before a0 Z = true) (d : decode bytes pc = .ok (.ldc i, 2)) (hq : pc + 2 = q) (g : X.G h k n q Ls (.int v :: st)) : X.G h k n pc Ls st := by
  subst hq; exact X.step g fun T _ Y t r => Y.ldcI X.1 X.2.2.2.1 (mvT X.2.2.2.2.1 w) rfl (X.hd d) r
theorem OwS.ldc_w {i : Nat} {v : Int32} (w : (Cond.constant own i v).before a0 Z = true) (d : decode bytes pc = .ok (.ldc_w i, 3)) (hq : pc + 3 = q) (g : X.G h k n q Ls (.int v :: st)) : X.G h k n pc Ls st := by
  subst hq; exact X.step g fun T _ Y t r => Y.ldcWI X.1 X.2.2.2.1 (mvT X.2.2.2.2.1 w) rfl (X.hd d) r
theorem OwS.ldc2_w {i : Nat} {v : Int64} (w : (Cond.constantLong own i v).before a0 Z = true) (d : decode bytes pc = .ok (.ldc2_w i, 3)) (hq : pc + 3 = q) (g : X.G h k n q Ls (.long v :: st)) : X.G h k n pc Ls st := by
  subst hq; exact X.step g fun T _ Y t r => Y.ldc2J X.1 X.2.2.2.1 (mvT X.2.2.2.2.1 w) rfl (X.hd d) r
theorem OwS.iadd {x y : Int32} (d : decode bytes pc = .ok (.iadd, 1)) (hq : pc + 1 = q) (g : X.G h k n q Ls (.int (x + y) :: st)) : X.G h k n pc Ls (.int y :: .int x :: st) := by
  subst hq; exact X.step g fun T _ Y t r => XS.iadd Y.here X.1 rfl (X.hd d) rfl r
theorem OwS.isub {x y : Int32} (d : decode bytes pc = .ok (.isub, 1)) (hq : pc + 1 = q) (g : X.G h k n q Ls (.int (x - y) :: st)) : X.G h k n pc Ls (.int y :: .int x :: st) := by
  subst hq; exact X.step g fun T _ Y t r => XS.isub Y.here X.1 rfl (X.hd d) rfl r
theorem OwS.imul {x y : Int32} (d : decode bytes pc = .ok (.imul, 1)) (hq : pc + 1 = q) (g : X.G h k n q Ls (.int (x * y) :: st)) : X.G h k n pc Ls (.int y :: .int x :: st) := by
  subst hq; exact X.step g fun T _ Y t r => XS.imul Y.here X.1 rfl (X.hd d) rfl r
theorem OwS.iand {x y : Int32} (d : decode bytes pc = .ok (.iand, 1)) (hq : pc + 1 = q) (g : X.G h k n q Ls (.int (x &&& y) :: st)) : X.G h k n pc Ls (.int y :: .int x :: st) := by
  subst hq; exact X.step g fun T _ Y t r => XS.iand Y.here X.1 rfl (X.hd d) rfl r
theorem OwS.ixor {x y : Int32} (d : decode bytes pc = .ok (.ixor, 1)) (hq : pc + 1 = q) (g : X.G h k n q Ls (.int (x ^^^ y) :: st)) : X.G h k n pc Ls (.int y :: .int x :: st) := by
  subst hq; exact X.step g fun T _ Y t r => XT.ixor Y.here X.1 rfl (X.hd d) rfl r
theorem OwS.ior {x y : Int32} (d : decode bytes pc = .ok (.ior, 1)) (hq : pc + 1 = q) (g : X.G h k n q Ls (.int (x ||| y) :: st)) : X.G h k n pc Ls (.int y :: .int x :: st) := by
  subst hq; exact X.step g fun T _ Y t r => XT.ior Y.here X.1 rfl (X.hd d) rfl r
theorem OwS.ishl {x y : Int32} (d : decode bytes pc = .ok (.ishl, 1)) (hq : pc + 1 = q) (g : X.G h k n q Ls (.int (x <<< (y &&& 31)) :: st)) : X.G h k n pc Ls (.int y :: .int x :: st) := by
  subst hq; exact X.step g fun T _ Y t r => XT.ishl Y.here X.1 rfl (X.hd d) rfl r
theorem OwS.ishr {x y : Int32} (d : decode bytes pc = .ok (.ishr, 1)) (hq : pc + 1 = q) (g : X.G h k n q Ls (.int (x >>> (y &&& 31)) :: st)) : X.G h k n pc Ls (.int y :: .int x :: st) := by
  subst hq; exact X.step g fun T _ Y t r => XT.ishr Y.here X.1 rfl (X.hd d) rfl r
theorem OwS.iushr {x y : Int32} (d : decode bytes pc = .ok (.iushr, 1)) (hq : pc + 1 = q) (g : X.G h k n q Ls (.int (XT.ushr x y) :: st)) : X.G h k n pc Ls (.int y :: .int x :: st) := by
  subst hq; exact X.step g fun T _ Y t r => XT.iushr Y.here X.1 rfl (X.hd d) rfl r
theorem OwS.ladd {x y : Int64} (d : decode bytes pc = .ok (.ladd, 1)) (hq : pc + 1 = q) (g : X.G h k n q Ls (.long (x + y) :: st)) : X.G h k n pc Ls (.long y :: .long x :: st) := by
  subst hq; exact X.step g fun T _ Y t r => XT.ladd Y.here X.1 rfl (X.hd d) rfl r
theorem OwS.lsub {x y : Int64} (d : decode bytes pc = .ok (.lsub, 1)) (hq : pc + 1 = q) (g : X.G h k n q Ls (.long (x - y) :: st)) : X.G h k n pc Ls (.long y :: .long x :: st) := by
  subst hq; exact X.step g fun T _ Y t r => XT.lsub Y.here X.1 rfl (X.hd d) rfl r
theorem OwS.lmul {x y : Int64} (d : decode bytes pc = .ok (.lmul, 1)) (hq : pc + 1 = q) (g : X.G h k n q Ls (.long (x * y) :: st)) : X.G h k n pc Ls (.long y :: .long x :: st) := by
  subst hq; exact X.step g fun T _ Y t r => XT.lmul Y.here X.1 rfl (X.hd d) rfl r
theorem OwS.land {x y : Int64} (d : decode bytes pc = .ok (.land, 1)) (hq : pc + 1 = q) (g : X.G h k n q Ls (.long (x &&& y) :: st)) : X.G h k n pc Ls (.long y :: .long x :: st) := by
  subst hq; exact X.step g fun T _ Y t r => XT.land Y.here X.1 rfl (X.hd d) rfl r
theorem OwS.lxor {x y : Int64} (d : decode bytes pc = .ok (.lxor, 1)) (hq : pc + 1 = q) (g : X.G h k n q Ls (.long (x ^^^ y) :: st)) : X.G h k n pc Ls (.long y :: .long x :: st) := by
  subst hq; exact X.step g fun T _ Y t r => XT.lxor Y.here X.1 rfl (X.hd d) rfl r
theorem OwS.lor {x y : Int64} (d : decode bytes pc = .ok (.lor, 1)) (hq : pc + 1 = q) (g : X.G h k n q Ls (.long (x ||| y) :: st)) : X.G h k n pc Ls (.long y :: .long x :: st) := by
  subst hq; exact X.step g fun T _ Y t r => XT.lor Y.here X.1 rfl (X.hd d) rfl r
theorem OwS.lshl {x : Int64} {y : Int32} (d : decode bytes pc = .ok (.lshl, 1)) (hq : pc + 1 = q) (g : X.G h k n q Ls (.long (x <<< (y.toInt64 &&& 63)) :: st)) : X.G h k n pc Ls (.int y :: .long x :: st) := by
  subst hq; exact X.step g fun T _ Y t r => XT.lshl Y.here X.1 rfl (X.hd d) rfl r
theorem OwS.lshr {x : Int64} {y : Int32} (d : decode bytes pc = .ok (.lshr, 1)) (hq : pc + 1 = q) (g : X.G h k n q Ls (.long (x >>> (y.toInt64 &&& 63)) :: st)) : X.G h k n pc Ls (.int y :: .long x :: st) := by
  subst hq; exact X.step g fun T _ Y t r => XT.lshr Y.here X.1 rfl (X.hd d) rfl r
theorem OwS.lushr {x : Int64} {y : Int32} (d : decode bytes pc = .ok (.lushr, 1)) (hq : pc + 1 = q) (g : X.G h k n q Ls (.long (XT.ushrL x y) :: st)) : X.G h k n pc Ls (.int y :: .long x :: st) := by
  subst hq; exact X.step g fun T _ Y t r => XT.lushr Y.here X.1 rfl (X.hd d) rfl r
theorem OwS.idiv {x y : Int32} (d : decode bytes pc = .ok (.idiv, 1)) (hy : y ≠ 0) (hq : pc + 1 = q) (g : X.G h k n q Ls (.int (x / y) :: st)) : X.G h k n pc Ls (.int y :: .int x :: st) := by
  subst hq; exact X.step g fun T _ Y t r => XS.idiv Y.here X.1 rfl (X.hd d) rfl hy r
theorem OwS.ldiv {x y : Int64} (d : decode bytes pc = .ok (.ldiv, 1)) (hy : y ≠ 0) (hq : pc + 1 = q) (g : X.G h k n q Ls (.long (x / y) :: st)) : X.G h k n pc Ls (.long y :: .long x :: st) := by
  subst hq; exact X.step g fun T _ Y t r => XT.ldiv Y.here X.1 rfl (X.hd d) rfl hy r
theorem OwS.irem {x y : Int32} (d : decode bytes pc = .ok (.irem, 1)) (hy : y ≠ 0) (hq : pc + 1 = q) (g : X.G h k n q Ls (.int (x % y) :: st)) : X.G h k n pc Ls (.int y :: .int x :: st) := by
  subst hq; exact X.step g fun T _ Y t r => iremM Y X.1 rfl (X.hd d) rfl hy r
theorem OwS.lrem {x y : Int64} (d : decode bytes pc = .ok (.lrem, 1)) (hy : y ≠ 0) (hq : pc + 1 = q) (g : X.G h k n q Ls (.long (x % y) :: st)) : X.G h k n pc Ls (.long y :: .long x :: st) := by
  subst hq; exact X.step g fun T _ Y t r => XT.lrem Y.here X.1 rfl (X.hd d) rfl hy (by rw [ow_lrem]; exact r)
theorem OwS.ineg {x : Int32} (d : decode bytes pc = .ok (.ineg, 1)) (hq : pc + 1 = q) (g : X.G h k n q Ls (.int (-x) :: st)) : X.G h k n pc Ls (.int x :: st) := by
  subst hq; exact X.step g fun T _ Y t r => XS.ineg Y.here X.1 rfl (X.hd d) rfl r
theorem OwS.lneg {x : Int64} (d : decode bytes pc = .ok (.lneg, 1)) (hq : pc + 1 = q) (g : X.G h k n q Ls (.long (-x) :: st)) : X.G h k n pc Ls (.long x :: st) := by
  subst hq; exact X.step g fun T _ Y t r => XT.lneg Y.here X.1 rfl (X.hd d) rfl r
theorem OwS.i2l {x : Int32} (d : decode bytes pc = .ok (.i2l, 1)) (hq : pc + 1 = q) (g : X.G h k n q Ls (.long (x.toInt64) :: st)) : X.G h k n pc Ls (.int x :: st) := by
  subst hq; exact X.step g fun T _ Y t r => XT.i2l Y.here X.1 rfl (X.hd d) rfl r
theorem OwS.l2i {x : Int64} (d : decode bytes pc = .ok (.l2i, 1)) (hq : pc + 1 = q) (g : X.G h k n q Ls (.int (x.toInt32) :: st)) : X.G h k n pc Ls (.long x :: st) := by
  subst hq; exact X.step g fun T _ Y t r => XT.l2i Y.here X.1 rfl (X.hd d) rfl r
theorem OwS.i2b {x : Int32} (d : decode bytes pc = .ok (.i2b, 1)) (hq : pc + 1 = q) (g : X.G h k n q Ls (.int (x.toInt8.toInt32) :: st)) : X.G h k n pc Ls (.int x :: st) := by
  subst hq; exact X.step g fun T _ Y t r => XT.i2b Y.here X.1 rfl (X.hd d) rfl r
theorem OwS.i2c {x : Int32} (d : decode bytes pc = .ok (.i2c, 1)) (hq : pc + 1 = q) (g : X.G h k n q Ls (.int (x.toUInt32.toUInt16.toUInt32.toInt32) :: st)) : X.G h k n pc Ls (.int x :: st) := by
  subst hq; exact X.step g fun T _ Y t r => XT.i2c Y.here X.1 rfl (X.hd d) rfl r
theorem OwS.iinc {j : Nat} {cst : Int} {x : Int32} (v : Int32) (d : decode bytes pc = .ok (.iinc j cst, 3)) (hv : Int32.ofInt cst = v) (hl : Ls[j]? = some (.val (.int x))) (hl' : storeLocals Ls j (.int (x + v)) = some Ls') (hq : pc + 3 = q) (g : X.G h k n q Ls' st) : X.G h k n pc Ls st := by
  subst hq hv; exact X.step g fun T _ Y t r => XS.iinc Y.here X.1 rfl (X.hd d) hl hl' r
theorem OwS.dup {x : Value} (d : decode bytes pc = .ok (.dup, 1)) (hc : x.category = 1) (hq : pc + 1 = q) (g : X.G h k n q Ls (x :: x :: st)) : X.G h k n pc Ls (x :: st) := by
  subst hq; exact X.step g fun T _ Y t r => XS.dup Y.here X.1 rfl (X.hd d) rfl hc r
theorem OwS.pop {x : Value} (d : decode bytes pc = .ok (.pop, 1)) (hc : x.category = 1) (hq : pc + 1 = q) (g : X.G h k n q Ls st) : X.G h k n pc Ls (x :: st) := by
  subst hq; exact X.step g fun T _ Y t r => XT.pop Y.here X.1 rfl (X.hd d) rfl hc r
theorem OwS.dup_x1 {x y : Value} (d : decode bytes pc = .ok (.dup_x1, 1)) (hc : x.category = 1) (hc' : y.category = 1) (hq : pc + 1 = q) (g : X.G h k n q Ls (x :: y :: x :: st)) : X.G h k n pc Ls (x :: y :: st) := by
  subst hq; exact X.step g fun T _ Y t r => XT.dupX1 Y.here X.1 rfl (X.hd d) rfl hc hc' r
theorem OwS.dup2 {x y : Value} (d : decode bytes pc = .ok (.dup2, 1)) (hc : x.category = 1) (hc' : y.category = 1) (hq : pc + 1 = q) (g : X.G h k n q Ls (x :: y :: x :: y :: st)) : X.G h k n pc Ls (x :: y :: st) := by
  subst hq; exact X.step g fun T _ Y t r => XT.dup2 Y.here X.1 rfl (X.hd d) rfl hc hc' r
theorem OwS.dup2L {x : Int64} (d : decode bytes pc = .ok (.dup2, 1)) (hq : pc + 1 = q) (g : X.G h k n q Ls (.long x :: .long x :: st)) : X.G h k n pc Ls (.long x :: st) := by
  subst hq; exact X.step g fun T _ Y t r => XT.dup2L Y.here X.1 rfl (X.hd d) rfl r
theorem OwS.goto {o : Int} {q' : Nat} (d : decode bytes pc = .ok (.goto o, 3)) (hp : 0 ≤ (pc : Int) + o ∧ ((pc : Int) + o).toNat = q') (g : X.G h k n q' Ls st) : X.G h k n pc Ls st :=
  X.step g fun T _ Y t r => XS.goto Y.here X.1 rfl rfl (X.hd d) hp.1 hp.2 r
theorem OwS.icmpB {cd : ClassFile.Cond} {o : Int} {q' : Nat} {x y : Int32} (d : decode bytes pc = .ok (.if_icmp cd o, 3)) (hp : 0 ≤ (pc : Int) + o ∧ ((pc : Int) + o).toNat = q') (hq : pc + 3 = q) (g1 : if_icmp.holds cd x y = true → X.G h k n q' Ls st) (g0 : if_icmp.holds cd x y = false → X.G h k n q Ls st) : X.G h k n pc Ls (.int y :: .int x :: st) := by
  subst hq
  cases hc : if_icmp.holds cd x y with
  | true => exact X.step (g1 hc) fun T _ Y t r => XS.icmpYes Y.here X.1 rfl rfl (X.hd d) rfl hc hp.1 hp.2 r
  | false => exact X.step (g0 hc) fun T _ Y t r => XS.icmpNo Y.here X.1 rfl (X.hd d) rfl hc r
theorem OwS.ifB {cd : ClassFile.Cond} {o : Int} {q' : Nat} {x : Int32} (d : decode bytes pc = .ok (.ifCond cd o, 3)) (hp : 0 ≤ (pc : Int) + o ∧ ((pc : Int) + o).toNat = q') (hq : pc + 3 = q) (g1 : ifCond.holds cd x = true → X.G h k n q' Ls st) (g0 : ifCond.holds cd x = false → X.G h k n q Ls st) : X.G h k n pc Ls (.int x :: st) := by
  subst hq
  cases hc : ifCond.holds cd x with
  | true => exact X.step (g1 hc) fun T _ Y t r => XS.ifYes Y.here X.1 rfl rfl (X.hd d) rfl hc hp.1 hp.2 r
  | false => exact X.step (g0 hc) fun T _ Y t r => XS.ifNo Y.here X.1 rfl (X.hd d) rfl hc r
theorem OwS.icmp_eq {o : Int} {q' : Nat} {x y : Int32} {a b : Int} (d : decode bytes pc = .ok (.if_icmp .eq o, 3)) (hx : x.toInt = a) (hy : y.toInt = b) (hp : 0 ≤ (pc : Int) + o ∧ ((pc : Int) + o).toNat = q') (hq : pc + 3 = q) (g1 : a = b → X.G h k n q' Ls st) (g0 : ¬ a = b → X.G h k n q Ls st) : X.G h k n pc Ls (.int y :: .int x :: st) := by
  subst hx hy; exact X.icmpB d hp hq (fun hc => g1 ((ow_icmp _ _ _).mp hc)) (fun hc => g0 (by have := ow_icmpF hc; simp only [owCd] at this; omega))
theorem OwS.if_eq {o : Int} {q' : Nat} {x : Int32} {a : Int} (d : decode bytes pc = .ok (.ifCond .eq o, 3)) (hx : x.toInt = a) (hp : 0 ≤ (pc : Int) + o ∧ ((pc : Int) + o).toNat = q') (hq : pc + 3 = q) (g1 : a = 0 → X.G h k n q' Ls st) (g0 : ¬ a = 0 → X.G h k n q Ls st) : X.G h k n pc Ls (.int x :: st) := by
  subst hx; exact X.ifB d hp hq (fun hc => g1 ((ow_if _ _).mp hc)) (fun hc => g0 (by have := ow_ifF hc; simp only [owCd] at this; omega))
theorem OwS.lcmp_eq {o : Int} {q1 q' : Nat} {x y : Int64} {a b : Int} (d1 : decode bytes pc = .ok (.lcmp, 1)) (hq1 : pc + 1 = q1) (d : decode bytes q1 = .ok (.ifCond .eq o, 3)) (hx : x.toInt = a) (hy : y.toInt = b) (hp : 0 ≤ (q1 : Int) + o ∧ ((q1 : Int) + o).toNat = q') (hq : q1 + 3 = q) (g1 : a = b → X.G h k n q' Ls st) (g0 : ¬ a = b → X.G h k n q Ls st) : X.G h k n pc Ls (.long y :: .long x :: st) := by
  subst hx hy hq1; refine X.step (X.ifB d hp hq (fun hc => g1 ((ow_lc _ _ _).mp ((ow_if _ _).mp hc))) (fun hc => g0 (by have := mt (ow_lc _ _ _).mpr (ow_ifF hc); simp only [owCd] at this; omega))) fun T _ Y t r => XT.lcmp Y.here X.1 rfl (X.hd d1) rfl r
theorem OwS.icmp_ne {o : Int} {q' : Nat} {x y : Int32} {a b : Int} (d : decode bytes pc = .ok (.if_icmp .ne o, 3)) (hx : x.toInt = a) (hy : y.toInt = b) (hp : 0 ≤ (pc : Int) + o ∧ ((pc : Int) + o).toNat = q') (hq : pc + 3 = q) (g1 : ¬ a = b → X.G h k n q' Ls st) (g0 : a = b → X.G h k n q Ls st) : X.G h k n pc Ls (.int y :: .int x :: st) := by
  subst hx hy; exact X.icmpB d hp hq (fun hc => g1 ((ow_icmp _ _ _).mp hc)) (fun hc => g0 (by have := ow_icmpF hc; simp only [owCd] at this; omega))
theorem OwS.if_ne {o : Int} {q' : Nat} {x : Int32} {a : Int} (d : decode bytes pc = .ok (.ifCond .ne o, 3)) (hx : x.toInt = a) (hp : 0 ≤ (pc : Int) + o ∧ ((pc : Int) + o).toNat = q') (hq : pc + 3 = q) (g1 : ¬ a = 0 → X.G h k n q' Ls st) (g0 : a = 0 → X.G h k n q Ls st) : X.G h k n pc Ls (.int x :: st) := by
  subst hx; exact X.ifB d hp hq (fun hc => g1 ((ow_if _ _).mp hc)) (fun hc => g0 (by have := ow_ifF hc; simp only [owCd] at this; omega))
theorem OwS.lcmp_ne {o : Int} {q1 q' : Nat} {x y : Int64} {a b : Int} (d1 : decode bytes pc = .ok (.lcmp, 1)) (hq1 : pc + 1 = q1) (d : decode bytes q1 = .ok (.ifCond .ne o, 3)) (hx : x.toInt = a) (hy : y.toInt = b) (hp : 0 ≤ (q1 : Int) + o ∧ ((q1 : Int) + o).toNat = q') (hq : q1 + 3 = q) (g1 : ¬ a = b → X.G h k n q' Ls st) (g0 : a = b → X.G h k n q Ls st) : X.G h k n pc Ls (.long y :: .long x :: st) := by
  subst hx hy hq1; refine X.step (X.ifB d hp hq (fun hc => g1 ((ow_lc _ _ _).mp ((ow_if _ _).mp hc))) (fun hc => g0 (by have := mt (ow_lc _ _ _).mpr (ow_ifF hc); simp only [owCd] at this; omega))) fun T _ Y t r => XT.lcmp Y.here X.1 rfl (X.hd d1) rfl r
theorem OwS.icmp_lt {o : Int} {q' : Nat} {x y : Int32} {a b : Int} (d : decode bytes pc = .ok (.if_icmp .lt o, 3)) (hx : x.toInt = a) (hy : y.toInt = b) (hp : 0 ≤ (pc : Int) + o ∧ ((pc : Int) + o).toNat = q') (hq : pc + 3 = q) (g1 : a < b → X.G h k n q' Ls st) (g0 : b ≤ a → X.G h k n q Ls st) : X.G h k n pc Ls (.int y :: .int x :: st) := by
  subst hx hy; exact X.icmpB d hp hq (fun hc => g1 ((ow_icmp _ _ _).mp hc)) (fun hc => g0 (by have := ow_icmpF hc; simp only [owCd] at this; omega))
theorem OwS.if_lt {o : Int} {q' : Nat} {x : Int32} {a : Int} (d : decode bytes pc = .ok (.ifCond .lt o, 3)) (hx : x.toInt = a) (hp : 0 ≤ (pc : Int) + o ∧ ((pc : Int) + o).toNat = q') (hq : pc + 3 = q) (g1 : a < 0 → X.G h k n q' Ls st) (g0 : 0 ≤ a → X.G h k n q Ls st) : X.G h k n pc Ls (.int x :: st) := by
  subst hx; exact X.ifB d hp hq (fun hc => g1 ((ow_if _ _).mp hc)) (fun hc => g0 (by have := ow_ifF hc; simp only [owCd] at this; omega))
theorem OwS.lcmp_lt {o : Int} {q1 q' : Nat} {x y : Int64} {a b : Int} (d1 : decode bytes pc = .ok (.lcmp, 1)) (hq1 : pc + 1 = q1) (d : decode bytes q1 = .ok (.ifCond .lt o, 3)) (hx : x.toInt = a) (hy : y.toInt = b) (hp : 0 ≤ (q1 : Int) + o ∧ ((q1 : Int) + o).toNat = q') (hq : q1 + 3 = q) (g1 : a < b → X.G h k n q' Ls st) (g0 : b ≤ a → X.G h k n q Ls st) : X.G h k n pc Ls (.long y :: .long x :: st) := by
  subst hx hy hq1; refine X.step (X.ifB d hp hq (fun hc => g1 ((ow_lc _ _ _).mp ((ow_if _ _).mp hc))) (fun hc => g0 (by have := mt (ow_lc _ _ _).mpr (ow_ifF hc); simp only [owCd] at this; omega))) fun T _ Y t r => XT.lcmp Y.here X.1 rfl (X.hd d1) rfl r
theorem OwS.icmp_ge {o : Int} {q' : Nat} {x y : Int32} {a b : Int} (d : decode bytes pc = .ok (.if_icmp .ge o, 3)) (hx : x.toInt = a) (hy : y.toInt = b) (hp : 0 ≤ (pc : Int) + o ∧ ((pc : Int) + o).toNat = q') (hq : pc + 3 = q) (g1 : b ≤ a → X.G h k n q' Ls st) (g0 : a < b → X.G h k n q Ls st) : X.G h k n pc Ls (.int y :: .int x :: st) := by
  subst hx hy; exact X.icmpB d hp hq (fun hc => g1 ((ow_icmp _ _ _).mp hc)) (fun hc => g0 (by have := ow_icmpF hc; simp only [owCd] at this; omega))
theorem OwS.if_ge {o : Int} {q' : Nat} {x : Int32} {a : Int} (d : decode bytes pc = .ok (.ifCond .ge o, 3)) (hx : x.toInt = a) (hp : 0 ≤ (pc : Int) + o ∧ ((pc : Int) + o).toNat = q') (hq : pc + 3 = q) (g1 : 0 ≤ a → X.G h k n q' Ls st) (g0 : a < 0 → X.G h k n q Ls st) : X.G h k n pc Ls (.int x :: st) := by
  subst hx; exact X.ifB d hp hq (fun hc => g1 ((ow_if _ _).mp hc)) (fun hc => g0 (by have := ow_ifF hc; simp only [owCd] at this; omega))
theorem OwS.lcmp_ge {o : Int} {q1 q' : Nat} {x y : Int64} {a b : Int} (d1 : decode bytes pc = .ok (.lcmp, 1)) (hq1 : pc + 1 = q1) (d : decode bytes q1 = .ok (.ifCond .ge o, 3)) (hx : x.toInt = a) (hy : y.toInt = b) (hp : 0 ≤ (q1 : Int) + o ∧ ((q1 : Int) + o).toNat = q') (hq : q1 + 3 = q) (g1 : b ≤ a → X.G h k n q' Ls st) (g0 : a < b → X.G h k n q Ls st) : X.G h k n pc Ls (.long y :: .long x :: st) := by
  subst hx hy hq1; refine X.step (X.ifB d hp hq (fun hc => g1 ((ow_lc _ _ _).mp ((ow_if _ _).mp hc))) (fun hc => g0 (by have := mt (ow_lc _ _ _).mpr (ow_ifF hc); simp only [owCd] at this; omega))) fun T _ Y t r => XT.lcmp Y.here X.1 rfl (X.hd d1) rfl r
theorem OwS.icmp_gt {o : Int} {q' : Nat} {x y : Int32} {a b : Int} (d : decode bytes pc = .ok (.if_icmp .gt o, 3)) (hx : x.toInt = a) (hy : y.toInt = b) (hp : 0 ≤ (pc : Int) + o ∧ ((pc : Int) + o).toNat = q') (hq : pc + 3 = q) (g1 : b < a → X.G h k n q' Ls st) (g0 : a ≤ b → X.G h k n q Ls st) : X.G h k n pc Ls (.int y :: .int x :: st) := by
  subst hx hy; exact X.icmpB d hp hq (fun hc => g1 ((ow_icmp _ _ _).mp hc)) (fun hc => g0 (by have := ow_icmpF hc; simp only [owCd] at this; omega))
theorem OwS.if_gt {o : Int} {q' : Nat} {x : Int32} {a : Int} (d : decode bytes pc = .ok (.ifCond .gt o, 3)) (hx : x.toInt = a) (hp : 0 ≤ (pc : Int) + o ∧ ((pc : Int) + o).toNat = q') (hq : pc + 3 = q) (g1 : 0 < a → X.G h k n q' Ls st) (g0 : a ≤ 0 → X.G h k n q Ls st) : X.G h k n pc Ls (.int x :: st) := by
  subst hx; exact X.ifB d hp hq (fun hc => g1 ((ow_if _ _).mp hc)) (fun hc => g0 (by have := ow_ifF hc; simp only [owCd] at this; omega))
theorem OwS.lcmp_gt {o : Int} {q1 q' : Nat} {x y : Int64} {a b : Int} (d1 : decode bytes pc = .ok (.lcmp, 1)) (hq1 : pc + 1 = q1) (d : decode bytes q1 = .ok (.ifCond .gt o, 3)) (hx : x.toInt = a) (hy : y.toInt = b) (hp : 0 ≤ (q1 : Int) + o ∧ ((q1 : Int) + o).toNat = q') (hq : q1 + 3 = q) (g1 : b < a → X.G h k n q' Ls st) (g0 : a ≤ b → X.G h k n q Ls st) : X.G h k n pc Ls (.long y :: .long x :: st) := by
  subst hx hy hq1; refine X.step (X.ifB d hp hq (fun hc => g1 ((ow_lc _ _ _).mp ((ow_if _ _).mp hc))) (fun hc => g0 (by have := mt (ow_lc _ _ _).mpr (ow_ifF hc); simp only [owCd] at this; omega))) fun T _ Y t r => XT.lcmp Y.here X.1 rfl (X.hd d1) rfl r
theorem OwS.icmp_le {o : Int} {q' : Nat} {x y : Int32} {a b : Int} (d : decode bytes pc = .ok (.if_icmp .le o, 3)) (hx : x.toInt = a) (hy : y.toInt = b) (hp : 0 ≤ (pc : Int) + o ∧ ((pc : Int) + o).toNat = q') (hq : pc + 3 = q) (g1 : a ≤ b → X.G h k n q' Ls st) (g0 : b < a → X.G h k n q Ls st) : X.G h k n pc Ls (.int y :: .int x :: st) := by
  subst hx hy; exact X.icmpB d hp hq (fun hc => g1 ((ow_icmp _ _ _).mp hc)) (fun hc => g0 (by have := ow_icmpF hc; simp only [owCd] at this; omega))
theorem OwS.if_le {o : Int} {q' : Nat} {x : Int32} {a : Int} (d : decode bytes pc = .ok (.ifCond .le o, 3)) (hx : x.toInt = a) (hp : 0 ≤ (pc : Int) + o ∧ ((pc : Int) + o).toNat = q') (hq : pc + 3 = q) (g1 : a ≤ 0 → X.G h k n q' Ls st) (g0 : 0 < a → X.G h k n q Ls st) : X.G h k n pc Ls (.int x :: st) := by
  subst hx; exact X.ifB d hp hq (fun hc => g1 ((ow_if _ _).mp hc)) (fun hc => g0 (by have := ow_ifF hc; simp only [owCd] at this; omega))
theorem OwS.lcmp_le {o : Int} {q1 q' : Nat} {x y : Int64} {a b : Int} (d1 : decode bytes pc = .ok (.lcmp, 1)) (hq1 : pc + 1 = q1) (d : decode bytes q1 = .ok (.ifCond .le o, 3)) (hx : x.toInt = a) (hy : y.toInt = b) (hp : 0 ≤ (q1 : Int) + o ∧ ((q1 : Int) + o).toNat = q') (hq : q1 + 3 = q) (g1 : a ≤ b → X.G h k n q' Ls st) (g0 : b < a → X.G h k n q Ls st) : X.G h k n pc Ls (.long y :: .long x :: st) := by
  subst hx hy hq1; refine X.step (X.ifB d hp hq (fun hc => g1 ((ow_lc _ _ _).mp ((ow_if _ _).mp hc))) (fun hc => g0 (by have := mt (ow_lc _ _ _).mpr (ow_ifF hc); simp only [owCd] at this; omega))) fun T _ Y t r => XT.lcmp Y.here X.1 rfl (X.hd d1) rfl r
theorem OwS.ifnullT {o : Int} {q' : Nat} (d : decode bytes pc = .ok (.ifnull o, 3)) (hp : 0 ≤ (pc : Int) + o ∧ ((pc : Int) + o).toNat = q') (g : X.G h k n q' Ls st) : X.G h k n pc Ls (.null :: st) :=
  X.step g fun T _ Y t r => XS.ifnullYes Y.here X.1 rfl rfl (X.hd d) rfl hp.1 hp.2 r
theorem OwS.ifnullF {o : Int} {b : Addr} (d : decode bytes pc = .ok (.ifnull o, 3)) (hq : pc + 3 = q) (g : X.G h k n q Ls st) : X.G h k n pc Ls (.ref b :: st) := by
  subst hq; exact X.step g fun T _ Y t r => XS.ifnullNo Y.here X.1 rfl (X.hd d) rfl r
theorem OwS.ifnonnullT {o : Int} {q' : Nat} {b : Addr} (d : decode bytes pc = .ok (.ifnonnull o, 3)) (hp : 0 ≤ (pc : Int) + o ∧ ((pc : Int) + o).toNat = q') (g : X.G h k n q' Ls st) : X.G h k n pc Ls (.ref b :: st) :=
  X.step g fun T _ Y t r => XT.ifnonnullYes Y.here X.1 rfl rfl (X.hd d) rfl hp.1 hp.2 r
theorem OwS.ifnonnullF {o : Int} (d : decode bytes pc = .ok (.ifnonnull o, 3)) (hq : pc + 3 = q) (g : X.G h k n q Ls st) : X.G h k n pc Ls (.null :: st) := by
  subst hq; exact X.step g fun T _ Y t r => XT.ifnonnullNo Y.here X.1 rfl (X.hd d) rfl r
theorem OwS.acmp_ne {o : Int} {q' : Nat} {x y : Addr} (d : decode bytes pc = .ok (.if_acmp .ne o, 3)) (hp : 0 ≤ (pc : Int) + o ∧ ((pc : Int) + o).toNat = q') (hq : pc + 3 = q) (g1 : ¬ x = y → X.G h k n q' Ls st) (g0 : x = y → X.G h k n q Ls st) : X.G h k n pc Ls (.ref y :: .ref x :: st) := by
  subst hq
  by_cases hc : x = y
  · exact X.step (g0 hc) fun T _ Y t r => XT.acmpNo Y.here X.1 rfl (X.hd d) rfl rfl rfl (by simp [XT.acmp, hc]) r
  · exact X.step (g1 hc) fun T _ Y t r => XT.acmpYes Y.here X.1 rfl rfl (X.hd d) rfl rfl rfl (by simp [XT.acmp, hc]) hp.1 hp.2 r
theorem OwS.acmp_eq {o : Int} {q' : Nat} {x y : Addr} (d : decode bytes pc = .ok (.if_acmp .eq o, 3)) (hp : 0 ≤ (pc : Int) + o ∧ ((pc : Int) + o).toNat = q') (hq : pc + 3 = q) (g1 : x = y → X.G h k n q' Ls st) (g0 : ¬ x = y → X.G h k n q Ls st) : X.G h k n pc Ls (.ref y :: .ref x :: st) := by
  subst hq
  by_cases hc : x = y
  · exact X.step (g1 hc) fun T _ Y t r => XT.acmpYes Y.here X.1 rfl rfl (X.hd d) rfl rfl rfl (by simp [XT.acmp, hc]) hp.1 hp.2 r
  · exact X.step (g0 hc) fun T _ Y t r => XT.acmpNo Y.here X.1 rfl (X.hd d) rfl rfl rfl (by simp [XT.acmp, hc]) r
theorem OwS.getF {R0 O fn d0 host : String} {i : Nat} {a : Addr} {v : Value} (w : (Cond.fieldLink own i R0 fn d0).before a0 Z = true ∨ (Cond.fieldLinkNest own i R0 fn d0 host).before a0 Z = true) (via : Via Z R0 O fn d0) (F : Fld Z h a O fn d0 v) (d : decode bytes pc = .ok (.getfield i, 3)) (hq : pc + 3 = q) (g : X.G h k n q Ls (v :: st)) : X.G h k n pc Ls (.ref a :: st) := fun T locs Y eT N => by
  subst hq
  obtain ⟨T', Y', eT', w'⟩ := RoadKit.getF Y X.1 X.2.2.2.2.1 X.2.2.2.1 w via eT F (g := mkF m pc Ls (.ref a :: st)) rfl rfl (X.hd d)
  obtain ⟨v, s₂, L, r1, r⟩ := g T' locs Y' eT' N
  exact ⟨v, s₂, L, w' _ r1, r⟩
theorem OwS.getR {R0 fn d0 : String} {i : Nat} {a : Addr} {v : Value} (w : (Cond.fieldRef own i R0 fn d0).before a0 Z = true) (F : Fld Z h a R0 fn d0 v) (d : decode bytes pc = .ok (.getfield i, 3)) (hq : pc + 3 = q) (g : X.G h k n q Ls (v :: st)) : X.G h k n pc Ls (.ref a :: st) := fun T locs Y eT N => by
  subst hq
  have hT : Z.Warmed39 T.vm := wtrans X.2.2.2.2.1 Y.warmed
  have w' := Cond.fieldRef_warmed39 hT w
  have hcur : (Z.setVm T.vm).vm.findClass own = some m.cls := by rw [State.vm_setVm, Y.warmed.alike.findClass]; exact X.2.2.2.1
  obtain ⟨c1, k1, i1, f1, e1, e2⟩ := Cond.fieldRef_spec hcur w'
  obtain ⟨cell, cf, k, j, f, h1, h2, h3, h4, h5, h6, h7⟩ := F
  obtain ⟨k', q1, -⟩ := State.fieldFound?_setVm (s := Z) hT.alike h2
  cases q1.symm.trans e1
  obtain ⟨v', s₂, L, r1, r⟩ := g T locs Y eT N
  exact ⟨v', s₂, L, (Y.getfieldR X.1 (g := mkF m pc Ls (.ref a :: st)) rfl e2 h3 rfl (by rw [eT]; exact h1) h4 h7 (X.hd d) (Steps.refl _)).trans r1, r⟩
theorem OwS.getS {R0 O fn d0 : String} {i : Nat} {v : Value} (w : (Cond.fieldLink own i R0 fn d0).before a0 Z = true) (via : Via Z R0 O fn d0) (F : Sta Z h O fn d0 v) (d : decode bytes pc = .ok (.getstatic i, 3)) (hq : pc + 3 = q) (g : X.G h k n q Ls (v :: st)) : X.G h k n pc Ls st := fun T locs Y eT N => by
  subst hq
  obtain ⟨T', Y', eT', w'⟩ := RoadKit.getS (host := "") Y X.1 X.2.2.2.2.1 X.2.2.2.1 w via eT F (g := mkF m pc Ls st) rfl (X.hd d)
  obtain ⟨v, s₂, L, r1, r⟩ := g T' locs Y' eT' N
  exact ⟨v, s₂, L, w' _ r1, r⟩
theorem OwS.putF {R0 O fn d0 host C : String} {i kk : Nat} {a : Addr} {v old : Value} {ty : FieldType} (w : (Cond.fieldLink own i R0 fn d0).before a0 Z = true ∨ (Cond.fieldLinkNest own i R0 fn d0 host).before a0 Z = true) (via : Via Z R0 O fn d0) (F : Fld Z h a O fn d0 old) (E : Exa Z h a C)
    (L : (Cond.lays C O fn d0).before a0 Z = true ∨ ((Cond.laysFinal C O fn d0).before a0 Z = true ∧ own = O ∧ nm = "<init>")) (wi : (Cond.instantiable C kk).before a0 Z = true) (hty : parseFieldDescriptor d0 = some ty) (hnv : narrow ty v = v) (hf : fits ty v = true) (ge : n0 ≤ a)
    (d : decode bytes pc = .ok (.putfield i, 3)) (hq : pc + 3 = q) (g : ∀ h', Wr h h' a (RoadKit.slotOf Z O fn d0) v → X.G h' k n q Ls st) : X.G h k n pc Ls (v :: .ref a :: st) := fun T locs Y eT N => by
  subst hq
  obtain ⟨T', h', Y', eT', W, w'⟩ := RoadKit.putF Y X.1 X.2.2.2.2.1 X.2.2.2.1 w via eT F E (L.imp_right fun z => ⟨z.1, z.2.1, X.2.2.2.2.2.2.2.trans z.2.2⟩) wi hty hnv hf (g := mkF m pc Ls (v :: .ref a :: st)) rfl rfl (X.hd d)
  obtain ⟨v, s₂, L, r1, r⟩ := g h' W T' _ Y' eT' (Fr.snoc Y' N ge)
  exact ⟨v, s₂, L, w' _ r1, r⟩
theorem OwS.newO {C : String} {i N k' n' : Nat} (w : (Cond.classLink own i C).before a0 Z = true) (wi : (Cond.instantiable C N).before a0 Z = true) (wz : (Cond.initialized C).before a0 Z = true) (d : decode bytes pc = .ok (.new i, 3)) (hk : k + 1 = k') (hn : n + N = n') (hc : k' ≤ R.cells) (hs : n' ≤ R.slots) (hq : pc + 3 = q)
    (g : ∀ h' a, a = h.size → Ext h h' → Exa Z h' a C → (∀ {O fn d0 : String} {ty : FieldType}, Laid Z a0 C O fn d0 → parseFieldDescriptor d0 = some ty → Fld Z h' a O fn d0 (defaultValue ty)) → X.G h' k' n' q Ls (.ref a :: st)) : X.G h k n pc Ls st := fun T locs Y eT Nf => by
  subst hq hk hn
  obtain ⟨T', h', Y', eT', E, A, D, -, w'⟩ := RoadKit.newO Y X.1 X.2.2.2.2.1 X.2.2.2.1 w wi wz eT (g := mkF m pc Ls st) rfl (X.hd d) hc hs
  obtain ⟨v, s₂, L, r1, r⟩ := g h' h.size rfl E A D T' _ Y' eT' Nf
  exact ⟨v, s₂, L, w' _ r1, r⟩
theorem OwS.initO {i W : Nat} {a : Addr} (w1 : (Cond.methodLink own i Lib.objectInit).before a0 Z = true) (w2 : (Cond.instanceMethod Lib.objectInit).before a0 Z = true) (w3 : (Cond.code Lib.objectInit ⟨#[0xb1]⟩ 1 none).before a0 Z = true) (d : decode bytes pc = .ok (.invokespecial i, 3)) (hsz : Ls.size = mL) (hf : 1 ≤ R.frames) (hW : (st.map fun v => v.category).sum ≤ W) (hl : W + 12 ≤ R.locals) (hq : pc + 3 = q)
    (g : X.G h k n q Ls st) : X.G h k n pc Ls (.ref a :: st) := fun T locs Y eT N => by
  subst hq
  obtain ⟨T', Y', eT', w'⟩ := RoadKit.initO Y X.1 X.2.2.2.2.1 X.2.2.2.1 w1 w2 w3 eT (g := mkF m pc Ls (.ref a :: st)) rfl (hsz.trans X.2.2.1.symm) rfl (X.hd d) hf (W := W) (by show 2 * 0 + _ ≤ _; omega) hl
  obtain ⟨v, s₂, L, r1, r⟩ := g T' locs Y' eT' N
  exact ⟨v, s₂, L, w' _ r1, r⟩
variable {a : Addr} {ty : FieldType} {vs : List Value}
theorem OwS.newP {aty : ArrayType} {z : Int32} {N k' n' : Nat} (w : (Cond.arrayClass (newarray.typeOf aty)).before a0 Z = true) (d : decode bytes pc = .ok (.newarray aty, 2)) (ht : newarray.typeOf aty = ty) (hz : z.toInt = (N : Int)) {cap : Nat} (hcap : N ≤ cap) (hb : cap * 8 ≤ 536870912) (hk : k + 1 = k') (hn : n + cap = n') (hc : k' ≤ R.cells) (hs : n' ≤ R.slots) (hq : pc + 2 = q)
    (g : ∀ h' a, a = h.size → Ext h h' → OwA Z h' a ty (List.replicate N (defaultValue ty)) → X.G h' k' n' q Ls (.ref a :: st)) : X.G h k n pc Ls (.int z :: st) := fun T locs Y eT Nf => by
  subst hq hk hn ht
  obtain ⟨z1, z2⟩ := ow_idx hz
  obtain ⟨T', h', cA, Y', eT', E, A, w'⟩ := RoadKit.newP Y X.1 X.2.2.2.2.1 w eT (g := mkF m pc Ls (.int z :: st)) rfl (X.hd d) rfl z1 (cap := cap) (by omega) hb hc hs
  obtain ⟨v, s₂, L, r1, r⟩ := g h' h.size rfl E ⟨_, A, by simp [newA, z2], by have := z.toInt_lt; simp; omega⟩ T' _ Y' eT' Nf
  exact ⟨v, s₂, L, w' _ r1, r⟩
theorem OwS.alen {z : Int32} (A : OwA Z h a ty vs) (hz : z.toInt = (vs.length : Int)) (d : decode bytes pc = .ok (.arraylength, 1)) (hq : pc + 1 = q) (g : X.G h k n q Ls (.int z :: st)) : X.G h k n pc Ls (.ref a :: st) := fun T locs Y eT N => by
  subst hq
  obtain ⟨cl, A, e, hl⟩ := A
  obtain ⟨v, s₂, L, r1, r⟩ := g T locs Y eT N
  have hsz : cl.slots.size = vs.length := by rw [← e]; simp
  have ez : cl.slots.size.toInt32 = z := by rw [hsz, ← Int32.toInt_inj, len_toInt hl, hz]
  exact ⟨v, s₂, L, Y.arraylength X.1 (by rw [eT]; exact A.1) (State.isArrayOf_alike X.2.2.2.2.1.alike A.2.1) (g := mkF m pc Ls (.ref a :: st)) rfl rfl (X.hd d) _ (by rw [ez]; exact r1), r⟩
theorem OwS.iaload {i : Int32} {j : Nat} {v : Value} (A : OwA Z h a .int vs) (hi : i.toInt = (j : Int)) (hv : vs[j]? = some v) (d : decode bytes pc = .ok (.iaload, 1)) (hq : pc + 1 = q) (g : X.G h k n q Ls (v :: st)) : X.G h k n pc Ls (.int i :: .ref a :: st) := fun T locs Y eT N => by
  subst hq
  obtain ⟨cl, A, e, -⟩ := A
  obtain ⟨v, s₂, L, r1, r⟩ := g T locs Y eT N
  exact ⟨v, s₂, L, Y.iaload X.1 (by rw [eT]; exact A.1) (State.isArrayOf_alike X.2.2.2.2.1.alike A.2.1) A.2.2 (OwA.inb e hi (ow_getlt hv)) (OwA.at e hi hv) (g := mkF m pc Ls (.int i :: .ref a :: st)) rfl rfl (X.hd d) _ r1, r⟩
theorem OwS.laload {i : Int32} {j : Nat} {v : Value} (A : OwA Z h a .long vs) (hi : i.toInt = (j : Int)) (hv : vs[j]? = some v) (d : decode bytes pc = .ok (.laload, 1)) (hq : pc + 1 = q) (g : X.G h k n q Ls (v :: st)) : X.G h k n pc Ls (.int i :: .ref a :: st) := fun T locs Y eT N => by
  subst hq
  obtain ⟨cl, A, e, -⟩ := A
  obtain ⟨v, s₂, L, r1, r⟩ := g T locs Y eT N
  exact ⟨v, s₂, L, Y.laload X.1 (by rw [eT]; exact A.1) (State.isArrayOf_alike X.2.2.2.2.1.alike A.2.1) A.2.2 (OwA.inb e hi (ow_getlt hv)) (OwA.at e hi hv) (g := mkF m pc Ls (.int i :: .ref a :: st)) rfl rfl (X.hd d) _ r1, r⟩
theorem OwS.baload {i : Int32} {j : Nat} {v : Value} (A : OwA Z h a .byte vs) (hi : i.toInt = (j : Int)) (hv : vs[j]? = some v) (d : decode bytes pc = .ok (.baload, 1)) (hq : pc + 1 = q) (g : X.G h k n q Ls (v :: st)) : X.G h k n pc Ls (.int i :: .ref a :: st) := fun T locs Y eT N => by
  subst hq
  obtain ⟨cl, A, e, -⟩ := A
  obtain ⟨v, s₂, L, r1, r⟩ := g T locs Y eT N
  exact ⟨v, s₂, L, Y.baloadBytes X.1 (by rw [eT]; exact A.1) (State.isArrayOf_alike X.2.2.2.2.1.alike A.2.1) A.2.2 (OwA.inb e hi (ow_getlt hv)) (OwA.at e hi hv) (g := mkF m pc Ls (.int i :: .ref a :: st)) rfl rfl (X.hd d) _ r1, r⟩
theorem OwS.caload {i : Int32} {j : Nat} {v : Value} (A : OwA Z h a .char vs) (hi : i.toInt = (j : Int)) (hv : vs[j]? = some v) (d : decode bytes pc = .ok (.caload, 1)) (hq : pc + 1 = q) (g : X.G h k n q Ls (v :: st)) : X.G h k n pc Ls (.int i :: .ref a :: st) := fun T locs Y eT N => by
  subst hq
  obtain ⟨cl, A, e, -⟩ := A
  obtain ⟨v, s₂, L, r1, r⟩ := g T locs Y eT N
  exact ⟨v, s₂, L, Y.caload X.1 (by rw [eT]; exact A.1) (State.isArrayOf_alike X.2.2.2.2.1.alike A.2.1) A.2.2 (OwA.inb e hi (ow_getlt hv)) (OwA.at e hi hv) (g := mkF m pc Ls (.int i :: .ref a :: st)) rfl rfl (X.hd d) _ r1, r⟩
theorem OwS.iastore {i : Int32} {j : Nat} {x : Int32} (A : OwA Z h a .int vs) (hi : i.toInt = (j : Int)) (hj : j < vs.length) (ge : n0 ≤ a) (d : decode bytes pc = .ok (.iastore, 1)) (hq : pc + 1 = q) (g : ∀ h', Wr h h' a j (.int x) → OwA Z h' a .int (vs.set j (.int x)) → X.G h' k n q Ls st) : X.G h k n pc Ls (.int x :: .int i :: .ref a :: st) := fun T locs Y eT N => by
  subst hq
  obtain ⟨cl, A1, e, hl⟩ := id A
  obtain ⟨T', h', Y', eT', W, w'⟩ := RoadKit.stI Y X.1 X.2.2.2.2.1 eT A1 (OwA.inb e hi hj) (g := mkF m pc Ls (.int x :: .int i :: .ref a :: st)) rfl rfl (X.hd d)
  have N' := Fr.snoc Y' N ge
  rw [(ow_idx hi).2] at W
  obtain ⟨v, s₂, L, r1, r⟩ := g h' W (A.set W) T' _ Y' eT' N'
  exact ⟨v, s₂, L, w' _ r1, r⟩
theorem OwS.lastore {i : Int32} {j : Nat} {x : Int64} (A : OwA Z h a .long vs) (hi : i.toInt = (j : Int)) (hj : j < vs.length) (ge : n0 ≤ a) (d : decode bytes pc = .ok (.lastore, 1)) (hq : pc + 1 = q) (g : ∀ h', Wr h h' a j (.long x) → OwA Z h' a .long (vs.set j (.long x)) → X.G h' k n q Ls st) : X.G h k n pc Ls (.long x :: .int i :: .ref a :: st) := fun T locs Y eT N => by
  subst hq
  obtain ⟨cl, A1, e, hl⟩ := id A
  obtain ⟨T', h', Y', eT', W, w'⟩ := RoadKit.stJ Y X.1 X.2.2.2.2.1 eT A1 (OwA.inb e hi hj) (g := mkF m pc Ls (.long x :: .int i :: .ref a :: st)) rfl rfl (X.hd d)
  have N' := Fr.snoc Y' N ge
  rw [(ow_idx hi).2] at W
  obtain ⟨v, s₂, L, r1, r⟩ := g h' W (A.set W) T' _ Y' eT' N'
  exact ⟨v, s₂, L, w' _ r1, r⟩
theorem OwS.bastore {i : Int32} {j : Nat} {x : Int32} (A : OwA Z h a .byte vs) (hi : i.toInt = (j : Int)) (hj : j < vs.length) (ge : n0 ≤ a) (d : decode bytes pc = .ok (.bastore, 1)) (hq : pc + 1 = q) (g : ∀ h', Wr h h' a j (.int (nar .byte x)) → OwA Z h' a .byte (vs.set j (.int (nar .byte x))) → X.G h' k n q Ls st) : X.G h k n pc Ls (.int x :: .int i :: .ref a :: st) := fun T locs Y eT N => by
  subst hq
  obtain ⟨cl, A1, e, hl⟩ := id A
  obtain ⟨T', h', Y', eT', W, w'⟩ := RoadKit.stB Y X.1 X.2.2.2.2.1 eT A1 (OwA.inb e hi hj) (g := mkF m pc Ls (.int x :: .int i :: .ref a :: st)) rfl rfl (X.hd d)
  have N' := Fr.snoc Y' N ge
  rw [(ow_idx hi).2] at W
  obtain ⟨v, s₂, L, r1, r⟩ := g h' W (A.set W) T' _ Y' eT' N'
  exact ⟨v, s₂, L, w' _ r1, r⟩
theorem OwS.castore {i : Int32} {j : Nat} {x : Int32} (A : OwA Z h a .char vs) (hi : i.toInt = (j : Int)) (hj : j < vs.length) (ge : n0 ≤ a) (d : decode bytes pc = .ok (.castore, 1)) (hq : pc + 1 = q) (g : ∀ h', Wr h h' a j (.int (nar .char x)) → OwA Z h' a .char (vs.set j (.int (nar .char x))) → X.G h' k n q Ls st) : X.G h k n pc Ls (.int x :: .int i :: .ref a :: st) := fun T locs Y eT N => by
  subst hq
  obtain ⟨cl, A1, e, hl⟩ := id A
  obtain ⟨T', h', Y', eT', W, w'⟩ := RoadKit.stC Y X.1 X.2.2.2.2.1 eT A1 (OwA.inb e hi hj) (g := mkF m pc Ls (.int x :: .int i :: .ref a :: st)) rfl rfl (X.hd d)
  have N' := Fr.snoc Y' N ge
  rw [(ow_idx hi).2] at W
  obtain ⟨v, s₂, L, r1, r⟩ := g h' W (A.set W) T' _ Y' eT' N'
  exact ⟨v, s₂, L, w' _ r1, r⟩
variable {y : MethodName} {by' : ByteArray} {mL' : Nat} {ret' : Option FieldType} {rm : Room} {as : Array Value} {Ψ : Option Value → Heap → Prop}
theorem OwS.back (X : OwS p l e R s m args below meth c Z own nm bytes mL ret n0 kM nM Φ s0 EL) {len W : Nat} (K : OwM l Z y by' mL' ret' rm rm.cells rm.slots [] as h n0 Ψ) (wc : (Cond.code y by' mL' ret').before a0 Z = true) (wz : (Cond.initialized y.cls).before a0 Z = true) (hf : rm.frames + 1 ≤ R.frames) (hl : W + (mL' + 11) + rm.locals ≤ R.locals) :
    Back l R p e below s args y len W (fun A a => a = as ∧ A.U.heap = h ∧ A.cells + rm.cells ≤ R.cells ∧ A.slots + rm.slots ≤ R.slots)
      (fun A _ v B => ∃ L, (Ψ v B.U.heap ∧ Fr n0 L) ∧ B.locs = A.locs ++ L ∧ B.cells = A.cells + rm.cells ∧ B.slots = A.slots + rm.slots) :=
  backOf (Q := fun v h L => Ψ v h ∧ Fr n0 L) K X.2.2.2.2.1 wc wz hf hl
theorem OwS.callS {i W k' n' : Nat} {argsL : List Value} {ps : List FieldType} {rt : Option FieldType} (K : OwM l Z y by' mL' ret' rm rm.cells rm.slots [] as h n0 Ψ) (w1 : (Cond.methodLink own i y).before a0 Z = true) (w2 : (Cond.static y).before a0 Z = true) (w3 : (Cond.initialized y.cls).before a0 Z = true) (w4 : (Cond.code y by' mL' ret').before a0 Z = true) (hy : y.cls ≠ "java/lang/invoke/MethodHandle" ∧ y.cls ≠ "java/lang/invoke/VarHandle")
    (pd : parseMethodDescriptor y.desc = some ⟨ps, rt⟩) (hlen : argsL.length = ps.length) (has : argsL.toArray = as) (hst : st = argsL.reverse ++ rest) (hW : (rest.map fun v => v.category).sum ≤ W) (hsz : Ls.size = mL) (hf : rm.frames + 1 ≤ R.frames) (hl : W + (mL' + 11) + rm.locals ≤ R.locals) (hk : k + rm.cells = k') (hn : n + rm.slots = n') (hc : k' ≤ R.cells) (hs : n' ≤ R.slots)
    (d : decode bytes pc = .ok (.invokestatic i, 3)) (hq : pc + 3 = q) (g : ∀ v h', Ψ v h' → X.G h' k' n' q Ls (v.toList ++ rest)) : X.G h k n pc Ls st := fun T locs Y eT N => by
  subst hq hk hn has
  obtain ⟨v, vm1, B, -, Y', ⟨L0, ⟨hΨ, N0⟩, l1, l2, l3⟩, w'⟩ := Jvm.LawKit.callS Y X.1 (y := y) X.2.2.2.1 (mvT X.2.2.2.2.1 w1) (mvT X.2.2.2.2.1 w2) (mvT X.2.2.2.2.1 w3) (mvT X.2.2.2.2.1 w4) hy (X.back K w4 w3 hf hl) (g := mkF m pc Ls st) rfl (hsz.trans X.2.2.1.symm) (argsL := argsL) (rest := rest) (lenOf pd hlen) hst (by show 2 * 0 + _ ≤ _; omega) (X.hd d) (fun _ _ => ⟨rfl, eT, hc, hs⟩)
  obtain ⟨T', L', k', n'⟩ := B
  dsimp only [Pt.U, Pt.locs, Pt.cells, Pt.slots] at Y' l1 l2 l3 w' hΨ
  subst l1 l2 l3
  obtain ⟨v, s₂, L, r1, r⟩ := g v _ hΨ T' _ Y' rfl (N.app N0)
  exact ⟨v, s₂, L, w' _ r1, r⟩
theorem OwS.special {i W k' n' : Nat} {a : Addr} {argsL : List Value} {ps : List FieldType} {rt : Option FieldType} (K : OwM l Z y by' mL' none rm rm.cells rm.slots [] as h n0 Ψ) (hin : y.name = "<init>") (w1 : (Cond.methodLink own i y).before a0 Z = true) (w2 : (Cond.instanceMethod y).before a0 Z = true) (w3 : (Cond.initialized y.cls).before a0 Z = true) (w4 : (Cond.code y by' mL' none).before a0 Z = true) (hy : y.cls ≠ "java/lang/invoke/MethodHandle" ∧ y.cls ≠ "java/lang/invoke/VarHandle")
    (pd : parseMethodDescriptor y.desc = some ⟨ps, rt⟩) (hlen : argsL.length = ps.length) (has : (.ref a :: argsL).toArray = as) (hst : st = argsL.reverse ++ .ref a :: rest) (hW : (rest.map fun v => v.category).sum ≤ W) (hsz : Ls.size = mL) (hf : rm.frames + 1 ≤ R.frames) (hl : W + (mL' + 11) + rm.locals ≤ R.locals) (hk : k + rm.cells = k') (hn : n + rm.slots = n') (hc : k' ≤ R.cells) (hs : n' ≤ R.slots)
    (d : decode bytes pc = .ok (.invokespecial i, 3)) (hq : pc + 3 = q) (g : ∀ v h', Ψ v h' → X.G h' k' n' q Ls (v.toList ++ rest)) : X.G h k n pc Ls st := fun T locs Y eT N => by
  subst hq hk hn has
  obtain ⟨v, vm1, B, -, Y', ⟨L0, ⟨hΨ, N0⟩, l1, l2, l3⟩, w'⟩ := Y.specialBack X.1 (y := y) hin X.2.2.2.1 (mvT X.2.2.2.2.1 w1) (mvT X.2.2.2.2.1 w2) (mvT X.2.2.2.2.1 w4) hy (X.back K w4 w3 hf hl) (g := mkF m pc Ls st) rfl (hsz.trans X.2.2.1.symm) (Steps.refl _) (a := a) (argsL := argsL) (rest := rest) (lenOf pd hlen) hst (by show 2 * 0 + _ ≤ _; omega) (X.hd d) (fun _ _ => ⟨rfl, eT, hc, hs⟩)
  obtain ⟨T', L', k', n'⟩ := B
  dsimp only [Pt.U, Pt.locs, Pt.cells, Pt.slots] at Y' l1 l2 l3 w' hΨ
  subst l1 l2 l3
  obtain ⟨v, s₂, L, r1, r⟩ := g v _ hΨ T' _ Y' rfl (N.app N0)
  exact ⟨v, s₂, L, w'.trans r1, r⟩
theorem OwS.virtual {C : String} {i W k' n' : Nat} {a : Addr} {argsL : List Value} {ps : List FieldType} {rt : Option FieldType} (K : OwM l Z y by' mL' ret' rm rm.cells rm.slots [] as h n0 Ψ) (w1 : (Cond.methodLink own i y).before a0 Z = true) (w2 : (Cond.declares y).before a0 Z = true) (w5 : (Cond.selects C y y).before a0 Z = true) (w6 : (Cond.instanceMethod y).before a0 Z = true) (w3 : (Cond.initialized y.cls).before a0 Z = true) (w4 : (Cond.code y by' mL' ret').before a0 Z = true) (hy : y.cls ≠ "java/lang/invoke/MethodHandle" ∧ y.cls ≠ "java/lang/invoke/VarHandle") (E : Exa Z h a C)
    (pd : parseMethodDescriptor y.desc = some ⟨ps, rt⟩) (hlen : argsL.length = ps.length) (has : (.ref a :: argsL).toArray = as) (hst : st = argsL.reverse ++ .ref a :: rest) (hW : (rest.map fun v => v.category).sum ≤ W) (hsz : Ls.size = mL) (hf : rm.frames + 1 ≤ R.frames) (hl : W + (mL' + 11) + rm.locals ≤ R.locals) (hk : k + rm.cells = k') (hn : n + rm.slots = n') (hc : k' ≤ R.cells) (hs : n' ≤ R.slots)
    (d : decode bytes pc = .ok (.invokevirtual i, 3)) (hq : pc + 3 = q) (g : ∀ v h', Ψ v h' → X.G h' k' n' q Ls (v.toList ++ rest)) : X.G h k n pc Ls st := fun T locs Y eT N => by
  subst hq hk hn has
  obtain ⟨cB, kB, q1, q2, q3⟩ := isOf (T := T) X.2.2.2.2.1 eT E
  obtain ⟨v, vm1, B, -, Y', ⟨L0, ⟨hΨ, N0⟩, l1, l2, l3⟩, w'⟩ := Y.virtualBack X.1 (y := y) (z := y) X.2.2.2.1 (mvT X.2.2.2.2.1 w1) (mvT X.2.2.2.2.1 w2) (notFace_of_selects (args := #[]) (mvT X.2.2.2.2.1 w5)) (mvT X.2.2.2.2.1 w5) (mvT X.2.2.2.2.1 w6) hy (X.back K w4 w3 hf hl) q1 q3 (g := mkF m pc Ls st) rfl (hsz.trans X.2.2.1.symm) (Steps.refl _) (argsL := argsL) (rest := rest) (lenOf pd hlen) hst (by show 2 * 0 + _ ≤ _; omega) (X.hd d) (fun _ _ => ⟨rfl, eT, hc, hs⟩)
  obtain ⟨T', L', k', n'⟩ := B
  dsimp only [Pt.U, Pt.locs, Pt.cells, Pt.slots] at Y' l1 l2 l3 w' hΨ
  subst l1 l2 l3
  obtain ⟨v, s₂, L, r1, r⟩ := g v _ hΨ T' _ Y' rfl (N.app N0)
  exact ⟨v, s₂, L, w'.trans r1, r⟩
theorem OwS.private {C : String} {i W k' n' kk : Nat} {a : Addr} {argsL : List Value} {ps : List FieldType} {rt : Option FieldType} (K : OwM l Z y by' mL' ret' rm rm.cells rm.slots [] as h n0 Ψ) (w1 : (Cond.methodLink own i y).before a0 Z = true) (w6 : (Cond.instanceMethod y).before a0 Z = true) (w7 : (Cond.privateMethod y).before a0 Z = true) (w8 : (Cond.instantiable y.cls kk).before a0 Z = true) (w3 : (Cond.initialized y.cls).before a0 Z = true) (w4 : (Cond.code y by' mL' ret').before a0 Z = true) (hy : y.cls ≠ "java/lang/invoke/MethodHandle" ∧ y.cls ≠ "java/lang/invoke/VarHandle") (E : Exa Z h a C)
    (pd : parseMethodDescriptor y.desc = some ⟨ps, rt⟩) (hlen : argsL.length = ps.length) (has : (.ref a :: argsL).toArray = as) (hst : st = argsL.reverse ++ .ref a :: rest) (hW : (rest.map fun v => v.category).sum ≤ W) (hsz : Ls.size = mL) (hf : rm.frames + 1 ≤ R.frames) (hl : W + (mL' + 11) + rm.locals ≤ R.locals) (hk : k + rm.cells = k') (hn : n + rm.slots = n') (hc : k' ≤ R.cells) (hs : n' ≤ R.slots)
    (d : decode bytes pc = .ok (.invokevirtual i, 3)) (hq : pc + 3 = q) (g : ∀ v h', Ψ v h' → X.G h' k' n' q Ls (v.toList ++ rest)) : X.G h k n pc Ls st := fun T locs Y eT N => by
  subst hq hk hn has
  obtain ⟨cell, e1, e2⟩ := E.cell
  obtain ⟨c8, k8, f1, f2, -, f4, -⟩ := Cond.instantiable_spec (mvT (args := #[]) X.2.2.2.2.1 w8)
  have hni : k8.isInterface = false := by cases hh : k8.isInterface with
    | false => rfl
    | true => rw [hh] at f4; cases f4
  have hpr := Cond.privateMethod_at (mvP X.2.2.2.2.1 w7 (args := #[]))
  obtain ⟨v, vm1, B, -, Y', ⟨L0, ⟨hΨ, N0⟩, l1, l2, l3⟩, w'⟩ := Y.privateBack X.1 (y := y) X.2.2.2.1 (mvT X.2.2.2.2.1 w1) (mvT X.2.2.2.2.1 w6) (Jvm.Stand.selects_self_of_private f1 f2 hni hpr (mvT X.2.2.2.2.1 w6) hy) hpr (mvT X.2.2.2.2.1 w4) hy (X.back K w4 w3 hf hl) (g := mkF m pc Ls st) rfl (hsz.trans X.2.2.1.symm) (Steps.refl _) (a := a) (cell := cell) (by rw [eT]; exact e1) e2 (argsL := argsL) (rest := rest) (lenOf pd hlen) hst (by show 2 * 0 + _ ≤ _; omega) (X.hd d) (fun _ _ => ⟨rfl, eT, hc, hs⟩)
  obtain ⟨T', L', k', n'⟩ := B
  dsimp only [Pt.U, Pt.locs, Pt.cells, Pt.slots] at Y' l1 l2 l3 w' hΨ
  subst l1 l2 l3
  obtain ⟨v, s₂, L, r1, r⟩ := g v _ hΨ T' _ Y' rfl (N.app N0)
  exact ⟨v, s₂, L, w'.trans r1, r⟩
theorem OwS.fin {v : Option Value} (HK : OwK a0 s0 s Z EL h) (hv : meth.sig.returnType = none → v = none) (w : ∀ T locs, Stand p l e R s m args below meth c T locs k n → ∀ fs, (∀ (f : JFrame) (acts : List Action), f.method = m → f.locked = none → f.entered = [] → (doReturn e (T.setTop f) acts v).1 = T.setFrames fs) → Steps p.tables e below (T.setTop (mkF m pc Ls st)) (T.setFrames fs)) (hk : k ≤ kM) (hn : n ≤ nM) (hΦ : Φ v h) : X.G h k n pc Ls st := fun T locs Y eT N => by
  obtain ⟨vm0, hvm⟩ : ∃ vm0, s = s0.setVm vm0 := ⟨_, HK.eq⟩
  subst hvm
  obtain ⟨k0, hS, hk0⟩ := HK.sn
  obtain ⟨fs, hr, hrun, hended, hRE⟩ := (Y.mono hk hn).leaveW (vm₁ := vm0) hS (by rw [eT]; exact hk0) (v := v) hv X.2.2.2.2.2.2.1
  refine ⟨v, _, locs, w T locs Y fs hr, hrun, hended, ⟨by show Φ v T.heap; rw [eT]; exact hΦ, N⟩, ?_, hRE⟩
  have A := HK.ch.trans (CHv.at Y X.2.2.2.2.1 HK.ew HK.ch.1)
  show CHr Z EL s0.vm s0.heap T.vm T.heap
  rw [eT]; exact A
theorem OwS.retV (HK : OwK a0 s0 s Z EL h) (d : decode bytes pc = .ok (.return_, 1)) (hret : ret = none) (hk : k ≤ kM) (hn : n ≤ nM) (hΦ : Φ none h) : X.G h k n pc Ls [] :=
  X.fin HK (fun _ => rfl) (fun T _ Y fs hr => Y.returnOut X.1 (X.2.2.2.2.2.1.trans hret) (X.hd d) hr) hk hn hΦ
theorem OwS.retI {z : Int32} (HK : OwK a0 s0 s Z EL h) (d : decode bytes pc = .ok (.ireturn, 1)) (hret : ret = some .int) (hk : k ≤ kM) (hn : n ≤ nM) (hΦ : Φ (some (.int z)) h) : X.G h k n pc Ls (.int z :: st) :=
  X.fin HK (fun q => by rw [X.2.2.2.2.2.1, hret] at q; cases q) (fun T _ Y fs hr => retOut Y X.1 (X.2.2.2.2.2.1.trans hret) rfl (Or.inl ⟨rfl, Or.inl rfl, z, rfl⟩) (X.hd d) hr) hk hn hΦ
theorem OwS.retN {z z' : Int32} {t : FieldType} (HK : OwK a0 s0 s Z EL h) (d : decode bytes pc = .ok (.ireturn, 1)) (hret : ret = some t) (ht : t = .boolean ∨ t = .byte ∨ t = .char ∨ t = .short) (hz : nar t z = z') (hk : k ≤ kM) (hn : n ≤ nM) (hΦ : Φ (some (.int z')) h) : X.G h k n pc Ls (.int z :: st) := by
  subst hz
  exact X.fin HK (fun q => by rw [X.2.2.2.2.2.1, hret] at q; cases q) (fun T _ Y fs hr => RoadKit.retN Y X.1 (X.2.2.2.2.2.1.trans hret) ht (X.hd d) hr) hk hn hΦ
theorem OwS.retJ {z : Int64} (HK : OwK a0 s0 s Z EL h) (d : decode bytes pc = .ok (.lreturn, 1)) (hret : ret = some .long) (hk : k ≤ kM) (hn : n ≤ nM) (hΦ : Φ (some (.long z)) h) : X.G h k n pc Ls (.long z :: st) :=
  X.fin HK (fun q => by rw [X.2.2.2.2.2.1, hret] at q; cases q) (fun T _ Y fs hr => retOut Y X.1 (X.2.2.2.2.2.1.trans hret) rfl (Or.inr (Or.inl ⟨rfl, rfl, z, rfl⟩)) (X.hd d) hr) hk hn hΦ
theorem OwS.retA {v : Value} {t : FieldType} (HK : OwK a0 s0 s Z EL h) (d : decode bytes pc = .ok (.areturn, 1)) (hret : ret = some t) (ht : t.isReference = true) (hv : v.isRef = true) (hnv : narrow t v = v) (hk : k ≤ kM) (hn : n ≤ nM) (hΦ : Φ (some v) h) : X.G h k n pc Ls (v :: st) :=
  X.fin HK (fun q => by rw [X.2.2.2.2.2.1, hret] at q; cases q) (fun T _ Y fs hr => retOut Y X.1 (X.2.2.2.2.2.1.trans hret) hnv (Or.inr (Or.inr (Or.inr (Or.inr ⟨rfl, ht, hv⟩)))) (X.hd d) hr) hk hn hΦ
/-! String constants, and calls of bodies that may load them -/
theorem OwA.ofArv {b : Addr} {kc : ClassId} {z : Int32} {vs : List Value} {d : Value} {ty : FieldType} (F : Arv Z h b kc ty z vs d) (hl : z.toNatClampNeg = vs.length) : OwA Z h b ty vs := by
  obtain ⟨cl, A, -, hsz, -, H, -⟩ := F
  refine ⟨cl, A, ?_, ?_⟩
  · apply List.ext_getElem?
    intro j
    rw [Array.getElem?_toList]
    by_cases hj : j < cl.slots.size
    · rw [H j hj, List.getElem?_eq_getElem (by omega)]; simp [List.getElem?_eq_getElem (show j < vs.length by omega)]
    · rw [Array.getElem?_eq_none (by omega), List.getElem?_eq_none (by omega)]
  · have h1 : z.toNatClampNeg = z.toInt.toNat := rfl
    have := z.toInt_lt; omega
theorem OwS.ldcS {i nb k' n' : Nat} {text : String} {vs : List Value} (HK : OwK a0 s0 s Z EL h) (w : (Cond.stringLink own i text).before a0 Z = true) (wS : ∀ a ∈ Bundle.stringAtoms, a.before a0 Z = true) (hmem : (own, i) ∈ EL) (ht : (∀ c ∈ text.toList, c.toNat < 256) ∧ text.toList.map (fun c => Value.int (Jvm.Lit.byteI c.toNat.toUInt16)) = vs)
    (d : decode bytes pc = .ok (.ldc i, 2)) (hnb : 4 * text.toList.length ≤ nb) (hbig : nb ≤ 536870912) (hk : k + 2 = k') (hn : n + (nb + 4) = n') (hc : k' ≤ R.cells) (hs : n' ≤ R.slots) (hq : pc + 2 = q)
    (g : ∀ s' (X' : OwS p l e R s' m args below meth c Z own nm bytes mL ret n0 kM nM Φ s0 EL) h' a b, Ext h h' → OwK a0 s0 s' Z EL h' → Exa Z h' a "java/lang/String" → Fld Z h' a "java/lang/String" "coder" "B" (.int 0) → Fld Z h' a "java/lang/String" "value" "[B" (.ref b) → OwA Z h' b .byte vs → (∀ x, Safe Z EL s.vm h x → x < h.size → x ≠ a ∧ x ≠ b) → X'.G h' k' n' q Ls (.ref a :: st)) : X.G h k n pc Ls st := fun T locs Y eT N => by
  subst hq hk hn
  obtain ⟨vm0, hvm⟩ : ∃ vm0, s = s0.setVm vm0 := ⟨_, HK.eq⟩
  subst hvm
  obtain ⟨k0, hS, hk0⟩ := HK.sn
  have hlen : vs.length = text.toList.length := by rw [← ht.2, List.length_map]
  have hzi : (Int32.ofNat vs.length).toInt = (vs.length : Int) := Int32.toInt_ofNat_of_lt (by omega)
  obtain ⟨z1, z2⟩ := ow_idx hzi
  obtain ⟨a, T', h', k1, b, kc, Y', e', E, hS', hk1, hW', hown', F1, F2, F3, F4, -, -, hC, -, hne, w'⟩ := ldcCH (z := Int32.ofNat vs.length) Y X.1 X.2.2.2.2.1 X.2.2.2.1 w wS eT hS hk0 HK.ew hmem HK.ch.1 ht z1 z2 (g := mkF m pc Ls st) rfl (X.hd d) hnb hbig hc hs
  have X' : OwS p l e R (s0.setVm T'.vm) m args below meth c Z own nm bytes mL ret n0 kM nM Φ s0 EL := ⟨X.1, X.2.1, X.2.2.1, hown', hW', X.2.2.2.2.2⟩
  obtain ⟨v, s₂, L, r1, r⟩ := g (s0.setVm T'.vm) X' h' a b E ⟨rfl, ⟨k1, hS', hk1⟩, HK.ew, HK.ch.trans hC⟩ F1 F2 F3 (OwA.ofArv F4 z2) (fun x Sx hx => hne x (hC.safe hx Sx)) T' _ Y' e' N
  exact ⟨v, s₂, L, w' _ r1, r⟩
def OwN (l : Launch) (Z : State) (EL : List (String × Nat)) (y : MethodName) (bytes : ByteArray) (mL : Nat) (ret : Option FieldType) (rm : Room) (kM nM : Nat) (ws : List Cond) (as : Array Value) (h0 : Heap) (n0 : Nat) (Φ : Option Value → Heap → Prop) : Prop :=
  MetFree l y (head1 (Cond.code y bytes mL ret :: ws) rm) (fun a U => a = as ∧ Z.Warmed39 U.vm ∧ U.heap = h0 ∧ CHv Z EL U.vm h0) (fun _ _ _ _ _ => True) (fun _ U o U' => ∃ v L, o = .returned v ∧ (Φ v U'.heap ∧ Fr n0 L) ∧ CHr Z EL U.vm U.heap U'.vm U'.heap ∧ ReturnedEndW U o U' L kM nM)
theorem OwN.of {y : MethodName} {rm : Room} {ws : List Cond} {as : Array Value} {h0 : Heap} (hEW : EW Z a0 EL) (hpn : plainFor y = true) (hef : ∀ m, entryFrame m as mL = mkF m 0 Ls [])
    (body : ∀ p e s m below meth c (X : OwS p l e rm s m as below meth c Z y.cls y.name bytes mL ret n0 kM nM Φ s EL), OwK a0 s s Z EL h0 → X.G h0 0 0 0 Ls []) : OwN l Z EL y bytes mL ret rm kM nM ws as h0 n0 Φ := by
  refine MetFree.of_bodySF hpn hisR ?_
  intro p e s m args below meth c s₁ Bd hml0 hP hK
  obtain ⟨rfl, hZ, hh, hCH⟩ := hP
  have X : OwS p l e rm s m args below meth c Z y.cls y.name bytes mL ret n0 kM nM Φ s EL := ⟨Bd.exec, Bd.bytes, hml0, findClass_of_methodNamed Bd.named, hZ, Bd.returns, Bd.notSynchronized, (name_of_methodNamed Bd.named Bd.method).1⟩
  have HK : OwK a0 s s Z EL h0 := ⟨rfl, ⟨h0.size, (State.WarmedH.refl s).since _, Nat.le_refl _⟩, hEW, by rw [hh]; exact CHr.refl hCH⟩
  obtain ⟨v, s₂, L, r1, r2, r3, r4, r5⟩ := body p e s m below meth c X HK s₁ [] (Stand.of_body Bd) (by rw [← hh, Bd.state]; rfl) (Fr.nil n0)
  exact ⟨s₂, _, castTop (hef m) r1, r2, r3, v, L, rfl, r4, r5⟩
theorem OwS.callN {i W k' n' : Nat} {argsL : List Value} {ps : List FieldType} {rt : Option FieldType} (HK : OwK a0 s0 s Z EL h) (K : OwN l Z EL y by' mL' ret' rm rm.cells rm.slots [] as h n0 Ψ) (w1 : (Cond.methodLink own i y).before a0 Z = true) (w2 : (Cond.static y).before a0 Z = true) (w3 : (Cond.initialized y.cls).before a0 Z = true) (w4 : (Cond.code y by' mL' ret').before a0 Z = true) (hy : y.cls ≠ "java/lang/invoke/MethodHandle" ∧ y.cls ≠ "java/lang/invoke/VarHandle")
    (pd : parseMethodDescriptor y.desc = some ⟨ps, rt⟩) (hlen : argsL.length = ps.length) (has : argsL.toArray = as) (hst : st = argsL.reverse ++ rest) (hW : (rest.map fun v => v.category).sum ≤ W) (hsz : Ls.size = mL) (hf : rm.frames + 1 ≤ R.frames) (hl : W + (mL' + 11) + rm.locals ≤ R.locals) (hk : k + rm.cells = k') (hn : n + rm.slots = n') (hc : k' ≤ R.cells) (hs : n' ≤ R.slots)
    (d : decode bytes pc = .ok (.invokestatic i, 3)) (hq : pc + 3 = q) (g : ∀ s' (X' : OwS p l e R s' m args below meth c Z own nm bytes mL ret n0 kM nM Φ s0 EL) v h', h.size ≤ h'.size → OwK a0 s0 s' Z EL h' → (∀ x, Safe Z EL s.vm h x → x < h.size → Safe Z EL s'.vm h' x) → Ψ v h' → X'.G h' k' n' q Ls (v.toList ++ rest)) : X.G h k n pc Ls st := fun T locs Y eT N => by
  subst hq hk hn has
  obtain ⟨vm0, hvm⟩ : ∃ vm0, s = s0.setVm vm0 := ⟨_, HK.eq⟩
  subst hvm
  obtain ⟨k0, hS, hk0⟩ := HK.sn
  have B := backOfSH (s := s0) (p := p) (e := e) (R := R) (below := below) (args := args) (W := W) (len := 3) (Q := fun v h L => Ψ v h ∧ Fr n0 L) K X.2.2.2.2.1 w4 w3 hf hl HK.ew HK.ch.1
  obtain ⟨v, vm1, B, -, Y', hS2, hgr, ⟨L0, ⟨hΨ, N0⟩, l1, l2, l3, hC⟩, w'⟩ := Jvm.RoadKit.callSS Y X.1 (y := y) X.2.2.2.1 (mvT X.2.2.2.2.1 w1) (mvT X.2.2.2.2.1 w2) (mvT X.2.2.2.2.1 w3) (mvT X.2.2.2.2.1 w4) hy B (g := mkF m pc Ls st) rfl (hsz.trans X.2.2.1.symm) (argsL := argsL) (rest := rest) (lenOf pd hlen) hst (by show 2 * 0 + _ ≤ _; omega) (X.hd d) (fun _ _ => ⟨rfl, eT, hc, hs⟩)
  obtain ⟨T', L', k', n'⟩ := B
  dsimp only [Pt.U, Pt.locs, Pt.cells, Pt.slots] at Y' l1 l2 l3 w' hΨ hS2 hgr hC
  subst l1 l2 l3
  obtain ⟨Y2, hS3, hW3, hown3⟩ := rebS hS (by rw [eT]; exact hk0) Y' hS2 hgr X.2.2.2.2.1 X.2.2.2.1
  have X' : OwS p l e R (s0.setVm T'.vm) m args below meth c Z own nm bytes mL ret n0 kM nM Φ s0 EL := ⟨X.1, X.2.1, X.2.2.1, hown3, hW3, X.2.2.2.2.2⟩
  obtain ⟨v, s₂, L, r1, r⟩ := g (s0.setVm T'.vm) X' v _ (by rw [← eT]; exact hgr) ⟨rfl, ⟨_, hS3, Nat.le_refl _⟩, HK.ew, HK.ch.trans hC⟩ (fun x Sx hx => hC.safe hx Sx) hΨ T' _ Y2 rfl (N.app N0)
  exact ⟨v, s₂, L, w'.trans r1, r⟩
end OwSKit
theorem own_wS {Z : State} {a0 : Array Value} (hw : ∀ d ∈ tables_1, d.before a0 Z = true) : ∀ a ∈ Bundle.stringAtoms, a.before a0 Z = true := by
  intro a ha
  simp only [Bundle.stringAtoms, List.mem_cons, List.not_mem_nil, or_false] at ha
  rcases ha with rfl | rfl | rfl | rfl | rfl | rfl | rfl
  · exact (hw _ (List.mem_of_getElem? (i := 6) rfl))
  · exact (hw _ (List.mem_of_getElem? (i := 7) rfl))
  · exact (hw _ (List.mem_of_getElem? (i := 8) rfl))
  · exact (hw _ (List.mem_of_getElem? (i := 9) rfl))
  · exact (hw _ (List.mem_of_getElem? (i := 10) rfl))
  · exact (hw _ (List.mem_of_getElem? (i := 11) rfl))
  · exact (hw _ (List.mem_of_getElem? (i := 12) rfl))
theorem own_EW {Z : State} {a0 : Array Value} (hw : ∀ d ∈ tables_1, d.before a0 Z = true) : EW Z a0 consts_1 :=
  EW.cons (text := "-._~") (hw _ (List.mem_of_getElem? (i := 5) rfl)) (by decide +kernel) (EW.nil)
/-! numbers -/
theorem own_ofNat {c : Int32} (h1 : 0 ≤ c.toInt) (h2 : c.toInt < 2147483648) : c = Int32.ofNat c.toInt.toNat := by
  rw [← Int32.toInt_inj, Int32.toInt_ofNat_small (by omega)]; omega
theorem own_natInt (x : Int32) : x.toInt = if x.toBitVec.toNat < 2147483648 then (x.toBitVec.toNat : Int) else (x.toBitVec.toNat : Int) - 4294967296 := by
  show x.toBitVec.toInt = _
  rw [BitVec.toInt_eq_toNat_cond]
  split <;> split <;> omega
theorem own_c16 (x : Int32) : x.toUInt32.toUInt16.toUInt32.toInt32.toInt = x.toInt % 65536 := by
  have e : x.toUInt32.toUInt16.toUInt32.toInt32.toBitVec.toNat = x.toBitVec.toNat % 65536 := rfl
  have h1 := own_natInt x.toUInt32.toUInt16.toUInt32.toInt32
  have h2 := own_natInt x
  have h3 := x.toBitVec.isLt
  rw [e] at h1
  split at h1 <;> split at h2 <;> omega

theorem own_sub {x y : Int32} {b : Int} (hy : y.toInt = b) (h1 : -2147483648 ≤ x.toInt - b) (h2 : x.toInt - b < 2147483648) : (x - y).toInt = x.toInt - b := by
  subst hy; rw [Int32.toInt_sub]; exact Int.bmod_eq_of_le (by omega) (by omega)
theorem own_add {x y : Int32} {b : Int} (hy : y.toInt = b) (h1 : -2147483648 ≤ x.toInt + b) (h2 : x.toInt + b < 2147483648) : (x + y).toInt = x.toInt + b := by
  subst hy; rw [Int32.toInt_add]; exact Int.bmod_eq_of_le (by omega) (by omega)
theorem own_nor32 (n : Nat) : n ||| 32 = n + 32 * (1 - n / 32 % 2) := by
  have h1 : (n ||| 32) / 64 = n / 64 := by
    have := Nat.or_div_two_pow (a := n) (b := 32) (n := 6)
    simpa using this
  have h2 : (n ||| 32) % 64 = (n % 64) ||| 32 := by
    have := Nat.or_mod_two_pow (a := n) (b := 32) (n := 6)
    simpa using this
  have key : ∀ k : Fin 64, k.val ||| 32 = k.val + 32 * (1 - k.val / 32 % 2) := by decide
  have h3 := key ⟨n % 64, Nat.mod_lt _ (by omega)⟩
  simp only at h3
  rw [h3] at h2
  omega
theorem own_or32 (c : Int32) (h0 : 0 ≤ c.toInt) : (c ||| 32).toInt = c.toInt + 32 * (1 - c.toInt / 32 % 2) := by
  have e : (c ||| 32).toBitVec.toNat = c.toBitVec.toNat ||| 32 := rfl
  have h1 := own_natInt (c ||| 32)
  have h2 := own_natInt c
  have h3 := c.toBitVec.isLt
  rw [e, own_nor32] at h1
  split at h1 <;> split at h2 <;> omega

theorem own_d_jdk_43_method_23_0 : decode jdk_43_method_23_code 0 = .ok (.iload_n 1, 1) := by decide +kernel
theorem own_d_jdk_43_method_23_1 : decode jdk_43_method_23_code 1 = .ok (.i2b, 1) := by decide +kernel
theorem own_d_jdk_43_method_23_2 : decode jdk_43_method_23_code 2 = .ok (.istore 4, 2) := by decide +kernel
theorem own_d_jdk_43_method_23_4 : decode jdk_43_method_23_code 4 = .ok (.iload_n 2, 1) := by decide +kernel
theorem own_d_jdk_43_method_23_5 : decode jdk_43_method_23_code 5 = .ok (.istore 5, 2) := by decide +kernel
theorem own_d_jdk_43_method_23_7 : decode jdk_43_method_23_code 7 = .ok (.iload 5, 2) := by decide +kernel
theorem own_d_jdk_43_method_23_9 : decode jdk_43_method_23_code 9 = .ok (.iload_n 3, 1) := by decide +kernel
theorem own_d_jdk_43_method_23_10 : decode jdk_43_method_23_code 10 = .ok (.if_icmp .ge 21, 3) := by decide +kernel
theorem own_d_jdk_43_method_23_13 : decode jdk_43_method_23_code 13 = .ok (.aload_n 0, 1) := by decide +kernel
theorem own_d_jdk_43_method_23_14 : decode jdk_43_method_23_code 14 = .ok (.iload 5, 2) := by decide +kernel
theorem own_d_jdk_43_method_23_16 : decode jdk_43_method_23_code 16 = .ok (.baload, 1) := by decide +kernel
theorem own_d_jdk_43_method_23_17 : decode jdk_43_method_23_code 17 = .ok (.iload 4, 2) := by decide +kernel
theorem own_d_jdk_43_method_23_19 : decode jdk_43_method_23_code 19 = .ok (.if_icmp .ne 6, 3) := by decide +kernel
theorem own_d_jdk_43_method_23_25 : decode jdk_43_method_23_code 25 = .ok (.iinc 5 1, 3) := by decide +kernel
theorem own_d_jdk_43_method_23_28 : decode jdk_43_method_23_code 28 = .ok (.goto (-21), 3) := by decide +kernel
theorem own_d_jdk_43_method_23_31 : decode jdk_43_method_23_code 31 = .ok (.iconst (-1), 1) := by decide +kernel
theorem own_d_jdk_43_method_23_32 : decode jdk_43_method_23_code 32 = .ok (.ireturn, 1) := by decide +kernel
theorem own_d_jdk_43_method_23_22 : decode jdk_43_method_23_code 22 = .ok (.iload 5, 2) := by decide +kernel
theorem own_d_jdk_43_method_23_24 : decode jdk_43_method_23_code 24 = .ok (.ireturn, 1) := by decide +kernel
def own_rm_own_ioc : Room := ({ frames := 0, cells := 0, slots := 0, locals := 0 } : Room)
set_option maxRecDepth 65536 in
set_option maxHeartbeats 40000000 in
theorem own_ioc (l : Launch) (Z : State) (a0 : Array Value) (hw : ∀ d ∈ tables_1, d.before a0 Z = true) (h : Heap) (n0 : Nat) (b : Addr) (c : Int32) (hc : 0 ≤ c.toInt ∧ c.toInt ≤ 255)  (hn0 : n0 ≤ h.size) (Ab : OwA Z h b .byte [(.int (45 : Int32)), (.int (46 : Int32)), (.int (95 : Int32)), (.int (126 : Int32))]) :
    OwM l Z (⟨"java/lang/StringLatin1", "indexOfChar", "([BIII)I"⟩ : MethodName) jdk_43_method_23_code 6 (some .int) own_rm_own_ioc 0 0 [] #[(.ref b), (.int c), (.int (0 : Int32)), (.int (4 : Int32))] h n0 (fun r h' => ∃ z : Int32, r = some (.int z) ∧ (0 ≤ z.toInt ↔ (c.toInt = 45 ∨ c.toInt = 46 ∨ c.toInt = 95 ∨ c.toInt = 126)) ∧ h = h') := by
  refine OwM.of (Ls := #[.val (.ref b), .val (.int c), .val (.int (0 : Int32)), .val (.int (4 : Int32)), .unset, .unset]) (by decide +kernel) (fun m => by first | (simp [entryFrame, mkF, argsToLocals, Value.category]; done) | rfl) ?_
  intro _ _ _ _ _ _ _ X
  have e0 : (0 : Int32).toInt = 0 := rfl
  have e1 : (1 : Int32).toInt = 1 := rfl
  have em1 : (-1 : Int32).toInt = -1 := rfl
  have e2 : (2 : Int32).toInt = 2 := rfl
  have e3 : (3 : Int32).toInt = 3 := rfl
  have e4 : (4 : Int32).toInt = 4 := rfl
  have e45 : (45 : Int32).toInt = 45 := rfl
  have e46 : (46 : Int32).toInt = 46 := rfl
  have e95 : (95 : Int32).toInt = 95 := rfl
  have e126 : (126 : Int32).toInt = 126 := rfl
  have e255 : (255 : Int32).toInt = 255 := rfl
  refine X.iloadN (q := 1) own_d_jdk_43_method_23_0 rfl rfl ?_
  refine X.i2b (q := 2) own_d_jdk_43_method_23_1 rfl ?_
  refine X.nmI (fun x8 hx8 => ?_)
  have hx8_ : (c.toInt ≤ 127 ∧ x8.toInt = c.toInt) ∨ (128 ≤ c.toInt ∧ x8.toInt = c.toInt - 256) := by
    have q : x8.toInt = c.toInt.bmod 256 := by rw [hx8, Int8.toInt_toInt32, Int32.toInt_toInt8]
    have q2 := Int.bmod_def c.toInt 256
    split at q2 <;> omega
  refine X.istore (q := 4) (Ls' := #[.val (.ref b), .val (.int c), .val (.int (0 : Int32)), .val (.int (4 : Int32)), .val (.int x8), .unset]) own_d_jdk_43_method_23_2 rfl rfl ?_
  refine X.iloadN (q := 5) own_d_jdk_43_method_23_4 rfl rfl ?_
  refine X.istore (q := 7) (Ls' := #[.val (.ref b), .val (.int c), .val (.int (0 : Int32)), .val (.int (4 : Int32)), .val (.int x8), .val (.int (0 : Int32))]) own_d_jdk_43_method_23_5 rfl rfl ?_
  refine X.iload (q := 9) own_d_jdk_43_method_23_7 rfl rfl ?_
  refine X.iloadN (q := 10) own_d_jdk_43_method_23_9 rfl rfl ?_
  refine X.icmp_ge (a := 0) (b := 4) (q' := 31) (q := 13) own_d_jdk_43_method_23_10 rfl rfl (by decide) rfl (fun c10 => ?_) (fun c10 => ?_)
  · omega
  · refine X.aloadN (q := 14) own_d_jdk_43_method_23_13 rfl rfl rfl ?_
    refine X.iload (q := 16) own_d_jdk_43_method_23_14 rfl rfl ?_
    refine X.baload (q := 17) (j := 0) (v := (.int (45 : Int32))) Ab rfl rfl own_d_jdk_43_method_23_16 rfl ?_
    refine X.iload (q := 19) own_d_jdk_43_method_23_17 rfl rfl ?_
    refine X.icmp_ne (a := 45) (q' := 25) (q := 22) own_d_jdk_43_method_23_19 rfl rfl (by decide) rfl (fun c19 => ?_) (fun c19 => ?_)
    · refine X.iinc (q := 28) (Ls' := #[.val (.ref b), .val (.int c), .val (.int (0 : Int32)), .val (.int (4 : Int32)), .val (.int x8), .val (.int (1 : Int32))]) (1 : Int32) own_d_jdk_43_method_23_25 (by decide) rfl rfl rfl ?_
      refine X.goto (q' := 7) own_d_jdk_43_method_23_28 (by decide) ?_
      refine X.iload (q := 9) own_d_jdk_43_method_23_7 rfl rfl ?_
      refine X.iloadN (q := 10) own_d_jdk_43_method_23_9 rfl rfl ?_
      refine X.icmp_ge (a := 1) (b := 4) (q' := 31) (q := 13) own_d_jdk_43_method_23_10 rfl rfl (by decide) rfl (fun c10 => ?_) (fun c10 => ?_)
      · omega
      · refine X.aloadN (q := 14) own_d_jdk_43_method_23_13 rfl rfl rfl ?_
        refine X.iload (q := 16) own_d_jdk_43_method_23_14 rfl rfl ?_
        refine X.baload (q := 17) (j := 1) (v := (.int (46 : Int32))) Ab rfl rfl own_d_jdk_43_method_23_16 rfl ?_
        refine X.iload (q := 19) own_d_jdk_43_method_23_17 rfl rfl ?_
        refine X.icmp_ne (a := 46) (q' := 25) (q := 22) own_d_jdk_43_method_23_19 rfl rfl (by decide) rfl (fun c19 => ?_) (fun c19 => ?_)
        · refine X.iinc (q := 28) (Ls' := #[.val (.ref b), .val (.int c), .val (.int (0 : Int32)), .val (.int (4 : Int32)), .val (.int x8), .val (.int (2 : Int32))]) (1 : Int32) own_d_jdk_43_method_23_25 (by decide) rfl rfl rfl ?_
          refine X.goto (q' := 7) own_d_jdk_43_method_23_28 (by decide) ?_
          refine X.iload (q := 9) own_d_jdk_43_method_23_7 rfl rfl ?_
          refine X.iloadN (q := 10) own_d_jdk_43_method_23_9 rfl rfl ?_
          refine X.icmp_ge (a := 2) (b := 4) (q' := 31) (q := 13) own_d_jdk_43_method_23_10 rfl rfl (by decide) rfl (fun c10 => ?_) (fun c10 => ?_)
          · omega
          · refine X.aloadN (q := 14) own_d_jdk_43_method_23_13 rfl rfl rfl ?_
            refine X.iload (q := 16) own_d_jdk_43_method_23_14 rfl rfl ?_
            refine X.baload (q := 17) (j := 2) (v := (.int (95 : Int32))) Ab rfl rfl own_d_jdk_43_method_23_16 rfl ?_
            refine X.iload (q := 19) own_d_jdk_43_method_23_17 rfl rfl ?_
            refine X.icmp_ne (a := 95) (q' := 25) (q := 22) own_d_jdk_43_method_23_19 rfl rfl (by decide) rfl (fun c19 => ?_) (fun c19 => ?_)
            · refine X.iinc (q := 28) (Ls' := #[.val (.ref b), .val (.int c), .val (.int (0 : Int32)), .val (.int (4 : Int32)), .val (.int x8), .val (.int (3 : Int32))]) (1 : Int32) own_d_jdk_43_method_23_25 (by decide) rfl rfl rfl ?_
              refine X.goto (q' := 7) own_d_jdk_43_method_23_28 (by decide) ?_
              refine X.iload (q := 9) own_d_jdk_43_method_23_7 rfl rfl ?_
              refine X.iloadN (q := 10) own_d_jdk_43_method_23_9 rfl rfl ?_
              refine X.icmp_ge (a := 3) (b := 4) (q' := 31) (q := 13) own_d_jdk_43_method_23_10 rfl rfl (by decide) rfl (fun c10 => ?_) (fun c10 => ?_)
              · omega
              · refine X.aloadN (q := 14) own_d_jdk_43_method_23_13 rfl rfl rfl ?_
                refine X.iload (q := 16) own_d_jdk_43_method_23_14 rfl rfl ?_
                refine X.baload (q := 17) (j := 3) (v := (.int (126 : Int32))) Ab rfl rfl own_d_jdk_43_method_23_16 rfl ?_
                refine X.iload (q := 19) own_d_jdk_43_method_23_17 rfl rfl ?_
                refine X.icmp_ne (a := 126) (q' := 25) (q := 22) own_d_jdk_43_method_23_19 rfl rfl (by decide) rfl (fun c19 => ?_) (fun c19 => ?_)
                · refine X.iinc (q := 28) (Ls' := #[.val (.ref b), .val (.int c), .val (.int (0 : Int32)), .val (.int (4 : Int32)), .val (.int x8), .val (.int (4 : Int32))]) (1 : Int32) own_d_jdk_43_method_23_25 (by decide) rfl rfl rfl ?_
                  refine X.goto (q' := 7) own_d_jdk_43_method_23_28 (by decide) ?_
                  refine X.iload (q := 9) own_d_jdk_43_method_23_7 rfl rfl ?_
                  refine X.iloadN (q := 10) own_d_jdk_43_method_23_9 rfl rfl ?_
                  refine X.icmp_ge (a := 4) (b := 4) (q' := 31) (q := 13) own_d_jdk_43_method_23_10 rfl rfl (by decide) rfl (fun c10 => ?_) (fun c10 => ?_)
                  · refine X.iconst (q := 32) (-1 : Int32) own_d_jdk_43_method_23_31 (by decide) rfl ?_
                    refine X.retI own_d_jdk_43_method_23_32 rfl (by decide) (by decide) ?_
                    exact ⟨_, rfl, by omega, rfl⟩
                  · omega
                · refine X.iload (q := 24) own_d_jdk_43_method_23_22 rfl rfl ?_
                  refine X.retI own_d_jdk_43_method_23_24 rfl (by decide) (by decide) ?_
                  exact ⟨_, rfl, by omega, rfl⟩
            · refine X.iload (q := 24) own_d_jdk_43_method_23_22 rfl rfl ?_
              refine X.retI own_d_jdk_43_method_23_24 rfl (by decide) (by decide) ?_
              exact ⟨_, rfl, by omega, rfl⟩
        · refine X.iload (q := 24) own_d_jdk_43_method_23_22 rfl rfl ?_
          refine X.retI own_d_jdk_43_method_23_24 rfl (by decide) (by decide) ?_
          exact ⟨_, rfl, by omega, rfl⟩
    · refine X.iload (q := 24) own_d_jdk_43_method_23_22 rfl rfl ?_
      refine X.retI own_d_jdk_43_method_23_24 rfl (by decide) (by decide) ?_
      exact ⟨_, rfl, by omega, rfl⟩
theorem own_d_jdk_43_method_4_0 : decode jdk_43_method_4_code 0 = .ok (.iload_n 0, 1) := by decide +kernel
theorem own_d_jdk_43_method_4_1 : decode jdk_43_method_4_code 1 = .ok (.ifCond .lt 14, 3) := by decide +kernel
theorem own_d_jdk_43_method_4_15 : decode jdk_43_method_4_code 15 = .ok (.iconst 0, 1) := by decide +kernel
theorem own_d_jdk_43_method_4_16 : decode jdk_43_method_4_code 16 = .ok (.ireturn, 1) := by decide +kernel
theorem own_d_jdk_43_method_4_4 : decode jdk_43_method_4_code 4 = .ok (.iload_n 0, 1) := by decide +kernel
theorem own_d_jdk_43_method_4_5 : decode jdk_43_method_4_code 5 = .ok (.sipush 255, 3) := by decide +kernel
theorem own_d_jdk_43_method_4_8 : decode jdk_43_method_4_code 8 = .ok (.if_icmp .gt 7, 3) := by decide +kernel
theorem own_d_jdk_43_method_4_11 : decode jdk_43_method_4_code 11 = .ok (.iconst 1, 1) := by decide +kernel
theorem own_d_jdk_43_method_4_12 : decode jdk_43_method_4_code 12 = .ok (.goto 4, 3) := by decide +kernel
def own_rm_own_can : Room := ({ frames := 0, cells := 0, slots := 0, locals := 0 } : Room)
set_option maxRecDepth 65536 in
set_option maxHeartbeats 40000000 in
theorem own_can (l : Launch) (Z : State) (a0 : Array Value) (hw : ∀ d ∈ tables_1, d.before a0 Z = true) (h : Heap) (n0 : Nat) (c : Int32)  :
    OwM l Z (⟨"java/lang/StringLatin1", "canEncode", "(I)Z"⟩ : MethodName) jdk_43_method_4_code 1 (some .boolean) own_rm_own_can 0 0 [] #[(.int c)] h n0 (fun r h' => ∃ z : Int32, r = some (.int z) ∧ ((z.toInt = 1 ∧ (0 ≤ c.toInt ∧ c.toInt ≤ 255)) ∨ (z.toInt = 0 ∧ ¬ (0 ≤ c.toInt ∧ c.toInt ≤ 255))) ∧ h = h') := by
  refine OwM.of (Ls := #[.val (.int c)]) (by decide +kernel) (fun m => by first | (simp [entryFrame, mkF, argsToLocals, Value.category]; done) | rfl) ?_
  intro _ _ _ _ _ _ _ X
  have e0 : (0 : Int32).toInt = 0 := rfl
  have e1 : (1 : Int32).toInt = 1 := rfl
  have e255 : (255 : Int32).toInt = 255 := rfl
  refine X.iloadN (q := 1) own_d_jdk_43_method_4_0 rfl rfl ?_
  refine X.if_lt (q' := 15) (q := 4) own_d_jdk_43_method_4_1 rfl (by decide) rfl (fun c1 => ?_) (fun c1 => ?_)
  · refine X.iconst (q := 16) (0 : Int32) own_d_jdk_43_method_4_15 (by decide) rfl ?_
    refine X.retN (t := .boolean) (z' := (0 : Int32)) own_d_jdk_43_method_4_16 rfl (by simp) (by decide) (by decide) (by decide) ?_
    exact ⟨_, rfl, by omega, rfl⟩
  · refine X.iloadN (q := 5) own_d_jdk_43_method_4_4 rfl rfl ?_
    refine X.sipush (q := 8) (255 : Int32) own_d_jdk_43_method_4_5 (by decide) rfl ?_
    refine X.icmp_gt (b := 255) (q' := 15) (q := 11) own_d_jdk_43_method_4_8 rfl rfl (by decide) rfl (fun c8 => ?_) (fun c8 => ?_)
    · refine X.iconst (q := 16) (0 : Int32) own_d_jdk_43_method_4_15 (by decide) rfl ?_
      refine X.retN (t := .boolean) (z' := (0 : Int32)) own_d_jdk_43_method_4_16 rfl (by simp) (by decide) (by decide) (by decide) ?_
      exact ⟨_, rfl, by omega, rfl⟩
    · refine X.iconst (q := 12) (1 : Int32) own_d_jdk_43_method_4_11 (by decide) rfl ?_
      refine X.goto (q' := 16) own_d_jdk_43_method_4_12 (by decide) ?_
      refine X.retN (t := .boolean) (z' := (1 : Int32)) own_d_jdk_43_method_4_16 rfl (by simp) (by decide) (by decide) (by decide) ?_
      exact ⟨_, rfl, by omega, rfl⟩
theorem own_d_jdk_29_method_65_0 : decode jdk_29_method_65_code 0 = .ok (.iload_n 0, 1) := by decide +kernel
theorem own_d_jdk_29_method_65_1 : decode jdk_29_method_65_code 1 = .ok (.iload_n 1, 1) := by decide +kernel
theorem own_d_jdk_29_method_65_2 : decode jdk_29_method_65_code 2 = .ok (.if_icmp .lt 7, 3) := by decide +kernel
theorem own_d_jdk_29_method_65_5 : decode jdk_29_method_65_code 5 = .ok (.iload_n 0, 1) := by decide +kernel
theorem own_d_jdk_29_method_65_6 : decode jdk_29_method_65_code 6 = .ok (.goto 4, 3) := by decide +kernel
theorem own_d_jdk_29_method_65_10 : decode jdk_29_method_65_code 10 = .ok (.ireturn, 1) := by decide +kernel
def own_rm_own_max : Room := ({ frames := 0, cells := 0, slots := 0, locals := 0 } : Room)
set_option maxRecDepth 65536 in
set_option maxHeartbeats 40000000 in
theorem own_max (l : Launch) (Z : State) (a0 : Array Value) (hw : ∀ d ∈ tables_1, d.before a0 Z = true) (h : Heap) (n0 : Nat)   :
    OwM l Z (⟨"java/lang/Math", "max", "(II)I"⟩ : MethodName) jdk_29_method_65_code 2 (some .int) own_rm_own_max 0 0 [] #[(.int (0 : Int32)), (.int (0 : Int32))] h n0 (fun r h' => r = some (.int 0) ∧ h = h') := by
  refine OwM.of (Ls := #[.val (.int (0 : Int32)), .val (.int (0 : Int32))]) (by decide +kernel) (fun m => by first | (simp [entryFrame, mkF, argsToLocals, Value.category]; done) | rfl) ?_
  intro _ _ _ _ _ _ _ X
  refine X.iloadN (q := 1) own_d_jdk_29_method_65_0 rfl rfl ?_
  refine X.iloadN (q := 2) own_d_jdk_29_method_65_1 rfl rfl ?_
  refine X.icmp_lt (a := 0) (b := 0) (q' := 9) (q := 5) own_d_jdk_29_method_65_2 rfl rfl (by decide) rfl (fun c2 => ?_) (fun c2 => ?_)
  · omega
  · refine X.iloadN (q := 6) own_d_jdk_29_method_65_5 rfl rfl ?_
    refine X.goto (q' := 10) own_d_jdk_29_method_65_6 (by decide) ?_
    refine X.retI own_d_jdk_29_method_65_10 rfl (by decide) (by decide) ?_
    exact ⟨rfl, rfl⟩
theorem own_d_jdk_29_method_69_0 : decode jdk_29_method_69_code 0 = .ok (.iload_n 0, 1) := by decide +kernel
theorem own_d_jdk_29_method_69_1 : decode jdk_29_method_69_code 1 = .ok (.iload_n 1, 1) := by decide +kernel
theorem own_d_jdk_29_method_69_2 : decode jdk_29_method_69_code 2 = .ok (.if_icmp .gt 7, 3) := by decide +kernel
theorem own_d_jdk_29_method_69_5 : decode jdk_29_method_69_code 5 = .ok (.iload_n 0, 1) := by decide +kernel
theorem own_d_jdk_29_method_69_6 : decode jdk_29_method_69_code 6 = .ok (.goto 4, 3) := by decide +kernel
theorem own_d_jdk_29_method_69_10 : decode jdk_29_method_69_code 10 = .ok (.ireturn, 1) := by decide +kernel
def own_rm_own_min : Room := ({ frames := 0, cells := 0, slots := 0, locals := 0 } : Room)
set_option maxRecDepth 65536 in
set_option maxHeartbeats 40000000 in
theorem own_min (l : Launch) (Z : State) (a0 : Array Value) (hw : ∀ d ∈ tables_1, d.before a0 Z = true) (h : Heap) (n0 : Nat)   :
    OwM l Z (⟨"java/lang/Math", "min", "(II)I"⟩ : MethodName) jdk_29_method_69_code 2 (some .int) own_rm_own_min 0 0 [] #[(.int (4 : Int32)), (.int (4 : Int32))] h n0 (fun r h' => r = some (.int 4) ∧ h = h') := by
  refine OwM.of (Ls := #[.val (.int (4 : Int32)), .val (.int (4 : Int32))]) (by decide +kernel) (fun m => by first | (simp [entryFrame, mkF, argsToLocals, Value.category]; done) | rfl) ?_
  intro _ _ _ _ _ _ _ X
  refine X.iloadN (q := 1) own_d_jdk_29_method_69_0 rfl rfl ?_
  refine X.iloadN (q := 2) own_d_jdk_29_method_69_1 rfl rfl ?_
  refine X.icmp_gt (a := 4) (b := 4) (q' := 9) (q := 5) own_d_jdk_29_method_69_2 rfl rfl (by decide) rfl (fun c2 => ?_) (fun c2 => ?_)
  · omega
  · refine X.iloadN (q := 6) own_d_jdk_29_method_69_5 rfl rfl ?_
    refine X.goto (q' := 10) own_d_jdk_29_method_69_6 (by decide) ?_
    refine X.retI own_d_jdk_29_method_69_10 rfl (by decide) (by decide) ?_
    exact ⟨rfl, rfl⟩
theorem own_d_jdk_43_method_22_0 : decode jdk_43_method_22_code 0 = .ok (.iload_n 1, 1) := by decide +kernel
theorem own_d_jdk_43_method_22_1 : decode jdk_43_method_22_code 1 = .ok (.invokestatic 88, 3) := by decide +kernel
theorem own_pd0 : parseMethodDescriptor "(I)Z" = some ⟨[.int], some .boolean⟩ := by decide +kernel
theorem own_d_jdk_43_method_22_4 : decode jdk_43_method_22_code 4 = .ok (.ifCond .ne 5, 3) := by decide +kernel
theorem own_d_jdk_43_method_22_9 : decode jdk_43_method_22_code 9 = .ok (.iload_n 2, 1) := by decide +kernel
theorem own_d_jdk_43_method_22_10 : decode jdk_43_method_22_code 10 = .ok (.iconst 0, 1) := by decide +kernel
theorem own_d_jdk_43_method_22_11 : decode jdk_43_method_22_code 11 = .ok (.invokestatic 92, 3) := by decide +kernel
theorem own_pd1 : parseMethodDescriptor "(II)I" = some ⟨[.int, .int], some .int⟩ := by decide +kernel
theorem own_d_jdk_43_method_22_14 : decode jdk_43_method_22_code 14 = .ok (.istore_n 2, 1) := by decide +kernel
theorem own_d_jdk_43_method_22_15 : decode jdk_43_method_22_code 15 = .ok (.iload_n 3, 1) := by decide +kernel
theorem own_d_jdk_43_method_22_16 : decode jdk_43_method_22_code 16 = .ok (.aload_n 0, 1) := by decide +kernel
theorem own_d_jdk_43_method_22_17 : decode jdk_43_method_22_code 17 = .ok (.arraylength, 1) := by decide +kernel
theorem own_d_jdk_43_method_22_18 : decode jdk_43_method_22_code 18 = .ok (.invokestatic 38, 3) := by decide +kernel
theorem own_d_jdk_43_method_22_21 : decode jdk_43_method_22_code 21 = .ok (.istore_n 3, 1) := by decide +kernel
theorem own_d_jdk_43_method_22_22 : decode jdk_43_method_22_code 22 = .ok (.iload_n 2, 1) := by decide +kernel
theorem own_d_jdk_43_method_22_23 : decode jdk_43_method_22_code 23 = .ok (.iload_n 3, 1) := by decide +kernel
theorem own_d_jdk_43_method_22_24 : decode jdk_43_method_22_code 24 = .ok (.if_icmp .lt 5, 3) := by decide +kernel
theorem own_d_jdk_43_method_22_29 : decode jdk_43_method_22_code 29 = .ok (.aload_n 0, 1) := by decide +kernel
theorem own_d_jdk_43_method_22_30 : decode jdk_43_method_22_code 30 = .ok (.iload_n 1, 1) := by decide +kernel
theorem own_d_jdk_43_method_22_31 : decode jdk_43_method_22_code 31 = .ok (.iload_n 2, 1) := by decide +kernel
theorem own_d_jdk_43_method_22_32 : decode jdk_43_method_22_code 32 = .ok (.iload_n 3, 1) := by decide +kernel
theorem own_d_jdk_43_method_22_33 : decode jdk_43_method_22_code 33 = .ok (.invokestatic 95, 3) := by decide +kernel
theorem own_pd2 : parseMethodDescriptor "([BIII)I" = some ⟨[(.array .byte), .int, .int, .int], some .int⟩ := by decide +kernel
theorem own_d_jdk_43_method_22_36 : decode jdk_43_method_22_code 36 = .ok (.ireturn, 1) := by decide +kernel
theorem own_d_jdk_43_method_22_7 : decode jdk_43_method_22_code 7 = .ok (.iconst (-1), 1) := by decide +kernel
theorem own_d_jdk_43_method_22_8 : decode jdk_43_method_22_code 8 = .ok (.ireturn, 1) := by decide +kernel
def own_rm_own_lio : Room := ({ frames := 1, cells := 0, slots := 0, locals := 40 } : Room)
set_option maxRecDepth 65536 in
set_option maxHeartbeats 40000000 in
theorem own_lio (l : Launch) (Z : State) (a0 : Array Value) (hw : ∀ d ∈ tables_1, d.before a0 Z = true) (h : Heap) (n0 : Nat) (b : Addr) (c : Int32)  (hn0 : n0 ≤ h.size) (Ab : OwA Z h b .byte [(.int (45 : Int32)), (.int (46 : Int32)), (.int (95 : Int32)), (.int (126 : Int32))]) :
    OwM l Z (⟨"java/lang/StringLatin1", "indexOf", "([BIII)I"⟩ : MethodName) jdk_43_method_22_code 4 (some .int) own_rm_own_lio 0 0 [] #[(.ref b), (.int c), (.int (0 : Int32)), (.int (4 : Int32))] h n0 (fun r h' => ∃ z : Int32, r = some (.int z) ∧ (0 ≤ z.toInt ↔ (c.toInt = 45 ∨ c.toInt = 46 ∨ c.toInt = 95 ∨ c.toInt = 126)) ∧ h = h') := by
  refine OwM.of (Ls := #[.val (.ref b), .val (.int c), .val (.int (0 : Int32)), .val (.int (4 : Int32))]) (by decide +kernel) (fun m => by first | (simp [entryFrame, mkF, argsToLocals, Value.category]; done) | rfl) ?_
  intro _ _ _ _ _ _ _ X
  have e0 : (0 : Int32).toInt = 0 := rfl
  have e1 : (1 : Int32).toInt = 1 := rfl
  have em1 : (-1 : Int32).toInt = -1 := rfl
  have e2 : (2 : Int32).toInt = 2 := rfl
  have e3 : (3 : Int32).toInt = 3 := rfl
  have e4 : (4 : Int32).toInt = 4 := rfl
  have e45 : (45 : Int32).toInt = 45 := rfl
  have e46 : (46 : Int32).toInt = 46 := rfl
  have e95 : (95 : Int32).toInt = 95 := rfl
  have e126 : (126 : Int32).toInt = 126 := rfl
  have e255 : (255 : Int32).toInt = 255 := rfl
  refine X.iloadN (q := 1) own_d_jdk_43_method_22_0 rfl rfl ?_
  refine X.callS (own_can l Z a0 hw h n0 c) (hw _ (List.mem_of_getElem? (i := 45) rfl)) (hw _ (List.mem_of_getElem? (i := 46) rfl)) (hw _ (List.mem_of_getElem? (i := 43) rfl)) (hw _ (List.mem_of_getElem? (i := 47) rfl)) (by decide) own_pd0 (argsL := [(.int c)]) (rest := []) rfl rfl rfl (W := 0) (Nat.le_of_eq rfl) rfl (by decide) (by decide) (k' := 0) (n' := 0) rfl rfl (by decide) (by decide) own_d_jdk_43_method_22_1 (q := 4) rfl ?_
  rintro _ _ ⟨zc, rfl, hzc, rfl⟩
  show X.G h 0 0 4 #[.val (.ref b), .val (.int c), .val (.int (0 : Int32)), .val (.int (4 : Int32))] [(.int zc)]
  refine X.if_ne (q' := 9) (q := 7) own_d_jdk_43_method_22_4 rfl (by decide) rfl (fun c4 => ?_) (fun c4 => ?_)
  · refine X.iloadN (q := 10) own_d_jdk_43_method_22_9 rfl rfl ?_
    refine X.iconst (q := 11) (0 : Int32) own_d_jdk_43_method_22_10 (by decide) rfl ?_
    refine X.callS (own_max l Z a0 hw h n0) (hw _ (List.mem_of_getElem? (i := 48) rfl)) (hw _ (List.mem_of_getElem? (i := 49) rfl)) (hw _ (List.mem_of_getElem? (i := 50) rfl)) (hw _ (List.mem_of_getElem? (i := 51) rfl)) (by decide) own_pd1 (argsL := [(.int (0 : Int32)), (.int (0 : Int32))]) (rest := []) rfl rfl rfl (W := 0) (Nat.le_of_eq rfl) rfl (by decide) (by decide) (k' := 0) (n' := 0) rfl rfl (by decide) (by decide) own_d_jdk_43_method_22_11 (q := 14) rfl ?_
    rintro _ _ ⟨rfl, rfl⟩
    show X.G h 0 0 14 #[.val (.ref b), .val (.int c), .val (.int (0 : Int32)), .val (.int (4 : Int32))] [(.int (0 : Int32))]
    refine X.istoreN (q := 15) (Ls' := #[.val (.ref b), .val (.int c), .val (.int (0 : Int32)), .val (.int (4 : Int32))]) own_d_jdk_43_method_22_14 rfl rfl ?_
    refine X.iloadN (q := 16) own_d_jdk_43_method_22_15 rfl rfl ?_
    refine X.aloadN (q := 17) own_d_jdk_43_method_22_16 rfl rfl rfl ?_
    refine X.alen (q := 18) (z := (4 : Int32)) Ab rfl own_d_jdk_43_method_22_17 rfl ?_
    refine X.callS (own_min l Z a0 hw h n0) (hw _ (List.mem_of_getElem? (i := 52) rfl)) (hw _ (List.mem_of_getElem? (i := 53) rfl)) (hw _ (List.mem_of_getElem? (i := 50) rfl)) (hw _ (List.mem_of_getElem? (i := 54) rfl)) (by decide) own_pd1 (argsL := [(.int (4 : Int32)), (.int (4 : Int32))]) (rest := []) rfl rfl rfl (W := 0) (Nat.le_of_eq rfl) rfl (by decide) (by decide) (k' := 0) (n' := 0) rfl rfl (by decide) (by decide) own_d_jdk_43_method_22_18 (q := 21) rfl ?_
    rintro _ _ ⟨rfl, rfl⟩
    show X.G h 0 0 21 #[.val (.ref b), .val (.int c), .val (.int (0 : Int32)), .val (.int (4 : Int32))] [(.int (4 : Int32))]
    refine X.istoreN (q := 22) (Ls' := #[.val (.ref b), .val (.int c), .val (.int (0 : Int32)), .val (.int (4 : Int32))]) own_d_jdk_43_method_22_21 rfl rfl ?_
    refine X.iloadN (q := 23) own_d_jdk_43_method_22_22 rfl rfl ?_
    refine X.iloadN (q := 24) own_d_jdk_43_method_22_23 rfl rfl ?_
    refine X.icmp_lt (a := 0) (b := 4) (q' := 29) (q := 27) own_d_jdk_43_method_22_24 rfl rfl (by decide) rfl (fun c24 => ?_) (fun c24 => ?_)
    · refine X.aloadN (q := 30) own_d_jdk_43_method_22_29 rfl rfl rfl ?_
      refine X.iloadN (q := 31) own_d_jdk_43_method_22_30 rfl rfl ?_
      refine X.iloadN (q := 32) own_d_jdk_43_method_22_31 rfl rfl ?_
      refine X.iloadN (q := 33) own_d_jdk_43_method_22_32 rfl rfl ?_
      refine X.callS (own_ioc l Z a0 hw h n0 b c (by omega) hn0 Ab) (hw _ (List.mem_of_getElem? (i := 55) rfl)) (hw _ (List.mem_of_getElem? (i := 56) rfl)) (hw _ (List.mem_of_getElem? (i := 43) rfl)) (hw _ (List.mem_of_getElem? (i := 57) rfl)) (by decide) own_pd2 (argsL := [(.ref b), (.int c), (.int (0 : Int32)), (.int (4 : Int32))]) (rest := []) rfl rfl rfl (W := 0) (Nat.le_of_eq rfl) rfl (by decide) (by decide) (k' := 0) (n' := 0) rfl rfl (by decide) (by decide) own_d_jdk_43_method_22_33 (q := 36) rfl ?_
      rintro _ _ ⟨z, rfl, hz, rfl⟩
      show X.G h 0 0 36 #[.val (.ref b), .val (.int c), .val (.int (0 : Int32)), .val (.int (4 : Int32))] [(.int z)]
      refine X.retI own_d_jdk_43_method_22_36 rfl (by decide) (by decide) ?_
      exact ⟨_, rfl, by omega, rfl⟩
    · omega
  · refine X.iconst (q := 8) (-1 : Int32) own_d_jdk_43_method_22_7 (by decide) rfl ?_
    refine X.retI own_d_jdk_43_method_22_8 rfl (by decide) (by decide) ?_
    exact ⟨_, rfl, by omega, rfl⟩
theorem own_d_jdk_42_method_152_0 : decode jdk_42_method_152_code 0 = .ok (.getstatic 38, 3) := by decide +kernel
theorem own_d_jdk_42_method_152_3 : decode jdk_42_method_152_code 3 = .ok (.ifCond .eq 10, 3) := by decide +kernel
theorem own_d_jdk_42_method_152_6 : decode jdk_42_method_152_code 6 = .ok (.aload_n 0, 1) := by decide +kernel
theorem own_d_jdk_42_method_152_7 : decode jdk_42_method_152_code 7 = .ok (.getfield 15, 3) := by decide +kernel
theorem own_d_jdk_42_method_152_10 : decode jdk_42_method_152_code 10 = .ok (.goto 4, 3) := by decide +kernel
theorem own_d_jdk_42_method_152_14 : decode jdk_42_method_152_code 14 = .ok (.ireturn, 1) := by decide +kernel
def own_rm_own_cod : Room := ({ frames := 0, cells := 0, slots := 0, locals := 0 } : Room)
set_option maxRecDepth 65536 in
set_option maxHeartbeats 40000000 in
theorem own_cod (l : Launch) (Z : State) (a0 : Array Value) (hw : ∀ d ∈ tables_1, d.before a0 Z = true) (h : Heap) (n0 : Nat) (a : Addr) (cs : Int32) (hcs : cs.toInt ≠ 0)  (hn0 : n0 ≤ h.size) (Sc : Sta Z h "java/lang/String" "COMPACT_STRINGS" "Z" (.int cs)) (Fc : Fld Z h a "java/lang/String" "coder" "B" (.int (0 : Int32))) :
    OwM l Z (⟨"java/lang/String", "coder", "()B"⟩ : MethodName) jdk_42_method_152_code 1 (some .byte) own_rm_own_cod 0 0 [] #[(.ref a)] h n0 (fun r h' => r = some (.int 0) ∧ h = h') := by
  refine OwM.of (Ls := #[.val (.ref a)]) (by decide +kernel) (fun m => by first | (simp [entryFrame, mkF, argsToLocals, Value.category]; done) | rfl) ?_
  intro _ _ _ _ _ _ _ X
  refine X.getS (q := 3) (hw _ (List.mem_of_getElem? (i := 28) rfl)) Via.refl Sc own_d_jdk_42_method_152_0 rfl ?_
  refine X.if_eq (q' := 13) (q := 6) own_d_jdk_42_method_152_3 rfl (by decide) rfl (fun c3 => ?_) (fun c3 => ?_)
  · omega
  · refine X.aloadN (q := 7) own_d_jdk_42_method_152_6 rfl rfl rfl ?_
    refine X.getF (q := 10) (host := "") (Or.inl (hw _ (List.mem_of_getElem? (i := 29) rfl))) Via.refl Fc own_d_jdk_42_method_152_7 rfl ?_
    refine X.goto (q' := 14) own_d_jdk_42_method_152_10 (by decide) ?_
    refine X.retN (t := .byte) (z' := (0 : Int32)) own_d_jdk_42_method_152_14 rfl (by simp) (by decide) (by decide) (by decide) ?_
    exact ⟨rfl, rfl⟩
theorem own_d_jdk_42_method_154_0 : decode jdk_42_method_154_code 0 = .ok (.getstatic 38, 3) := by decide +kernel
theorem own_d_jdk_42_method_154_3 : decode jdk_42_method_154_code 3 = .ok (.ifCond .eq 14, 3) := by decide +kernel
theorem own_d_jdk_42_method_154_6 : decode jdk_42_method_154_code 6 = .ok (.aload_n 0, 1) := by decide +kernel
theorem own_d_jdk_42_method_154_7 : decode jdk_42_method_154_code 7 = .ok (.getfield 15, 3) := by decide +kernel
theorem own_d_jdk_42_method_154_10 : decode jdk_42_method_154_code 10 = .ok (.ifCond .ne 7, 3) := by decide +kernel
theorem own_d_jdk_42_method_154_13 : decode jdk_42_method_154_code 13 = .ok (.iconst 1, 1) := by decide +kernel
theorem own_d_jdk_42_method_154_14 : decode jdk_42_method_154_code 14 = .ok (.goto 4, 3) := by decide +kernel
theorem own_d_jdk_42_method_154_18 : decode jdk_42_method_154_code 18 = .ok (.ireturn, 1) := by decide +kernel
def own_rm_own_lat : Room := ({ frames := 0, cells := 0, slots := 0, locals := 0 } : Room)
set_option maxRecDepth 65536 in
set_option maxHeartbeats 40000000 in
theorem own_lat (l : Launch) (Z : State) (a0 : Array Value) (hw : ∀ d ∈ tables_1, d.before a0 Z = true) (h : Heap) (n0 : Nat) (a : Addr) (cs : Int32) (hcs : cs.toInt ≠ 0)  (hn0 : n0 ≤ h.size) (Sc : Sta Z h "java/lang/String" "COMPACT_STRINGS" "Z" (.int cs)) (Fc : Fld Z h a "java/lang/String" "coder" "B" (.int (0 : Int32))) :
    OwM l Z (⟨"java/lang/String", "isLatin1", "()Z"⟩ : MethodName) jdk_42_method_154_code 1 (some .boolean) own_rm_own_lat 0 0 [] #[(.ref a)] h n0 (fun r h' => r = some (.int 1) ∧ h = h') := by
  refine OwM.of (Ls := #[.val (.ref a)]) (by decide +kernel) (fun m => by first | (simp [entryFrame, mkF, argsToLocals, Value.category]; done) | rfl) ?_
  intro _ _ _ _ _ _ _ X
  refine X.getS (q := 3) (hw _ (List.mem_of_getElem? (i := 28) rfl)) Via.refl Sc own_d_jdk_42_method_154_0 rfl ?_
  refine X.if_eq (q' := 17) (q := 6) own_d_jdk_42_method_154_3 rfl (by decide) rfl (fun c3 => ?_) (fun c3 => ?_)
  · omega
  · refine X.aloadN (q := 7) own_d_jdk_42_method_154_6 rfl rfl rfl ?_
    refine X.getF (q := 10) (host := "") (Or.inl (hw _ (List.mem_of_getElem? (i := 29) rfl))) Via.refl Fc own_d_jdk_42_method_154_7 rfl ?_
    refine X.if_ne (a := 0) (q' := 17) (q := 13) own_d_jdk_42_method_154_10 rfl (by decide) rfl (fun c10 => ?_) (fun c10 => ?_)
    · omega
    · refine X.iconst (q := 14) (1 : Int32) own_d_jdk_42_method_154_13 (by decide) rfl ?_
      refine X.goto (q' := 18) own_d_jdk_42_method_154_14 (by decide) ?_
      refine X.retN (t := .boolean) (z' := (1 : Int32)) own_d_jdk_42_method_154_18 rfl (by simp) (by decide) (by decide) (by decide) ?_
      exact ⟨rfl, rfl⟩
theorem own_d_jdk_42_method_54_0 : decode jdk_42_method_54_code 0 = .ok (.aload_n 0, 1) := by decide +kernel
theorem own_d_jdk_42_method_54_1 : decode jdk_42_method_54_code 1 = .ok (.getfield 9, 3) := by decide +kernel
theorem own_d_jdk_42_method_54_4 : decode jdk_42_method_54_code 4 = .ok (.arraylength, 1) := by decide +kernel
theorem own_d_jdk_42_method_54_5 : decode jdk_42_method_54_code 5 = .ok (.aload_n 0, 1) := by decide +kernel
theorem own_d_jdk_42_method_54_6 : decode jdk_42_method_54_code 6 = .ok (.invokevirtual 335, 3) := by decide +kernel
theorem own_pd3 : parseMethodDescriptor "()B" = some ⟨[], some .byte⟩ := by decide +kernel
theorem own_d_jdk_42_method_54_9 : decode jdk_42_method_54_code 9 = .ok (.ishr, 1) := by decide +kernel
theorem own_d_jdk_42_method_54_10 : decode jdk_42_method_54_code 10 = .ok (.ireturn, 1) := by decide +kernel
def own_rm_own_len : Room := ({ frames := 1, cells := 0, slots := 0, locals := 20 } : Room)
set_option maxRecDepth 65536 in
set_option maxHeartbeats 40000000 in
theorem own_len (l : Launch) (Z : State) (a0 : Array Value) (hw : ∀ d ∈ tables_1, d.before a0 Z = true) (h : Heap) (n0 : Nat) (a b : Addr) (cs : Int32) (hcs : cs.toInt ≠ 0)  (hn0 : n0 ≤ h.size) (Sc : Sta Z h "java/lang/String" "COMPACT_STRINGS" "Z" (.int cs)) (Xa : Exa Z h a "java/lang/String") (Fc : Fld Z h a "java/lang/String" "coder" "B" (.int (0 : Int32))) (Fv : Fld Z h a "java/lang/String" "value" "[B" (.ref b)) (Ab : OwA Z h b .byte [(.int (45 : Int32)), (.int (46 : Int32)), (.int (95 : Int32)), (.int (126 : Int32))]) :
    OwM l Z (⟨"java/lang/String", "length", "()I"⟩ : MethodName) jdk_42_method_54_code 1 (some .int) own_rm_own_len 0 0 [] #[(.ref a)] h n0 (fun r h' => r = some (.int 4) ∧ h = h') := by
  refine OwM.of (Ls := #[.val (.ref a)]) (by decide +kernel) (fun m => by first | (simp [entryFrame, mkF, argsToLocals, Value.category]; done) | rfl) ?_
  intro _ _ _ _ _ _ _ X
  refine X.aloadN (q := 1) own_d_jdk_42_method_54_0 rfl rfl rfl ?_
  refine X.getF (q := 4) (host := "") (Or.inl (hw _ (List.mem_of_getElem? (i := 30) rfl))) Via.refl Fv own_d_jdk_42_method_54_1 rfl ?_
  refine X.alen (q := 5) (z := (4 : Int32)) Ab rfl own_d_jdk_42_method_54_4 rfl ?_
  refine X.aloadN (q := 6) own_d_jdk_42_method_54_5 rfl rfl rfl ?_
  refine X.virtual (a := a) (own_cod l Z a0 hw h n0 a cs hcs hn0 Sc Fc) (hw _ (List.mem_of_getElem? (i := 36) rfl)) (hw _ (List.mem_of_getElem? (i := 37) rfl)) (hw _ (List.mem_of_getElem? (i := 39) rfl)) (hw _ (List.mem_of_getElem? (i := 38) rfl)) (hw _ (List.mem_of_getElem? (i := 6) rfl)) (hw _ (List.mem_of_getElem? (i := 40) rfl)) (by decide) Xa own_pd3 (argsL := []) (rest := [(.int (4 : Int32))]) rfl rfl rfl (W := 1) (Nat.le_of_eq rfl) rfl (by decide) (by decide) (k' := 0) (n' := 0) rfl rfl (by decide) (by decide) own_d_jdk_42_method_54_6 (q := 9) rfl ?_
  rintro _ _ ⟨rfl, rfl⟩
  show X.G h 0 0 9 #[.val (.ref a)] [(.int (0 : Int32)), (.int (4 : Int32))]
  refine X.ishr (q := 10) own_d_jdk_42_method_54_9 rfl ?_
  refine X.foldI (v := (4 : Int32)) (by decide) ?_
  refine X.retI own_d_jdk_42_method_54_10 rfl (by decide) (by decide) ?_
  exact ⟨rfl, rfl⟩
theorem own_d_jdk_42_method_80_0 : decode jdk_42_method_80_code 0 = .ok (.aload_n 0, 1) := by decide +kernel
theorem own_d_jdk_42_method_80_1 : decode jdk_42_method_80_code 1 = .ok (.invokevirtual 492, 3) := by decide +kernel
theorem own_pd4 : parseMethodDescriptor "()Z" = some ⟨[], some .boolean⟩ := by decide +kernel
theorem own_d_jdk_42_method_80_4 : decode jdk_42_method_80_code 4 = .ok (.ifCond .eq 19, 3) := by decide +kernel
theorem own_d_jdk_42_method_80_7 : decode jdk_42_method_80_code 7 = .ok (.aload_n 0, 1) := by decide +kernel
theorem own_d_jdk_42_method_80_8 : decode jdk_42_method_80_code 8 = .ok (.getfield 9, 3) := by decide +kernel
theorem own_d_jdk_42_method_80_11 : decode jdk_42_method_80_code 11 = .ok (.iload_n 1, 1) := by decide +kernel
theorem own_d_jdk_42_method_80_12 : decode jdk_42_method_80_code 12 = .ok (.iload_n 2, 1) := by decide +kernel
theorem own_d_jdk_42_method_80_13 : decode jdk_42_method_80_code 13 = .ok (.aload_n 0, 1) := by decide +kernel
theorem own_d_jdk_42_method_80_14 : decode jdk_42_method_80_code 14 = .ok (.invokevirtual 505, 3) := by decide +kernel
theorem own_pd5 : parseMethodDescriptor "()I" = some ⟨[], some .int⟩ := by decide +kernel
theorem own_d_jdk_42_method_80_17 : decode jdk_42_method_80_code 17 = .ok (.invokestatic 637, 3) := by decide +kernel
theorem own_d_jdk_42_method_80_20 : decode jdk_42_method_80_code 20 = .ok (.goto 16, 3) := by decide +kernel
theorem own_d_jdk_42_method_80_36 : decode jdk_42_method_80_code 36 = .ok (.ireturn, 1) := by decide +kernel
def own_rm_own_io2 : Room := ({ frames := 2, cells := 0, slots := 0, locals := 80 } : Room)
set_option maxRecDepth 65536 in
set_option maxHeartbeats 40000000 in
theorem own_io2 (l : Launch) (Z : State) (a0 : Array Value) (hw : ∀ d ∈ tables_1, d.before a0 Z = true) (h : Heap) (n0 : Nat) (a b : Addr) (c cs : Int32) (hcs : cs.toInt ≠ 0)  (hn0 : n0 ≤ h.size) (Sc : Sta Z h "java/lang/String" "COMPACT_STRINGS" "Z" (.int cs)) (Xa : Exa Z h a "java/lang/String") (Fc : Fld Z h a "java/lang/String" "coder" "B" (.int (0 : Int32))) (Fv : Fld Z h a "java/lang/String" "value" "[B" (.ref b)) (Ab : OwA Z h b .byte [(.int (45 : Int32)), (.int (46 : Int32)), (.int (95 : Int32)), (.int (126 : Int32))]) :
    OwM l Z (⟨"java/lang/String", "indexOf", "(II)I"⟩ : MethodName) jdk_42_method_80_code 3 (some .int) own_rm_own_io2 0 0 [] #[(.ref a), (.int c), (.int (0 : Int32))] h n0 (fun r h' => ∃ z : Int32, r = some (.int z) ∧ (0 ≤ z.toInt ↔ (c.toInt = 45 ∨ c.toInt = 46 ∨ c.toInt = 95 ∨ c.toInt = 126)) ∧ h = h') := by
  refine OwM.of (Ls := #[.val (.ref a), .val (.int c), .val (.int (0 : Int32))]) (by decide +kernel) (fun m => by first | (simp [entryFrame, mkF, argsToLocals, Value.category]; done) | rfl) ?_
  intro _ _ _ _ _ _ _ X
  have e0 : (0 : Int32).toInt = 0 := rfl
  have e1 : (1 : Int32).toInt = 1 := rfl
  have em1 : (-1 : Int32).toInt = -1 := rfl
  have e2 : (2 : Int32).toInt = 2 := rfl
  have e3 : (3 : Int32).toInt = 3 := rfl
  have e4 : (4 : Int32).toInt = 4 := rfl
  have e45 : (45 : Int32).toInt = 45 := rfl
  have e46 : (46 : Int32).toInt = 46 := rfl
  have e95 : (95 : Int32).toInt = 95 := rfl
  have e126 : (126 : Int32).toInt = 126 := rfl
  have e255 : (255 : Int32).toInt = 255 := rfl
  refine X.aloadN (q := 1) own_d_jdk_42_method_80_0 rfl rfl rfl ?_
  refine X.virtual (a := a) (own_lat l Z a0 hw h n0 a cs hcs hn0 Sc Fc) (hw _ (List.mem_of_getElem? (i := 23) rfl)) (hw _ (List.mem_of_getElem? (i := 24) rfl)) (hw _ (List.mem_of_getElem? (i := 26) rfl)) (hw _ (List.mem_of_getElem? (i := 25) rfl)) (hw _ (List.mem_of_getElem? (i := 6) rfl)) (hw _ (List.mem_of_getElem? (i := 27) rfl)) (by decide) Xa own_pd4 (argsL := []) (rest := []) rfl rfl rfl (W := 0) (Nat.le_of_eq rfl) rfl (by decide) (by decide) (k' := 0) (n' := 0) rfl rfl (by decide) (by decide) own_d_jdk_42_method_80_1 (q := 4) rfl ?_
  rintro _ _ ⟨rfl, rfl⟩
  show X.G h 0 0 4 #[.val (.ref a), .val (.int c), .val (.int (0 : Int32))] [(.int (1 : Int32))]
  refine X.if_eq (a := 1) (q' := 23) (q := 7) own_d_jdk_42_method_80_4 rfl (by decide) rfl (fun c4 => ?_) (fun c4 => ?_)
  · omega
  · refine X.aloadN (q := 8) own_d_jdk_42_method_80_7 rfl rfl rfl ?_
    refine X.getF (q := 11) (host := "") (Or.inl (hw _ (List.mem_of_getElem? (i := 30) rfl))) Via.refl Fv own_d_jdk_42_method_80_8 rfl ?_
    refine X.iloadN (q := 12) own_d_jdk_42_method_80_11 rfl rfl ?_
    refine X.iloadN (q := 13) own_d_jdk_42_method_80_12 rfl rfl ?_
    refine X.aloadN (q := 14) own_d_jdk_42_method_80_13 rfl rfl rfl ?_
    refine X.virtual (a := a) (own_len l Z a0 hw h n0 a b cs hcs hn0 Sc Xa Fc Fv Ab) (hw _ (List.mem_of_getElem? (i := 31) rfl)) (hw _ (List.mem_of_getElem? (i := 32) rfl)) (hw _ (List.mem_of_getElem? (i := 34) rfl)) (hw _ (List.mem_of_getElem? (i := 33) rfl)) (hw _ (List.mem_of_getElem? (i := 6) rfl)) (hw _ (List.mem_of_getElem? (i := 35) rfl)) (by decide) Xa own_pd5 (argsL := []) (rest := [(.int (0 : Int32)), (.int c), (.ref b)]) rfl rfl rfl (W := 3) (Nat.le_of_eq rfl) rfl (by decide) (by decide) (k' := 0) (n' := 0) rfl rfl (by decide) (by decide) own_d_jdk_42_method_80_14 (q := 17) rfl ?_
    rintro _ _ ⟨rfl, rfl⟩
    show X.G h 0 0 17 #[.val (.ref a), .val (.int c), .val (.int (0 : Int32))] [(.int (4 : Int32)), (.int (0 : Int32)), (.int c), (.ref b)]
    refine X.callS (own_lio l Z a0 hw h n0 b c hn0 Ab) (hw _ (List.mem_of_getElem? (i := 41) rfl)) (hw _ (List.mem_of_getElem? (i := 42) rfl)) (hw _ (List.mem_of_getElem? (i := 43) rfl)) (hw _ (List.mem_of_getElem? (i := 44) rfl)) (by decide) own_pd2 (argsL := [(.ref b), (.int c), (.int (0 : Int32)), (.int (4 : Int32))]) (rest := []) rfl rfl rfl (W := 0) (Nat.le_of_eq rfl) rfl (by decide) (by decide) (k' := 0) (n' := 0) rfl rfl (by decide) (by decide) own_d_jdk_42_method_80_17 (q := 20) rfl ?_
    rintro _ _ ⟨z, rfl, hz, rfl⟩
    show X.G h 0 0 20 #[.val (.ref a), .val (.int c), .val (.int (0 : Int32))] [(.int z)]
    refine X.goto (q' := 36) own_d_jdk_42_method_80_20 (by decide) ?_
    refine X.retI own_d_jdk_42_method_80_36 rfl (by decide) (by decide) ?_
    exact ⟨_, rfl, by omega, rfl⟩
theorem own_d_jdk_42_method_79_0 : decode jdk_42_method_79_code 0 = .ok (.aload_n 0, 1) := by decide +kernel
theorem own_d_jdk_42_method_79_1 : decode jdk_42_method_79_code 1 = .ok (.iload_n 1, 1) := by decide +kernel
theorem own_d_jdk_42_method_79_2 : decode jdk_42_method_79_code 2 = .ok (.iconst 0, 1) := by decide +kernel
theorem own_d_jdk_42_method_79_3 : decode jdk_42_method_79_code 3 = .ok (.invokevirtual 633, 3) := by decide +kernel
theorem own_d_jdk_42_method_79_6 : decode jdk_42_method_79_code 6 = .ok (.ireturn, 1) := by decide +kernel
def own_rm_own_io1 : Room := ({ frames := 3, cells := 0, slots := 0, locals := 110 } : Room)
set_option maxRecDepth 65536 in
set_option maxHeartbeats 40000000 in
theorem own_io1 (l : Launch) (Z : State) (a0 : Array Value) (hw : ∀ d ∈ tables_1, d.before a0 Z = true) (h : Heap) (n0 : Nat) (a b : Addr) (c cs : Int32) (hcs : cs.toInt ≠ 0)  (hn0 : n0 ≤ h.size) (Sc : Sta Z h "java/lang/String" "COMPACT_STRINGS" "Z" (.int cs)) (Xa : Exa Z h a "java/lang/String") (Fc : Fld Z h a "java/lang/String" "coder" "B" (.int (0 : Int32))) (Fv : Fld Z h a "java/lang/String" "value" "[B" (.ref b)) (Ab : OwA Z h b .byte [(.int (45 : Int32)), (.int (46 : Int32)), (.int (95 : Int32)), (.int (126 : Int32))]) :
    OwM l Z (⟨"java/lang/String", "indexOf", "(I)I"⟩ : MethodName) jdk_42_method_79_code 2 (some .int) own_rm_own_io1 0 0 [] #[(.ref a), (.int c)] h n0 (fun r h' => ∃ z : Int32, r = some (.int z) ∧ (0 ≤ z.toInt ↔ (c.toInt = 45 ∨ c.toInt = 46 ∨ c.toInt = 95 ∨ c.toInt = 126)) ∧ h = h') := by
  refine OwM.of (Ls := #[.val (.ref a), .val (.int c)]) (by decide +kernel) (fun m => by first | (simp [entryFrame, mkF, argsToLocals, Value.category]; done) | rfl) ?_
  intro _ _ _ _ _ _ _ X
  have e0 : (0 : Int32).toInt = 0 := rfl
  have e1 : (1 : Int32).toInt = 1 := rfl
  have em1 : (-1 : Int32).toInt = -1 := rfl
  have e2 : (2 : Int32).toInt = 2 := rfl
  have e3 : (3 : Int32).toInt = 3 := rfl
  have e4 : (4 : Int32).toInt = 4 := rfl
  have e45 : (45 : Int32).toInt = 45 := rfl
  have e46 : (46 : Int32).toInt = 46 := rfl
  have e95 : (95 : Int32).toInt = 95 := rfl
  have e126 : (126 : Int32).toInt = 126 := rfl
  have e255 : (255 : Int32).toInt = 255 := rfl
  refine X.aloadN (q := 1) own_d_jdk_42_method_79_0 rfl rfl rfl ?_
  refine X.iloadN (q := 2) own_d_jdk_42_method_79_1 rfl rfl ?_
  refine X.iconst (q := 3) (0 : Int32) own_d_jdk_42_method_79_2 (by decide) rfl ?_
  refine X.virtual (a := a) (own_io2 l Z a0 hw h n0 a b c cs hcs hn0 Sc Xa Fc Fv Ab) (hw _ (List.mem_of_getElem? (i := 18) rfl)) (hw _ (List.mem_of_getElem? (i := 19) rfl)) (hw _ (List.mem_of_getElem? (i := 21) rfl)) (hw _ (List.mem_of_getElem? (i := 20) rfl)) (hw _ (List.mem_of_getElem? (i := 6) rfl)) (hw _ (List.mem_of_getElem? (i := 22) rfl)) (by decide) Xa own_pd1 (argsL := [(.int c), (.int (0 : Int32))]) (rest := []) rfl rfl rfl (W := 0) (Nat.le_of_eq rfl) rfl (by decide) (by decide) (k' := 0) (n' := 0) rfl rfl (by decide) (by decide) own_d_jdk_42_method_79_3 (q := 6) rfl ?_
  rintro _ _ ⟨z, rfl, hz, rfl⟩
  show X.G h 0 0 6 #[.val (.ref a), .val (.int c)] [(.int z)]
  refine X.retI own_d_jdk_42_method_79_6 rfl (by decide) (by decide) ?_
  exact ⟨_, rfl, by omega, rfl⟩
theorem own_d_prog_8_method_2_36 : decode prog_8_method_2_code 36 = .ok (.ldc 9, 2) := by decide +kernel
theorem own_text0 : (∀ c ∈ ("-._~" : String).toList, c.toNat < 256) ∧ ("-._~" : String).toList.map (fun c => Value.int (Jvm.Lit.byteI c.toNat.toUInt16)) = [(.int (45 : Int32)), (.int (46 : Int32)), (.int (95 : Int32)), (.int (126 : Int32))] := by decide +kernel
theorem own_d_prog_8_method_2_38 : decode prog_8_method_2_code 38 = .ok (.iload_n 0, 1) := by decide +kernel
theorem own_d_prog_8_method_2_39 : decode prog_8_method_2_code 39 = .ok (.invokevirtual 11, 3) := by decide +kernel
theorem own_pd6 : parseMethodDescriptor "(I)I" = some ⟨[.int], some .int⟩ := by decide +kernel
theorem own_d_prog_8_method_2_42 : decode prog_8_method_2_code 42 = .ok (.ifCond .lt 7, 3) := by decide +kernel
theorem own_d_prog_8_method_2_49 : decode prog_8_method_2_code 49 = .ok (.iconst 0, 1) := by decide +kernel
theorem own_d_prog_8_method_2_50 : decode prog_8_method_2_code 50 = .ok (.ireturn, 1) := by decide +kernel
theorem own_d_prog_8_method_2_45 : decode prog_8_method_2_code 45 = .ok (.iconst 1, 1) := by decide +kernel
theorem own_d_prog_8_method_2_46 : decode prog_8_method_2_code 46 = .ok (.goto 4, 3) := by decide +kernel
theorem own_d_prog_8_method_2_0 : decode prog_8_method_2_code 0 = .ok (.iload_n 0, 1) := by decide +kernel
theorem own_d_prog_8_method_2_1 : decode prog_8_method_2_code 1 = .ok (.bipush 97, 2) := by decide +kernel
theorem own_d_prog_8_method_2_3 : decode prog_8_method_2_code 3 = .ok (.if_icmp .lt 9, 3) := by decide +kernel
theorem own_d_prog_8_method_2_12 : decode prog_8_method_2_code 12 = .ok (.iload_n 0, 1) := by decide +kernel
theorem own_d_prog_8_method_2_13 : decode prog_8_method_2_code 13 = .ok (.bipush 65, 2) := by decide +kernel
theorem own_d_prog_8_method_2_15 : decode prog_8_method_2_code 15 = .ok (.if_icmp .lt 9, 3) := by decide +kernel
theorem own_d_prog_8_method_2_24 : decode prog_8_method_2_code 24 = .ok (.iload_n 0, 1) := by decide +kernel
theorem own_d_prog_8_method_2_25 : decode prog_8_method_2_code 25 = .ok (.bipush 48, 2) := by decide +kernel
theorem own_d_prog_8_method_2_27 : decode prog_8_method_2_code 27 = .ok (.if_icmp .lt 9, 3) := by decide +kernel
theorem own_d_prog_8_method_2_30 : decode prog_8_method_2_code 30 = .ok (.iload_n 0, 1) := by decide +kernel
theorem own_d_prog_8_method_2_31 : decode prog_8_method_2_code 31 = .ok (.bipush 57, 2) := by decide +kernel
theorem own_d_prog_8_method_2_33 : decode prog_8_method_2_code 33 = .ok (.if_icmp .le 12, 3) := by decide +kernel
theorem own_d_prog_8_method_2_18 : decode prog_8_method_2_code 18 = .ok (.iload_n 0, 1) := by decide +kernel
theorem own_d_prog_8_method_2_19 : decode prog_8_method_2_code 19 = .ok (.bipush 90, 2) := by decide +kernel
theorem own_d_prog_8_method_2_21 : decode prog_8_method_2_code 21 = .ok (.if_icmp .le 24, 3) := by decide +kernel
theorem own_d_prog_8_method_2_6 : decode prog_8_method_2_code 6 = .ok (.iload_n 0, 1) := by decide +kernel
theorem own_d_prog_8_method_2_7 : decode prog_8_method_2_code 7 = .ok (.bipush 122, 2) := by decide +kernel
theorem own_d_prog_8_method_2_9 : decode prog_8_method_2_code 9 = .ok (.if_icmp .le 36, 3) := by decide +kernel
def own_rm_own_un : Room := ({ frames := 4, cells := 2, slots := 20, locals := 140 } : Room)
set_option maxRecDepth 65536 in
set_option maxHeartbeats 40000000 in
theorem own_un (l : Launch) (Z : State) (a0 : Array Value) (hw : ∀ d ∈ tables_1, d.before a0 Z = true) (h : Heap) (n0 : Nat) (c cs : Int32) (hcs : cs.toInt ≠ 0)  (hn0 : n0 ≤ h.size) (Sc : Sta Z h "java/lang/String" "COMPACT_STRINGS" "Z" (.int cs)) :
    OwN l Z consts_1 (⟨"com/example/utando/utando/archive/UrlCharacters", "isUnreserved", "(C)Z"⟩ : MethodName) prog_8_method_2_code 1 (some .boolean) own_rm_own_un 2 20 [] #[(.int c)] h n0 (fun r h' => ∃ z : Int32, r = some (.int z) ∧ ((z.toInt = 1 ∧ ((97 ≤ c.toInt ∧ c.toInt ≤ 122) ∨ (65 ≤ c.toInt ∧ c.toInt ≤ 90) ∨ (48 ≤ c.toInt ∧ c.toInt ≤ 57) ∨ c.toInt = 45 ∨ c.toInt = 46 ∨ c.toInt = 95 ∨ c.toInt = 126)) ∨ (z.toInt = 0 ∧ ¬ ((97 ≤ c.toInt ∧ c.toInt ≤ 122) ∨ (65 ≤ c.toInt ∧ c.toInt ≤ 90) ∨ (48 ≤ c.toInt ∧ c.toInt ≤ 57) ∨ c.toInt = 45 ∨ c.toInt = 46 ∨ c.toInt = 95 ∨ c.toInt = 126))) ∧ Ext h h') := by
  refine OwN.of (own_EW hw) (Ls := #[.val (.int c)]) (by decide +kernel) (fun m => by first | (simp [entryFrame, mkF, argsToLocals, Value.category]; done) | rfl) ?_
  intro _ _ _ _ _ _ _ X HK
  have e0 : (0 : Int32).toInt = 0 := rfl
  have e1 : (1 : Int32).toInt = 1 := rfl
  have e97 : (97 : Int32).toInt = 97 := rfl
  have e122 : (122 : Int32).toInt = 122 := rfl
  have e65 : (65 : Int32).toInt = 65 := rfl
  have e90 : (90 : Int32).toInt = 90 := rfl
  have e48 : (48 : Int32).toInt = 48 := rfl
  have e57 : (57 : Int32).toInt = 57 := rfl
  have J36 : (¬ ((97 ≤ c.toInt ∧ c.toInt ≤ 122) ∨ (65 ≤ c.toInt ∧ c.toInt ≤ 90) ∨ (48 ≤ c.toInt ∧ c.toInt ≤ 57))) →  X.G h 0 0 36 #[.val (.int c)] [] := by
    intro h36
    refine X.ldcS (q := 38) (vs := [(.int (45 : Int32)), (.int (46 : Int32)), (.int (95 : Int32)), (.int (126 : Int32))]) (nb := 16) (k' := 2) (n' := 20) HK (hw _ (List.mem_of_getElem? (i := 5) rfl)) (own_wS hw) (List.mem_of_getElem? (i := 0) rfl) own_text0 own_d_prog_8_method_2_36 (by decide) (by decide) rfl rfl (by decide) (by decide) rfl (fun _ X h1 a2 b3 Eh1 HKh1 Ba2 Ca2 Va2 Ab3 nea2 => ?_)
    have Sc'h1 : Sta Z h1 "java/lang/String" "COMPACT_STRINGS" "Z" (.int cs) := Sta.ext Eh1 Sc
    have hsh1 : n0 ≤ h1.size := Nat.le_trans hn0 Eh1.1
    refine X.iloadN (q := 39) own_d_prog_8_method_2_38 rfl rfl ?_
    refine X.virtual (a := a2) (own_io1 l Z a0 hw h1 n0 a2 b3 c cs hcs hsh1 Sc'h1 Ba2 Ca2 Va2 Ab3) (hw _ (List.mem_of_getElem? (i := 13) rfl)) (hw _ (List.mem_of_getElem? (i := 14) rfl)) (hw _ (List.mem_of_getElem? (i := 16) rfl)) (hw _ (List.mem_of_getElem? (i := 15) rfl)) (hw _ (List.mem_of_getElem? (i := 6) rfl)) (hw _ (List.mem_of_getElem? (i := 17) rfl)) (by decide) Ba2 own_pd6 (argsL := [(.int c)]) (rest := []) rfl rfl rfl (W := 0) (Nat.le_of_eq rfl) rfl (by decide) (by decide) (k' := 2) (n' := 20) rfl rfl (by decide) (by decide) own_d_prog_8_method_2_39 (q := 42) rfl ?_
    rintro _ _ ⟨z, rfl, hz, rfl⟩
    show X.G h1 2 20 42 #[.val (.int c)] [(.int z)]
    refine X.if_lt (q' := 49) (q := 45) own_d_prog_8_method_2_42 rfl (by decide) rfl (fun c42 => ?_) (fun c42 => ?_)
    · refine X.iconst (q := 50) (0 : Int32) own_d_prog_8_method_2_49 (by decide) rfl ?_
      refine X.retN (t := .boolean) (z' := (0 : Int32)) HKh1 own_d_prog_8_method_2_50 rfl (by simp) (by decide) (by decide) (by decide) ?_
      exact ⟨_, rfl, by omega, Eh1⟩
    · refine X.iconst (q := 46) (1 : Int32) own_d_prog_8_method_2_45 (by decide) rfl ?_
      refine X.goto (q' := 50) own_d_prog_8_method_2_46 (by decide) ?_
      refine X.retN (t := .boolean) (z' := (1 : Int32)) HKh1 own_d_prog_8_method_2_50 rfl (by simp) (by decide) (by decide) (by decide) ?_
      exact ⟨_, rfl, by omega, Eh1⟩
  refine X.iloadN (q := 1) own_d_prog_8_method_2_0 rfl rfl ?_
  refine X.bipush (q := 3) (97 : Int32) own_d_prog_8_method_2_1 (by decide) rfl ?_
  refine X.icmp_lt (b := 97) (q' := 12) (q := 6) own_d_prog_8_method_2_3 rfl rfl (by decide) rfl (fun c3 => ?_) (fun c3 => ?_)
  · refine X.iloadN (q := 13) own_d_prog_8_method_2_12 rfl rfl ?_
    refine X.bipush (q := 15) (65 : Int32) own_d_prog_8_method_2_13 (by decide) rfl ?_
    refine X.icmp_lt (b := 65) (q' := 24) (q := 18) own_d_prog_8_method_2_15 rfl rfl (by decide) rfl (fun c15 => ?_) (fun c15 => ?_)
    · refine X.iloadN (q := 25) own_d_prog_8_method_2_24 rfl rfl ?_
      refine X.bipush (q := 27) (48 : Int32) own_d_prog_8_method_2_25 (by decide) rfl ?_
      refine X.icmp_lt (b := 48) (q' := 36) (q := 30) own_d_prog_8_method_2_27 rfl rfl (by decide) rfl (fun c27 => ?_) (fun c27 => ?_)
      · exact J36 (by omega)
      · refine X.iloadN (q := 31) own_d_prog_8_method_2_30 rfl rfl ?_
        refine X.bipush (q := 33) (57 : Int32) own_d_prog_8_method_2_31 (by decide) rfl ?_
        refine X.icmp_le (b := 57) (q' := 45) (q := 36) own_d_prog_8_method_2_33 rfl rfl (by decide) rfl (fun c33 => ?_) (fun c33 => ?_)
        · refine X.iconst (q := 46) (1 : Int32) own_d_prog_8_method_2_45 (by decide) rfl ?_
          refine X.goto (q' := 50) own_d_prog_8_method_2_46 (by decide) ?_
          refine X.retN (t := .boolean) (z' := (1 : Int32)) HK own_d_prog_8_method_2_50 rfl (by simp) (by decide) (by decide) (by decide) ?_
          exact ⟨_, rfl, by omega, ⟨Nat.le_refl _, fun _ _ q => q⟩⟩
        · exact J36 (by omega)
    · refine X.iloadN (q := 19) own_d_prog_8_method_2_18 rfl rfl ?_
      refine X.bipush (q := 21) (90 : Int32) own_d_prog_8_method_2_19 (by decide) rfl ?_
      refine X.icmp_le (b := 90) (q' := 45) (q := 24) own_d_prog_8_method_2_21 rfl rfl (by decide) rfl (fun c21 => ?_) (fun c21 => ?_)
      · refine X.iconst (q := 46) (1 : Int32) own_d_prog_8_method_2_45 (by decide) rfl ?_
        refine X.goto (q' := 50) own_d_prog_8_method_2_46 (by decide) ?_
        refine X.retN (t := .boolean) (z' := (1 : Int32)) HK own_d_prog_8_method_2_50 rfl (by simp) (by decide) (by decide) (by decide) ?_
        exact ⟨_, rfl, by omega, ⟨Nat.le_refl _, fun _ _ q => q⟩⟩
      · refine X.iloadN (q := 25) own_d_prog_8_method_2_24 rfl rfl ?_
        refine X.bipush (q := 27) (48 : Int32) own_d_prog_8_method_2_25 (by decide) rfl ?_
        refine X.icmp_lt (b := 48) (q' := 36) (q := 30) own_d_prog_8_method_2_27 rfl rfl (by decide) rfl (fun c27 => ?_) (fun c27 => ?_)
        · exact J36 (by omega)
        · refine X.iloadN (q := 31) own_d_prog_8_method_2_30 rfl rfl ?_
          refine X.bipush (q := 33) (57 : Int32) own_d_prog_8_method_2_31 (by decide) rfl ?_
          refine X.icmp_le (b := 57) (q' := 45) (q := 36) own_d_prog_8_method_2_33 rfl rfl (by decide) rfl (fun c33 => ?_) (fun c33 => ?_)
          · refine X.iconst (q := 46) (1 : Int32) own_d_prog_8_method_2_45 (by decide) rfl ?_
            refine X.goto (q' := 50) own_d_prog_8_method_2_46 (by decide) ?_
            refine X.retN (t := .boolean) (z' := (1 : Int32)) HK own_d_prog_8_method_2_50 rfl (by simp) (by decide) (by decide) (by decide) ?_
            exact ⟨_, rfl, by omega, ⟨Nat.le_refl _, fun _ _ q => q⟩⟩
          · exact J36 (by omega)
  · refine X.iloadN (q := 7) own_d_prog_8_method_2_6 rfl rfl ?_
    refine X.bipush (q := 9) (122 : Int32) own_d_prog_8_method_2_7 (by decide) rfl ?_
    refine X.icmp_le (b := 122) (q' := 45) (q := 12) own_d_prog_8_method_2_9 rfl rfl (by decide) rfl (fun c9 => ?_) (fun c9 => ?_)
    · refine X.iconst (q := 46) (1 : Int32) own_d_prog_8_method_2_45 (by decide) rfl ?_
      refine X.goto (q' := 50) own_d_prog_8_method_2_46 (by decide) ?_
      refine X.retN (t := .boolean) (z' := (1 : Int32)) HK own_d_prog_8_method_2_50 rfl (by simp) (by decide) (by decide) (by decide) ?_
      exact ⟨_, rfl, by omega, ⟨Nat.le_refl _, fun _ _ q => q⟩⟩
    · refine X.iloadN (q := 13) own_d_prog_8_method_2_12 rfl rfl ?_
      refine X.bipush (q := 15) (65 : Int32) own_d_prog_8_method_2_13 (by decide) rfl ?_
      refine X.icmp_lt (b := 65) (q' := 24) (q := 18) own_d_prog_8_method_2_15 rfl rfl (by decide) rfl (fun c15 => ?_) (fun c15 => ?_)
      · refine X.iloadN (q := 25) own_d_prog_8_method_2_24 rfl rfl ?_
        refine X.bipush (q := 27) (48 : Int32) own_d_prog_8_method_2_25 (by decide) rfl ?_
        refine X.icmp_lt (b := 48) (q' := 36) (q := 30) own_d_prog_8_method_2_27 rfl rfl (by decide) rfl (fun c27 => ?_) (fun c27 => ?_)
        · exact J36 (by omega)
        · refine X.iloadN (q := 31) own_d_prog_8_method_2_30 rfl rfl ?_
          refine X.bipush (q := 33) (57 : Int32) own_d_prog_8_method_2_31 (by decide) rfl ?_
          refine X.icmp_le (b := 57) (q' := 45) (q := 36) own_d_prog_8_method_2_33 rfl rfl (by decide) rfl (fun c33 => ?_) (fun c33 => ?_)
          · refine X.iconst (q := 46) (1 : Int32) own_d_prog_8_method_2_45 (by decide) rfl ?_
            refine X.goto (q' := 50) own_d_prog_8_method_2_46 (by decide) ?_
            refine X.retN (t := .boolean) (z' := (1 : Int32)) HK own_d_prog_8_method_2_50 rfl (by simp) (by decide) (by decide) (by decide) ?_
            exact ⟨_, rfl, by omega, ⟨Nat.le_refl _, fun _ _ q => q⟩⟩
          · exact J36 (by omega)
      · refine X.iloadN (q := 19) own_d_prog_8_method_2_18 rfl rfl ?_
        refine X.bipush (q := 21) (90 : Int32) own_d_prog_8_method_2_19 (by decide) rfl ?_
        refine X.icmp_le (b := 90) (q' := 45) (q := 24) own_d_prog_8_method_2_21 rfl rfl (by decide) rfl (fun c21 => ?_) (fun c21 => ?_)
        · refine X.iconst (q := 46) (1 : Int32) own_d_prog_8_method_2_45 (by decide) rfl ?_
          refine X.goto (q' := 50) own_d_prog_8_method_2_46 (by decide) ?_
          refine X.retN (t := .boolean) (z' := (1 : Int32)) HK own_d_prog_8_method_2_50 rfl (by simp) (by decide) (by decide) (by decide) ?_
          exact ⟨_, rfl, by omega, ⟨Nat.le_refl _, fun _ _ q => q⟩⟩
        · refine X.iloadN (q := 25) own_d_prog_8_method_2_24 rfl rfl ?_
          refine X.bipush (q := 27) (48 : Int32) own_d_prog_8_method_2_25 (by decide) rfl ?_
          refine X.icmp_lt (b := 48) (q' := 36) (q := 30) own_d_prog_8_method_2_27 rfl rfl (by decide) rfl (fun c27 => ?_) (fun c27 => ?_)
          · exact J36 (by omega)
          · refine X.iloadN (q := 31) own_d_prog_8_method_2_30 rfl rfl ?_
            refine X.bipush (q := 33) (57 : Int32) own_d_prog_8_method_2_31 (by decide) rfl ?_
            refine X.icmp_le (b := 57) (q' := 45) (q := 36) own_d_prog_8_method_2_33 rfl rfl (by decide) rfl (fun c33 => ?_) (fun c33 => ?_)
            · refine X.iconst (q := 46) (1 : Int32) own_d_prog_8_method_2_45 (by decide) rfl ?_
              refine X.goto (q' := 50) own_d_prog_8_method_2_46 (by decide) ?_
              refine X.retN (t := .boolean) (z' := (1 : Int32)) HK own_d_prog_8_method_2_50 rfl (by simp) (by decide) (by decide) (by decide) ?_
              exact ⟨_, rfl, by omega, ⟨Nat.le_refl _, fun _ _ q => q⟩⟩
            · exact J36 (by omega)
theorem own_d_method_2_0 : decode method_2_code 0 = .ok (.iload_n 0, 1) := by decide +kernel
theorem own_d_method_2_1 : decode method_2_code 1 = .ok (.sipush 128, 3) := by decide +kernel
theorem own_d_method_2_4 : decode method_2_code 4 = .ok (.if_icmp .lt 5, 3) := by decide +kernel
theorem own_d_method_2_9 : decode method_2_code 9 = .ok (.iload_n 0, 1) := by decide +kernel
theorem own_d_method_2_10 : decode method_2_code 10 = .ok (.bipush 32, 2) := by decide +kernel
theorem own_d_method_2_12 : decode method_2_code 12 = .ok (.ior, 1) := by decide +kernel
theorem own_d_method_2_13 : decode method_2_code 13 = .ok (.istore_n 1, 1) := by decide +kernel
theorem own_d_method_2_14 : decode method_2_code 14 = .ok (.iload_n 1, 1) := by decide +kernel
theorem own_d_method_2_15 : decode method_2_code 15 = .ok (.bipush 97, 2) := by decide +kernel
theorem own_d_method_2_17 : decode method_2_code 17 = .ok (.if_icmp .lt 11, 3) := by decide +kernel
theorem own_d_method_2_28 : decode method_2_code 28 = .ok (.iload_n 0, 1) := by decide +kernel
theorem own_d_method_2_29 : decode method_2_code 29 = .ok (.bipush 48, 2) := by decide +kernel
theorem own_d_method_2_31 : decode method_2_code 31 = .ok (.if_icmp .lt 11, 3) := by decide +kernel
theorem own_d_method_2_42 : decode method_2_code 42 = .ok (.iload_n 0, 1) := by decide +kernel
theorem own_d_method_2_43 : decode method_2_code 43 = .ok (.bipush 45, 2) := by decide +kernel
theorem own_d_method_2_45 : decode method_2_code 45 = .ok (.if_icmp .eq 21, 3) := by decide +kernel
theorem own_d_method_2_66 : decode method_2_code 66 = .ok (.iconst 1, 1) := by decide +kernel
theorem own_d_method_2_67 : decode method_2_code 67 = .ok (.goto 4, 3) := by decide +kernel
theorem own_d_method_2_71 : decode method_2_code 71 = .ok (.ireturn, 1) := by decide +kernel
theorem own_d_method_2_48 : decode method_2_code 48 = .ok (.iload_n 0, 1) := by decide +kernel
theorem own_d_method_2_49 : decode method_2_code 49 = .ok (.bipush 46, 2) := by decide +kernel
theorem own_d_method_2_51 : decode method_2_code 51 = .ok (.if_icmp .eq 15, 3) := by decide +kernel
theorem own_d_method_2_54 : decode method_2_code 54 = .ok (.iload_n 0, 1) := by decide +kernel
theorem own_d_method_2_55 : decode method_2_code 55 = .ok (.bipush 95, 2) := by decide +kernel
theorem own_d_method_2_57 : decode method_2_code 57 = .ok (.if_icmp .eq 9, 3) := by decide +kernel
theorem own_d_method_2_60 : decode method_2_code 60 = .ok (.iload_n 0, 1) := by decide +kernel
theorem own_d_method_2_61 : decode method_2_code 61 = .ok (.bipush 126, 2) := by decide +kernel
theorem own_d_method_2_63 : decode method_2_code 63 = .ok (.if_icmp .ne 7, 3) := by decide +kernel
theorem own_d_method_2_70 : decode method_2_code 70 = .ok (.iconst 0, 1) := by decide +kernel
theorem own_d_method_2_34 : decode method_2_code 34 = .ok (.iload_n 0, 1) := by decide +kernel
theorem own_d_method_2_35 : decode method_2_code 35 = .ok (.bipush 57, 2) := by decide +kernel
theorem own_d_method_2_37 : decode method_2_code 37 = .ok (.if_icmp .gt 5, 3) := by decide +kernel
theorem own_d_method_2_40 : decode method_2_code 40 = .ok (.iconst 1, 1) := by decide +kernel
theorem own_d_method_2_41 : decode method_2_code 41 = .ok (.ireturn, 1) := by decide +kernel
theorem own_d_method_2_20 : decode method_2_code 20 = .ok (.iload_n 1, 1) := by decide +kernel
theorem own_d_method_2_21 : decode method_2_code 21 = .ok (.bipush 122, 2) := by decide +kernel
theorem own_d_method_2_23 : decode method_2_code 23 = .ok (.if_icmp .gt 5, 3) := by decide +kernel
theorem own_d_method_2_26 : decode method_2_code 26 = .ok (.iconst 1, 1) := by decide +kernel
theorem own_d_method_2_27 : decode method_2_code 27 = .ok (.ireturn, 1) := by decide +kernel
theorem own_d_method_2_7 : decode method_2_code 7 = .ok (.iconst 0, 1) := by decide +kernel
theorem own_d_method_2_8 : decode method_2_code 8 = .ok (.ireturn, 1) := by decide +kernel
def own_rm_own_ref : Room := ({ frames := 0, cells := 0, slots := 0, locals := 0 } : Room)
set_option maxRecDepth 65536 in
set_option maxHeartbeats 40000000 in
theorem own_ref (l : Launch) (Z : State) (a0 : Array Value) (hw : ∀ d ∈ tables_1, d.before a0 Z = true) (h : Heap) (n0 : Nat) (c : Int32) (hc : 0 ≤ c.toInt)  :
    OwM l Z (⟨"com/example/utando/utando/archive/UrlCharactersIsUnreservedPinLaw", "reference", "(I)Z"⟩ : MethodName) method_2_code 2 (some .boolean) own_rm_own_ref 0 0 [] #[(.int c)] h n0 (fun r h' => ∃ z : Int32, r = some (.int z) ∧ ((z.toInt = 1 ∧ ((97 ≤ c.toInt ∧ c.toInt ≤ 122) ∨ (65 ≤ c.toInt ∧ c.toInt ≤ 90) ∨ (48 ≤ c.toInt ∧ c.toInt ≤ 57) ∨ c.toInt = 45 ∨ c.toInt = 46 ∨ c.toInt = 95 ∨ c.toInt = 126)) ∨ (z.toInt = 0 ∧ ¬ ((97 ≤ c.toInt ∧ c.toInt ≤ 122) ∨ (65 ≤ c.toInt ∧ c.toInt ≤ 90) ∨ (48 ≤ c.toInt ∧ c.toInt ≤ 57) ∨ c.toInt = 45 ∨ c.toInt = 46 ∨ c.toInt = 95 ∨ c.toInt = 126))) ∧ h = h') := by
  refine OwM.of (Ls := #[.val (.int c), .unset]) (by decide +kernel) (fun m => by first | (simp [entryFrame, mkF, argsToLocals, Value.category]; done) | rfl) ?_
  intro _ _ _ _ _ _ _ X
  have e0 : (0 : Int32).toInt = 0 := rfl
  have e1 : (1 : Int32).toInt = 1 := rfl
  have e97 : (97 : Int32).toInt = 97 := rfl
  have e122 : (122 : Int32).toInt = 122 := rfl
  have e48 : (48 : Int32).toInt = 48 := rfl
  have e57 : (57 : Int32).toInt = 57 := rfl
  have e45 : (45 : Int32).toInt = 45 := rfl
  have e46 : (46 : Int32).toInt = 46 := rfl
  have e95 : (95 : Int32).toInt = 95 := rfl
  have e126 : (126 : Int32).toInt = 126 := rfl
  have e128 : (128 : Int32).toInt = 128 := rfl
  refine X.iloadN (q := 1) own_d_method_2_0 rfl rfl ?_
  refine X.sipush (q := 4) (128 : Int32) own_d_method_2_1 (by decide) rfl ?_
  refine X.icmp_lt (b := 128) (q' := 9) (q := 7) own_d_method_2_4 rfl rfl (by decide) rfl (fun c4 => ?_) (fun c4 => ?_)
  · refine X.iloadN (q := 10) own_d_method_2_9 rfl rfl ?_
    refine X.bipush (q := 12) (32 : Int32) own_d_method_2_10 (by decide) rfl ?_
    refine X.ior (q := 13) own_d_method_2_12 rfl ?_
    refine X.nmI (fun d hd => ?_)
    have hd_ : d.toInt = c.toInt + 32 * (1 - c.toInt / 32 % 2) := by rw [hd]; exact own_or32 c hc
    refine X.istoreN (q := 14) (Ls' := #[.val (.int c), .val (.int d)]) own_d_method_2_13 rfl rfl ?_
    refine X.iloadN (q := 15) own_d_method_2_14 rfl rfl ?_
    refine X.bipush (q := 17) (97 : Int32) own_d_method_2_15 (by decide) rfl ?_
    refine X.icmp_lt (b := 97) (q' := 28) (q := 20) own_d_method_2_17 rfl rfl (by decide) rfl (fun c17 => ?_) (fun c17 => ?_)
    · refine X.iloadN (q := 29) own_d_method_2_28 rfl rfl ?_
      refine X.bipush (q := 31) (48 : Int32) own_d_method_2_29 (by decide) rfl ?_
      refine X.icmp_lt (b := 48) (q' := 42) (q := 34) own_d_method_2_31 rfl rfl (by decide) rfl (fun c31 => ?_) (fun c31 => ?_)
      · refine X.iloadN (q := 43) own_d_method_2_42 rfl rfl ?_
        refine X.bipush (q := 45) (45 : Int32) own_d_method_2_43 (by decide) rfl ?_
        refine X.icmp_eq (b := 45) (q' := 66) (q := 48) own_d_method_2_45 rfl rfl (by decide) rfl (fun c45 => ?_) (fun c45 => ?_)
        · refine X.iconst (q := 67) (1 : Int32) own_d_method_2_66 (by decide) rfl ?_
          refine X.goto (q' := 71) own_d_method_2_67 (by decide) ?_
          refine X.retN (t := .boolean) (z' := (1 : Int32)) own_d_method_2_71 rfl (by simp) (by decide) (by decide) (by decide) ?_
          exact ⟨_, rfl, by omega, rfl⟩
        · refine X.iloadN (q := 49) own_d_method_2_48 rfl rfl ?_
          refine X.bipush (q := 51) (46 : Int32) own_d_method_2_49 (by decide) rfl ?_
          refine X.icmp_eq (b := 46) (q' := 66) (q := 54) own_d_method_2_51 rfl rfl (by decide) rfl (fun c51 => ?_) (fun c51 => ?_)
          · refine X.iconst (q := 67) (1 : Int32) own_d_method_2_66 (by decide) rfl ?_
            refine X.goto (q' := 71) own_d_method_2_67 (by decide) ?_
            refine X.retN (t := .boolean) (z' := (1 : Int32)) own_d_method_2_71 rfl (by simp) (by decide) (by decide) (by decide) ?_
            exact ⟨_, rfl, by omega, rfl⟩
          · refine X.iloadN (q := 55) own_d_method_2_54 rfl rfl ?_
            refine X.bipush (q := 57) (95 : Int32) own_d_method_2_55 (by decide) rfl ?_
            refine X.icmp_eq (b := 95) (q' := 66) (q := 60) own_d_method_2_57 rfl rfl (by decide) rfl (fun c57 => ?_) (fun c57 => ?_)
            · refine X.iconst (q := 67) (1 : Int32) own_d_method_2_66 (by decide) rfl ?_
              refine X.goto (q' := 71) own_d_method_2_67 (by decide) ?_
              refine X.retN (t := .boolean) (z' := (1 : Int32)) own_d_method_2_71 rfl (by simp) (by decide) (by decide) (by decide) ?_
              exact ⟨_, rfl, by omega, rfl⟩
            · refine X.iloadN (q := 61) own_d_method_2_60 rfl rfl ?_
              refine X.bipush (q := 63) (126 : Int32) own_d_method_2_61 (by decide) rfl ?_
              refine X.icmp_ne (b := 126) (q' := 70) (q := 66) own_d_method_2_63 rfl rfl (by decide) rfl (fun c63 => ?_) (fun c63 => ?_)
              · refine X.iconst (q := 71) (0 : Int32) own_d_method_2_70 (by decide) rfl ?_
                refine X.retN (t := .boolean) (z' := (0 : Int32)) own_d_method_2_71 rfl (by simp) (by decide) (by decide) (by decide) ?_
                exact ⟨_, rfl, by omega, rfl⟩
              · refine X.iconst (q := 67) (1 : Int32) own_d_method_2_66 (by decide) rfl ?_
                refine X.goto (q' := 71) own_d_method_2_67 (by decide) ?_
                refine X.retN (t := .boolean) (z' := (1 : Int32)) own_d_method_2_71 rfl (by simp) (by decide) (by decide) (by decide) ?_
                exact ⟨_, rfl, by omega, rfl⟩
      · refine X.iloadN (q := 35) own_d_method_2_34 rfl rfl ?_
        refine X.bipush (q := 37) (57 : Int32) own_d_method_2_35 (by decide) rfl ?_
        refine X.icmp_gt (b := 57) (q' := 42) (q := 40) own_d_method_2_37 rfl rfl (by decide) rfl (fun c37 => ?_) (fun c37 => ?_)
        · refine X.iloadN (q := 43) own_d_method_2_42 rfl rfl ?_
          refine X.bipush (q := 45) (45 : Int32) own_d_method_2_43 (by decide) rfl ?_
          refine X.icmp_eq (b := 45) (q' := 66) (q := 48) own_d_method_2_45 rfl rfl (by decide) rfl (fun c45 => ?_) (fun c45 => ?_)
          · refine X.iconst (q := 67) (1 : Int32) own_d_method_2_66 (by decide) rfl ?_
            refine X.goto (q' := 71) own_d_method_2_67 (by decide) ?_
            refine X.retN (t := .boolean) (z' := (1 : Int32)) own_d_method_2_71 rfl (by simp) (by decide) (by decide) (by decide) ?_
            exact ⟨_, rfl, by omega, rfl⟩
          · refine X.iloadN (q := 49) own_d_method_2_48 rfl rfl ?_
            refine X.bipush (q := 51) (46 : Int32) own_d_method_2_49 (by decide) rfl ?_
            refine X.icmp_eq (b := 46) (q' := 66) (q := 54) own_d_method_2_51 rfl rfl (by decide) rfl (fun c51 => ?_) (fun c51 => ?_)
            · refine X.iconst (q := 67) (1 : Int32) own_d_method_2_66 (by decide) rfl ?_
              refine X.goto (q' := 71) own_d_method_2_67 (by decide) ?_
              refine X.retN (t := .boolean) (z' := (1 : Int32)) own_d_method_2_71 rfl (by simp) (by decide) (by decide) (by decide) ?_
              exact ⟨_, rfl, by omega, rfl⟩
            · refine X.iloadN (q := 55) own_d_method_2_54 rfl rfl ?_
              refine X.bipush (q := 57) (95 : Int32) own_d_method_2_55 (by decide) rfl ?_
              refine X.icmp_eq (b := 95) (q' := 66) (q := 60) own_d_method_2_57 rfl rfl (by decide) rfl (fun c57 => ?_) (fun c57 => ?_)
              · refine X.iconst (q := 67) (1 : Int32) own_d_method_2_66 (by decide) rfl ?_
                refine X.goto (q' := 71) own_d_method_2_67 (by decide) ?_
                refine X.retN (t := .boolean) (z' := (1 : Int32)) own_d_method_2_71 rfl (by simp) (by decide) (by decide) (by decide) ?_
                exact ⟨_, rfl, by omega, rfl⟩
              · refine X.iloadN (q := 61) own_d_method_2_60 rfl rfl ?_
                refine X.bipush (q := 63) (126 : Int32) own_d_method_2_61 (by decide) rfl ?_
                refine X.icmp_ne (b := 126) (q' := 70) (q := 66) own_d_method_2_63 rfl rfl (by decide) rfl (fun c63 => ?_) (fun c63 => ?_)
                · refine X.iconst (q := 71) (0 : Int32) own_d_method_2_70 (by decide) rfl ?_
                  refine X.retN (t := .boolean) (z' := (0 : Int32)) own_d_method_2_71 rfl (by simp) (by decide) (by decide) (by decide) ?_
                  exact ⟨_, rfl, by omega, rfl⟩
                · refine X.iconst (q := 67) (1 : Int32) own_d_method_2_66 (by decide) rfl ?_
                  refine X.goto (q' := 71) own_d_method_2_67 (by decide) ?_
                  refine X.retN (t := .boolean) (z' := (1 : Int32)) own_d_method_2_71 rfl (by simp) (by decide) (by decide) (by decide) ?_
                  exact ⟨_, rfl, by omega, rfl⟩
        · refine X.iconst (q := 41) (1 : Int32) own_d_method_2_40 (by decide) rfl ?_
          refine X.retN (t := .boolean) (z' := (1 : Int32)) own_d_method_2_41 rfl (by simp) (by decide) (by decide) (by decide) ?_
          exact ⟨_, rfl, by omega, rfl⟩
    · refine X.iloadN (q := 21) own_d_method_2_20 rfl rfl ?_
      refine X.bipush (q := 23) (122 : Int32) own_d_method_2_21 (by decide) rfl ?_
      refine X.icmp_gt (b := 122) (q' := 28) (q := 26) own_d_method_2_23 rfl rfl (by decide) rfl (fun c23 => ?_) (fun c23 => ?_)
      · refine X.iloadN (q := 29) own_d_method_2_28 rfl rfl ?_
        refine X.bipush (q := 31) (48 : Int32) own_d_method_2_29 (by decide) rfl ?_
        refine X.icmp_lt (b := 48) (q' := 42) (q := 34) own_d_method_2_31 rfl rfl (by decide) rfl (fun c31 => ?_) (fun c31 => ?_)
        · refine X.iloadN (q := 43) own_d_method_2_42 rfl rfl ?_
          refine X.bipush (q := 45) (45 : Int32) own_d_method_2_43 (by decide) rfl ?_
          refine X.icmp_eq (b := 45) (q' := 66) (q := 48) own_d_method_2_45 rfl rfl (by decide) rfl (fun c45 => ?_) (fun c45 => ?_)
          · refine X.iconst (q := 67) (1 : Int32) own_d_method_2_66 (by decide) rfl ?_
            refine X.goto (q' := 71) own_d_method_2_67 (by decide) ?_
            refine X.retN (t := .boolean) (z' := (1 : Int32)) own_d_method_2_71 rfl (by simp) (by decide) (by decide) (by decide) ?_
            exact ⟨_, rfl, by omega, rfl⟩
          · refine X.iloadN (q := 49) own_d_method_2_48 rfl rfl ?_
            refine X.bipush (q := 51) (46 : Int32) own_d_method_2_49 (by decide) rfl ?_
            refine X.icmp_eq (b := 46) (q' := 66) (q := 54) own_d_method_2_51 rfl rfl (by decide) rfl (fun c51 => ?_) (fun c51 => ?_)
            · refine X.iconst (q := 67) (1 : Int32) own_d_method_2_66 (by decide) rfl ?_
              refine X.goto (q' := 71) own_d_method_2_67 (by decide) ?_
              refine X.retN (t := .boolean) (z' := (1 : Int32)) own_d_method_2_71 rfl (by simp) (by decide) (by decide) (by decide) ?_
              exact ⟨_, rfl, by omega, rfl⟩
            · refine X.iloadN (q := 55) own_d_method_2_54 rfl rfl ?_
              refine X.bipush (q := 57) (95 : Int32) own_d_method_2_55 (by decide) rfl ?_
              refine X.icmp_eq (b := 95) (q' := 66) (q := 60) own_d_method_2_57 rfl rfl (by decide) rfl (fun c57 => ?_) (fun c57 => ?_)
              · refine X.iconst (q := 67) (1 : Int32) own_d_method_2_66 (by decide) rfl ?_
                refine X.goto (q' := 71) own_d_method_2_67 (by decide) ?_
                refine X.retN (t := .boolean) (z' := (1 : Int32)) own_d_method_2_71 rfl (by simp) (by decide) (by decide) (by decide) ?_
                exact ⟨_, rfl, by omega, rfl⟩
              · refine X.iloadN (q := 61) own_d_method_2_60 rfl rfl ?_
                refine X.bipush (q := 63) (126 : Int32) own_d_method_2_61 (by decide) rfl ?_
                refine X.icmp_ne (b := 126) (q' := 70) (q := 66) own_d_method_2_63 rfl rfl (by decide) rfl (fun c63 => ?_) (fun c63 => ?_)
                · refine X.iconst (q := 71) (0 : Int32) own_d_method_2_70 (by decide) rfl ?_
                  refine X.retN (t := .boolean) (z' := (0 : Int32)) own_d_method_2_71 rfl (by simp) (by decide) (by decide) (by decide) ?_
                  exact ⟨_, rfl, by omega, rfl⟩
                · refine X.iconst (q := 67) (1 : Int32) own_d_method_2_66 (by decide) rfl ?_
                  refine X.goto (q' := 71) own_d_method_2_67 (by decide) ?_
                  refine X.retN (t := .boolean) (z' := (1 : Int32)) own_d_method_2_71 rfl (by simp) (by decide) (by decide) (by decide) ?_
                  exact ⟨_, rfl, by omega, rfl⟩
        · refine X.iloadN (q := 35) own_d_method_2_34 rfl rfl ?_
          refine X.bipush (q := 37) (57 : Int32) own_d_method_2_35 (by decide) rfl ?_
          refine X.icmp_gt (b := 57) (q' := 42) (q := 40) own_d_method_2_37 rfl rfl (by decide) rfl (fun c37 => ?_) (fun c37 => ?_)
          · refine X.iloadN (q := 43) own_d_method_2_42 rfl rfl ?_
            refine X.bipush (q := 45) (45 : Int32) own_d_method_2_43 (by decide) rfl ?_
            refine X.icmp_eq (b := 45) (q' := 66) (q := 48) own_d_method_2_45 rfl rfl (by decide) rfl (fun c45 => ?_) (fun c45 => ?_)
            · refine X.iconst (q := 67) (1 : Int32) own_d_method_2_66 (by decide) rfl ?_
              refine X.goto (q' := 71) own_d_method_2_67 (by decide) ?_
              refine X.retN (t := .boolean) (z' := (1 : Int32)) own_d_method_2_71 rfl (by simp) (by decide) (by decide) (by decide) ?_
              exact ⟨_, rfl, by omega, rfl⟩
            · refine X.iloadN (q := 49) own_d_method_2_48 rfl rfl ?_
              refine X.bipush (q := 51) (46 : Int32) own_d_method_2_49 (by decide) rfl ?_
              refine X.icmp_eq (b := 46) (q' := 66) (q := 54) own_d_method_2_51 rfl rfl (by decide) rfl (fun c51 => ?_) (fun c51 => ?_)
              · refine X.iconst (q := 67) (1 : Int32) own_d_method_2_66 (by decide) rfl ?_
                refine X.goto (q' := 71) own_d_method_2_67 (by decide) ?_
                refine X.retN (t := .boolean) (z' := (1 : Int32)) own_d_method_2_71 rfl (by simp) (by decide) (by decide) (by decide) ?_
                exact ⟨_, rfl, by omega, rfl⟩
              · refine X.iloadN (q := 55) own_d_method_2_54 rfl rfl ?_
                refine X.bipush (q := 57) (95 : Int32) own_d_method_2_55 (by decide) rfl ?_
                refine X.icmp_eq (b := 95) (q' := 66) (q := 60) own_d_method_2_57 rfl rfl (by decide) rfl (fun c57 => ?_) (fun c57 => ?_)
                · refine X.iconst (q := 67) (1 : Int32) own_d_method_2_66 (by decide) rfl ?_
                  refine X.goto (q' := 71) own_d_method_2_67 (by decide) ?_
                  refine X.retN (t := .boolean) (z' := (1 : Int32)) own_d_method_2_71 rfl (by simp) (by decide) (by decide) (by decide) ?_
                  exact ⟨_, rfl, by omega, rfl⟩
                · refine X.iloadN (q := 61) own_d_method_2_60 rfl rfl ?_
                  refine X.bipush (q := 63) (126 : Int32) own_d_method_2_61 (by decide) rfl ?_
                  refine X.icmp_ne (b := 126) (q' := 70) (q := 66) own_d_method_2_63 rfl rfl (by decide) rfl (fun c63 => ?_) (fun c63 => ?_)
                  · refine X.iconst (q := 71) (0 : Int32) own_d_method_2_70 (by decide) rfl ?_
                    refine X.retN (t := .boolean) (z' := (0 : Int32)) own_d_method_2_71 rfl (by simp) (by decide) (by decide) (by decide) ?_
                    exact ⟨_, rfl, by omega, rfl⟩
                  · refine X.iconst (q := 67) (1 : Int32) own_d_method_2_66 (by decide) rfl ?_
                    refine X.goto (q' := 71) own_d_method_2_67 (by decide) ?_
                    refine X.retN (t := .boolean) (z' := (1 : Int32)) own_d_method_2_71 rfl (by simp) (by decide) (by decide) (by decide) ?_
                    exact ⟨_, rfl, by omega, rfl⟩
          · refine X.iconst (q := 41) (1 : Int32) own_d_method_2_40 (by decide) rfl ?_
            refine X.retN (t := .boolean) (z' := (1 : Int32)) own_d_method_2_41 rfl (by simp) (by decide) (by decide) (by decide) ?_
            exact ⟨_, rfl, by omega, rfl⟩
      · refine X.iconst (q := 27) (1 : Int32) own_d_method_2_26 (by decide) rfl ?_
        refine X.retN (t := .boolean) (z' := (1 : Int32)) own_d_method_2_27 rfl (by simp) (by decide) (by decide) (by decide) ?_
        exact ⟨_, rfl, by omega, rfl⟩
  · refine X.iconst (q := 8) (0 : Int32) own_d_method_2_7 (by decide) rfl ?_
    refine X.retN (t := .boolean) (z' := (0 : Int32)) own_d_method_2_8 rfl (by simp) (by decide) (by decide) (by decide) ?_
    exact ⟨_, rfl, by omega, rfl⟩
theorem own_pd7 : parseMethodDescriptor "(C)Z" = some ⟨[.char], some .boolean⟩ := by decide +kernel
set_option maxRecDepth 65536 in
set_option maxHeartbeats 40000000 in
theorem own_law (l : Launch) (Z : State) (a0 : Array Value) (hw : ∀ d ∈ tables_1, d.before a0 Z = true) (h : Heap) (n0 : Nat) (hn0 : n0 ≤ h.size) (x y : Int32) (cs : Int32) (hcs : cs.toInt ≠ 0)  (Sc : Sta Z h "java/lang/String" "COMPACT_STRINGS" "Z" (.int cs)) :
    OwN l Z consts_1 (⟨"com/example/utando/utando/archive/UrlCharactersIsUnreservedPinLaw", "law", "(II)Z"⟩ : MethodName) code 6 (some .boolean) room_1 8 1088 tables_1 #[(.int x), (.int y)] h n0 (fun r h' => r = some (.int 1)) := by
  refine OwN.of (own_EW hw) (Ls := #[.val (.int x), .val (.int y), .unset, .unset, .unset, .unset]) (by decide +kernel) (fun m => by first | (simp [entryFrame, mkF, argsToLocals, Value.category]; done) | rfl) ?_
  intro _ _ _ _ _ _ _ X HK
  have e0 : (0 : Int32).toInt = 0 := rfl
  have e1 : (1 : Int32).toInt = 1 := rfl
  refine X.iloadN (q := 1) at_0 rfl rfl ?_
  refine X.ldc (q := 3) (v := (65535 : Int32)) (hw _ (List.mem_of_getElem? (i := 0) rfl)) at_1 rfl ?_
  refine X.iand (q := 4) at_3 rfl ?_
  refine X.i2c (q := 5) at_4 rfl ?_
  refine X.nmI (fun c hc => ?_)
  have hcr : 0 ≤ c.toInt ∧ c.toInt < 65536 := by have := own_c16 (x &&& 65535); rw [← hc] at this; omega
  refine X.istoreN (q := 6) (Ls' := #[.val (.int x), .val (.int y), .val (.int c), .unset, .unset, .unset]) at_5 rfl rfl ?_
  refine X.iloadN (q := 7) at_6 rfl rfl ?_
  refine X.bipush (q := 9) (127 : Int32) at_7 (by decide) rfl ?_
  refine X.iand (q := 10) at_9 rfl ?_
  refine X.i2c (q := 11) at_10 rfl ?_
  refine X.nmI (fun d hd => ?_)
  have hdr : 0 ≤ d.toInt ∧ d.toInt < 65536 := by have := own_c16 (y &&& 127); rw [← hd] at this; omega
  refine X.istoreN (q := 12) (Ls' := #[.val (.int x), .val (.int y), .val (.int c), .val (.int d), .unset, .unset]) at_11 rfl rfl ?_
  refine X.iloadN (q := 13) at_12 rfl rfl ?_
  refine X.callN HK (own_un l Z a0 hw h n0 c cs hcs hn0 Sc) (hw _ (List.mem_of_getElem? (i := 1) rfl)) (hw _ (List.mem_of_getElem? (i := 2) rfl)) (hw _ (List.mem_of_getElem? (i := 3) rfl)) (hw _ (List.mem_of_getElem? (i := 4) rfl)) (by decide) own_pd7 (argsL := [(.int c)]) (rest := []) rfl rfl rfl (W := 0) (Nat.le_of_eq rfl) rfl (by decide) (by decide) (k' := 2) (n' := 20) rfl rfl (by decide) (by decide) at_13 (q := 16) rfl ?_
  rintro _ X _ h1 - HKh1 - ⟨z1, rfl, hz1, Eh1⟩
  have Sc' : Sta Z h1 "java/lang/String" "COMPACT_STRINGS" "Z" (.int cs) := Sta.ext Eh1 Sc
  have hsh1 : n0 ≤ h1.size := Nat.le_trans hn0 Eh1.1
  show X.G h1 2 20 16 #[.val (.int x), .val (.int y), .val (.int c), .val (.int d), .unset, .unset] [(.int z1)]
  refine X.iloadN (q := 17) at_16 rfl rfl ?_
  refine X.callS (own_ref l Z a0 hw h1 n0 c (by omega)) (hw _ (List.mem_of_getElem? (i := 58) rfl)) (hw _ (List.mem_of_getElem? (i := 59) rfl)) (hw _ (List.mem_of_getElem? (i := 60) rfl)) (hw _ (List.mem_of_getElem? (i := 61) rfl)) (by decide) own_pd0 (argsL := [(.int c)]) (rest := [(.int z1)]) rfl rfl rfl (W := 1) (Nat.le_of_eq rfl) rfl (by decide) (by decide) (k' := 2) (n' := 20) rfl rfl (by decide) (by decide) at_17 (q := 20) rfl ?_
  rintro _ _ ⟨z2, rfl, hz2, rfl⟩
  show X.G h1 2 20 20 #[.val (.int x), .val (.int y), .val (.int c), .val (.int d), .unset, .unset] [(.int z2), (.int z1)]
  refine X.icmp_ne (q' := 27) (q := 23) at_20 rfl rfl (by decide) rfl (fun c20 => ?_) (fun c20 => ?_)
  · omega
  · refine X.iconst (q := 24) (1 : Int32) at_23 (by decide) rfl ?_
    refine X.goto (q' := 28) at_24 (by decide) ?_
    refine X.istore (q := 30) (Ls' := #[.val (.int x), .val (.int y), .val (.int c), .val (.int d), .val (.int (1 : Int32)), .unset]) at_28 rfl rfl ?_
    refine X.iloadN (q := 31) at_30 rfl rfl ?_
    refine X.callN HKh1 (own_un l Z a0 hw h1 n0 d cs hcs hsh1 Sc') (hw _ (List.mem_of_getElem? (i := 1) rfl)) (hw _ (List.mem_of_getElem? (i := 2) rfl)) (hw _ (List.mem_of_getElem? (i := 3) rfl)) (hw _ (List.mem_of_getElem? (i := 4) rfl)) (by decide) own_pd7 (argsL := [(.int d)]) (rest := []) rfl rfl rfl (W := 0) (Nat.le_of_eq rfl) rfl (by decide) (by decide) (k' := 4) (n' := 40) rfl rfl (by decide) (by decide) at_31 (q := 34) rfl ?_
    rintro _ X _ h2 - HKh2 - ⟨z3, rfl, hz3, Eh2⟩
    have Sc'' : Sta Z h2 "java/lang/String" "COMPACT_STRINGS" "Z" (.int cs) := Sta.ext Eh2 Sc'
    have hsh2 : n0 ≤ h2.size := Nat.le_trans hsh1 Eh2.1
    show X.G h2 4 40 34 #[.val (.int x), .val (.int y), .val (.int c), .val (.int d), .val (.int (1 : Int32)), .unset] [(.int z3)]
    refine X.iloadN (q := 35) at_34 rfl rfl ?_
    refine X.callS (own_ref l Z a0 hw h2 n0 d (by omega)) (hw _ (List.mem_of_getElem? (i := 58) rfl)) (hw _ (List.mem_of_getElem? (i := 59) rfl)) (hw _ (List.mem_of_getElem? (i := 60) rfl)) (hw _ (List.mem_of_getElem? (i := 61) rfl)) (by decide) own_pd0 (argsL := [(.int d)]) (rest := [(.int z3)]) rfl rfl rfl (W := 1) (Nat.le_of_eq rfl) rfl (by decide) (by decide) (k' := 4) (n' := 40) rfl rfl (by decide) (by decide) at_35 (q := 38) rfl ?_
    rintro _ _ ⟨z4, rfl, hz4, rfl⟩
    show X.G h2 4 40 38 #[.val (.int x), .val (.int y), .val (.int c), .val (.int d), .val (.int (1 : Int32)), .unset] [(.int z4), (.int z3)]
    refine X.icmp_ne (q' := 45) (q := 41) at_38 rfl rfl (by decide) rfl (fun c38 => ?_) (fun c38 => ?_)
    · omega
    · refine X.iconst (q := 42) (1 : Int32) at_41 (by decide) rfl ?_
      refine X.goto (q' := 46) at_42 (by decide) ?_
      refine X.istore (q := 48) (Ls' := #[.val (.int x), .val (.int y), .val (.int c), .val (.int d), .val (.int (1 : Int32)), .val (.int (1 : Int32))]) at_46 rfl rfl ?_
      refine X.iload (q := 50) at_48 rfl rfl ?_
      refine X.if_eq (a := 1) (q' := 62) (q := 53) at_50 rfl (by decide) rfl (fun c50 => ?_) (fun c50 => ?_)
      · omega
      · refine X.iload (q := 55) at_53 rfl rfl ?_
        refine X.if_eq (a := 1) (q' := 62) (q := 58) at_55 rfl (by decide) rfl (fun c55 => ?_) (fun c55 => ?_)
        · omega
        · refine X.iconst (q := 59) (1 : Int32) at_58 (by decide) rfl ?_
          refine X.goto (q' := 63) at_59 (by decide) ?_
          refine X.retN (t := .boolean) (z' := (1 : Int32)) HKh2 at_63 rfl (by simp) (by decide) (by decide) (by decide) ?_
          rfl
set_option maxRecDepth 65536 in
set_option maxHeartbeats 40000000 in
theorem comes_1 {Post : Tables → Env → Array Value → State → Outcome → State → Prop} (hpost : ∀ tb e args s v u, (limb_1_1.after args s (.returned v) u = true ∧ limb_1_2.after args s (.returned v) u = true ∧ True) → ReturnedEndW s (.returned v) u (Jvm.fieldLocs frame_1_writes args s ++ Jvm.arrayLocs frame_1_arrays args s ++ Jvm.staticLocs frame_1_statics s) 8 1088 → Post tb e args s (.returned v) u) :
    ArmFor flags0 classFile x code maxLocals ret World_1 tables_1 room_1 Calls_1 rest_1 Pre_1 Post := by
  intro l hfl _ _ p e ha hc hk s m args below hf hA hF happ hP
  obtain ⟨hcalls, hrest, hpre⟩ := hP
  obtain ⟨-, -, -, hnamed, -, -, -, hat⟩ := (Spec.applies_iff hf).mp happ
  obtain ⟨hg, hn⟩ := and_e (Cond.before_iff.mp (show (Jvm.Cond.and given_1 narrow_1).before args s = true from hpre))
  obtain ⟨hg0, hg⟩ := and_e hg
  obtain ⟨w0, w1, rfl⟩ : ∃ w0 w1 : Value, args = #[w0, w1] := by
    have hs : args.size = 2 := by simpa [Cond.value, given_1] using hg0
    obtain ⟨L⟩ := args
    match L, hs with
    | [w0, w1], _ => exact ⟨w0, w1, rfl⟩
  have hw := fun d (hd : d ∈ tables_1) => atoms_spec (ws := Jvm.Cond.code x code maxLocals ret :: tables_1) hat d (List.mem_cons_of_mem _ hd)
  obtain ⟨ha0, hg⟩ := and_e hg
  obtain ⟨i0, e0⟩ := is_v ha0
  obtain rfl : w0 = (.int i0) := Option.some.inj e0
  have ha1 := hg
  obtain ⟨i1, e1⟩ := is_v ha1
  obtain rfl : w1 = (.int i1) := Option.some.inj e1
  obtain ⟨hsets, hown0⟩ := atoms_of _ (rest_1_c_eq ▸ (show rest_1_c.before _ s = true from hrest))
  have n3 := not_v (Cond.before_iff.mp (hsets _ (List.mem_of_getElem? (i := 2) rfl)))
  obtain ⟨cs, e6⟩ := is_v (Cond.before_iff.mp (hsets _ (List.mem_of_getElem? (i := 1) rfl)))
  have Sc : Sta s s.heap "java/lang/String" "COMPACT_STRINGS" "Z" (.int cs) := Sta.start e6 (Or.inl (hsets _ (List.mem_of_getElem? (i := 0) rfl)))
  have c13 : ¬ (cs = (0 : Int32)) := gotF (Cond.eq_ints e6 (Term.int_eval (0))) n3
  have hcs : cs.toInt ≠ 0 := fun q => c13 (by rw [← Int32.toInt_inj, q]; rfl)
  have hCH : CHv s consts_1 s.vm s.heap := CHv.start (own_EW hw) (fun q hq => hcalls.1 q hq) (hsets _ (List.mem_of_getElem? (i := 2) rfl)) (own_wS hw _ (by simp [Bundle.stringAtoms])) (own_wS hw _ (by simp [Bundle.stringAtoms, Bundle.sN]))
  obtain ⟨n, o, h1, h2, h3, _, L, rfl, ⟨rfl, N⟩, -, hq⟩ := own_law l s _ hw s.heap s.heap.size (Nat.le_refl _) i0 i1 cs hcs Sc p e ha hc hk s m _ below hf ((Spec.applies_iff_loose hf).mp happ).1 ⟨rfl, State.Warmed39.refl s, rfl, hCH⟩ trivial
  refine ⟨n, _, h1, h2, h3, hpost _ _ _ _ _ _ ⟨Cond.after_iff.mpr rfl, Cond.after_iff.mpr (eq_i res_at (Term.int_eval (1)) rfl), trivial⟩ ⟨hq.1, hq.2.1, hq.2.2.1, (hq.2.2.2.sift fun y hy => Or.inr (N y hy)).mono (by decide) (by decide)⟩⟩
theorem main_1_1 : Claimed_1_1 := comes_1 fun _ _ _ _ _ _ h hF => ⟨h.1, hF⟩
theorem main_1_2 : Claimed_1_2 := comes_1 fun _ _ _ _ _ _ h hF => ⟨h.2.1, hF⟩
end Jvm.Pilot.@@N@@
namespace Jvm.Pilot.@@N@@
open Jvm Jvm.ClassFile Sem Op Lib Jvm.Free Jvm.Stand Jvm.Pilot.@@N@@.Jvm.D
/-! MADE BY PROGRAM (witnessworld.py) out of the Statement's table words and the real class files: 18 classes; the members and pool entries that the words name. The judged class is class 1, her method 2. -/
namespace start1
open Jvm.ClassFile
def u (s : String) : CpInfo := .utf8 (stringToUtf16 s)
/-- a pool by its gaps: so many unusable entries, then the entry; so many at the end -/
def gap : Nat → List CpInfo → List CpInfo
  | 0, r => r
  | n + 1, r => .unusable :: gap n r
def poolList (es : List (Nat × CpInfo)) (last : Nat) : List CpInfo := es.foldr (fun e r => gap e.1 (e.2 :: r)) (gap last [])
def pool (es : List (Nat × CpInfo)) (last : Nat) : Array CpInfo := ⟨poolList es last⟩
def fileOf (pool : Array CpInfo) (this : Nat) (attrs : Array Attribute := #[]) (ms : Array MethodInfo := #[]) (fl : Nat := 33) (sup : Nat := 0) (ifs : Array Nat := #[]) (fds : Array FieldInfo := #[]) : ClassFile where
  minorVersion := 0
  majorVersion := 65
  constantPool := pool
  accessFlags := fl
  thisClass := this
  superClass := sup
  interfaces := ifs
  fields := fds
  methods := ms
  attributes := attrs
def plain (name : String) (sup : Option ClassId) : Class where
  name := name
  kind := .ordinary
  loader := none
  accessFlags := 33
  super := sup
  interfaces := #[]
  cf := none
  fields := #[]
  methods := #[]
  instanceTypes := #[]
  staticTypes := #[]
  resolved := #[]
  callSites := []
  init := .initialized
  statics := none
  mirror := none

def pool0 : Array CpInfo := pool [(5, u "<init>"), (0, u "()V"), (1, .class_ 10), (1, u "java/lang/Object")] 113

def k0m0 : Method := { name := "<init>", desc := "()V", sig := { parameters := [], returnType := none }, accessFlags := 1, code := none }
/-- java/lang/Object -/
def k0 : Class := { plain "java/lang/Object" none with
  accessFlags := 33
  interfaces := #[]
  cf := some (fileOf pool0 8 #[] #[{ accessFlags := 1, nameIndex := 5, descriptorIndex := 6, attributes := #[] }] 33 0 #[] #[])
  fields := #[]
  methods := #[k0m0]
  instanceTypes := #[]
  staticTypes := #[]
  resolved := Array.replicate 124 none
  statics := none }

def pool1 : Array CpInfo := pool [(2, .class_ 4), (1, u "java/lang/Object"), (0, u "<init>"), (0, u "()V"), (0, .integer 65535), (0, .methodref 9 10), (0, .class_ 11), (0, .nameAndType 12 13), (0, u "com/example/utando/utando/archive/UrlCharacters"), (0, u "isUnreserved"), (0, u "(C)Z"), (0, .methodref 15 16), (0, .class_ 17), (0, .nameAndType 18 19), (0, u "com/example/utando/utando/archive/UrlCharactersIsUnreservedPinLaw"), (0, u "reference"), (0, u "(I)Z"), (3, u "law"), (0, u "(II)Z")] 2

def k1m0 : Method := { name := "<init>", desc := "()V", sig := { parameters := [], returnType := none }, accessFlags := 2, code := none }
def k1c1 : Code := { maxStack := 2, maxLocals := 2, code := method_2_code, exceptionTable := #[], attributes := #[] }
def k1m1 : Method := { name := "reference", desc := "(I)Z", sig := { parameters := [.int], returnType := some .boolean }, accessFlags := 10, code := some k1c1 }
def k1c2 : Code := { maxStack := 2, maxLocals := 6, code := code, exceptionTable := #[], attributes := #[] }
def k1m2 : Method := { name := "law", desc := "(II)Z", sig := { parameters := [.int, .int], returnType := some .boolean }, accessFlags := 9, code := some k1c2 }
/-- com/example/utando/utando/archive/UrlCharactersIsUnreservedPinLaw -/
def k1 : Class := { plain "com/example/utando/utando/archive/UrlCharactersIsUnreservedPinLaw" (some 0) with
  accessFlags := 49
  interfaces := #[]
  cf := some (fileOf pool1 15 #[] #[{ accessFlags := 2, nameIndex := 5, descriptorIndex := 6, attributes := #[] }, { accessFlags := 10, nameIndex := 18, descriptorIndex := 19, attributes := #[] }, { accessFlags := 9, nameIndex := 23, descriptorIndex := 24, attributes := #[] }] 49 2 #[] #[])
  fields := #[]
  methods := #[k1m0, k1m1, k1m2]
  instanceTypes := #[]
  staticTypes := #[]
  resolved := Array.replicate 27 none
  statics := none }

def pool2 : Array CpInfo := pool [(1, .class_ 2), (0, u "com/example/utando/utando/archive/UrlCharacters"), (1, .class_ 6), (1, u "java/lang/Object"), (0, u "<init>"), (0, u "()V"), (0, .string 10), (0, u "-._~"), (0, .methodref 12 13), (0, .class_ 14), (0, .nameAndType 15 16), (0, u "java/lang/String"), (0, u "indexOf"), (0, u "(I)I"), (10, u "QUERY_PUNCTUATION"), (0, u "Ljava/lang/String;"), (90, u "isUnreserved"), (0, u "(C)Z"), (34, u "SUB_DELIMITERS"), (1, u "PATH_PUNCTUATION"), (0, u "HEX_DIGITS")] 28

def k2m0 : Method := { name := "<init>", desc := "()V", sig := { parameters := [], returnType := none }, accessFlags := 2, code := none }
def k2c1 : Code := { maxStack := 2, maxLocals := 1, code := prog_8_method_2_code, exceptionTable := #[], attributes := #[] }
def k2m1 : Method := { name := "isUnreserved", desc := "(C)Z", sig := { parameters := [.char], returnType := some .boolean }, accessFlags := 9, code := some k2c1 }
/-- com/example/utando/utando/archive/UrlCharacters -/
def k2 : Class := { plain "com/example/utando/utando/archive/UrlCharacters" (some 0) with
  accessFlags := 49
  interfaces := #[]
  cf := some (fileOf pool2 1 #[] #[{ accessFlags := 2, nameIndex := 7, descriptorIndex := 8, attributes := #[] }, { accessFlags := 9, nameIndex := 119, descriptorIndex := 120, attributes := #[] }] 49 4 #[] #[{ accessFlags := 26, nameIndex := 155, descriptorIndex := 28, attributes := #[] }, { accessFlags := 26, nameIndex := 157, descriptorIndex := 28, attributes := #[] }, { accessFlags := 26, nameIndex := 27, descriptorIndex := 28, attributes := #[] }, { accessFlags := 26, nameIndex := 158, descriptorIndex := 28, attributes := #[] }])
  fields := #[{ name := "SUB_DELIMITERS", type := (.object "java/lang/String"), accessFlags := 26, slot := 0, constantValue := 0 }, { name := "PATH_PUNCTUATION", type := (.object "java/lang/String"), accessFlags := 26, slot := 1, constantValue := 0 }, { name := "QUERY_PUNCTUATION", type := (.object "java/lang/String"), accessFlags := 26, slot := 2, constantValue := 0 }, { name := "HEX_DIGITS", type := (.object "java/lang/String"), accessFlags := 26, slot := 3, constantValue := 0 }]
  methods := #[k2m0, k2m1]
  instanceTypes := #[]
  staticTypes := #[(.object "java/lang/String"), (.object "java/lang/String"), (.object "java/lang/String"), (.object "java/lang/String")]
  resolved := Array.replicate 187 none
  statics := none }

def pool3 : Array CpInfo := pool [(1, .class_ 2), (0, u "java/io/Serializable"), (0, .class_ 4), (0, u "java/lang/Object")] 2

/-- java/io/Serializable -/
def k3 : Class := { plain "java/io/Serializable" (some 0) with
  accessFlags := 1537
  interfaces := #[]
  cf := some (fileOf pool3 1 #[] #[] 1537 3 #[] #[])
  fields := #[]
  methods := #[]
  instanceTypes := #[]
  staticTypes := #[]
  resolved := Array.replicate 7 none
  statics := none }

def pool4 : Array CpInfo := pool [(1, .class_ 2), (0, u "java/lang/Comparable"), (0, .class_ 4), (0, u "java/lang/Object")] 7

/-- java/lang/Comparable -/
def k4 : Class := { plain "java/lang/Comparable" (some 0) with
  accessFlags := 1537
  interfaces := #[]
  cf := some (fileOf pool4 1 #[] #[] 1537 3 #[] #[])
  fields := #[]
  methods := #[]
  instanceTypes := #[]
  staticTypes := #[]
  resolved := Array.replicate 12 none
  statics := none }

def pool5 : Array CpInfo := pool [(2, .class_ 4), (1, u "java/lang/CharSequence"), (42, .class_ 48), (0, u "java/lang/CharSequence$1CodePointIterator"), (10, .class_ 60), (0, u "java/lang/CharSequence$1CharIterator"), (5, .class_ 67), (0, u "java/lang/Object")] 63

/-- java/lang/CharSequence -/
def k5 : Class := { plain "java/lang/CharSequence" (some 0) with
  accessFlags := 1537
  interfaces := #[]
  cf := some (fileOf pool5 2 #[.nestMembers #[47, 59]] #[] 1537 66 #[] #[])
  fields := #[]
  methods := #[]
  instanceTypes := #[]
  staticTypes := #[]
  resolved := Array.replicate 131 none
  statics := none }

def pool6 : Array CpInfo := pool [(1, .class_ 2), (0, u "java/lang/constant/Constable"), (0, .class_ 4), (0, u "java/lang/Object")] 6

/-- java/lang/constant/Constable -/
def k6 : Class := { plain "java/lang/constant/Constable" (some 0) with
  accessFlags := 1537
  interfaces := #[]
  cf := some (fileOf pool6 1 #[] #[] 1537 3 #[] #[])
  fields := #[]
  methods := #[]
  instanceTypes := #[]
  staticTypes := #[]
  resolved := Array.replicate 11 none
  statics := none }

def pool7 : Array CpInfo := pool [(1, .class_ 2), (0, u "java/lang/constant/ConstantDesc"), (0, .class_ 4), (0, u "java/lang/Object")] 32

/-- java/lang/constant/ConstantDesc -/
def k7 : Class := { plain "java/lang/constant/ConstantDesc" (some 0) with
  accessFlags := 1537
  interfaces := #[]
  cf := some (fileOf pool7 1 #[] #[] 1537 3 #[] #[])
  fields := #[]
  methods := #[]
  instanceTypes := #[]
  staticTypes := #[]
  resolved := Array.replicate 37 none
  statics := none }

def pool8 : Array CpInfo := pool [(2, .class_ 4), (1, u "java/lang/Object"), (0, u "<init>"), (0, u "()V"), (2, .fieldref 10 11), (0, .class_ 12), (0, .nameAndType 13 14), (0, u "java/lang/String"), (0, u "value"), (0, u "[B"), (0, .fieldref 10 16), (0, .nameAndType 17 18), (0, u "coder"), (0, u "B"), (2, u "hash"), (0, u "I"), (2, u "hashIsZero"), (0, u "Z"), (11, .fieldref 10 39), (0, .nameAndType 40 26), (0, u "COMPACT_STRINGS"), (66, .class_ 109), (1, u "java/lang/StringLatin1"), (32, u "()Z"), (191, u "()I"), (0, .methodref 10 336), (0, .nameAndType 17 337), (0, u "()B"), (154, .methodref 10 493), (0, .nameAndType 494 142), (0, u "isLatin1"), (10, .methodref 10 506), (0, .nameAndType 507 334), (0, u "length"), (67, .class_ 576), (0, u "java/lang/CharSequence"), (22, u "CASE_INSENSITIVE_ORDER"), (0, u "Ljava/util/Comparator;"), (32, .methodref 10 634), (0, .nameAndType 635 636), (0, u "indexOf"), (0, u "(II)I"), (0, .methodref 107 638), (0, .nameAndType 635 639), (0, u "([BIII)I"), (125, u "(I)I"), (335, u "serialPersistentFields"), (0, u "[Ljava/io/ObjectStreamField;"), (0, .class_ 1104), (0, u "java/lang/String$CaseInsensitiveComparator"), (1, .class_ 1107), (0, u "java/io/Serializable"), (0, .class_ 1109), (0, u "java/lang/Comparable"), (0, .class_ 1111), (0, u "java/lang/constant/Constable"), (0, .class_ 1113), (0, u "java/lang/constant/ConstantDesc"), (2, u "serialVersionUID"), (0, u "J"), (3, u "REPL"), (0, u "C"), (2, u "LATIN1"), (1, u "UTF16")] 323

def k8m0 : Method := { name := "<init>", desc := "()V", sig := { parameters := [], returnType := none }, accessFlags := 1, code := none }
def k8c1 : Code := { maxStack := 2, maxLocals := 1, code := jdk_42_method_54_code, exceptionTable := #[], attributes := #[] }
def k8m1 : Method := { name := "length", desc := "()I", sig := { parameters := [], returnType := some .int }, accessFlags := 1, code := some k8c1 }
def k8c2 : Code := { maxStack := 3, maxLocals := 2, code := jdk_42_method_79_code, exceptionTable := #[], attributes := #[] }
def k8m2 : Method := { name := "indexOf", desc := "(I)I", sig := { parameters := [.int], returnType := some .int }, accessFlags := 1, code := some k8c2 }
def k8c3 : Code := { maxStack := 4, maxLocals := 3, code := jdk_42_method_80_code, exceptionTable := #[], attributes := #[] }
def k8m3 : Method := { name := "indexOf", desc := "(II)I", sig := { parameters := [.int, .int], returnType := some .int }, accessFlags := 1, code := some k8c3 }
def k8c4 : Code := { maxStack := 1, maxLocals := 1, code := jdk_42_method_152_code, exceptionTable := #[], attributes := #[] }
def k8m4 : Method := { name := "coder", desc := "()B", sig := { parameters := [], returnType := some .byte }, accessFlags := 0, code := some k8c4 }
def k8c5 : Code := { maxStack := 1, maxLocals := 1, code := jdk_42_method_154_code, exceptionTable := #[], attributes := #[] }
def k8m5 : Method := { name := "isLatin1", desc := "()Z", sig := { parameters := [], returnType := some .boolean }, accessFlags := 0, code := some k8c5 }
/-- java/lang/String -/
def k8 : Class := { plain "java/lang/String" (some 0) with
  accessFlags := 49
  interfaces := #[3, 4, 5, 6, 7]
  cf := some (fileOf pool8 10 #[.nestMembers #[1103]] #[{ accessFlags := 1, nameIndex := 5, descriptorIndex := 6, attributes := #[] }, { accessFlags := 1, nameIndex := 507, descriptorIndex := 334, attributes := #[] }, { accessFlags := 1, nameIndex := 635, descriptorIndex := 765, attributes := #[] }, { accessFlags := 1, nameIndex := 635, descriptorIndex := 636, attributes := #[] }, { accessFlags := 0, nameIndex := 17, descriptorIndex := 337, attributes := #[] }, { accessFlags := 0, nameIndex := 494, descriptorIndex := 142, attributes := #[] }] 49 2 #[1106, 1108, 575, 1110, 1112] #[{ accessFlags := 18, nameIndex := 13, descriptorIndex := 14, attributes := #[] }, { accessFlags := 18, nameIndex := 17, descriptorIndex := 18, attributes := #[] }, { accessFlags := 2, nameIndex := 21, descriptorIndex := 22, attributes := #[] }, { accessFlags := 2, nameIndex := 25, descriptorIndex := 26, attributes := #[] }, { accessFlags := 26, nameIndex := 1116, descriptorIndex := 1117, attributes := #[] }, { accessFlags := 24, nameIndex := 40, descriptorIndex := 26, attributes := #[] }, { accessFlags := 26, nameIndex := 1101, descriptorIndex := 1102, attributes := #[] }, { accessFlags := 26, nameIndex := 1121, descriptorIndex := 1122, attributes := #[] }, { accessFlags := 25, nameIndex := 599, descriptorIndex := 600, attributes := #[] }, { accessFlags := 24, nameIndex := 1125, descriptorIndex := 18, attributes := #[] }, { accessFlags := 24, nameIndex := 1127, descriptorIndex := 18, attributes := #[] }])
  fields := #[{ name := "value", type := (.array .byte), accessFlags := 18, slot := 0, constantValue := 0 }, { name := "coder", type := .byte, accessFlags := 18, slot := 1, constantValue := 0 }, { name := "hash", type := .int, accessFlags := 2, slot := 2, constantValue := 0 }, { name := "hashIsZero", type := .boolean, accessFlags := 2, slot := 3, constantValue := 0 }, { name := "serialVersionUID", type := .long, accessFlags := 26, slot := 0, constantValue := 0 }, { name := "COMPACT_STRINGS", type := .boolean, accessFlags := 24, slot := 1, constantValue := 0 }, { name := "serialPersistentFields", type := (.array (.object "java/io/ObjectStreamField")), accessFlags := 26, slot := 2, constantValue := 0 }, { name := "REPL", type := .char, accessFlags := 26, slot := 3, constantValue := 0 }, { name := "CASE_INSENSITIVE_ORDER", type := (.object "java/util/Comparator"), accessFlags := 25, slot := 4, constantValue := 0 }, { name := "LATIN1", type := .byte, accessFlags := 24, slot := 5, constantValue := 0 }, { name := "UTF16", type := .byte, accessFlags := 24, slot := 6, constantValue := 0 }]
  methods := #[k8m0, k8m1, k8m2, k8m3, k8m4, k8m5]
  instanceTypes := #[(.array .byte), .byte, .int, .boolean]
  staticTypes := #[.long, .boolean, (.array (.object "java/io/ObjectStreamField")), .char, (.object "java/util/Comparator"), .byte, .byte]
  resolved := Array.replicate 1451 none
  statics := some 0 }

def pool9 : Array CpInfo := pool [(4, .class_ 6), (1, u "java/lang/Object"), (0, u "<init>"), (0, u "()V"), (5, .class_ 16), (1, u "java/lang/StringLatin1"), (21, .methodref 39 40), (0, .class_ 41), (0, .nameAndType 42 43), (0, u "java/lang/Math"), (0, u "min"), (0, u "(II)I"), (44, .methodref 14 89), (0, .nameAndType 90 91), (0, u "canEncode"), (0, u "(I)Z"), (0, .methodref 39 93), (0, .nameAndType 94 43), (0, u "max"), (0, .methodref 14 96), (0, .nameAndType 97 98), (0, u "indexOfChar"), (0, u "([BIII)I"), (2, u "indexOf"), (19, u "$assertionsDisabled"), (0, u "Z"), (98, .class_ 223), (1, u "java/lang/StringLatin1$LinesSpliterator"), (166, .class_ 391), (0, u "java/lang/StringLatin1$CharsSpliterator")] 3

def k9m0 : Method := { name := "<init>", desc := "()V", sig := { parameters := [], returnType := none }, accessFlags := 0, code := none }
def k9c1 : Code := { maxStack := 2, maxLocals := 1, code := jdk_43_method_4_code, exceptionTable := #[], attributes := #[] }
def k9m1 : Method := { name := "canEncode", desc := "(I)Z", sig := { parameters := [.int], returnType := some .boolean }, accessFlags := 9, code := some k9c1 }
def k9c2 : Code := { maxStack := 4, maxLocals := 4, code := jdk_43_method_22_code, exceptionTable := #[], attributes := #[] }
def k9m2 : Method := { name := "indexOf", desc := "([BIII)I", sig := { parameters := [(.array .byte), .int, .int, .int], returnType := some .int }, accessFlags := 9, code := some k9c2 }
def k9c3 : Code := { maxStack := 2, maxLocals := 6, code := jdk_43_method_23_code, exceptionTable := #[], attributes := #[] }
def k9m3 : Method := { name := "indexOfChar", desc := "([BIII)I", sig := { parameters := [(.array .byte), .int, .int, .int], returnType := some .int }, accessFlags := 10, code := some k9c3 }
/-- java/lang/StringLatin1 -/
def k9 : Class := { plain "java/lang/StringLatin1" (some 0) with
  accessFlags := 48
  interfaces := #[]
  cf := some (fileOf pool9 14 #[.nestMembers #[390, 221]] #[{ accessFlags := 0, nameIndex := 7, descriptorIndex := 8, attributes := #[] }, { accessFlags := 9, nameIndex := 90, descriptorIndex := 91, attributes := #[] }, { accessFlags := 9, nameIndex := 101, descriptorIndex := 98, attributes := #[] }, { accessFlags := 10, nameIndex := 97, descriptorIndex := 98, attributes := #[] }] 48 4 #[] #[{ accessFlags := 4120, nameIndex := 121, descriptorIndex := 122, attributes := #[] }])
  fields := #[{ name := "$assertionsDisabled", type := .boolean, accessFlags := 4120, slot := 0, constantValue := 0 }]
  methods := #[k9m0, k9m1, k9m2, k9m3]
  instanceTypes := #[]
  staticTypes := #[.boolean]
  resolved := Array.replicate 395 none
  statics := none }

def pool10 : Array CpInfo := pool [(1, .class_ 2), (0, u "java/lang/Math"), (1, .class_ 6), (1, u "java/lang/Object"), (0, u "<init>"), (0, u "()V"), (89, .class_ 100), (1, u "java/lang/Math$RandomNumberGeneratorHolder"), (71, u "negativeZeroFloatBits"), (0, u "J"), (2, u "negativeZeroDoubleBits"), (21, u "max"), (2, u "min"), (43, u "$assertionsDisabled"), (0, u "Z"), (88, u "(II)I"), (2, u "twoToTheDoubleScaleDown"), (0, u "D"), (4, u "twoToTheDoubleScaleUp"), (9, u "E"), (3, u "PI"), (2, u "TAU"), (2, u "DEGREES_TO_RADIANS"), (0, u "RADIANS_TO_DEGREES")] 94

def k10m0 : Method := { name := "<init>", desc := "()V", sig := { parameters := [], returnType := none }, accessFlags := 2, code := none }
def k10c1 : Code := { maxStack := 2, maxLocals := 2, code := jdk_29_method_65_code, exceptionTable := #[], attributes := #[] }
def k10m1 : Method := { name := "max", desc := "(II)I", sig := { parameters := [.int, .int], returnType := some .int }, accessFlags := 9, code := some k10c1 }
def k10c2 : Code := { maxStack := 2, maxLocals := 2, code := jdk_29_method_69_code, exceptionTable := #[], attributes := #[] }
def k10m2 : Method := { name := "min", desc := "(II)I", sig := { parameters := [.int, .int], returnType := some .int }, accessFlags := 9, code := some k10c2 }
/-- java/lang/Math -/
def k10 : Class := { plain "java/lang/Math" (some 0) with
  accessFlags := 49
  interfaces := #[]
  cf := some (fileOf pool10 1 #[.nestMembers #[98]] #[{ accessFlags := 2, nameIndex := 7, descriptorIndex := 8, attributes := #[] }, { accessFlags := 9, nameIndex := 198, descriptorIndex := 335, attributes := #[] }, { accessFlags := 9, nameIndex := 201, descriptorIndex := 335, attributes := #[] }] 49 4 #[] #[{ accessFlags := 25, nameIndex := 354, descriptorIndex := 339, attributes := #[] }, { accessFlags := 25, nameIndex := 358, descriptorIndex := 339, attributes := #[] }, { accessFlags := 25, nameIndex := 361, descriptorIndex := 339, attributes := #[] }, { accessFlags := 26, nameIndex := 364, descriptorIndex := 339, attributes := #[] }, { accessFlags := 26, nameIndex := 365, descriptorIndex := 339, attributes := #[] }, { accessFlags := 26, nameIndex := 172, descriptorIndex := 173, attributes := #[] }, { accessFlags := 26, nameIndex := 176, descriptorIndex := 173, attributes := #[] }, { accessFlags := 8, nameIndex := 344, descriptorIndex := 339, attributes := #[] }, { accessFlags := 8, nameIndex := 338, descriptorIndex := 339, attributes := #[] }, { accessFlags := 4120, nameIndex := 245, descriptorIndex := 246, attributes := #[] }])
  fields := #[{ name := "E", type := .double, accessFlags := 25, slot := 0, constantValue := 0 }, { name := "PI", type := .double, accessFlags := 25, slot := 1, constantValue := 0 }, { name := "TAU", type := .double, accessFlags := 25, slot := 2, constantValue := 0 }, { name := "DEGREES_TO_RADIANS", type := .double, accessFlags := 26, slot := 3, constantValue := 0 }, { name := "RADIANS_TO_DEGREES", type := .double, accessFlags := 26, slot := 4, constantValue := 0 }, { name := "negativeZeroFloatBits", type := .long, accessFlags := 26, slot := 5, constantValue := 0 }, { name := "negativeZeroDoubleBits", type := .long, accessFlags := 26, slot := 6, constantValue := 0 }, { name := "twoToTheDoubleScaleUp", type := .double, accessFlags := 8, slot := 7, constantValue := 0 }, { name := "twoToTheDoubleScaleDown", type := .double, accessFlags := 8, slot := 8, constantValue := 0 }, { name := "$assertionsDisabled", type := .boolean, accessFlags := 4120, slot := 9, constantValue := 0 }]
  methods := #[k10m0, k10m1, k10m2]
  instanceTypes := #[]
  staticTypes := #[.double, .double, .double, .double, .double, .long, .long, .double, .double, .boolean]
  resolved := Array.replicate 460 none
  statics := none }

def pool11 : Array CpInfo := pool [(2, .class_ 4), (1, u "java/lang/Object"), (0, u "<init>"), (0, u "()V"), (17, .class_ 26), (1, u "jdk/internal/util/Preconditions"), (28, .class_ 56), (0, u "jdk/internal/util/Preconditions$4"), (57, .class_ 115), (0, u "jdk/internal/util/Preconditions$1"), (7, u "SIOOBE_FORMATTER"), (0, u "Ljava/util/function/BiFunction;"), (0, .class_ 126), (0, u "jdk/internal/util/Preconditions$2"), (3, u "AIOOBE_FORMATTER"), (0, .class_ 132), (0, u "jdk/internal/util/Preconditions$3"), (3, u "IOOBE_FORMATTER")] 57

def k11m0 : Method := { name := "<init>", desc := "()V", sig := { parameters := [], returnType := none }, accessFlags := 1, code := none }
/-- jdk/internal/util/Preconditions -/
def k11 : Class := { plain "jdk/internal/util/Preconditions" (some 0) with
  accessFlags := 33
  interfaces := #[]
  cf := some (fileOf pool11 24 #[.nestMembers #[55, 131, 125, 114]] #[{ accessFlags := 1, nameIndex := 5, descriptorIndex := 6, attributes := #[] }] 33 2 #[] #[{ accessFlags := 25, nameIndex := 123, descriptorIndex := 124, attributes := #[] }, { accessFlags := 25, nameIndex := 130, descriptorIndex := 124, attributes := #[] }, { accessFlags := 25, nameIndex := 136, descriptorIndex := 124, attributes := #[] }])
  fields := #[{ name := "SIOOBE_FORMATTER", type := (.object "java/util/function/BiFunction"), accessFlags := 25, slot := 0, constantValue := 0 }, { name := "AIOOBE_FORMATTER", type := (.object "java/util/function/BiFunction"), accessFlags := 25, slot := 1, constantValue := 0 }, { name := "IOOBE_FORMATTER", type := (.object "java/util/function/BiFunction"), accessFlags := 25, slot := 2, constantValue := 0 }]
  methods := #[k11m0]
  instanceTypes := #[]
  staticTypes := #[(.object "java/util/function/BiFunction"), (.object "java/util/function/BiFunction"), (.object "java/util/function/BiFunction")]
  resolved := Array.replicate 194 none
  statics := some 1 }

def pool12 : Array CpInfo := pool [(9, u "<init>"), (6, .class_ 18), (1, u "java/lang/Object"), (0, u "()V"), (1, .class_ 23), (1, u "jdk/internal/util/ArraysSupport"), (0, u "LOG2_ARRAY_LONG_INDEX_SCALE"), (0, u "I"), (2, u "U"), (0, u "Ljdk/internal/misc/Unsafe;"), (8, u "BIG_ENDIAN"), (0, u "Z"), (8, u "LOG2_BYTE_BIT_SIZE"), (4, u "LOG2_ARRAY_INT_INDEX_SCALE"), (54, u "JLA"), (0, u "Ljdk/internal/access/JavaLangAccess;"), (11, u "LOG2_ARRAY_BOOLEAN_INDEX_SCALE"), (9, u "LOG2_ARRAY_BYTE_INDEX_SCALE"), (5, u "LOG2_ARRAY_CHAR_INDEX_SCALE"), (5, u "LOG2_ARRAY_SHORT_INDEX_SCALE"), (18, u "LOG2_ARRAY_FLOAT_INDEX_SCALE"), (24, u "LOG2_ARRAY_DOUBLE_INDEX_SCALE"), (89, u "T_BOOLEAN"), (2, u "T_CHAR"), (1, u "T_FLOAT"), (1, u "T_DOUBLE"), (1, u "T_BYTE"), (1, u "T_SHORT"), (1, u "T_INT"), (1, u "T_LONG"), (1, u "SOFT_MAX_ARRAY_LENGTH")] 83

def k12m0 : Method := { name := "<init>", desc := "()V", sig := { parameters := [], returnType := none }, accessFlags := 2, code := none }
/-- jdk/internal/util/ArraysSupport -/
def k12 : Class := { plain "jdk/internal/util/ArraysSupport" (some 0) with
  accessFlags := 33
  interfaces := #[]
  cf := some (fileOf pool12 21 #[] #[{ accessFlags := 2, nameIndex := 9, descriptorIndex := 19, attributes := #[] }] 33 16 #[] #[{ accessFlags := 24, nameIndex := 28, descriptorIndex := 29, attributes := #[] }, { accessFlags := 26, nameIndex := 38, descriptorIndex := 39, attributes := #[] }, { accessFlags := 25, nameIndex := 121, descriptorIndex := 25, attributes := #[] }, { accessFlags := 25, nameIndex := 131, descriptorIndex := 25, attributes := #[] }, { accessFlags := 25, nameIndex := 137, descriptorIndex := 25, attributes := #[] }, { accessFlags := 25, nameIndex := 143, descriptorIndex := 25, attributes := #[] }, { accessFlags := 25, nameIndex := 53, descriptorIndex := 25, attributes := #[] }, { accessFlags := 25, nameIndex := 24, descriptorIndex := 25, attributes := #[] }, { accessFlags := 25, nameIndex := 162, descriptorIndex := 25, attributes := #[] }, { accessFlags := 25, nameIndex := 187, descriptorIndex := 25, attributes := #[] }, { accessFlags := 26, nameIndex := 48, descriptorIndex := 25, attributes := #[] }, { accessFlags := 25, nameIndex := 277, descriptorIndex := 25, attributes := #[] }, { accessFlags := 25, nameIndex := 280, descriptorIndex := 25, attributes := #[] }, { accessFlags := 25, nameIndex := 282, descriptorIndex := 25, attributes := #[] }, { accessFlags := 25, nameIndex := 284, descriptorIndex := 25, attributes := #[] }, { accessFlags := 25, nameIndex := 286, descriptorIndex := 25, attributes := #[] }, { accessFlags := 25, nameIndex := 288, descriptorIndex := 25, attributes := #[] }, { accessFlags := 25, nameIndex := 290, descriptorIndex := 25, attributes := #[] }, { accessFlags := 25, nameIndex := 292, descriptorIndex := 25, attributes := #[] }, { accessFlags := 26, nameIndex := 108, descriptorIndex := 109, attributes := #[] }, { accessFlags := 25, nameIndex := 294, descriptorIndex := 25, attributes := #[] }])
  fields := #[{ name := "U", type := (.object "jdk/internal/misc/Unsafe"), accessFlags := 24, slot := 0, constantValue := 0 }, { name := "BIG_ENDIAN", type := .boolean, accessFlags := 26, slot := 1, constantValue := 0 }, { name := "LOG2_ARRAY_BOOLEAN_INDEX_SCALE", type := .int, accessFlags := 25, slot := 2, constantValue := 0 }, { name := "LOG2_ARRAY_BYTE_INDEX_SCALE", type := .int, accessFlags := 25, slot := 3, constantValue := 0 }, { name := "LOG2_ARRAY_CHAR_INDEX_SCALE", type := .int, accessFlags := 25, slot := 4, constantValue := 0 }, { name := "LOG2_ARRAY_SHORT_INDEX_SCALE", type := .int, accessFlags := 25, slot := 5, constantValue := 0 }, { name := "LOG2_ARRAY_INT_INDEX_SCALE", type := .int, accessFlags := 25, slot := 6, constantValue := 0 }, { name := "LOG2_ARRAY_LONG_INDEX_SCALE", type := .int, accessFlags := 25, slot := 7, constantValue := 0 }, { name := "LOG2_ARRAY_FLOAT_INDEX_SCALE", type := .int, accessFlags := 25, slot := 8, constantValue := 0 }, { name := "LOG2_ARRAY_DOUBLE_INDEX_SCALE", type := .int, accessFlags := 25, slot := 9, constantValue := 0 }, { name := "LOG2_BYTE_BIT_SIZE", type := .int, accessFlags := 26, slot := 10, constantValue := 0 }, { name := "T_BOOLEAN", type := .int, accessFlags := 25, slot := 11, constantValue := 0 }, { name := "T_CHAR", type := .int, accessFlags := 25, slot := 12, constantValue := 0 }, { name := "T_FLOAT", type := .int, accessFlags := 25, slot := 13, constantValue := 0 }, { name := "T_DOUBLE", type := .int, accessFlags := 25, slot := 14, constantValue := 0 }, { name := "T_BYTE", type := .int, accessFlags := 25, slot := 15, constantValue := 0 }, { name := "T_SHORT", type := .int, accessFlags := 25, slot := 16, constantValue := 0 }, { name := "T_INT", type := .int, accessFlags := 25, slot := 17, constantValue := 0 }, { name := "T_LONG", type := .int, accessFlags := 25, slot := 18, constantValue := 0 }, { name := "JLA", type := (.object "jdk/internal/access/JavaLangAccess"), accessFlags := 26, slot := 19, constantValue := 0 }, { name := "SOFT_MAX_ARRAY_LENGTH", type := .int, accessFlags := 25, slot := 20, constantValue := 0 }]
  methods := #[k12m0]
  instanceTypes := #[]
  staticTypes := #[(.object "jdk/internal/misc/Unsafe"), .boolean, .int, .int, .int, .int, .int, .int, .int, .int, .int, .int, .int, .int, .int, .int, .int, .int, .int, (.object "jdk/internal/access/JavaLangAccess"), .int]
  resolved := Array.replicate 378 none
  statics := none }

def pool13 : Array CpInfo := pool [(1, u "java/lang/Cloneable"), (0, .class_ 1), (0, u "java/lang/Object"), (0, .class_ 3)] 3

/-- java/lang/Cloneable -/
def k13 : Class := { plain "java/lang/Cloneable" (some 0) with
  accessFlags := 1537
  interfaces := #[]
  cf := some (fileOf pool13 2 #[] #[] 1537 4 #[] #[])
  fields := #[]
  methods := #[]
  instanceTypes := #[]
  staticTypes := #[]
  resolved := Array.replicate 8 none
  statics := none }

/-- the primitive byte -/
def k14 : Class := { plain "byte" none with kind := .primitive 'B', accessFlags := 0x411 }
/-- [B -/
def k15 : Class := { plain "[B" (some 0) with kind := .array 14 .byte, interfaces := #[13, 3], accessFlags := 1041 }

/-- the primitive int -/
def k16 : Class := { plain "int" none with kind := .primitive 'I', accessFlags := 0x411 }
/-- [I -/
def k17 : Class := { plain "[I" (some 0) with kind := .array 16 .int, interfaces := #[13, 3], accessFlags := 1041 }

def heap : Heap := #[{ cls := 8, slots := #[.long 0, .int 1, .null, .int 0, .null, .int 0, .int 0], vm := .statics 8 },
  { cls := 11, slots := #[.null, .null, .null], vm := .statics 11 }]
def classes : Array Class := #[k0, k1, k2, k3, k4, k5, k6, k7, k8, k9, k10, k11, k12, k13, k14, k15, k16, k17]
def interned : List (Array UInt16 × Addr) := []
def slotsUsed : Nat := 10
def theMethod : MethodId := ⟨1, 2⟩
def args0 : Array Value := #[.int 5, .int 6]
def aboutOver (below : List Frame) : State where
  vm := { classes := classes, interned := interned.toArray }
  heap := heap
  slotsUsed := slotsUsed
  threads := #[{ frames := .invoking theMethod args0 :: below }]
def below0 : List Frame := [.native { method := ⟨0, 0⟩, args := #[] }]
def about1 : State := aboutOver below0
def p0 : Program := .bare "" "" ""
def e0 : Env := launch0.env 0 0 0
theorem w_frames : about1.frames = Frame.invoking theMethod args0 :: below0 := rfl
set_option maxRecDepth 65536 in
theorem w_args : argsFit about1.vm theMethod args0 = true := by decide +kernel
set_option maxRecDepth 65536 in
theorem w_heap : heapFits about1 = true := by decide +kernel
set_option maxRecDepth 65536 in
theorem w_runnable : about1.curStatus? = some .runnable := by decide +kernel
set_option maxRecDepth 65536 in
theorem w_alone : about1.alone = true := by decide +kernel
set_option maxRecDepth 65536 in
theorem w_named : about1.methodNamed? x = some theMethod := by decide +kernel
set_option maxRecDepth 65536 in
theorem w_hears : about1.hears theMethod below0 = true := by decide +kernel
set_option maxRecDepth 65536 in
theorem w_ripe : about1.ripe theMethod args0 below0 = true := by decide +kernel
theorem w_running : about1.status = .running := rfl
set_option maxRecDepth 65536 in
theorem w_room : about1.hasRoom e0.platform room_1 = true :=
  launch0.hasRoom_least _ room_1 (by decide +kernel) (by decide +kernel) (by decide +kernel) (by decide +kernel) (by decide +kernel) (by decide +kernel)
theorem allAtoms_all (ts : List Jvm.Cond) (a : Array Jvm.Value) (st : Jvm.State) : (allAtoms ts).before a st = ts.all (fun c => c.before a st) := by
  induction ts with
  | nil => rfl
  | cons c t ih =>
    show (Jvm.Cond.and c (allAtoms t)).before a st = _
    rw [Jvm.Cond.before_and, ih, List.all_cons]
def words1 : List Jvm.Cond := Jvm.Cond.code x code maxLocals ret :: tables_1
/-- a 'code' word, met by the world's own term for the bytes: nothing is compared byte by byte -/
theorem code_word {y : MethodName} {bytes : ByteArray} {mx : Nat} {rt : Option FieldType} {a : Array Value} {s : State} {m : MethodId} {meth : Method} {c : Code} (h1 : s.methodNamed? y = some m) (h2 : s.vm.method? m = some meth) (h3 : meth.code = some c) (h4 : c.code = bytes)
    (h5 : (c.maxLocals == mx && c.exceptionTable.isEmpty && decide (c.maxStack ≤ mostOperands) && decide (meth.sig.returnType = rt) && !meth.locks && decide (parseMethodDescriptor y.desc = some meth.sig)) = true) : (Jvm.Cond.code y bytes mx rt).before a s = true := by
  simp only [Bool.and_eq_true, beq_iff_eq, Bool.not_eq_true', decide_eq_true_eq] at h5
  obtain ⟨⟨⟨⟨⟨g1, g2⟩, g3⟩, g4⟩, g5⟩, g6⟩ := h5
  simp [Cond.before, Cond.holds, Cond.value, h1, h2, h3, h4, g1, g2, g3, g4, g5, g6]
def isCode : Jvm.Cond → Bool
  | .code _ _ _ _ => true
  | _ => false
theorem all_split {L : List Jvm.Cond} {P : Jvm.Cond → Bool} (h1 : L.all (fun c => isCode c || P c) = true) (h2 : ∀ c ∈ L.filter isCode, P c = true) : L.all P = true := by
  refine List.all_eq_true.mpr fun c hc => ?_
  have h := List.all_eq_true.mp h1 c hc
  rcases Bool.eq_false_or_eq_true (isCode c) with hi | hi
  · exact h2 c (List.mem_filter.mpr ⟨hc, hi⟩)
  · simpa [hi] using h
set_option maxRecDepth 65536 in
theorem w_c0 : (Jvm.Cond.code x code maxLocals ret).before args0 about1 = true := code_word (m := ⟨1, 2⟩) (meth := k1m2) (c := k1c2) (by decide +kernel) rfl rfl rfl (by decide +kernel)
set_option maxRecDepth 65536 in
theorem w_c1 : (Jvm.Cond.code ({ cls := "com/example/utando/utando/archive/UrlCharacters", name := "isUnreserved", desc := "(C)Z" } : Jvm.MethodName) prog_8_method_2_code (1 : Nat) (Option.some Jvm.ClassFile.FieldType.boolean)).before args0 about1 = true := code_word (m := ⟨2, 1⟩) (meth := k2m1) (c := k2c1) (by decide +kernel) rfl rfl rfl (by decide +kernel)
set_option maxRecDepth 65536 in
theorem w_c2 : (Jvm.Cond.code ({ cls := "java/lang/String", name := "indexOf", desc := "(I)I" } : Jvm.MethodName) jdk_42_method_79_code (2 : Nat) (Option.some Jvm.ClassFile.FieldType.int)).before args0 about1 = true := code_word (m := ⟨8, 2⟩) (meth := k8m2) (c := k8c2) (by decide +kernel) rfl rfl rfl (by decide +kernel)
set_option maxRecDepth 65536 in
theorem w_c3 : (Jvm.Cond.code ({ cls := "java/lang/String", name := "indexOf", desc := "(II)I" } : Jvm.MethodName) jdk_42_method_80_code (3 : Nat) (Option.some Jvm.ClassFile.FieldType.int)).before args0 about1 = true := code_word (m := ⟨8, 3⟩) (meth := k8m3) (c := k8c3) (by decide +kernel) rfl rfl rfl (by decide +kernel)
set_option maxRecDepth 65536 in
theorem w_c4 : (Jvm.Cond.code ({ cls := "java/lang/String", name := "isLatin1", desc := "()Z" } : Jvm.MethodName) jdk_42_method_154_code (1 : Nat) (Option.some Jvm.ClassFile.FieldType.boolean)).before args0 about1 = true := code_word (m := ⟨8, 5⟩) (meth := k8m5) (c := k8c5) (by decide +kernel) rfl rfl rfl (by decide +kernel)
set_option maxRecDepth 65536 in
theorem w_c5 : (Jvm.Cond.code ({ cls := "java/lang/String", name := "length", desc := "()I" } : Jvm.MethodName) jdk_42_method_54_code (1 : Nat) (Option.some Jvm.ClassFile.FieldType.int)).before args0 about1 = true := code_word (m := ⟨8, 1⟩) (meth := k8m1) (c := k8c1) (by decide +kernel) rfl rfl rfl (by decide +kernel)
set_option maxRecDepth 65536 in
theorem w_c6 : (Jvm.Cond.code ({ cls := "java/lang/String", name := "coder", desc := "()B" } : Jvm.MethodName) jdk_42_method_152_code (1 : Nat) (Option.some Jvm.ClassFile.FieldType.byte)).before args0 about1 = true := code_word (m := ⟨8, 4⟩) (meth := k8m4) (c := k8c4) (by decide +kernel) rfl rfl rfl (by decide +kernel)
set_option maxRecDepth 65536 in
theorem w_c7 : (Jvm.Cond.code ({ cls := "java/lang/StringLatin1", name := "indexOf", desc := "([BIII)I" } : Jvm.MethodName) jdk_43_method_22_code (4 : Nat) (Option.some Jvm.ClassFile.FieldType.int)).before args0 about1 = true := code_word (m := ⟨9, 2⟩) (meth := k9m2) (c := k9c2) (by decide +kernel) rfl rfl rfl (by decide +kernel)
set_option maxRecDepth 65536 in
theorem w_c8 : (Jvm.Cond.code ({ cls := "java/lang/StringLatin1", name := "canEncode", desc := "(I)Z" } : Jvm.MethodName) jdk_43_method_4_code (1 : Nat) (Option.some Jvm.ClassFile.FieldType.boolean)).before args0 about1 = true := code_word (m := ⟨9, 1⟩) (meth := k9m1) (c := k9c1) (by decide +kernel) rfl rfl rfl (by decide +kernel)
set_option maxRecDepth 65536 in
theorem w_c9 : (Jvm.Cond.code ({ cls := "java/lang/Math", name := "max", desc := "(II)I" } : Jvm.MethodName) jdk_29_method_65_code (2 : Nat) (Option.some Jvm.ClassFile.FieldType.int)).before args0 about1 = true := code_word (m := ⟨10, 1⟩) (meth := k10m1) (c := k10c1) (by decide +kernel) rfl rfl rfl (by decide +kernel)
set_option maxRecDepth 65536 in
theorem w_c10 : (Jvm.Cond.code ({ cls := "java/lang/Math", name := "min", desc := "(II)I" } : Jvm.MethodName) jdk_29_method_69_code (2 : Nat) (Option.some Jvm.ClassFile.FieldType.int)).before args0 about1 = true := code_word (m := ⟨10, 2⟩) (meth := k10m2) (c := k10c2) (by decide +kernel) rfl rfl rfl (by decide +kernel)
set_option maxRecDepth 65536 in
theorem w_c11 : (Jvm.Cond.code ({ cls := "java/lang/StringLatin1", name := "indexOfChar", desc := "([BIII)I" } : Jvm.MethodName) jdk_43_method_23_code (6 : Nat) (Option.some Jvm.ClassFile.FieldType.int)).before args0 about1 = true := code_word (m := ⟨9, 3⟩) (meth := k9m3) (c := k9c3) (by decide +kernel) rfl rfl rfl (by decide +kernel)
set_option maxRecDepth 65536 in
theorem w_c12 : (Jvm.Cond.code ({ cls := "com/example/utando/utando/archive/UrlCharactersIsUnreservedPinLaw", name := "reference", desc := "(I)Z" } : Jvm.MethodName) method_2_code (2 : Nat) (Option.some Jvm.ClassFile.FieldType.boolean)).before args0 about1 = true := code_word (m := ⟨1, 1⟩) (meth := k1m1) (c := k1c1) (by decide +kernel) rfl rfl rfl (by decide +kernel)
def codes1 : List Jvm.Cond := [Jvm.Cond.code x code maxLocals ret, Jvm.Cond.code ({ cls := "com/example/utando/utando/archive/UrlCharacters", name := "isUnreserved", desc := "(C)Z" } : Jvm.MethodName) prog_8_method_2_code (1 : Nat) (Option.some Jvm.ClassFile.FieldType.boolean), Jvm.Cond.code ({ cls := "java/lang/String", name := "indexOf", desc := "(I)I" } : Jvm.MethodName) jdk_42_method_79_code (2 : Nat) (Option.some Jvm.ClassFile.FieldType.int), Jvm.Cond.code ({ cls := "java/lang/String", name := "indexOf", desc := "(II)I" } : Jvm.MethodName) jdk_42_method_80_code (3 : Nat) (Option.some Jvm.ClassFile.FieldType.int), Jvm.Cond.code ({ cls := "java/lang/String", name := "isLatin1", desc := "()Z" } : Jvm.MethodName) jdk_42_method_154_code (1 : Nat) (Option.some Jvm.ClassFile.FieldType.boolean), Jvm.Cond.code ({ cls := "java/lang/String", name := "length", desc := "()I" } : Jvm.MethodName) jdk_42_method_54_code (1 : Nat) (Option.some Jvm.ClassFile.FieldType.int), Jvm.Cond.code ({ cls := "java/lang/String", name := "coder", desc := "()B" } : Jvm.MethodName) jdk_42_method_152_code (1 : Nat) (Option.some Jvm.ClassFile.FieldType.byte), Jvm.Cond.code ({ cls := "java/lang/StringLatin1", name := "indexOf", desc := "([BIII)I" } : Jvm.MethodName) jdk_43_method_22_code (4 : Nat) (Option.some Jvm.ClassFile.FieldType.int), Jvm.Cond.code ({ cls := "java/lang/StringLatin1", name := "canEncode", desc := "(I)Z" } : Jvm.MethodName) jdk_43_method_4_code (1 : Nat) (Option.some Jvm.ClassFile.FieldType.boolean), Jvm.Cond.code ({ cls := "java/lang/Math", name := "max", desc := "(II)I" } : Jvm.MethodName) jdk_29_method_65_code (2 : Nat) (Option.some Jvm.ClassFile.FieldType.int), Jvm.Cond.code ({ cls := "java/lang/Math", name := "min", desc := "(II)I" } : Jvm.MethodName) jdk_29_method_69_code (2 : Nat) (Option.some Jvm.ClassFile.FieldType.int), Jvm.Cond.code ({ cls := "java/lang/StringLatin1", name := "indexOfChar", desc := "([BIII)I" } : Jvm.MethodName) jdk_43_method_23_code (6 : Nat) (Option.some Jvm.ClassFile.FieldType.int), Jvm.Cond.code ({ cls := "com/example/utando/utando/archive/UrlCharactersIsUnreservedPinLaw", name := "reference", desc := "(I)Z" } : Jvm.MethodName) method_2_code (2 : Nat) (Option.some Jvm.ClassFile.FieldType.boolean)]
set_option maxRecDepth 65536 in
theorem codes_eq : words1.filter isCode = codes1 := rfl
theorem w_codes : ∀ c ∈ words1.filter isCode, c.before args0 about1 = true := by
  rw [codes_eq]
  intro c hc
  simp only [codes1, List.mem_cons, List.not_mem_nil, or_false] at hc
  rcases hc with rfl | rfl | rfl | rfl | rfl | rfl | rfl | rfl | rfl | rfl | rfl | rfl | rfl
  · exact w_c0
  · exact w_c1
  · exact w_c2
  · exact w_c3
  · exact w_c4
  · exact w_c5
  · exact w_c6
  · exact w_c7
  · exact w_c8
  · exact w_c9
  · exact w_c10
  · exact w_c11
  · exact w_c12
set_option maxRecDepth 65536 in
theorem w_t1 : (words1.take 24).all (fun c => isCode c || c.before args0 about1) = true := by decide +kernel
set_option maxRecDepth 65536 in
theorem w_t2 : ((words1.drop 24).take 24).all (fun c => isCode c || c.before args0 about1) = true := by decide +kernel
set_option maxRecDepth 65536 in
theorem w_t3 : ((words1.drop 24).drop 24).all (fun c => isCode c || c.before args0 about1) = true := by decide +kernel
theorem w_tables : (allAtoms (Jvm.Cond.code x code maxLocals ret :: tables_1)).before args0 about1 = true := by
  rw [allAtoms_all]
  show words1.all (fun c => c.before args0 about1) = true
  refine all_split ?_ w_codes
  rw [← List.take_append_drop 24 words1, List.all_append, w_t1, ← List.take_append_drop 24 (words1.drop 24), List.all_append, w_t2, w_t3]
  rfl
set_option maxRecDepth 65536 in
theorem w_rest : rest_1_c.before args0 about1 = true := by decide +kernel
set_option maxRecDepth 65536 in
theorem w_case : (Jvm.Cond.and given_1 narrow_1).before args0 about1 = true := by decide +kernel
set_option maxRecDepth 65536 in
theorem w_consts : constsHeld consts_1 about1 := Jvm.Lit.constsHeldB_iff.mp (by decide +kernel)
theorem w_applies : (headSpec (Jvm.Cond.code x code maxLocals ret :: tables_1) room_1).applies x e0.platform about1 = true :=
  (Spec.applies_iff w_frames).mpr ⟨w_running, w_runnable, w_alone, w_named, w_hears, w_ripe, w_room, w_tables⟩
theorem atStart : AtStart classFile x code maxLocals ret World_1 tables_1 room_1 Calls_1 rest_1 Pre_1 launch0 p0 e0 about1 theMethod args0 below0 :=
  ⟨lists_1, trivial, launch0.admits_env _ _ _, launch0.least_env, fairChoices_fair.cas, fairChoices_fair.clock, w_frames, w_args, w_heap, w_applies, ⟨w_consts, trivial⟩, w_rest, w_case⟩
end start1
theorem witness_1 : WitnessClaimed_1 := ⟨start1.p0, start1.e0, start1.about1, start1.theMethod, start1.args0, start1.below0, start1.atStart⟩
end Jvm.Pilot.@@N@@
