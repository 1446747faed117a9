import JvmDerived
import JvmDerived.Pilot.@@N@@Statement
import JvmDerived.Pilot.@@N@@Code
set_option linter.unusedVariables false
set_option linter.unusedSimpArgs false

namespace Jvm.Own
open Sem ClassFile Op Lib Jvm.Stand Jvm.Free Jvm.LawKit Jvm.RoadKit
/-- the walk stands in a method whose bytes are 'code' -/
def Hr (tb : Tables) (below : List Frame) (T : State) (m : MethodId) (c : Code) (code : ByteArray) : Prop := At T m c below ∧ tb.exec = Jvm.exec ∧ c.code = code
def ushr (x y : Int32) : Int32 := (x.toUInt32 >>> (y &&& 31).toUInt32).toInt32
def ushrL (x : Int64) (y : Int32) : Int64 := (x.toUInt64 >>> (y &&& 0x3f).toInt64.toUInt64).toInt64
def shlL (x : Int64) (y : Int32) : Int64 := x <<< (y &&& 0x3f).toInt64
def shrL (x : Int64) (y : Int32) : Int64 := x >>> (y &&& 0x3f).toInt64
def toC (x : Int32) : Int32 := x.toUInt32.toUInt16.toUInt32.toInt32
def lcmpV (x y : Int64) : Int32 := if x > y then 1 else if x = y then 0 else -1
def dcmpV (x y : UInt64) (o : CmpOp) : Int32 := cmpValue (FP.dcmp x y) o
theorem lrem_mod (x y : Int64) : x - (x / y) * y = x % y := by
  apply Int64.toInt_inj.mp
  have h1 := Int64.le_toInt (x % y)
  have h2 := Int64.toInt_lt (x % y)
  rw [Int64.toInt_sub, Int64.toInt_mul, Int64.toInt_div, Int.bmod_mul_bmod, Int.sub_bmod_bmod, Int.mul_comm (x.toInt.tdiv y.toInt), ← Int.tmod_def, ← Int64.toInt_mod]
  exact Int.bmod_eq_of_le_mul_two (by omega) (by omega)
section Steps
variable {tb : Tables} [Ours tb] {e : Env} {below : List Frame} {T t : State} {m : MethodId} {c : Code} {code : ByteArray} {pc : Nat} {ls : Array Slot} {st : List Value}
theorem w_iload (H : Hr tb below T m c code) {k : Nat} {v : Int32} (hd : decode code pc = .ok (.iload k, 2)) (pc' : Nat) (hp : pc + 2 = pc') (hl : ls[k]? = some (.val (.int v))) (K : Steps tb e below (T.setTop (mkF m pc' ls (.int v :: st))) t) : Steps tb e below (T.setTop (mkF m pc ls (st))) t := by
  subst hp; obtain ⟨h, hx, rfl⟩ := H
  exact XS.iload h hx rfl hd hl K
theorem w_iloadN (H : Hr tb below T m c code) {k : Fin 4} {v : Int32} (hd : decode code pc = .ok (.iload_n k, 1)) (pc' : Nat) (hp : pc + 1 = pc') (hl : ls[k.val]? = some (.val (.int v))) (K : Steps tb e below (T.setTop (mkF m pc' ls (.int v :: st))) t) : Steps tb e below (T.setTop (mkF m pc ls (st))) t := by
  subst hp; obtain ⟨h, hx, rfl⟩ := H
  exact XS.iloadN h hx rfl hd hl K
theorem w_istore (H : Hr tb below T m c code) {k : Nat} {x : Int32} {l' : Array Slot} (hd : decode code pc = .ok (.istore k, 2)) (pc' : Nat) (hp : pc + 2 = pc') (hl : storeLocals ls k (.int x) = some l') (K : Steps tb e below (T.setTop (mkF m pc' l' (st))) t) : Steps tb e below (T.setTop (mkF m pc ls (.int x :: st))) t := by
  subst hp; obtain ⟨h, hx, rfl⟩ := H
  exact XS.istore h hx rfl hd rfl hl K
theorem w_istoreN (H : Hr tb below T m c code) {k : Fin 4} {x : Int32} {l' : Array Slot} (hd : decode code pc = .ok (.istore_n k, 1)) (pc' : Nat) (hp : pc + 1 = pc') (hl : storeLocals ls k.val (.int x) = some l') (K : Steps tb e below (T.setTop (mkF m pc' l' (st))) t) : Steps tb e below (T.setTop (mkF m pc ls (.int x :: st))) t := by
  subst hp; obtain ⟨h, hx, rfl⟩ := H
  exact XS.istoreN h hx rfl hd rfl hl K
theorem w_lload (H : Hr tb below T m c code) {k : Nat} {v : Int64} (hd : decode code pc = .ok (.lload k, 2)) (pc' : Nat) (hp : pc + 2 = pc') (hl : ls[k]? = some (.val (.long v))) (K : Steps tb e below (T.setTop (mkF m pc' ls (.long v :: st))) t) : Steps tb e below (T.setTop (mkF m pc ls (st))) t := by
  subst hp; obtain ⟨h, hx, rfl⟩ := H
  exact XS.lload h hx rfl hd hl K
theorem w_lloadN (H : Hr tb below T m c code) {k : Fin 4} {v : Int64} (hd : decode code pc = .ok (.lload_n k, 1)) (pc' : Nat) (hp : pc + 1 = pc') (hl : ls[k.val]? = some (.val (.long v))) (K : Steps tb e below (T.setTop (mkF m pc' ls (.long v :: st))) t) : Steps tb e below (T.setTop (mkF m pc ls (st))) t := by
  subst hp; obtain ⟨h, hx, rfl⟩ := H
  exact XS.lloadN h hx rfl hd hl K
theorem w_lstore (H : Hr tb below T m c code) {k : Nat} {x : Int64} {l' : Array Slot} (hd : decode code pc = .ok (.lstore k, 2)) (pc' : Nat) (hp : pc + 2 = pc') (hl : storeLocals ls k (.long x) = some l') (K : Steps tb e below (T.setTop (mkF m pc' l' (st))) t) : Steps tb e below (T.setTop (mkF m pc ls (.long x :: st))) t := by
  subst hp; obtain ⟨h, hx, rfl⟩ := H
  exact XS.lstore h hx rfl hd rfl hl K
theorem w_lstoreN (H : Hr tb below T m c code) {k : Fin 4} {x : Int64} {l' : Array Slot} (hd : decode code pc = .ok (.lstore_n k, 1)) (pc' : Nat) (hp : pc + 1 = pc') (hl : storeLocals ls k.val (.long x) = some l') (K : Steps tb e below (T.setTop (mkF m pc' l' (st))) t) : Steps tb e below (T.setTop (mkF m pc ls (.long x :: st))) t := by
  subst hp; obtain ⟨h, hx, rfl⟩ := H
  exact XS.lstoreN h hx rfl hd rfl hl K
theorem w_dload (H : Hr tb below T m c code) {k : Nat} {v : UInt64} (hd : decode code pc = .ok (.dload k, 2)) (pc' : Nat) (hp : pc + 2 = pc') (hl : ls[k]? = some (.val (.double v))) (K : Steps tb e below (T.setTop (mkF m pc' ls (.double v :: st))) t) : Steps tb e below (T.setTop (mkF m pc ls (st))) t := by
  subst hp; obtain ⟨h, hx, rfl⟩ := H
  show Steps tb e below (T.setTop { method := m, pc := pc, locals := ls, stack := st, locked := none }) _
  jvm_step h [h.top, hx, hd, hl]
  exact K
theorem w_dloadN (H : Hr tb below T m c code) {k : Fin 4} {v : UInt64} (hd : decode code pc = .ok (.dload_n k, 1)) (pc' : Nat) (hp : pc + 1 = pc') (hl : ls[k.val]? = some (.val (.double v))) (K : Steps tb e below (T.setTop (mkF m pc' ls (.double v :: st))) t) : Steps tb e below (T.setTop (mkF m pc ls (st))) t := by
  subst hp; obtain ⟨h, hx, rfl⟩ := H
  show Steps tb e below (T.setTop { method := m, pc := pc, locals := ls, stack := st, locked := none }) _
  jvm_step h [h.top, hx, hd, hl]
  exact K
theorem w_dstore (H : Hr tb below T m c code) {k : Nat} {x : UInt64} {l' : Array Slot} (hd : decode code pc = .ok (.dstore k, 2)) (pc' : Nat) (hp : pc + 2 = pc') (hl : storeLocals ls k (.double x) = some l') (K : Steps tb e below (T.setTop (mkF m pc' l' (st))) t) : Steps tb e below (T.setTop (mkF m pc ls (.double x :: st))) t := by
  subst hp; obtain ⟨h, hx, rfl⟩ := H
  show Steps tb e below (T.setTop { method := m, pc := pc, locals := ls, stack := .double x :: st, locked := none }) _
  jvm_step h [h.top, hx, hd, hl]
  exact K
theorem w_dstoreN (H : Hr tb below T m c code) {k : Fin 4} {x : UInt64} {l' : Array Slot} (hd : decode code pc = .ok (.dstore_n k, 1)) (pc' : Nat) (hp : pc + 1 = pc') (hl : storeLocals ls k.val (.double x) = some l') (K : Steps tb e below (T.setTop (mkF m pc' l' (st))) t) : Steps tb e below (T.setTop (mkF m pc ls (.double x :: st))) t := by
  subst hp; obtain ⟨h, hx, rfl⟩ := H
  show Steps tb e below (T.setTop { method := m, pc := pc, locals := ls, stack := .double x :: st, locked := none }) _
  jvm_step h [h.top, hx, hd, hl]
  exact K
theorem w_aload (H : Hr tb below T m c code) {k : Nat} {v : Value} (hd : decode code pc = .ok (.aload k, 2)) (pc' : Nat) (hp : pc + 2 = pc') (hl : ls[k]? = some (.val v)) (hv : v.isRef = true) (K : Steps tb e below (T.setTop (mkF m pc' ls (v :: st))) t) : Steps tb e below (T.setTop (mkF m pc ls (st))) t := by
  subst hp; obtain ⟨h, hx, rfl⟩ := H
  exact XS.aload h hx rfl hd hl hv K
theorem w_aloadN (H : Hr tb below T m c code) {k : Fin 4} {v : Value} (hd : decode code pc = .ok (.aload_n k, 1)) (pc' : Nat) (hp : pc + 1 = pc') (hl : ls[k.val]? = some (.val v)) (hv : v.isRef = true) (K : Steps tb e below (T.setTop (mkF m pc' ls (v :: st))) t) : Steps tb e below (T.setTop (mkF m pc ls (st))) t := by
  subst hp; obtain ⟨h, hx, rfl⟩ := H
  exact XS.aloadN h hx rfl hd hl hv K
theorem w_astore (H : Hr tb below T m c code) {k : Nat} {x : Value} {l' : Array Slot} (hd : decode code pc = .ok (.astore k, 2)) (pc' : Nat) (hp : pc + 2 = pc') (hv : x.isRef = true) (hl : storeLocals ls k x = some l') (K : Steps tb e below (T.setTop (mkF m pc' l' (st))) t) : Steps tb e below (T.setTop (mkF m pc ls (x :: st))) t := by
  subst hp; obtain ⟨h, hx, rfl⟩ := H
  exact XS.astore h hx rfl hd rfl hv hl K
theorem w_astoreN (H : Hr tb below T m c code) {k : Fin 4} {x : Value} {l' : Array Slot} (hd : decode code pc = .ok (.astore_n k, 1)) (pc' : Nat) (hp : pc + 1 = pc') (hv : x.isRef = true) (hl : storeLocals ls k.val x = some l') (K : Steps tb e below (T.setTop (mkF m pc' l' (st))) t) : Steps tb e below (T.setTop (mkF m pc ls (x :: st))) t := by
  subst hp; obtain ⟨h, hx, rfl⟩ := H
  exact XS.astoreN h hx rfl hd rfl hv hl K
theorem w_iinc (H : Hr tb below T m c code) {k : Nat} {cst : Int} {x z : Int32} {l' : Array Slot} (hd : decode code pc = .ok (.iinc k cst, 3)) (pc' : Nat) (hp : pc + 3 = pc') (hl : ls[k]? = some (.val (.int x))) (hz : x + Int32.ofInt cst = z) (hl' : storeLocals ls k (.int z) = some l') (K : Steps tb e below (T.setTop (mkF m pc' l' (st))) t) : Steps tb e below (T.setTop (mkF m pc ls (st))) t := by
  subst hp; obtain ⟨h, hx, rfl⟩ := H
  subst hz; exact XS.iinc h hx rfl hd hl hl' K
theorem w_iconst (H : Hr tb below T m c code) {i : Int} {z : Int32} (hd : decode code pc = .ok (.iconst i, 1)) (pc' : Nat) (hp : pc + 1 = pc') (hz : Int32.ofInt i = z) (K : Steps tb e below (T.setTop (mkF m pc' ls (.int z :: st))) t) : Steps tb e below (T.setTop (mkF m pc ls (st))) t := by
  subst hp; obtain ⟨h, hx, rfl⟩ := H
  subst hz; exact XS.iconst h hx rfl hd K
theorem w_bipush (H : Hr tb below T m c code) {i : Int} {z : Int32} (hd : decode code pc = .ok (.bipush i, 2)) (pc' : Nat) (hp : pc + 2 = pc') (hz : (Int8.ofInt i).toInt32 = z) (K : Steps tb e below (T.setTop (mkF m pc' ls (.int z :: st))) t) : Steps tb e below (T.setTop (mkF m pc ls (st))) t := by
  subst hp; obtain ⟨h, hx, rfl⟩ := H
  subst hz; exact XS.bipush h hx rfl hd K
theorem w_sipush (H : Hr tb below T m c code) {i : Int} {z : Int32} (hd : decode code pc = .ok (.sipush i, 3)) (pc' : Nat) (hp : pc + 3 = pc') (hz : (Int16.ofInt i).toInt32 = z) (K : Steps tb e below (T.setTop (mkF m pc' ls (.int z :: st))) t) : Steps tb e below (T.setTop (mkF m pc ls (st))) t := by
  subst hp; obtain ⟨h, hx, rfl⟩ := H
  subst hz; exact XS.sipush h hx rfl hd K
theorem w_lconst (H : Hr tb below T m c code) {k : Fin 2} {z : Int64} (hd : decode code pc = .ok (.lconst k, 1)) (pc' : Nat) (hp : pc + 1 = pc') (hz : Int64.ofNat k = z) (K : Steps tb e below (T.setTop (mkF m pc' ls (.long z :: st))) t) : Steps tb e below (T.setTop (mkF m pc ls (st))) t := by
  subst hp; obtain ⟨h, hx, rfl⟩ := H
  subst hz; exact XS.lconst h hx rfl hd K
theorem w_dconst0 (H : Hr tb below T m c code) (hd : decode code pc = .ok (.dconst 0, 1)) (pc' : Nat) (hp : pc + 1 = pc') (K : Steps tb e below (T.setTop (mkF m pc' ls (.double FP.dconst0 :: st))) t) : Steps tb e below (T.setTop (mkF m pc ls (st))) t := by
  subst hp; obtain ⟨h, hx, rfl⟩ := H
  show Steps tb e below (T.setTop { method := m, pc := pc, locals := ls, stack := st, locked := none }) _
  jvm_step h [h.top, hx, hd]
  exact K
theorem w_dconst1 (H : Hr tb below T m c code) (hd : decode code pc = .ok (.dconst 1, 1)) (pc' : Nat) (hp : pc + 1 = pc') (K : Steps tb e below (T.setTop (mkF m pc' ls (.double FP.dconst1 :: st))) t) : Steps tb e below (T.setTop (mkF m pc ls (st))) t := by
  subst hp; obtain ⟨h, hx, rfl⟩ := H
  show Steps tb e below (T.setTop { method := m, pc := pc, locals := ls, stack := st, locked := none }) _
  jvm_step h [h.top, hx, hd]
  exact K
theorem w_aconstNull (H : Hr tb below T m c code) (hd : decode code pc = .ok (.aconst_null, 1)) (pc' : Nat) (hp : pc + 1 = pc') (K : Steps tb e below (T.setTop (mkF m pc' ls (.null :: st))) t) : Steps tb e below (T.setTop (mkF m pc ls (st))) t := by
  subst hp; obtain ⟨h, hx, rfl⟩ := H
  exact XS.aconstNull h hx rfl hd K
theorem w_dup (H : Hr tb below T m c code) {x : Value} (hd : decode code pc = .ok (.dup, 1)) (pc' : Nat) (hp : pc + 1 = pc') (hc : x.category = 1) (K : Steps tb e below (T.setTop (mkF m pc' ls (x :: x :: st))) t) : Steps tb e below (T.setTop (mkF m pc ls (x :: st))) t := by
  subst hp; obtain ⟨h, hx, rfl⟩ := H
  exact XS.dup h hx rfl hd rfl hc K
theorem w_iadd (H : Hr tb below T m c code) {x y : Int32} (hd : decode code pc = .ok (.iadd, 1)) (pc' : Nat) (hp : pc + 1 = pc') (K : Steps tb e below (T.setTop (mkF m pc' ls (.int (x + y) :: st))) t) : Steps tb e below (T.setTop (mkF m pc ls (.int y :: .int x :: st))) t := by
  subst hp; obtain ⟨h, hx, rfl⟩ := H
  exact XS.iadd h hx rfl hd rfl K
theorem w_isub (H : Hr tb below T m c code) {x y : Int32} (hd : decode code pc = .ok (.isub, 1)) (pc' : Nat) (hp : pc + 1 = pc') (K : Steps tb e below (T.setTop (mkF m pc' ls (.int (x - y) :: st))) t) : Steps tb e below (T.setTop (mkF m pc ls (.int y :: .int x :: st))) t := by
  subst hp; obtain ⟨h, hx, rfl⟩ := H
  exact XS.isub h hx rfl hd rfl K
theorem w_imul (H : Hr tb below T m c code) {x y : Int32} (hd : decode code pc = .ok (.imul, 1)) (pc' : Nat) (hp : pc + 1 = pc') (K : Steps tb e below (T.setTop (mkF m pc' ls (.int (x * y) :: st))) t) : Steps tb e below (T.setTop (mkF m pc ls (.int y :: .int x :: st))) t := by
  subst hp; obtain ⟨h, hx, rfl⟩ := H
  exact XS.imul h hx rfl hd rfl K
theorem w_iand (H : Hr tb below T m c code) {x y : Int32} (hd : decode code pc = .ok (.iand, 1)) (pc' : Nat) (hp : pc + 1 = pc') (K : Steps tb e below (T.setTop (mkF m pc' ls (.int (x &&& y) :: st))) t) : Steps tb e below (T.setTop (mkF m pc ls (.int y :: .int x :: st))) t := by
  subst hp; obtain ⟨h, hx, rfl⟩ := H
  exact XS.iand h hx rfl hd rfl K
theorem w_ladd (H : Hr tb below T m c code) {x y : Int64} (hd : decode code pc = .ok (.ladd, 1)) (pc' : Nat) (hp : pc + 1 = pc') (K : Steps tb e below (T.setTop (mkF m pc' ls (.long (x + y) :: st))) t) : Steps tb e below (T.setTop (mkF m pc ls (.long y :: .long x :: st))) t := by
  subst hp; obtain ⟨h, hx, rfl⟩ := H
  exact XS.ladd h hx rfl hd rfl K
theorem w_lsub (H : Hr tb below T m c code) {x y : Int64} (hd : decode code pc = .ok (.lsub, 1)) (pc' : Nat) (hp : pc + 1 = pc') (K : Steps tb e below (T.setTop (mkF m pc' ls (.long (x - y) :: st))) t) : Steps tb e below (T.setTop (mkF m pc ls (.long y :: .long x :: st))) t := by
  subst hp; obtain ⟨h, hx, rfl⟩ := H
  exact XS.lsub h hx rfl hd rfl K
theorem w_lmul (H : Hr tb below T m c code) {x y : Int64} (hd : decode code pc = .ok (.lmul, 1)) (pc' : Nat) (hp : pc + 1 = pc') (K : Steps tb e below (T.setTop (mkF m pc' ls (.long (x * y) :: st))) t) : Steps tb e below (T.setTop (mkF m pc ls (.long y :: .long x :: st))) t := by
  subst hp; obtain ⟨h, hx, rfl⟩ := H
  exact XS.lmul h hx rfl hd rfl K
theorem w_land (H : Hr tb below T m c code) {x y : Int64} (hd : decode code pc = .ok (.land, 1)) (pc' : Nat) (hp : pc + 1 = pc') (K : Steps tb e below (T.setTop (mkF m pc' ls (.long (x &&& y) :: st))) t) : Steps tb e below (T.setTop (mkF m pc ls (.long y :: .long x :: st))) t := by
  subst hp; obtain ⟨h, hx, rfl⟩ := H
  exact XS.land h hx rfl hd rfl K
theorem w_lor (H : Hr tb below T m c code) {x y : Int64} (hd : decode code pc = .ok (.lor, 1)) (pc' : Nat) (hp : pc + 1 = pc') (K : Steps tb e below (T.setTop (mkF m pc' ls (.long (x ||| y) :: st))) t) : Steps tb e below (T.setTop (mkF m pc ls (.long y :: .long x :: st))) t := by
  subst hp; obtain ⟨h, hx, rfl⟩ := H
  exact XS.lor h hx rfl hd rfl K
theorem w_irem (H : Hr tb below T m c code) {x y : Int32} (hd : decode code pc = .ok (.irem, 1)) (pc' : Nat) (hp : pc + 1 = pc') (hy : y ≠ 0) (K : Steps tb e below (T.setTop (mkF m pc' ls (.int (x % y) :: st))) t) : Steps tb e below (T.setTop (mkF m pc ls (.int y :: .int x :: st))) t := by
  subst hp; obtain ⟨h, hx, rfl⟩ := H
  exact XS.irem h hx rfl hd rfl hy (by rw [irem_eq_mod]; exact K)
theorem w_lrem (H : Hr tb below T m c code) {x y : Int64} (hd : decode code pc = .ok (.lrem, 1)) (pc' : Nat) (hp : pc + 1 = pc') (hy : y ≠ 0) (K : Steps tb e below (T.setTop (mkF m pc' ls (.long (x % y) :: st))) t) : Steps tb e below (T.setTop (mkF m pc ls (.long y :: .long x :: st))) t := by
  subst hp; obtain ⟨h, hx, rfl⟩ := H
  exact XS.lrem h hx rfl hd rfl hy (by rw [lrem_mod]; exact K)
theorem w_iushr (H : Hr tb below T m c code) {x y : Int32} (hd : decode code pc = .ok (.iushr, 1)) (pc' : Nat) (hp : pc + 1 = pc') (K : Steps tb e below (T.setTop (mkF m pc' ls (.int (ushr x y) :: st))) t) : Steps tb e below (T.setTop (mkF m pc ls (.int y :: .int x :: st))) t := by
  subst hp; obtain ⟨h, hx, rfl⟩ := H
  exact XS.iushr h hx rfl hd rfl K
theorem w_lushr (H : Hr tb below T m c code) {x : Int64} {y : Int32} (hd : decode code pc = .ok (.lushr, 1)) (pc' : Nat) (hp : pc + 1 = pc') (K : Steps tb e below (T.setTop (mkF m pc' ls (.long (ushrL x y) :: st))) t) : Steps tb e below (T.setTop (mkF m pc ls (.int y :: .long x :: st))) t := by
  subst hp; obtain ⟨h, hx, rfl⟩ := H
  exact XS.lushr h hx rfl hd rfl K
theorem w_lshl (H : Hr tb below T m c code) {x : Int64} {y : Int32} (hd : decode code pc = .ok (.lshl, 1)) (pc' : Nat) (hp : pc + 1 = pc') (K : Steps tb e below (T.setTop (mkF m pc' ls (.long (shlL x y) :: st))) t) : Steps tb e below (T.setTop (mkF m pc ls (.int y :: .long x :: st))) t := by
  subst hp; obtain ⟨h, hx, rfl⟩ := H
  exact XS.lshl h hx rfl hd rfl K
theorem w_lshr (H : Hr tb below T m c code) {x : Int64} {y : Int32} (hd : decode code pc = .ok (.lshr, 1)) (pc' : Nat) (hp : pc + 1 = pc') (K : Steps tb e below (T.setTop (mkF m pc' ls (.long (shrL x y) :: st))) t) : Steps tb e below (T.setTop (mkF m pc ls (.int y :: .long x :: st))) t := by
  subst hp; obtain ⟨h, hx, rfl⟩ := H
  exact XS.lshr h hx rfl hd rfl K
theorem w_lcmp (H : Hr tb below T m c code) {x y : Int64} (hd : decode code pc = .ok (.lcmp, 1)) (pc' : Nat) (hp : pc + 1 = pc') (K : Steps tb e below (T.setTop (mkF m pc' ls (.int (lcmpV x y) :: st))) t) : Steps tb e below (T.setTop (mkF m pc ls (.long y :: .long x :: st))) t := by
  subst hp; obtain ⟨h, hx, rfl⟩ := H
  exact XS.lcmp h hx rfl hd rfl K
theorem w_dcmp (H : Hr tb below T m c code) {x y : UInt64} {o : CmpOp} (hd : decode code pc = .ok (.dcmp o, 1)) (pc' : Nat) (hp : pc + 1 = pc') (K : Steps tb e below (T.setTop (mkF m pc' ls (.int (dcmpV x y o) :: st))) t) : Steps tb e below (T.setTop (mkF m pc ls (.double y :: .double x :: st))) t := by
  subst hp; obtain ⟨h, hx, rfl⟩ := H
  show Steps tb e below (T.setTop { method := m, pc := pc, locals := ls, stack := .double y :: .double x :: st, locked := none }) _
  jvm_step h [h.top, hx, hd]
  exact K
theorem w_ddiv (H : Hr tb below T m c code) {x y : UInt64} (hd : decode code pc = .ok (.ddiv, 1)) (pc' : Nat) (hp : pc + 1 = pc') (hr : Jvm.Free.Fl.NoNaN64 (FP.ddiv x y)) (K : Steps tb e below (T.setTop (mkF m pc' ls (.double (FP.ddiv x y) :: st))) t) : Steps tb e below (T.setTop (mkF m pc ls (.double y :: .double x :: st))) t := by
  subst hp; obtain ⟨h, hx, rfl⟩ := H
  show Steps tb e below (T.setTop { method := m, pc := pc, locals := ls, stack := .double y :: .double x :: st, locked := none }) _
  jvm_step h [h.top, hx, hd, Op.ddiv.at_number h.top hr]
  exact K
theorem w_i2d (H : Hr tb below T m c code) {x : Int32} (hd : decode code pc = .ok (.i2d, 1)) (pc' : Nat) (hp : pc + 1 = pc') (K : Steps tb e below (T.setTop (mkF m pc' ls (.double (FP.i2d x) :: st))) t) : Steps tb e below (T.setTop (mkF m pc ls (.int x :: st))) t := by
  subst hp; obtain ⟨h, hx, rfl⟩ := H
  show Steps tb e below (T.setTop { method := m, pc := pc, locals := ls, stack := .int x :: st, locked := none }) _
  jvm_step h [h.top, hx, hd]
  exact K
theorem w_l2d (H : Hr tb below T m c code) {x : Int64} (hd : decode code pc = .ok (.l2d, 1)) (pc' : Nat) (hp : pc + 1 = pc') (K : Steps tb e below (T.setTop (mkF m pc' ls (.double (FP.l2d x) :: st))) t) : Steps tb e below (T.setTop (mkF m pc ls (.long x :: st))) t := by
  subst hp; obtain ⟨h, hx, rfl⟩ := H
  show Steps tb e below (T.setTop { method := m, pc := pc, locals := ls, stack := .long x :: st, locked := none }) _
  jvm_step h [h.top, hx, hd]
  exact K
theorem w_i2l (H : Hr tb below T m c code) {x : Int32} (hd : decode code pc = .ok (.i2l, 1)) (pc' : Nat) (hp : pc + 1 = pc') (K : Steps tb e below (T.setTop (mkF m pc' ls (.long (Int32.toInt64 x) :: st))) t) : Steps tb e below (T.setTop (mkF m pc ls (.int x :: st))) t := by
  subst hp; obtain ⟨h, hx, rfl⟩ := H
  exact XS.i2l h hx rfl hd rfl K
theorem w_l2i (H : Hr tb below T m c code) {x : Int64} (hd : decode code pc = .ok (.l2i, 1)) (pc' : Nat) (hp : pc + 1 = pc') (K : Steps tb e below (T.setTop (mkF m pc' ls (.int (Int64.toInt32 x) :: st))) t) : Steps tb e below (T.setTop (mkF m pc ls (.long x :: st))) t := by
  subst hp; obtain ⟨h, hx, rfl⟩ := H
  exact XS.l2i h hx rfl hd rfl K
theorem w_i2c (H : Hr tb below T m c code) {x : Int32} (hd : decode code pc = .ok (.i2c, 1)) (pc' : Nat) (hp : pc + 1 = pc') (K : Steps tb e below (T.setTop (mkF m pc' ls (.int (toC x) :: st))) t) : Steps tb e below (T.setTop (mkF m pc ls (.int x :: st))) t := by
  subst hp; obtain ⟨h, hx, rfl⟩ := H
  exact XS.i2c h hx rfl hd rfl K
theorem w_goto (H : Hr tb below T m c code) {o : Int} (hd : decode code pc = .ok (.goto o, 3)) (pc' : Nat) (ho : 0 ≤ (pc : Int) + o) (hp : ((pc : Int) + o).toNat = pc') (K : Steps tb e below (T.setTop (mkF m pc' ls st)) t) : Steps tb e below (T.setTop (mkF m pc ls (st))) t := by
  obtain ⟨h, hx, rfl⟩ := H
  exact XS.goto h hx rfl rfl hd ho hp K
theorem w_ifCondYes (H : Hr tb below T m c code) {cd : ClassFile.Cond} {x : Int32} {o : Int} (hd : decode code pc = .ok (.ifCond cd o, 3)) (hc : ifCond.holds cd x = true) (pc' : Nat) (ho : 0 ≤ (pc : Int) + o) (hp : ((pc : Int) + o).toNat = pc') (K : Steps tb e below (T.setTop (mkF m pc' ls st)) t) : Steps tb e below (T.setTop (mkF m pc ls (.int x :: st))) t := by
  obtain ⟨h, hx, rfl⟩ := H
  exact XS.ifYes h hx rfl rfl hd rfl hc ho hp K
theorem w_ifCondNo (H : Hr tb below T m c code) {cd : ClassFile.Cond} {x : Int32} {o : Int} (hd : decode code pc = .ok (.ifCond cd o, 3)) (hc : ifCond.holds cd x = false) (pc' : Nat) (hp : pc + 3 = pc') (K : Steps tb e below (T.setTop (mkF m pc' ls st)) t) : Steps tb e below (T.setTop (mkF m pc ls (.int x :: st))) t := by
  subst hp; obtain ⟨h, hx, rfl⟩ := H
  exact XS.ifNo h hx rfl hd rfl hc K
theorem w_icmpYes (H : Hr tb below T m c code) {cd : ClassFile.Cond} {x y : Int32} {o : Int} (hd : decode code pc = .ok (.if_icmp cd o, 3)) (hc : if_icmp.holds cd x y = true) (pc' : Nat) (ho : 0 ≤ (pc : Int) + o) (hp : ((pc : Int) + o).toNat = pc') (K : Steps tb e below (T.setTop (mkF m pc' ls st)) t) : Steps tb e below (T.setTop (mkF m pc ls (.int y :: .int x :: st))) t := by
  obtain ⟨h, hx, rfl⟩ := H
  exact XS.icmpYes h hx rfl rfl hd rfl hc ho hp K
theorem w_icmpNo (H : Hr tb below T m c code) {cd : ClassFile.Cond} {x y : Int32} {o : Int} (hd : decode code pc = .ok (.if_icmp cd o, 3)) (hc : if_icmp.holds cd x y = false) (pc' : Nat) (hp : pc + 3 = pc') (K : Steps tb e below (T.setTop (mkF m pc' ls st)) t) : Steps tb e below (T.setTop (mkF m pc ls (.int y :: .int x :: st))) t := by
  subst hp; obtain ⟨h, hx, rfl⟩ := H
  exact XS.icmpNo h hx rfl hd rfl hc K
theorem w_acmpYes (H : Hr tb below T m c code) {cd : ClassFile.ACond} {x y : Value} {o : Int} (hd : decode code pc = .ok (.if_acmp cd o, 3)) (hx' : x.isRef = true) (hy' : y.isRef = true) (hc : XT.acmp cd x y = true) (pc' : Nat) (ho : 0 ≤ (pc : Int) + o) (hp : ((pc : Int) + o).toNat = pc') (K : Steps tb e below (T.setTop (mkF m pc' ls st)) t) : Steps tb e below (T.setTop (mkF m pc ls (y :: x :: st))) t := by
  obtain ⟨h, hx, rfl⟩ := H
  exact XT.acmpYes h hx rfl rfl hd rfl hx' hy' hc ho hp K
theorem w_acmpNo (H : Hr tb below T m c code) {cd : ClassFile.ACond} {x y : Value} {o : Int} (hd : decode code pc = .ok (.if_acmp cd o, 3)) (hx' : x.isRef = true) (hy' : y.isRef = true) (hc : XT.acmp cd x y = false) (pc' : Nat) (hp : pc + 3 = pc') (K : Steps tb e below (T.setTop (mkF m pc' ls st)) t) : Steps tb e below (T.setTop (mkF m pc ls (y :: x :: st))) t := by
  subst hp; obtain ⟨h, hx, rfl⟩ := H
  exact XT.acmpNo h hx rfl hd rfl hx' hy' hc K
theorem w_ifnullYes (H : Hr tb below T m c code) {o : Int} (hd : decode code pc = .ok (.ifnull o, 3)) (pc' : Nat) (ho : 0 ≤ (pc : Int) + o) (hp : ((pc : Int) + o).toNat = pc') (K : Steps tb e below (T.setTop (mkF m pc' ls st)) t) : Steps tb e below (T.setTop (mkF m pc ls (.null :: st))) t := by
  obtain ⟨h, hx, rfl⟩ := H
  exact XS.ifnullYes h hx rfl rfl hd rfl ho hp K
theorem w_ifnullNo (H : Hr tb below T m c code) {b : Addr} {o : Int} (hd : decode code pc = .ok (.ifnull o, 3)) (pc' : Nat) (hp : pc + 3 = pc') (K : Steps tb e below (T.setTop (mkF m pc' ls st)) t) : Steps tb e below (T.setTop (mkF m pc ls (.ref b :: st))) t := by
  subst hp; obtain ⟨h, hx, rfl⟩ := H
  exact XS.ifnullNo h hx rfl hd rfl K
theorem w_ifnonnullYes (H : Hr tb below T m c code) {b : Addr} {o : Int} (hd : decode code pc = .ok (.ifnonnull o, 3)) (pc' : Nat) (ho : 0 ≤ (pc : Int) + o) (hp : ((pc : Int) + o).toNat = pc') (K : Steps tb e below (T.setTop (mkF m pc' ls st)) t) : Steps tb e below (T.setTop (mkF m pc ls (.ref b :: st))) t := by
  obtain ⟨h, hx, rfl⟩ := H
  exact XS.ifnonnullYes h hx rfl rfl hd rfl ho hp K
theorem w_ifnonnullNo (H : Hr tb below T m c code) {o : Int} (hd : decode code pc = .ok (.ifnonnull o, 3)) (pc' : Nat) (hp : pc + 3 = pc') (K : Steps tb e below (T.setTop (mkF m pc' ls st)) t) : Steps tb e below (T.setTop (mkF m pc ls (.null :: st))) t := by
  subst hp; obtain ⟨h, hx, rfl⟩ := H
  exact XS.ifnonnullNo h hx rfl hd rfl K
end Steps
section Rets
variable {p : Program} {l : Launch} {e : Env} {R : Room} {s : State} {m : MethodId} {args : Array Value} {below : List Frame} {meth : Method} {c : Code} {T : State} {locs : List Loc} {cells slots : Nat} {code : ByteArray} {pc : Nat} {ls : Array Slot} {st : List Value} {t : State}
theorem hr (X : Stand p l e R s m args below meth c T locs cells slots) (hx : p.tables.exec = Jvm.exec) (hby : c.code = code) : Hr p.tables below T m c code := ⟨X.here, hx, hby⟩
theorem w_ldc2Long (X : Stand p l e R s m args below meth c T locs cells slots) (hx : p.tables.exec = Jvm.exec) {own : String} {index : Nat} {v : Int64} (hown : s.vm.findClass own = some m.cls) (hc : (Cond.constantLong own index v).before args s = true) (hd : decode c.code pc = .ok (.ldc2_w index, 3)) (pc' : Nat) (hp : pc + 3 = pc') (K : Steps p.tables e below (T.setTop (mkF m pc' ls (.long v :: st))) t) : Steps p.tables e below (T.setTop (mkF m pc ls st)) t := by
  subst hp; exact X.ldc2Long hx hown hc (g := mkF m pc ls st) rfl hd _ K
theorem w_ldc2Double (X : Stand p l e R s m args below meth c T locs cells slots) (hx : p.tables.exec = Jvm.exec) {own : String} {index : Nat} {v : UInt64} (hown : s.vm.findClass own = some m.cls) (hc : (Cond.constantDouble own index v).before args s = true) (hd : decode c.code pc = .ok (.ldc2_w index, 3)) (pc' : Nat) (hp : pc + 3 = pc') (K : Steps p.tables e below (T.setTop (mkF m pc' ls (.double v :: st))) t) : Steps p.tables e below (T.setTop (mkF m pc ls st)) t := by
  subst hp; exact X.ldc2DoubleC hx hown hc (g := mkF m pc ls st) rfl hd _ K
end Rets
end Jvm.Own

namespace Jvm.Own
open Sem ClassFile Op Lib Jvm.Stand Jvm.Free Jvm.LawKit Jvm.RoadKit
section Nat
variable {p : Program} {l : Launch} {e : Env} {R : Room} {s : State} {m : MethodId} {args : Array Value} {below : List Frame} {meth : Method} {c : Code} {T t : State} {locs : List Loc} {cells slots : Nat} {Z : State} {a0 : Array Value} {h : Heap} {pc : Nat}
/-- the native Double.doubleToRawLongBits: the bits -/
theorem nat_bits (X : Stand p l e R s m args below meth c T locs cells slots) (hx : p.tables.exec = Jvm.exec) (hZ : Z.Warmed39 s.vm) {own : String} {index : Nat} (hown : s.vm.findClass own = some m.cls)
    (w1 : (Cond.methodLink own index NT.doubleBitsN).before a0 Z = true) (w2 : (Cond.static NT.doubleBitsN).before a0 Z = true) (w3 : (Cond.initialized "java/lang/Double").before a0 Z = true) (w4 : (Cond.native NT.doubleBitsN).before a0 Z = true)
    (hfr : 1 ≤ R.frames) {W : Nat} (hlo : W + 15 ≤ R.locals) (eT : T.heap = h) {b : UInt64} (hd : decode c.code pc = .ok (.invokestatic index, 3)) (ls : Array Slot) (st : List Value) (hsize : ls.size = c.maxLocals) (hW : (st.map fun v => v.category).sum ≤ W) :
    ∃ T', Stand p l e R s m args below meth c T' locs cells slots ∧ T'.heap = h ∧ ∀ t, Steps p.tables e below (T'.setTop (mkF m (pc + 3) ls (.long b.toInt64 :: st))) t → Steps p.tables e below (T.setTop (mkF m pc ls (.double b :: st))) t := by
  have n4 : (Cond.native NT.doubleBitsN).before args s = true := mvT hZ w4
  have n2 : (Cond.static NT.doubleBitsN).before args s = true := mvT hZ w2
  obtain ⟨mk, methM, hnamed, hmethM, -, -, -, hsig⟩ := Cond.native_spec n4
  obtain ⟨v, vm1, B, hW1, X', ⟨hB, hv⟩, k⟩ := Stand.staticBack X hx hown (mvT hZ w1) n2 (mvT hZ w3) hnamed hmethM hsig (by decide) (NT.DoubleBits.pays (W := W) n4 n2 hfr hlo) (g := mkF m pc ls (.double b :: st)) rfl hsize (Steps.refl _) (argsL := [.double b]) (rest := st) (lenOf NT.descDJ rfl) rfl (by show 2 * 0 + _ ≤ _; omega) hd (fun _ _ => ⟨b, rfl⟩)
  have hv' := hv b rfl
  subst hv' hB
  exact ⟨_, X', eT, fun t q => k.trans q⟩
end Nat
end Jvm.Own

/- laws to paste: Road.backV, Road.lenW, Road.codOf (cut by pick.py; bodies as the Statement names them) -/
namespace Jvm.Pilot.@@N@@
namespace StrChars
open Jvm Sem ClassFile Op Lib Jvm.Stand Jvm.Free.XT Jvm.Free.ALB Jvm.Free.JM Jvm.Free
open Jvm.Lib.Cold (StaticIs)
/-- a char array whose places are chars -/
def Ch (a : Addr) (A : Cell) (U : State) : Prop := Arr .char a A U ∧ Typed .char A
theorem Ch.mv {a : Addr} {A : Cell} {U U' : State} (h : Ch a A U) (hal : U.vm.Alike U'.vm) (hh : U'.heap = U.heap) : Ch a A U' := ⟨h.1.mv hal hh, h.2⟩
theorem Ch.keep {a : Addr} {A : Cell} {U U' : State} (h : Ch a A U) (hal : U.vm.Alike U'.vm) (hk : U'.heap[a]? = some A) : Ch a A U' := ⟨h.1.keep hal hk, h.2⟩
/-- what place i of a char[]'s cell holds -/
def cv (A : Cell) (i : Nat) : Int32 := match A.slots[i]? with | some (.int x) => x | _ => 0
theorem Ch.get {a : Addr} {A : Cell} {U : State} (h : Ch a A U) {i : Nat} (hi : i < A.slots.size) : A.slots[i]? = some (.int (cv A i)) := by
  have e := Array.getElem?_eq_getElem hi
  have f := h.2 i _ e
  unfold cv; rw [e]
  generalize A.slots[i] = v at f
  cases v <;> simp [fits] at f ⊢
/-- the byte that i2b leaves of a char -/
def lo8 (x : Int32) : Int32 := x.toInt8.toInt32
theorem fits_lo8 (y : Int32) : fits .byte (.int (lo8 y)) = true := by
  have h1 := y.toInt8.le_toInt
  have h2 := y.toInt8.toInt_lt
  simp only [lo8, fits, Bool.and_eq_true, decide_eq_true_eq, Int32.le_iff_toInt_le, Int8.toInt_toInt32, show (-128 : Int32).toInt = -128 from by decide, show (127 : Int32).toInt = 127 from by decide]
  omega
/-- A' is A but that each place j of lo .. hi - 1 holds f j -/
def Laid (A A' : Cell) (lo hi : Nat) (f : Nat → Value) : Prop := A'.cls = A.cls ∧ A'.vm = A.vm ∧ A'.slots.size = A.slots.size ∧ ∀ i, A'.slots[i]? = if lo ≤ i ∧ i < hi then some (f i) else A.slots[i]?
theorem Laid.zero (A : Cell) (lo : Nat) (f : Nat → Value) : Laid A A lo (lo + 0) f := ⟨rfl, rfl, rfl, fun i => by rw [if_neg (by omega)]⟩
theorem Laid.step {A Ak : Cell} {lo k : Nat} {f : Nat → Value} {v : Value} (h : Laid A Ak lo k f) (hlo : lo ≤ k) (hk : k < Ak.slots.size) (hv : v = f k) : Laid A (Ak.setSlot k v) lo (k + 1) f := by
  refine ⟨h.1, h.2.1, by simpa [Cell.setSlot] using h.2.2.1, fun i => ?_⟩
  by_cases e : k = i
  · subst e; rw [Cell.slots_setSlot_self v hk, if_pos (by omega), hv]
  · rw [Cell.slots_setSlot_ne v e, h.2.2.2 i]
    by_cases q : lo ≤ i ∧ i < k
    · rw [if_pos q, if_pos (by omega)]
    · rw [if_neg q, if_neg (by omega)]
def U16 : String := "java/lang/StringUTF16"
namespace Cmp5
def yN : MethodName := ⟨"java/lang/StringUTF16", "compress", "([CI[BII)I"⟩
abbrev yB : ByteArray := jdk_52_method_21_code
theorem d0 : decode yB 0 = .ok (.iconst 0, 1) := by decide +kernel
theorem d1 : decode yB 1 = .ok (.istore 5, 2) := by decide +kernel
theorem d3 : decode yB 3 = .ok (.iload 5, 2) := by decide +kernel
theorem d5 : decode yB 5 = .ok (.iload 4, 2) := by decide +kernel
theorem d7 : decode yB 7 = .ok (.if_icmp (.ge) 37, 3) := by decide +kernel
theorem d10 : decode yB 10 = .ok (.aload_n 0, 1) := by decide +kernel
theorem d11 : decode yB 11 = .ok (.iload_n 1, 1) := by decide +kernel
theorem d12 : decode yB 12 = .ok (.caload, 1) := by decide +kernel
theorem d13 : decode yB 13 = .ok (.istore 6, 2) := by decide +kernel
theorem d15 : decode yB 15 = .ok (.iload 6, 2) := by decide +kernel
theorem d17 : decode yB 17 = .ok (.sipush 255, 3) := by decide +kernel
theorem d20 : decode yB 20 = .ok (.if_icmp (.le) 6, 3) := by decide +kernel
theorem d26 : decode yB 26 = .ok (.aload_n 2, 1) := by decide +kernel
theorem d27 : decode yB 27 = .ok (.iload_n 3, 1) := by decide +kernel
theorem d28 : decode yB 28 = .ok (.iload 6, 2) := by decide +kernel
theorem d30 : decode yB 30 = .ok (.i2b, 1) := by decide +kernel
theorem d31 : decode yB 31 = .ok (.bastore, 1) := by decide +kernel
theorem d32 : decode yB 32 = .ok (.iinc 1 1, 3) := by decide +kernel
theorem d35 : decode yB 35 = .ok (.iinc 3 1, 3) := by decide +kernel
theorem d38 : decode yB 38 = .ok (.iinc 5 1, 3) := by decide +kernel
theorem d41 : decode yB 41 = .ok (.goto (-38), 3) := by decide +kernel
theorem d44 : decode yB 44 = .ok (.iload 4, 2) := by decide +kernel
theorem d46 : decode yB 46 = .ok (.ireturn, 1) := by decide +kernel
def site : List Cond := []
def tab : Cond := tabOf yN yB 7 (some .int) site
def P (b : Addr) (A : Cell) (d : Addr) (B : Cell) (o q len : Nat) (args : Array Value) (s : State) : Prop := args = #[.ref b, .int (Int32.ofNat o), .ref d, .int (Int32.ofNat q), .int (Int32.ofNat len)] ∧ Ch b A s ∧ Arr .byte d B s ∧ b ≠ d ∧ o + len ≤ A.slots.size ∧ q + len ≤ B.slots.size ∧ ∀ i, i < len → ¬ 255 < cv A (o + i)
def E (b : Addr) (A : Cell) (d : Addr) (B : Cell) (o q len : Nat) (r : Option Value) (s u : State) : Prop := r = some (.int (Int32.ofNat len)) ∧ ∃ B', Put d B' s u ∧ Laid B B' q (q + len) (fun j => Value.int (lo8 (cv A (o + (j - q)))))
/-- no char of the range above 255: len; the places written hold each char's low byte -/
theorem law (l : Launch) (b : Addr) (A : Cell) (d : Addr) (B : Cell) (o q len : Nat) : Law l yN 5 5 0 0 yB 7 (some .int) site (P b A d B o q len) (E b A d B o q len) (copyLocs d q len) 0 0 := by
  refine Law.of_walk (plainFor_of_name (by decide +kernel)) (by decide +kernel) (by decide +kernel) (by decide) (fun _ _ h => by rw [h.1]; rfl) (fun _ U U' hal hh h => ⟨h.1, h.2.1.mv hal hh, h.2.2.1.mv hal hh, h.2.2.2⟩) (fun r U U' V V' h1 hal h2 h => ⟨h.1, h.2.elim fun B' q => ⟨B', q.1.mv h1 h2, q.2⟩⟩) ?_
  intro p e s m args below meth c s₁ X0 hexec hbytes hml hret hlk hnm hown hh0 W hP
  obtain ⟨rfl, hA, hB, hne, l1, l2, hp⟩ := hP
  have c1 : Steps p.tables e below (s₁.setTop (entryFrame m #[.ref b, .int (Int32.ofNat o), .ref d, .int (Int32.ofNat q), .int (Int32.ofNat len)] 7)) (s₁.setTop (mkF m 0 #[.val (.ref b), .val (.int (Int32.ofNat o)), .val (.ref d), .val (.int (Int32.ofNat q)), .val (.int (Int32.ofNat len)), .unset, .unset] [])) := entry rfl
  have hA0 := hA.1.mv X0.warmed.alike hh0
  have hB0 := hB.mv X0.warmed.alike hh0
  have a31 := hA.1.2.2.2
  have c2 : Steps p.tables e below (s₁.setTop (entryFrame m #[.ref b, .int (Int32.ofNat o), .ref d, .int (Int32.ofNat q), .int (Int32.ofNat len)] 7)) (s₁.setTop (mkF m 3 #[.val (.ref b), .val (.int (Int32.ofNat o)), .val (.ref d), .val (.int (Int32.ofNat q)), .val (.int (Int32.ofNat len)), .val (.int 0), .unset] [])) := c1.trans (by
    refine iconstV X0.here hexec rfl 0 (hb hbytes d0) (by decide) ?_
    refine XS.istore X0.here hexec rfl (hb hbytes d1) rfl rfl ?_
    exact Steps.refl _)
  have loop : ∀ (r i : Nat), i + r = len → ∀ (z : Slot), (z = .unset ∨ ∃ w, z = .val w ∧ w.category = 1) → ∀ (Tl : State) (Bk : Cell), Stand p l e { frames := 0, locals := 0, cells := 0, slots := 0 } s m #[.ref b, .int (Int32.ofNat o), .ref d, .int (Int32.ofNat q), .int (Int32.ofNat len)] below meth c Tl ([] ++ copyLocs d q i) 0 0 → Put d Bk s₁ Tl → Laid B Bk q (q + i) (fun j => Value.int (lo8 (cv A (o + (j - q))))) →
      Steps p.tables e below (s₁.setTop (entryFrame m #[.ref b, .int (Int32.ofNat o), .ref d, .int (Int32.ofNat q), .int (Int32.ofNat len)] 7)) (Tl.setTop (mkF m 3 #[.val (.ref b), .val (.int (Int32.ofNat (o + i))), .val (.ref d), .val (.int (Int32.ofNat (q + i))), .val (.int (Int32.ofNat len)), .val (.int (Int32.ofNat i)), z] [])) → ∃ (T' : State) (B' : Cell) (z' : Slot), Stand p l e { frames := 0, locals := 0, cells := 0, slots := 0 } s m #[.ref b, .int (Int32.ofNat o), .ref d, .int (Int32.ofNat q), .int (Int32.ofNat len)] below meth c T' ([] ++ copyLocs d q len) 0 0 ∧ Put d B' s₁ T' ∧ Laid B B' q (q + len) (fun j => Value.int (lo8 (cv A (o + (j - q))))) ∧
      Steps p.tables e below (s₁.setTop (entryFrame m #[.ref b, .int (Int32.ofNat o), .ref d, .int (Int32.ofNat q), .int (Int32.ofNat len)] 7)) (T'.setTop (mkF m 3 #[.val (.ref b), .val (.int (Int32.ofNat (o + len))), .val (.ref d), .val (.int (Int32.ofNat (q + len))), .val (.int (Int32.ofNat len)), .val (.int (Int32.ofNat len)), z'] [])) := by
    intro r
    induction r with
    | zero =>
      intro i hi z hz Tl Bk Xl pl fl cl
      have hil : i = len := by omega
      rw [hil] at Xl fl cl
      exact ⟨Tl, Bk, z, Xl, pl, fl, cl⟩
    | succ r ih =>
      intro i hi z hz Tl Bk Xl pl fl cl
      have all := X0.warmed.alike.symm.trans Xl.warmed.alike
      have hAl := hA0.keep all (pl.other hne hA0.1)
      have hBk := hB0.like all pl.1 fl.1 fl.2.1 fl.2.2.1
      have hlt : q + i < Bk.slots.size := by rw [fl.2.2.1]; omega
      have c3 : Steps p.tables e below (s₁.setTop (entryFrame m #[.ref b, .int (Int32.ofNat o), .ref d, .int (Int32.ofNat q), .int (Int32.ofNat len)] 7)) (Tl.setTop (mkF m 12 #[.val (.ref b), .val (.int (Int32.ofNat (o + i))), .val (.ref d), .val (.int (Int32.ofNat (q + i))), .val (.int (Int32.ofNat len)), .val (.int (Int32.ofNat i)), z] [.int (Int32.ofNat (o + i)), .ref b])) := cl.trans (by
        refine XS.iload Xl.here hexec rfl (hb hbytes d3) rfl ?_
        refine XS.iload Xl.here hexec rfl (hb hbytes d5) rfl ?_
        refine XS.icmpNo Xl.here hexec rfl (hb hbytes d7) rfl (ii_ge_f (lt32 (by omega) (by omega))) ?_
        refine XS.aloadN Xl.here hexec rfl (hb hbytes d10) rfl rfl ?_
        refine XS.iloadN Xl.here hexec rfl (hb hbytes d11) rfl ?_
        exact Steps.refl _)
      have c4 : Steps p.tables e below (s₁.setTop (entryFrame m #[.ref b, .int (Int32.ofNat o), .ref d, .int (Int32.ofNat q), .int (Int32.ofNat len)] 7)) (Tl.setTop (mkF m 13 #[.val (.ref b), .val (.int (Int32.ofNat (o + i))), .val (.ref d), .val (.int (Int32.ofNat (q + i))), .val (.int (Int32.ofNat len)), .val (.int (Int32.ofNat i)), z] [.int (cv A (o + i))])) := c3.trans (by
        refine Xl.aget hexec hAl rfl (hA.get (i := o + i) (by omega)) rfl rfl (hb hbytes d12) ?_
        exact Steps.refl _)
      have c5 : Steps p.tables e below (s₁.setTop (entryFrame m #[.ref b, .int (Int32.ofNat o), .ref d, .int (Int32.ofNat q), .int (Int32.ofNat len)] 7)) (Tl.setTop (mkF m 15 #[.val (.ref b), .val (.int (Int32.ofNat (o + i))), .val (.ref d), .val (.int (Int32.ofNat (q + i))), .val (.int (Int32.ofNat len)), .val (.int (Int32.ofNat i)), .val (.int (cv A (o + i)))] [])) := c4.trans (by
        refine XS.istoreS Xl.here hexec rfl (hb hbytes d13) rfl rfl hz ?_
        exact Steps.refl _)
      have c6 : Steps p.tables e below (s₁.setTop (entryFrame m #[.ref b, .int (Int32.ofNat o), .ref d, .int (Int32.ofNat q), .int (Int32.ofNat len)] 7)) (Tl.setTop (mkF m 31 #[.val (.ref b), .val (.int (Int32.ofNat (o + i))), .val (.ref d), .val (.int (Int32.ofNat (q + i))), .val (.int (Int32.ofNat len)), .val (.int (Int32.ofNat i)), .val (.int (cv A (o + i)))] [.int (lo8 (cv A (o + i))), .int (Int32.ofNat (q + i)), .ref d])) := c5.trans (by
        refine XS.iload Xl.here hexec rfl (hb hbytes d15) rfl ?_
        refine sipushV Xl.here hexec rfl 255 (hb hbytes d17) (by decide) ?_
        refine XS.icmpYes Xl.here hexec rfl (pc0 := 20) rfl (hb hbytes d20) rfl (ii_le_t (hp i (by omega))) (by decide) rfl ?_
        refine XS.aloadN Xl.here hexec rfl (hb hbytes d26) rfl rfl ?_
        refine XS.iloadN Xl.here hexec rfl (hb hbytes d27) rfl ?_
        refine XS.iload Xl.here hexec rfl (hb hbytes d28) rfl ?_
        refine i2b Xl.here hexec rfl (hb hbytes d30) rfl ?_
        exact Steps.refl _)
      obtain ⟨T7, X7, p7, st7⟩ := Xl.aput hexec hBk rfl hlt rfl (fits_lo8 (cv A (o + i))) (g := (mkF m 31 #[.val (.ref b), .val (.int (Int32.ofNat (o + i))), .val (.ref d), .val (.int (Int32.ofNat (q + i))), .val (.int (Int32.ofNat len)), .val (.int (Int32.ofNat i)), .val (.int (cv A (o + i)))] [.int (lo8 (cv A (o + i))), .int (Int32.ofNat (q + i)), .ref d])) rfl (rest := []) rfl (hb hbytes d31)
      have c8 : Steps p.tables e below (s₁.setTop (entryFrame m #[.ref b, .int (Int32.ofNat o), .ref d, .int (Int32.ofNat q), .int (Int32.ofNat len)] 7)) (T7.setTop (mkF m 32 #[.val (.ref b), .val (.int (Int32.ofNat (o + i))), .val (.ref d), .val (.int (Int32.ofNat (q + i))), .val (.int (Int32.ofNat len)), .val (.int (Int32.ofNat i)), .val (.int (cv A (o + i)))] [])) := c6.trans (st7 _ (Steps.refl _))
      have c9 : Steps p.tables e below (s₁.setTop (entryFrame m #[.ref b, .int (Int32.ofNat o), .ref d, .int (Int32.ofNat q), .int (Int32.ofNat len)] 7)) (T7.setTop (mkF m 3 #[.val (.ref b), .val (.int (Int32.ofNat (o + i) + 1)), .val (.ref d), .val (.int (Int32.ofNat (q + i) + 1)), .val (.int (Int32.ofNat len)), .val (.int (Int32.ofNat i + 1)), .val (.int (cv A (o + i)))] [])) := c8.trans (by
        refine iincV X7.here hexec rfl 1 (hb hbytes d32) (by decide) rfl rfl ?_
        refine iincV X7.here hexec rfl 1 (hb hbytes d35) (by decide) rfl rfl ?_
        refine iincV X7.here hexec rfl 1 (hb hbytes d38) (by decide) rfl rfl ?_
        refine XS.goto X7.here hexec rfl (pc0 := 41) rfl (hb hbytes d41) (by decide) rfl ?_
        exact Steps.refl _)
      have c10 : Steps p.tables e below (s₁.setTop (entryFrame m #[.ref b, .int (Int32.ofNat o), .ref d, .int (Int32.ofNat q), .int (Int32.ofNat len)] 7)) (T7.setTop (mkF m 3 #[.val (.ref b), .val (.int (Int32.ofNat (o + (i + 1)))), .val (.ref d), .val (.int (Int32.ofNat (q + (i + 1)))), .val (.int (Int32.ofNat len)), .val (.int (Int32.ofNat (i + 1))), .val (.int (cv A (o + i)))] [])) := by
        have := c9
        rw [succ32, succ32, succ32] at this
        exact this
      exact ih (i + 1) (by omega) _ (Or.inr ⟨_, rfl, rfl⟩) T7 _ (by rw [copyLocs_step, ← List.append_assoc]; exact X7) (pl.trans p7) (fl.step (by omega) hlt (by simp)) c10
  obtain ⟨T9, B9, z9, X9, p9, f9, g9⟩ := loop len 0 (by omega) .unset (Or.inl rfl) s₁ B (by simpa [copyLocs] using X0) ⟨hB0.1, fun _ _ => rfl, rfl⟩ (Laid.zero _ _ _) c2
  have c11 : Steps p.tables e below (s₁.setTop (entryFrame m #[.ref b, .int (Int32.ofNat o), .ref d, .int (Int32.ofNat q), .int (Int32.ofNat len)] 7)) (T9.setTop (mkF m 46 #[.val (.ref b), .val (.int (Int32.ofNat (o + len))), .val (.ref d), .val (.int (Int32.ofNat (q + len))), .val (.int (Int32.ofNat len)), .val (.int (Int32.ofNat len)), z9] [.int (Int32.ofNat len)])) := g9.trans (by
    refine XS.iload X9.here hexec rfl (hb hbytes d3) rfl ?_
    refine XS.iload X9.here hexec rfl (hb hbytes d5) rfl ?_
    refine XS.icmpYes X9.here hexec rfl (pc0 := 7) rfl (hb hbytes d7) rfl (ii_ge_t (nlt32 (by omega) (Nat.le_refl _))) (by decide) rfl ?_
    refine XS.iload X9.here hexec rfl (hb hbytes d44) rfl ?_
    exact Steps.refl _)
  exact ⟨T9, some (.int (Int32.ofNat len)), _, _, _, X9, by simp, rfl, rfl, (fun h => by cases h), ⟨rfl, B9, p9.from hh0, f9⟩, fun fs hl => c11.trans (X9.ireturnOut hexec hret rfl (Or.inl rfl) (hb hbytes d46) hl)⟩
end Cmp5
namespace Cmp3
def yN : MethodName := ⟨"java/lang/StringUTF16", "compress", "([CII)[B"⟩
abbrev yB : ByteArray := jdk_52_method_16_code
theorem d0 : decode yB 0 = .ok (.iload_n 2, 1) := by decide +kernel
theorem d1 : decode yB 1 = .ok (.newarray .byte, 2) := by decide +kernel
theorem d3 : decode yB 3 = .ok (.astore_n 3, 1) := by decide +kernel
theorem d4 : decode yB 4 = .ok (.aload_n 0, 1) := by decide +kernel
theorem d5 : decode yB 5 = .ok (.iload_n 1, 1) := by decide +kernel
theorem d6 : decode yB 6 = .ok (.aload_n 3, 1) := by decide +kernel
theorem d7 : decode yB 7 = .ok (.iconst 0, 1) := by decide +kernel
theorem d8 : decode yB 8 = .ok (.iload_n 2, 1) := by decide +kernel
theorem d9 : decode yB 9 = .ok (.invokestatic 115, 3) := by decide +kernel
theorem d12 : decode yB 12 = .ok (.istore 4, 2) := by decide +kernel
theorem d14 : decode yB 14 = .ok (.iload 4, 2) := by decide +kernel
theorem d16 : decode yB 16 = .ok (.iload_n 2, 1) := by decide +kernel
theorem d17 : decode yB 17 = .ok (.if_icmp (.eq) 40, 3) := by decide +kernel
theorem d57 : decode yB 57 = .ok (.aload_n 3, 1) := by decide +kernel
theorem d58 : decode yB 58 = .ok (.areturn, 1) := by decide +kernel
def site : List Cond := [.arrayClass .byte, Cmp5.tab] ++ staticW U16 115 Cmp5.yN
def tab : Cond := tabOf yN yB 6 (some (.array .byte)) site
def P (b : Addr) (A : Cell) (o len : Nat) (args : Array Value) (s : State) : Prop := args = #[.ref b, .int (Int32.ofNat o), .int (Int32.ofNat len)] ∧ Ch b A s ∧ o + len ≤ A.slots.size ∧ len ≤ 536870912 ∧ ∀ i, i < len → ¬ 255 < cv A (o + i)
def E (b : Addr) (A : Cell) (o len : Nat) (r : Option Value) (s u : State) : Prop := NewArr .byte "[B" len (fun j => .int (lo8 (cv A (o + j)))) r s u ∧ u.heap.size = s.heap.size + 1
/-- no char of the range above 255: a new byte[] of their low bytes -/
theorem law (l : Launch) (b : Addr) (A : Cell) (o len : Nat) : Law l yN 3 3 1 18 yB 6 (some (.array .byte)) site (P b A o len) (E b A o len) [] 1 len := by
  refine Law.of_walk (plainFor_of_name (by decide +kernel)) (by decide +kernel) (by decide +kernel) (by decide) (fun _ _ h => by rw [h.1]; rfl) (fun _ U U' hal hh h => ⟨h.1, h.2.1.mv hal hh, h.2.2⟩) (fun r U U' V V' h1 hal h2 h => ⟨NewArr.mv r U U' V V' h1 hal h2 h.1, by rw [h1, h2]; exact h.2⟩) ?_
  intro p e s m args below meth c s₁ X0 hexec hbytes hml hret hlk hnm hown hh0 W hP
  obtain ⟨rfl, hA, l1, l2, hp⟩ := hP
  have a31 := hA.1.2.2.2
  have c1 : Steps p.tables e below (s₁.setTop (entryFrame m #[.ref b, .int (Int32.ofNat o), .int (Int32.ofNat len)] 6)) (s₁.setTop (mkF m 0 #[.val (.ref b), .val (.int (Int32.ofNat o)), .val (.int (Int32.ofNat len)), .unset, .unset, .unset] [])) := entry rfl
  have c2 : Steps p.tables e below (s₁.setTop (entryFrame m #[.ref b, .int (Int32.ofNat o), .int (Int32.ofNat len)] 6)) (s₁.setTop (mkF m 1 #[.val (.ref b), .val (.int (Int32.ofNat o)), .val (.int (Int32.ofNat len)), .unset, .unset, .unset] [.int (Int32.ofNat len)])) := c1.trans (by
    refine XS.iloadN X0.here hexec rfl (hb hbytes d0) rfl ?_
    exact Steps.refl _)
  obtain ⟨T3, B3, X3, ba3, bs3, bv3, bh3, bf3, st3⟩ := X0.anew hexec (atype := .byte) (wk W (.arrayClass .byte)) rfl (by show len * 1 ≤ _; omega) (by omega) (g := (mkF m 1 #[.val (.ref b), .val (.int (Int32.ofNat o)), .val (.int (Int32.ofNat len)), .unset, .unset, .unset] [.int (Int32.ofNat len)])) rfl (hb hbytes d1) (rest := []) rfl (Nat.le_refl _) (by show 0 + len ≤ len; omega)
  rw [hh0] at ba3 st3
  have kp3 : XT.Kept s T3 := (XT.Kept.of_eq hh0).push bh3
  have hA3 := hA.keep X3.warmed.alike (kp3 _ _ hA.1.1)
  have hne : b ≠ s.heap.size := hA.1.ne
  have c4 : Steps p.tables e below (s₁.setTop (entryFrame m #[.ref b, .int (Int32.ofNat o), .int (Int32.ofNat len)] 6)) (T3.setTop (mkF m 3 #[.val (.ref b), .val (.int (Int32.ofNat o)), .val (.int (Int32.ofNat len)), .unset, .unset, .unset] [.ref s.heap.size])) := c2.trans (st3 _ (Steps.refl _))
  have c5 : Steps p.tables e below (s₁.setTop (entryFrame m #[.ref b, .int (Int32.ofNat o), .int (Int32.ofNat len)] 6)) (T3.setTop (mkF m 9 #[.val (.ref b), .val (.int (Int32.ofNat o)), .val (.int (Int32.ofNat len)), .val (.ref s.heap.size), .unset, .unset] [.int (Int32.ofNat len), .int 0, .ref s.heap.size, .int (Int32.ofNat o), .ref b])) := c4.trans (by
    refine XS.astoreN X3.here hexec rfl (hb hbytes d3) rfl rfl rfl ?_
    refine XS.aloadN X3.here hexec rfl (hb hbytes d4) rfl rfl ?_
    refine XS.iloadN X3.here hexec rfl (hb hbytes d5) rfl ?_
    refine XS.aloadN X3.here hexec rfl (hb hbytes d6) rfl rfl ?_
    refine iconstV X3.here hexec rfl 0 (hb hbytes d7) (by decide) ?_
    refine XS.iloadN X3.here hexec rfl (hb hbytes d8) rfl ?_
    exact Steps.refl _)
  obtain ⟨v6, T6, X6, E6, g6⟩ := X3.callS hexec (Cmp5.law l b A s.heap.size B3 o 0 len) hown (wks W (staticW U16 115 Cmp5.yN)) (wk W Cmp5.tab) (W := 0) (Nat.le_of_ble_eq_true rfl) (Nat.le_of_ble_eq_true rfl) (Nat.le_refl _) (by show 0 + len + 0 ≤ len; omega) (g := (mkF m 9 #[.val (.ref b), .val (.int (Int32.ofNat o)), .val (.int (Int32.ofNat len)), .val (.ref s.heap.size), .unset, .unset] [.int (Int32.ofNat len), .int (Int32.ofNat 0), .ref s.heap.size, .int (Int32.ofNat o), .ref b])) rfl (by rw [hml]; rfl) c5 (argsL := [.ref b, .int (Int32.ofNat o), .ref s.heap.size, .int (Int32.ofNat 0), .int (Int32.ofNat len)]) (rest := []) rfl rfl (by show 2 * 0 + 0 ≤ _; decide) (hb hbytes d9) (⟨rfl, hA3, ba3, hne, l1, by rw [bs3]; simp, hp⟩)
  obtain ⟨rfl, B6, p6, f6⟩ := E6
  have c7 : Steps p.tables e below (s₁.setTop (entryFrame m #[.ref b, .int (Int32.ofNat o), .int (Int32.ofNat len)] 6)) (T6.setTop (mkF m 12 #[.val (.ref b), .val (.int (Int32.ofNat o)), .val (.int (Int32.ofNat len)), .val (.ref s.heap.size), .unset, .unset] [.int (Int32.ofNat len)])) := g6
  have c8 : Steps p.tables e below (s₁.setTop (entryFrame m #[.ref b, .int (Int32.ofNat o), .int (Int32.ofNat len)] 6)) (T6.setTop (mkF m 58 #[.val (.ref b), .val (.int (Int32.ofNat o)), .val (.int (Int32.ofNat len)), .val (.ref s.heap.size), .val (.int (Int32.ofNat len)), .unset] [.ref s.heap.size])) := c7.trans (by
    refine XS.istore X6.here hexec rfl (hb hbytes d12) rfl rfl ?_
    refine XS.iload X6.here hexec rfl (hb hbytes d14) rfl ?_
    refine XS.iloadN X6.here hexec rfl (hb hbytes d16) rfl ?_
    refine XS.icmpYes X6.here hexec rfl (pc0 := 17) rfl (hb hbytes d17) rfl (ii_eq_t rfl) (by decide) rfl ?_
    refine XS.aloadN X6.here hexec rfl (hb hbytes d57) rfl rfl ?_
    exact Steps.refl _)
  have X8 := X6.wide (L' := []) (cells' := 1) (slots' := len) (fun x hx hlt => by
    simp only [List.nil_append, copyLocs, List.mem_map, List.mem_range] at hx
    obtain ⟨i, -, rfl⟩ := hx
    exact absurd hlt (Nat.lt_irrefl _)) (Nat.le_refl _) (by omega)
  exact ⟨T6, some (.ref s.heap.size), _, _, _, X8, rfl, rfl, rfl, (fun h => by cases h), ⟨⟨rfl, B6, ba3.like (X3.warmed.alike.symm.trans X6.warmed.alike) p6.1 f6.1 f6.2.1 f6.2.2.1, f6.2.1.trans bv3, by rw [X6.warmed.alike.findClass, f6.1]; exact bf3, by rw [f6.2.2.1, bs3]; simp, fun j hj => by rw [f6.2.2.2 j, if_pos (by omega)]; rfl, kp3.put p6 (Nat.le_refl _)⟩, by rw [p6.2.2, bh3, hh0]; simp⟩, fun fs hl => c8.trans (X8.areturnOut hexec rfl hret rfl (hb hbytes d58) hl)⟩
end Cmp3
namespace CodL
def yN : MethodName := ⟨"java/lang/StringUTF16", "coderFromArrayLen", "([BI)B"⟩
abbrev yB : ByteArray := jdk_52_method_15_code
theorem d0 : decode yB 0 = .ok (.iload_n 1, 1) := by decide +kernel
theorem d1 : decode yB 1 = .ok (.aload_n 0, 1) := by decide +kernel
theorem d2 : decode yB 2 = .ok (.arraylength, 1) := by decide +kernel
theorem d3 : decode yB 3 = .ok (.isub, 1) := by decide +kernel
theorem d4 : decode yB 4 = .ok (.bipush 31, 2) := by decide +kernel
theorem d6 : decode yB 6 = .ok (.iushr, 1) := by decide +kernel
theorem d7 : decode yB 7 = .ok (.i2b, 1) := by decide +kernel
theorem d8 : decode yB 8 = .ok (.ireturn, 1) := by decide +kernel
def site : List Cond := []
def tab : Cond := tabOf yN yB 2 (some .byte) site
def P (d : Addr) (B : Cell) (args : Array Value) (s : State) : Prop := args = #[.ref d, .int (Int32.ofNat B.slots.size)] ∧ Arr .byte d B s
def E (r : Option Value) (s u : State) : Prop := XT.PureE (some (.int 0)) r s u
/-- an array as long as the number of chars: LATIN1 -/
theorem law (l : Launch) (d : Addr) (B : Cell) : Law l yN 2 2 0 0 yB 2 (some .byte) site (P d B) E [] 0 0 := by
  refine Law.of_walk (plainFor_of_name (by decide +kernel)) (by decide +kernel) (by decide +kernel) (by decide) (fun _ _ h => by rw [h.1]; rfl) (fun _ U U' hal hh h => ⟨h.1, h.2.mv hal hh⟩) (fun r U U' V V' h1 hal h2 h => XT.PureE.mv r U U' V V' h1 hal h2 h) ?_
  intro p e s m args below meth c s₁ X0 hexec hbytes hml hret hlk hnm hown hh0 W hP
  obtain ⟨rfl, hB⟩ := hP
  have hB0 := hB.mv X0.warmed.alike hh0
  have c1 : Steps p.tables e below (s₁.setTop (entryFrame m #[.ref d, .int (Int32.ofNat B.slots.size)] 2)) (s₁.setTop (mkF m 0 #[.val (.ref d), .val (.int (Int32.ofNat B.slots.size))] [])) := entry rfl
  have c2 : Steps p.tables e below (s₁.setTop (entryFrame m #[.ref d, .int (Int32.ofNat B.slots.size)] 2)) (s₁.setTop (mkF m 2 #[.val (.ref d), .val (.int (Int32.ofNat B.slots.size))] [.ref d, .int (Int32.ofNat B.slots.size)])) := c1.trans (by
    refine XS.iloadN X0.here hexec rfl (hb hbytes d0) rfl ?_
    refine XS.aloadN X0.here hexec rfl (hb hbytes d1) rfl rfl ?_
    exact Steps.refl _)
  have c3 : Steps p.tables e below (s₁.setTop (entryFrame m #[.ref d, .int (Int32.ofNat B.slots.size)] 2)) (s₁.setTop (mkF m 8 #[.val (.ref d), .val (.int (Int32.ofNat B.slots.size))] [.int (lo8 (ushr (Int32.ofNat B.slots.size - Int32.ofNat B.slots.size) 31))])) := c2.trans (by
    refine X0.alen hexec hB0 rfl rfl (hb hbytes d2) ?_
    refine XS.isub X0.here hexec rfl (hb hbytes d3) rfl ?_
    refine bipushV X0.here hexec rfl 31 (hb hbytes d4) (by decide) ?_
    refine iushr X0.here hexec rfl (hb hbytes d6) rfl ?_
    refine i2b X0.here hexec rfl (hb hbytes d7) rfl ?_
    exact Steps.refl _)
  have e0 : lo8 (ushr (Int32.ofNat B.slots.size - Int32.ofNat B.slots.size) 31) = 0 := by rw [Int32.sub_self]; decide
  rw [e0] at c3
  exact ⟨s₁, some (.int 0), _, _, _, X0, rfl, rfl, rfl, (fun h => by cases h), ⟨rfl, hh0⟩, fun fs hl => c3.trans (X0.ireturnOut hexec hret rfl (Or.inr (Or.inr (Or.inl rfl))) (hb hbytes d8) hl)⟩
end CodL
/-- the String at a is Latin-1 over a new byte[] (the heap's one new cell): the low bytes of the len chars of A from o on; every cell but a is kept -/
def Got (a : Addr) (D : Cell) (fV fC : Field) (A : Cell) (o len : Nat) (r : Option Value) (s u : State) : Prop := r = none ∧ ∃ D' V : Cell, Blank "java/lang/String" a D' u ∧ Same D D' [fV.slot, fC.slot] ∧ D'.slots[fV.slot]? = some (.ref s.heap.size) ∧ D'.slots[fC.slot]? = some (.int 0) ∧ Arr .byte s.heap.size V u ∧ V.vm = .none ∧ u.vm.findClass "[B" = some V.cls ∧ V.slots.size = len ∧ (∀ j, j < len → V.slots[j]? = some (.int (lo8 (cv A (o + j))))) ∧ (∀ (y : Addr) (c : Cell), y ≠ a → s.heap[y]? = some c → u.heap[y]? = some c) ∧ u.heap.size = s.heap.size + 1
theorem Got.mv {a : Addr} {D A : Cell} {fV fC : Field} {o len : Nat} : ∀ r (U U' V V' : State), U'.heap = U.heap → V.vm.Alike V'.vm → V'.heap = V.heap → Got a D fV fC A o len r U V → Got a D fV fC A o len r U' V' :=
  fun r U U' V V' h1 hal h2 ⟨e0, D', X, a1, a2, a3, a4, a5, a6, a7, a8, a9, a10, a11⟩ => ⟨e0, D', X, a1.mv hal h2, a2, by rw [h1]; exact a3, a4, by rw [h1]; exact a5.mv hal h2, a6, by rw [hal.findClass]; exact a7, a8, a9, by rw [h1, h2]; exact a10, by rw [h1, h2]; exact a11⟩
namespace New4
def yN : MethodName := ⟨"java/lang/String", "<init>", "([CIILjava/lang/Void;)V"⟩
abbrev yB : ByteArray := jdk_42_method_149_code
theorem d0 : decode yB 0 = .ok (.aload_n 0, 1) := by decide +kernel
theorem d1 : decode yB 1 = .ok (.invokespecial 1, 3) := by decide +kernel
theorem d4 : decode yB 4 = .ok (.iload_n 3, 1) := by decide +kernel
theorem d5 : decode yB 5 = .ok (.ifCond (.ne) 22, 3) := by decide +kernel
theorem d27 : decode yB 27 = .ok (.getstatic 38, 3) := by decide +kernel
theorem d30 : decode yB 30 = .ok (.ifCond (.eq) 28, 3) := by decide +kernel
theorem d33 : decode yB 33 = .ok (.aload_n 1, 1) := by decide +kernel
theorem d34 : decode yB 34 = .ok (.iload_n 2, 1) := by decide +kernel
theorem d35 : decode yB 35 = .ok (.iload_n 3, 1) := by decide +kernel
theorem d36 : decode yB 36 = .ok (.invokestatic 177, 3) := by decide +kernel
theorem d39 : decode yB 39 = .ok (.astore 5, 2) := by decide +kernel
theorem d41 : decode yB 41 = .ok (.aload_n 0, 1) := by decide +kernel
theorem d42 : decode yB 42 = .ok (.aload 5, 2) := by decide +kernel
theorem d44 : decode yB 44 = .ok (.iload_n 3, 1) := by decide +kernel
theorem d45 : decode yB 45 = .ok (.invokestatic 47, 3) := by decide +kernel
theorem d48 : decode yB 48 = .ok (.putfield 15, 3) := by decide +kernel
theorem d51 : decode yB 51 = .ok (.aload_n 0, 1) := by decide +kernel
theorem d52 : decode yB 52 = .ok (.aload 5, 2) := by decide +kernel
theorem d54 : decode yB 54 = .ok (.putfield 9, 3) := by decide +kernel
theorem d57 : decode yB 57 = .ok (.return_, 1) := by decide +kernel
def site : List Cond := [.fieldLink "java/lang/String" 38 "java/lang/String" "COMPACT_STRINGS" "Z", Cmp3.tab, CodL.tab, .laysFinal "java/lang/String" "java/lang/String" "value" "[B", .fieldLink "java/lang/String" 9 "java/lang/String" "value" "[B", .laysFinal "java/lang/String" "java/lang/String" "coder" "B", .fieldLink "java/lang/String" 15 "java/lang/String" "coder" "B"] ++ objW "java/lang/String" 1 ++ staticW "java/lang/String" 177 Cmp3.yN ++ staticW "java/lang/String" 47 CodL.yN
def tab : Cond := tabOf yN yB 6 none site
def P (a : Addr) (D : Cell) (fV fC : Field) (b : Addr) (A : Cell) (z : Int32) (o len : Nat) (args : Array Value) (s : State) : Prop := args = #[.ref a, .ref b, .int (Int32.ofNat o), .int (Int32.ofNat len), .null] ∧ Blank "java/lang/String" a D s ∧ Found "java/lang/String" "value" "[B" fV s ∧ Found "java/lang/String" "coder" "B" fC s ∧ Ch b A s ∧ StaticIs s "java/lang/String" "COMPACT_STRINGS" "Z" (.int z) ∧ ¬ z = 0 ∧ 0 < len ∧ o + len ≤ A.slots.size ∧ len ≤ 536870912 ∧ ∀ i, i < len → ¬ 255 < cv A (o + i)
def E (a : Addr) (D : Cell) (fV fC : Field) (A : Cell) (o len : Nat) (r : Option Value) (s u : State) : Prop := Got a D fV fC A o len r s u
/-- len > 0, no char of the range above 255: a Latin-1 String of their low bytes -/
theorem law (l : Launch) (a : Addr) (D : Cell) (fV fC : Field) (b : Addr) (A : Cell) (z : Int32) (o len : Nat) : Law l yN 5 4 2 35 yB 6 none site (P a D fV fC b A z o len) (E a D fV fC A o len) [⟨a, fC.slot⟩, ⟨a, fV.slot⟩] 1 len := by
  refine Law.of_walk (plainFor_of_name (by decide +kernel)) (by decide +kernel) (by decide +kernel) (by decide) (fun _ _ h => by rw [h.1]; rfl) (fun _ U U' hal hh h => ⟨h.1, h.2.1.mv hal hh, h.2.2.1.al hal, h.2.2.2.1.al hal, h.2.2.2.2.1.mv hal hh, h.2.2.2.2.2.1.there hal hh, h.2.2.2.2.2.2⟩) (fun r U U' V V' h1 hal h2 h => Got.mv r U U' V V' h1 hal h2 h) ?_
  intro p e s m args below meth c s₁ X0 hexec hbytes hml hret hlk hnm hown hh0 W hP
  obtain ⟨rfl, hB, f1, f2, hA, s1, hz, l0, l1, l2, hp⟩ := hP
  have a31 := hA.1.2.2.2
  have c1 : Steps p.tables e below (s₁.setTop (entryFrame m #[.ref a, .ref b, .int (Int32.ofNat o), .int (Int32.ofNat len), .null] 6)) (s₁.setTop (mkF m 0 #[.val (.ref a), .val (.ref b), .val (.int (Int32.ofNat o)), .val (.int (Int32.ofNat len)), .val .null, .unset] [])) := entry rfl
  have c2 : Steps p.tables e below (s₁.setTop (entryFrame m #[.ref a, .ref b, .int (Int32.ofNat o), .int (Int32.ofNat len), .null] 6)) (s₁.setTop (mkF m 1 #[.val (.ref a), .val (.ref b), .val (.int (Int32.ofNat o)), .val (.int (Int32.ofNat len)), .val .null, .unset] [.ref a])) := c1.trans (by
    refine XS.aloadN X0.here hexec rfl (hb hbytes d0) rfl rfl ?_
    exact Steps.refl _)
  obtain ⟨T3, X3, q3, st3⟩ := X0.oinit hexec hown (wks W (objW "java/lang/String" 1)) (g := (mkF m 1 #[.val (.ref a), .val (.ref b), .val (.int (Int32.ofNat o)), .val (.int (Int32.ofNat len)), .val .null, .unset] [.ref a])) rfl (by rw [hml]; rfl) (rest := []) rfl (hb hbytes d1) (W := 0) (by show 2 * 0 + 0 ≤ _; decide) (Nat.le_of_ble_eq_true rfl) (Nat.le_of_ble_eq_true rfl)
  have hh3 := q3.trans hh0
  have c4 : Steps p.tables e below (s₁.setTop (entryFrame m #[.ref a, .ref b, .int (Int32.ofNat o), .int (Int32.ofNat len), .null] 6)) (T3.setTop (mkF m 27 #[.val (.ref a), .val (.ref b), .val (.int (Int32.ofNat o)), .val (.int (Int32.ofNat len)), .val .null, .unset] [])) := (c2.trans (st3 _ (Steps.refl _))).trans (by
    refine XS.iloadN X3.here hexec rfl (hb hbytes d4) rfl ?_
    refine XS.ifYes X3.here hexec rfl (pc0 := 5) rfl (hb hbytes d5) rfl (i0_ne_t (nz32 (by omega) l0)) (by decide) rfl ?_
    exact Steps.refl _)
  obtain ⟨T5, X5, q5, st5⟩ := X3.sget hexec hown (wk W (.fieldLink "java/lang/String" 38 "java/lang/String" "COMPACT_STRINGS" "Z")) s1 (fun _ _ h => by rw [hh3]; exact h) (g := (mkF m 27 #[.val (.ref a), .val (.ref b), .val (.int (Int32.ofNat o)), .val (.int (Int32.ofNat len)), .val .null, .unset] [])) rfl (hb hbytes d27)
  have hh5 := q5.trans hh3
  have c6 : Steps p.tables e below (s₁.setTop (entryFrame m #[.ref a, .ref b, .int (Int32.ofNat o), .int (Int32.ofNat len), .null] 6)) (T5.setTop (mkF m 30 #[.val (.ref a), .val (.ref b), .val (.int (Int32.ofNat o)), .val (.int (Int32.ofNat len)), .val .null, .unset] [.int z])) := c4.trans (st5 _ (Steps.refl _))
  have c7 : Steps p.tables e below (s₁.setTop (entryFrame m #[.ref a, .ref b, .int (Int32.ofNat o), .int (Int32.ofNat len), .null] 6)) (T5.setTop (mkF m 36 #[.val (.ref a), .val (.ref b), .val (.int (Int32.ofNat o)), .val (.int (Int32.ofNat len)), .val .null, .unset] [.int (Int32.ofNat len), .int (Int32.ofNat o), .ref b])) := c6.trans (by
    refine XS.ifNo X5.here hexec rfl (hb hbytes d30) rfl (i0_eq_f hz) ?_
    refine XS.aloadN X5.here hexec rfl (hb hbytes d33) rfl rfl ?_
    refine XS.iloadN X5.here hexec rfl (hb hbytes d34) rfl ?_
    refine XS.iloadN X5.here hexec rfl (hb hbytes d35) rfl ?_
    exact Steps.refl _)
  obtain ⟨v8, T8, X8, E8, g8⟩ := X5.callS hexec (Cmp3.law l b A o len) hown (wks W (staticW "java/lang/String" 177 Cmp3.yN)) (wk W Cmp3.tab) (W := 0) (Nat.le_of_ble_eq_true rfl) (Nat.le_of_ble_eq_true rfl) (Nat.le_refl _) (by show 0 + len ≤ len; omega) (g := (mkF m 36 #[.val (.ref a), .val (.ref b), .val (.int (Int32.ofNat o)), .val (.int (Int32.ofNat len)), .val .null, .unset] [.int (Int32.ofNat len), .int (Int32.ofNat o), .ref b])) rfl (by rw [hml]; rfl) c7 (argsL := [.ref b, .int (Int32.ofNat o), .int (Int32.ofNat len)]) (rest := []) rfl rfl (by show 2 * 0 + 0 ≤ _; decide) (hb hbytes d36) (⟨rfl, hA.mv X5.warmed.alike hh5, l1, l2, hp⟩)
  obtain ⟨e8, z8⟩ := E8
  obtain ⟨rfl, N, n1, n2, n3, n4, n5, n6⟩ := NewArr.mv _ T5 s _ _ hh5.symm (Vm.Alike.refl _) rfl e8
  rw [hh5] at z8
  have hB1 := hB.keep X8.warmed.alike (n6 _ _ hB.1)
  have hne : s.heap.size ≠ a := (Nat.ne_of_lt (Array.getElem?_eq_some_iff.mp hB.1).1).symm
  have c9 : Steps p.tables e below (s₁.setTop (entryFrame m #[.ref a, .ref b, .int (Int32.ofNat o), .int (Int32.ofNat len), .null] 6)) (T8.setTop (mkF m 39 #[.val (.ref a), .val (.ref b), .val (.int (Int32.ofNat o)), .val (.int (Int32.ofNat len)), .val .null, .unset] [.ref s.heap.size])) := g8
  have c10 : Steps p.tables e below (s₁.setTop (entryFrame m #[.ref a, .ref b, .int (Int32.ofNat o), .int (Int32.ofNat len), .null] 6)) (T8.setTop (mkF m 45 #[.val (.ref a), .val (.ref b), .val (.int (Int32.ofNat o)), .val (.int (Int32.ofNat len)), .val .null, .val (.ref s.heap.size)] [.int (Int32.ofNat N.slots.size), .ref s.heap.size, .ref a])) := by
    have hc : Steps p.tables e below (s₁.setTop (entryFrame m #[.ref a, .ref b, .int (Int32.ofNat o), .int (Int32.ofNat len), .null] 6)) (T8.setTop (mkF m 45 #[.val (.ref a), .val (.ref b), .val (.int (Int32.ofNat o)), .val (.int (Int32.ofNat len)), .val .null, .val (.ref s.heap.size)] [.int (Int32.ofNat len), .ref s.heap.size, .ref a])) := c9.trans (by
      refine XS.astore X8.here hexec rfl (hb hbytes d39) rfl rfl rfl ?_
      refine XS.aloadN X8.here hexec rfl (hb hbytes d41) rfl rfl ?_
      refine XS.aload X8.here hexec rfl (hb hbytes d42) rfl rfl ?_
      refine XS.iloadN X8.here hexec rfl (hb hbytes d44) rfl ?_
      exact Steps.refl _)
    rw [n4]; exact hc
  obtain ⟨v11, T11, X11, E11, g11⟩ := X8.callS hexec (CodL.law l s.heap.size N) hown (wks W (staticW "java/lang/String" 47 CodL.yN)) (wk W CodL.tab) (W := 1) (Nat.le_of_ble_eq_true rfl) (Nat.le_of_ble_eq_true rfl) (Nat.le_refl _) (by show 0 + len + 0 ≤ len; omega) (g := (mkF m 45 #[.val (.ref a), .val (.ref b), .val (.int (Int32.ofNat o)), .val (.int (Int32.ofNat len)), .val .null, .val (.ref s.heap.size)] [.int (Int32.ofNat N.slots.size), .ref s.heap.size, .ref a])) rfl (by rw [hml]; rfl) c10 (argsL := [.ref s.heap.size, .int (Int32.ofNat N.slots.size)]) (rest := [.ref a]) rfl rfl (by show 2 * 0 + (1 + 0) ≤ _; decide) (hb hbytes d45) (⟨rfl, n1⟩)
  obtain ⟨rfl, q11⟩ := E11
  have hB11 := hB1.mv (X8.warmed.alike.symm.trans X11.warmed.alike) q11
  have c12 : Steps p.tables e below (s₁.setTop (entryFrame m #[.ref a, .ref b, .int (Int32.ofNat o), .int (Int32.ofNat len), .null] 6)) (T11.setTop (mkF m 48 #[.val (.ref a), .val (.ref b), .val (.int (Int32.ofNat o)), .val (.int (Int32.ofNat len)), .val .null, .val (.ref s.heap.size)] [.int 0, .ref a])) := g11
  obtain ⟨T13, X13, p13, bl13, sl13, st13⟩ := X11.finit hexec hown (wk W (.fieldLink "java/lang/String" 15 "java/lang/String" "coder" "B")) (Or.inr ⟨_, (wk W (.laysFinal "java/lang/String" "java/lang/String" "coder" "B"))⟩) (Or.inl ⟨rfl, hnm⟩) f2 (Or.inl rfl) hB11 (t := .byte) (by decide +kernel) rfl (g := (mkF m 48 #[.val (.ref a), .val (.ref b), .val (.int (Int32.ofNat o)), .val (.int (Int32.ofNat len)), .val .null, .val (.ref s.heap.size)] [.int 0, .ref a])) rfl (rest := []) rfl (hb hbytes d48)
  have c14 : Steps p.tables e below (s₁.setTop (entryFrame m #[.ref a, .ref b, .int (Int32.ofNat o), .int (Int32.ofNat len), .null] 6)) (T13.setTop (mkF m 54 #[.val (.ref a), .val (.ref b), .val (.int (Int32.ofNat o)), .val (.int (Int32.ofNat len)), .val .null, .val (.ref s.heap.size)] [.ref s.heap.size, .ref a])) := (c12.trans (st13 _ (Steps.refl _))).trans (by
    refine XS.aloadN X13.here hexec rfl (hb hbytes d51) rfl rfl ?_
    refine XS.aload X13.here hexec rfl (hb hbytes d52) rfl rfl ?_
    exact Steps.refl _)
  obtain ⟨T15, X15, p15, bl15, sl15, st15⟩ := X13.finit hexec hown (wk W (.fieldLink "java/lang/String" 9 "java/lang/String" "value" "[B")) (Or.inr ⟨_, (wk W (.laysFinal "java/lang/String" "java/lang/String" "value" "[B"))⟩) (Or.inl ⟨rfl, hnm⟩) f1 (Or.inl rfl) bl13 (t := (.array .byte)) (by decide +kernel) rfl (g := (mkF m 54 #[.val (.ref a), .val (.ref b), .val (.int (Int32.ofNat o)), .val (.int (Int32.ofNat len)), .val .null, .val (.ref s.heap.size)] [.ref s.heap.size, .ref a])) rfl (rest := []) rfl (hb hbytes d54)
  have c16 : Steps p.tables e below (s₁.setTop (entryFrame m #[.ref a, .ref b, .int (Int32.ofNat o), .int (Int32.ofNat len), .null] 6)) (T15.setTop (mkF m 57 #[.val (.ref a), .val (.ref b), .val (.int (Int32.ofNat o)), .val (.int (Int32.ofNat len)), .val .null, .val (.ref s.heap.size)] [])) := c14.trans (st15 _ (Steps.refl _))
  have ap := apart (Or.inr ⟨_, (wk W (.laysFinal "java/lang/String" "java/lang/String" "value" "[B"))⟩) (Or.inr ⟨_, (wk W (.laysFinal "java/lang/String" "java/lang/String" "coder" "B"))⟩) f1 f2 (t₁ := .array .byte) (t₂ := .byte) (by decide +kernel) (by decide +kernel) (by decide)
  have al := X8.warmed.alike.symm.trans X15.warmed.alike
  have n7 : T11.heap[s.heap.size]? = some N := by rw [q11]; exact n1.1
  exact ⟨T15, none, _, _, _, X15, by simp, rfl, by omega, (fun _ => rfl), ⟨rfl, _, N, bl15, ((Same.refl D _).set _ (by simp)).set _ (by simp), sl15, (Cell.slots_setSlot_ne _ ap).trans sl13, n1.keep al (p15.other hne (p13.other hne n7)), n2, by rw [al.findClass]; exact n3, n4, n5, fun y c h1 h2 => p15.other h1 (p13.other h1 (by rw [q11]; exact n6 y c h2)), by rw [p15.2.2, p13.2.2, q11]; exact z8⟩, fun fs hl => c16.trans (X15.returnOut hexec hret (hb hbytes d57) hl)⟩
end New4
namespace New1
def yN : MethodName := ⟨"java/lang/String", "<init>", "([C)V"⟩
abbrev yB : ByteArray := jdk_42_method_3_code
theorem d0 : decode yB 0 = .ok (.aload_n 0, 1) := by decide +kernel
theorem d1 : decode yB 1 = .ok (.aload_n 1, 1) := by decide +kernel
theorem d2 : decode yB 2 = .ok (.iconst 0, 1) := by decide +kernel
theorem d3 : decode yB 3 = .ok (.aload_n 1, 1) := by decide +kernel
theorem d4 : decode yB 4 = .ok (.arraylength, 1) := by decide +kernel
theorem d5 : decode yB 5 = .ok (.aconst_null, 1) := by decide +kernel
theorem d6 : decode yB 6 = .ok (.invokespecial 27, 3) := by decide +kernel
theorem d9 : decode yB 9 = .ok (.return_, 1) := by decide +kernel
def site : List Cond := [New4.tab] ++ initW "java/lang/String" 27 New4.yN
def tab : Cond := tabOf yN yB 2 none site
def P (a : Addr) (D : Cell) (fV fC : Field) (b : Addr) (A : Cell) (z : Int32) (args : Array Value) (s : State) : Prop := args = #[.ref a, .ref b] ∧ Blank "java/lang/String" a D s ∧ Found "java/lang/String" "value" "[B" fV s ∧ Found "java/lang/String" "coder" "B" fC s ∧ Ch b A s ∧ StaticIs s "java/lang/String" "COMPACT_STRINGS" "Z" (.int z) ∧ ¬ z = 0 ∧ 0 < A.slots.size ∧ A.slots.size ≤ 536870912 ∧ ∀ i, i < A.slots.size → ¬ 255 < cv A i
def E (a : Addr) (D : Cell) (fV fC : Field) (A : Cell) (r : Option Value) (s u : State) : Prop := Got a D fV fC A 0 A.slots.size r s u
/-- new String(chars), not empty, no char above 255: a Latin-1 String of their low bytes -/
theorem law (l : Launch) (a : Addr) (D : Cell) (fV fC : Field) (b : Addr) (A : Cell) (z : Int32) : Law l yN 2 1 3 52 yB 2 none site (P a D fV fC b A z) (E a D fV fC A) [⟨a, fC.slot⟩, ⟨a, fV.slot⟩] 1 A.slots.size := by
  refine Law.of_walk (plainFor_of_name (by decide +kernel)) (by decide +kernel) (by decide +kernel) (by decide) (fun _ _ h => by rw [h.1]; rfl) (fun _ U U' hal hh h => ⟨h.1, h.2.1.mv hal hh, h.2.2.1.al hal, h.2.2.2.1.al hal, h.2.2.2.2.1.mv hal hh, h.2.2.2.2.2.1.there hal hh, h.2.2.2.2.2.2⟩) (fun r U U' V V' h1 hal h2 h => Got.mv r U U' V V' h1 hal h2 h) ?_
  intro p e s m args below meth c s₁ X0 hexec hbytes hml hret hlk hnm hown hh0 W hP
  obtain ⟨rfl, hB, f1, f2, hA, s1, hz, l0, l2, hp⟩ := hP
  have c1 : Steps p.tables e below (s₁.setTop (entryFrame m #[.ref a, .ref b] 2)) (s₁.setTop (mkF m 0 #[.val (.ref a), .val (.ref b)] [])) := entry rfl
  have c2 : Steps p.tables e below (s₁.setTop (entryFrame m #[.ref a, .ref b] 2)) (s₁.setTop (mkF m 6 #[.val (.ref a), .val (.ref b)] [.null, .int (Int32.ofNat A.slots.size), .int 0, .ref b, .ref a])) := c1.trans (by
    refine XS.aloadN X0.here hexec rfl (hb hbytes d0) rfl rfl ?_
    refine XS.aloadN X0.here hexec rfl (hb hbytes d1) rfl rfl ?_
    refine iconstV X0.here hexec rfl 0 (hb hbytes d2) (by decide) ?_
    refine XS.aloadN X0.here hexec rfl (hb hbytes d3) rfl rfl ?_
    refine X0.alen hexec (hA.1.mv X0.warmed.alike hh0) rfl rfl (hb hbytes d4) ?_
    refine XS.aconstNull X0.here hexec rfl (hb hbytes d5) ?_
    exact Steps.refl _)
  obtain ⟨v3, T3, X3, E3, g3⟩ := X0.callN hexec (New4.law l a D fV fC b A z 0 A.slots.size) rfl hown (wks W (initW "java/lang/String" 27 New4.yN)) (W New4.tab (by simp only [site, List.mem_cons, List.mem_append, true_or, or_true])) (W := 0) (Nat.le_of_ble_eq_true rfl) (Nat.le_of_ble_eq_true rfl) (Nat.le_refl _) (by show 0 + A.slots.size ≤ A.slots.size; omega) (g := (mkF m 6 #[.val (.ref a), .val (.ref b)] [.null, .int (Int32.ofNat A.slots.size), .int (Int32.ofNat 0), .ref b, .ref a])) rfl (by rw [hml]; rfl) c2 (argsL := [.ref b, .int (Int32.ofNat 0), .int (Int32.ofNat A.slots.size), .null]) (rest := []) rfl rfl (by show 2 * 0 + 0 ≤ _; decide) (hb hbytes d6) (⟨rfl, hB.mv X0.warmed.alike hh0, f1.al X0.warmed.alike, f2.al X0.warmed.alike, hA.mv X0.warmed.alike hh0, s1.there X0.warmed.alike hh0, hz, l0, by omega, l2, fun i hi => by rw [Nat.zero_add]; exact hp i hi⟩)
  have e0 := Got.mv _ s₁ s _ _ hh0.symm (Vm.Alike.refl _) rfl E3
  obtain rfl := e0.1
  have c4 : Steps p.tables e below (s₁.setTop (entryFrame m #[.ref a, .ref b] 2)) (T3.setTop (mkF m 9 #[.val (.ref a), .val (.ref b)] [])) := g3
  exact ⟨T3, none, _, _, _, X3, by simp, rfl, by omega, (fun _ => rfl), e0, fun fs hl => c4.trans (X3.returnOut hexec hret (hb hbytes d9) hl)⟩
theorem pays {l : Launch} {R : Room} {p : Program} {e : Env} {below : List Frame} {s : State} {sargs : Array Value} {len W : Nat} (a : Addr) (D : Cell) (fV fC : Field) (b : Addr) (A : Cell) (z : Int32) (htab : tab.before sargs s = true) (hfr : 4 ≤ R.frames) (hlo : W + 65 ≤ R.locals) :
    Back l R p e below s sargs yN len W (fun A₁ a₁ => A₁.cells + 1 ≤ R.cells ∧ A₁.slots + A.slots.size ≤ R.slots ∧ P a D fV fC b A z a₁ A₁.U) (fun A₁ _ v₁ B₁ => E a D fV fC A v₁ A₁.U B₁.U ∧ B₁.locs = A₁.locs ++ [⟨a, fC.slot⟩, ⟨a, fV.slot⟩] ∧ B₁.cells = A₁.cells + 1 ∧ B₁.slots = A₁.slots + A.slots.size) :=
  (law l a D fV fC b A z).pays htab hfr (by omega)
end New1
end StrChars
namespace StrChars.Road
open Jvm Sem ClassFile Op Lib Jvm.Stand Jvm.Free Jvm.Free.XT
open Jvm.Lib.Cold (StaticIs)
abbrev ST : String := "java/lang/String"
/-- every table word that New1's law asks, flat -/
abbrev words : List Jvm.Cond := [.code New1.yN New1.yB 2 none, .initialized ST, .methodLink ST 27 New4.yN, .instanceMethod New4.yN,
  .code New4.yN New4.yB 6 none, .fieldLink ST 38 ST "COMPACT_STRINGS" "Z", .laysFinal ST ST "value" "[B", .fieldLink ST 9 ST "value" "[B", .laysFinal ST ST "coder" "B", .fieldLink ST 15 ST "coder" "B",
  .methodLink ST 1 Lib.objectInit, .instanceMethod Lib.objectInit, .code Lib.objectInit ⟨#[0xb1]⟩ 1 none, .methodLink ST 177 Cmp3.yN, .static Cmp3.yN, .methodLink ST 47 CodL.yN, .static CodL.yN,
  .code Cmp3.yN Cmp3.yB 6 (some (.array .byte)), .initialized U16, .arrayClass .byte, .methodLink U16 115 Cmp5.yN, .static Cmp5.yN, .code Cmp5.yN Cmp5.yB 7 (some .int), .code CodL.yN CodL.yB 2 (some .byte)]
theorem tab_of {a : Array Value} {s : State} (h : ∀ w ∈ words, w.before a s = true) : New1.tab.before a s = true := by
  have h5 : Cmp5.tab.before a s = true := unparts (wk h (.code Cmp5.yN Cmp5.yB 7 (some .int))) (wks h (.initialized Cmp5.yN.cls :: Cmp5.site))
  have hc : CodL.tab.before a s = true := unparts (wk h (.code CodL.yN CodL.yB 2 (some .byte))) (wks h (.initialized CodL.yN.cls :: CodL.site))
  have q5 : ∀ w ∈ Cmp5.tab :: words, w.before a s = true := fun w hw => (List.mem_cons.mp hw).elim (fun e => e ▸ h5) (h w)
  have h3 : Cmp3.tab.before a s = true := unparts (wk q5 (.code Cmp3.yN Cmp3.yB 6 (some (.array .byte)))) (wks q5 (.initialized Cmp3.yN.cls :: Cmp3.site))
  have q3 : ∀ w ∈ Cmp3.tab :: CodL.tab :: words, w.before a s = true := fun w hw => (List.mem_cons.mp hw).elim (fun e => e ▸ h3) fun hw => (List.mem_cons.mp hw).elim (fun e => e ▸ hc) (h w)
  have h4 : New4.tab.before a s = true := unparts (wk q3 (.code New4.yN New4.yB 6 none)) (wks q3 (.initialized New4.yN.cls :: New4.site))
  have q4 : ∀ w ∈ New4.tab :: words, w.before a s = true := fun w hw => (List.mem_cons.mp hw).elim (fun e => e ▸ h4) (h w)
  exact unparts (wk q4 (.code New1.yN New1.yB 2 none)) (wks q4 (.initialized New1.yN.cls :: New1.site))
/-- the words ride from the start Z to the walk's own state -/
theorem moved {Z s : State} {a0 args : Array Value} (hZ : Z.Warmed39 s.vm) (hw : ∀ d ∈ words, d.before a0 Z = true) : ∀ d ∈ words, d.before args s = true := fun d hd => by
  have q := hw d hd
  have t : ∀ d ∈ words, d = .arrayClass .byte ∨ (d.onTables && d.keepsFace) = true := by decide +kernel
  rcases t d hd with rfl | t
  · exact RoadKit.mvA hZ q
  · exact RoadKit.mv hZ q t
/-- WHAT COMES BACK, over the tables of the start Z: h the heap at the call, h' behind it -/
def Q (Z : State) (x : Addr) (A : Cell) (h : Heap) (v : Option Value) (h' : Heap) (L : List Loc) : Prop := v = none ∧ (∀ y ∈ L, y.base = x) ∧ RoadKit.Keep h h' [x] ∧ h'.size = h.size + 1 ∧ RoadKit.Exa Z h' x ST ∧ RoadKit.Fld Z h' x ST "value" "[B" (.ref h.size) ∧ RoadKit.Fld Z h' x ST "coder" "B" (.int 0) ∧
  (∃ V : Cell, RoadKit.Arr Z h' h.size V .byte ∧ V.vm = .none ∧ Z.vm.findClass "[B" = some V.cls ∧ V.slots.size = A.slots.size ∧ ∀ j, j < A.slots.size → V.slots[j]? = some (.int (lo8 (cv A j)))) ∧
  ∀ (O n d : String) (w : Value), RoadKit.Fld Z h x O n d w → RoadKit.slotOf Z O n d ≠ RoadKit.slotOf Z ST "value" "[B" → RoadKit.slotOf Z O n d ≠ RoadKit.slotOf Z ST "coder" "B" → RoadKit.Fld Z h' x O n d w
/-- **new String(chars) AT A CALL, IN THE ROAD'S FORM**: for specialBack behind newO: x the fresh String, b the char[] with the cell A -/
theorem back {p : Program} {l : Launch} {e : Env} {R : Room} {s : State} {args : Array Value} {below : List Frame} {len W : Nat} {Z : State} {a0 : Array Value} {h : Heap} (hZ : Z.Warmed39 s.vm) (hw : ∀ d ∈ words, d.before a0 Z = true) {kI : Nat} (wi : (Jvm.Cond.instantiable ST kI).before a0 Z = true)
    {x b : Addr} {A : Cell} {z : Int32} {v0 c0 : Value} (E : RoadKit.Exa Z h x ST) (V : RoadKit.Fld Z h x ST "value" "[B" v0) (C : RoadKit.Fld Z h x ST "coder" "B" c0) (K : RoadKit.Arr Z h b A .char) (hty : Typed .char A) (S : RoadKit.Sta Z h ST "COMPACT_STRINGS" "Z" (.int z)) (hz : ¬ z = 0)
    (l0 : 0 < A.slots.size) (l2 : A.slots.size ≤ 536870912) (hp : ∀ i, i < A.slots.size → ¬ 255 < cv A i) (hfr : 4 ≤ R.frames) (hlo : W + 65 ≤ R.locals) :
    Back l R p e below s args New1.yN len W (fun P a => a = #[.ref x, .ref b] ∧ P.U.heap = h ∧ P.cells + 1 ≤ R.cells ∧ P.slots + A.slots.size ≤ R.slots)
      (fun P _ v B => ∃ L, Q Z x A h v B.U.heap L ∧ B.locs = P.locs ++ L ∧ B.cells = P.cells + 1 ∧ B.slots = P.slots + A.slots.size) := by
  intro m meth c P g ig mk a X hg hsize hdg hW hn hp'
  obtain ⟨rfl, rfl, r1, r2⟩ := hp'
  have al : Z.vm.Alike P.U.vm := hZ.alike.trans X.warmed.alike
  obtain ⟨D, cfV, kV, iV, fV, hD, gV, stV, knV, obV, asV, slV⟩ := id V
  obtain ⟨D', cfC, kC, iC, fC, hD', gC, stC, -, -, asC, slC⟩ := id C
  cases hD.symm.trans hD'
  obtain ⟨D2, kD, e1, e2, e3, e4, e5⟩ := id E
  cases hD.symm.trans e1
  obtain ⟨c2, k2, i1, i2, i3, -⟩ := Cond.instantiable_spec wi
  cases e2.symm.trans i1
  cases e3.symm.trans i2
  obtain ⟨kU, u1, u2⟩ := al.2.2 _ _ e3
  have hB : Blank ST x D P.U := ⟨hD, ⟨knV, fun q hq => by rw [hq] at obV; cases obV⟩, by rw [al.findClass]; exact e2, kU, u1, by rw [u2]; exact i3, by rw [u2]; exact e5 i3⟩
  have F1 : Found ST "value" "[B" fV P.U := ⟨SBG.found_only al ⟨cfV, kV, iV, gV⟩, stV⟩
  have F2 : Found ST "coder" "B" fC P.U := ⟨SBG.found_only al ⟨cfC, kC, iC, gC⟩, stC⟩
  have hA : Ch b A P.U := ⟨⟨K.1, State.isArrayOf_alike al K.2.1, K.2.2, by omega⟩, hty⟩
  have hS : StaticIs P.U ST "COMPACT_STRINGS" "Z" (.int z) := by
    obtain ⟨cfS, iS, kS, fS, st, cS, t1, t2, t3, t4, t5, t6, t7⟩ := S
    exact StaticIs.there (s := { Z with heap := P.U.heap }) ⟨cfS, iS, kS, fS, st, cS, t1, t2, t3, t4, t5, (fun q => by rw [q] at t6; cases t6), t7⟩ al rfl
  obtain ⟨v, B, X', ⟨⟨hv, E', V', q1, q2, q3, q4, q5, q6, q7, q8, q9, q10, q11⟩, hl, hc, hs⟩, st⟩ := New1.pays x D fV fC b A z (tab_of (moved hZ hw)) hfr hlo m meth c P g ig mk _ X hg hsize hdg hW hn ⟨r1, r2, rfl, hB, F1, F2, hA, hS, hz, l0, l2, hp⟩
  have al' : Z.vm.Alike B.U.vm := hZ.alike.trans X'.warmed.alike
  have hsz : E'.slots.size = D.slots.size := by
    obtain ⟨-, -, -, kB, w1, w2, w3⟩ := q1
    obtain ⟨kB', y1, y2⟩ := al'.2.2 _ _ e3
    rw [q2.2.1] at w1
    cases w1.symm.trans y1
    rw [w3, e5 i3, y2]
  refine ⟨v, B, X', ⟨_, ⟨hv, ?_, ⟨by omega, fun y cy hy hn' => q10 y cy (by simpa using hn') hy, fun y cy hy => ?_⟩, q11, ⟨E', _, q1.1, by rw [q2.2.1]; exact e2, by rw [q2.2.1]; exact e3, by rw [q2.1]; exact obV, fun _ => by rw [hsz]; exact e5 i3⟩,
    ⟨E', cfV, kV, iV, fV, q1.1, gV, stV, by rw [q2.1]; exact knV, by rw [q2.1]; exact obV, by rw [q2.2.1]; exact asV, q3⟩, ⟨E', cfC, kC, iC, fC, q1.1, gC, stC, by rw [q2.1]; exact knV, by rw [q2.1]; exact obV, by rw [q2.2.1]; exact asC, q4⟩,
    ⟨V', ⟨q5.1, State.isArrayOf_alike al'.symm q5.2.1, q5.2.2.1⟩, q6, by rw [← al'.findClass]; exact q7, q8, fun j hj => by have := q9 j hj; rwa [Nat.zero_add] at this⟩, fun O n d w F n1 n2 => ?_⟩, hl, hc, hs⟩, st⟩
  · intro y hy
    simp only [List.mem_cons, List.not_mem_nil, or_false] at hy
    rcases hy with rfl | rfl <;> rfl
  · by_cases q : y = x
    · subst q
      cases hD.symm.trans hy
      exact ⟨E', q1.1, q2.2.1, q2.1, hsz⟩
    · exact ⟨cy, q10 y cy q hy, rfl, rfl, rfl⟩
  · obtain ⟨D3, cf, k, i, f, g1, g2, g3, g4, g5, g6, g7⟩ := F
    cases hD.symm.trans g1
    simp only [RoadKit.slotOf, g2, gV, gC, Option.map_some, Option.getD_some] at n1 n2
    exact ⟨E', cf, k, i, f, q1.1, g2, g3, by rw [q2.1]; exact g4, by rw [q2.1]; exact g5, by rw [q2.2.1]; exact g6, by rw [q2.2.2 f.slot (by simp [n1, n2])]; exact g7⟩
end StrChars.Road
namespace StrChars.Road
open Jvm Sem ClassFile Op Lib Jvm.Stand Jvm.Free Jvm.Free.XT
/-- WHAT COMES BACK, the byte[] as a list of values -/
def QA (Z : State) (x : Addr) (zn : Int32) (cs : List Int32) (h : Heap) (v : Option Value) (h' : Heap) (L : List Loc) : Prop := v = none ∧ (∀ y ∈ L, y.base = x) ∧ RoadKit.Keep h h' [x] ∧ h'.size = h.size + 1 ∧ RoadKit.Exa Z h' x ST ∧ RoadKit.Fld Z h' x ST "value" "[B" (.ref h.size) ∧ RoadKit.Fld Z h' x ST "coder" "B" (.int 0) ∧
  (∃ kb, Z.vm.findClass "[B" = some kb ∧ RoadKit.Arv Z h' h.size kb .byte zn (cs.map fun c => .int (lo8 c)) (.int 0)) ∧
  ∀ (O n d : String) (w : Value), RoadKit.Fld Z h x O n d w → RoadKit.slotOf Z O n d ≠ RoadKit.slotOf Z ST "value" "[B" → RoadKit.slotOf Z O n d ≠ RoadKit.slotOf Z ST "coder" "B" → RoadKit.Fld Z h' x O n d w
/-- **new String(chars) AT A CALL, THE ARRAYS AS LISTS**: the char[] at b holds cs, not empty, no char above 255 -/
theorem backArv {p : Program} {l : Launch} {e : Env} {R : Room} {s : State} {args : Array Value} {below : List Frame} {len W : Nat} {Z : State} {a0 : Array Value} {h : Heap} (hZ : Z.Warmed39 s.vm) (hw : ∀ d ∈ words, d.before a0 Z = true) {kI : Nat} (wi : (Jvm.Cond.instantiable ST kI).before a0 Z = true)
    {x b : Addr} {k : ClassId} {zn z : Int32} {cs : List Int32} {dv v0 c0 : Value} (E : RoadKit.Exa Z h x ST) (V : RoadKit.Fld Z h x ST "value" "[B" v0) (C : RoadKit.Fld Z h x ST "coder" "B" c0) (K : RoadKit.Arv Z h b k .char zn (cs.map Value.int) dv) (S : RoadKit.Sta Z h ST "COMPACT_STRINGS" "Z" (.int z)) (hz : ¬ z = 0)
    (hlen : zn.toNatClampNeg = cs.length) (h0 : 0 < cs.length) (hbig : cs.length ≤ 536870912) (hall : ∀ c ∈ cs, ¬ 255 < c) (hfr : 4 ≤ R.frames) (hlo : W + 65 ≤ R.locals) :
    Back l R p e below s args New1.yN len W (fun P a => a = #[.ref x, .ref b] ∧ P.U.heap = h ∧ P.cells + 1 ≤ R.cells ∧ P.slots + cs.length ≤ R.slots)
      (fun P _ v B => ∃ L, QA Z x zn cs h v B.U.heap L ∧ B.locs = P.locs ++ L ∧ B.cells = P.cells + 1 ∧ B.slots = P.slots + cs.length) := by
  obtain ⟨A, K1, K2, K3, K4, K5, K6⟩ := K
  have e : A.slots.size = cs.length := K3.trans hlen
  have hat : ∀ (i : Nat) (hi : i < cs.length), A.slots[i]? = some (.int cs[i]) := fun i hi => by rw [K5 i (by omega)]; simp [List.getD_eq_getElem?_getD, hi]
  have hcv : ∀ (i : Nat) (hi : i < cs.length), cv A i = cs[i] := fun i hi => by unfold cv; rw [hat i hi]
  have hty : Typed .char A := fun i v hv => by
    have hi : i < A.slots.size := (Array.getElem?_eq_some_iff.mp hv).1
    have q := K5 i hi
    rw [hv] at q
    rw [Option.some.inj q]
    exact K6 i hi
  refine Back.mono (back hZ hw wi E V C K1 hty S hz (by omega) (by omega) (fun i hi => by rw [hcv i (by omega)]; exact hall _ (List.getElem_mem _)) hfr hlo) (fun P a hp => ⟨hp.1, hp.2.1, hp.2.2.1, by rw [e]; exact hp.2.2.2⟩) (fun P a v B hp hq => ?_)
  obtain ⟨L, ⟨q1, q2, q3, q4, q5, q6, q7, ⟨V', v1, v2, v3, v4, v5⟩, q9⟩, hl, hc, hs⟩ := hq
  refine ⟨L, ⟨q1, q2, q3, q4, q5, q6, q7, ⟨V'.cls, v3, V', v1, rfl, by rw [v4, e, hlen], K4, fun i hi => ?_, fun i hi => ?_⟩, q9⟩, hl, hc, by rw [hs, e]⟩
  · have hi' : i < cs.length := by omega
    rw [v5 i (by omega), hcv i hi']; simp [List.getD_eq_getElem?_getD, hi']
  · have hi' : i < cs.length := by omega
    simp only [List.getD_eq_getElem?_getD, List.getElem?_map, List.getElem?_eq_getElem hi', Option.map_some, Option.getD_some]
    exact fits_lo8 _
end StrChars.Road
namespace StrChars.Road
open Jvm Sem ClassFile Op Lib Jvm.Stand Jvm.Free Jvm.Free.XT
/-- WHAT COMES BACK, in the writer's own shape -/
def QV (Z : State) (x : Addr) (N : Int32) (bs : List Int32) (h : Heap) (n0 : Nat) (v : Option Value) (h' : Heap) (L : List Loc) : Prop := v = none ∧ RoadKit.Fr n0 L ∧ RoadKit.Keep h h' [x] ∧ RoadKit.Exa Z h' x ST ∧ RoadKit.Fld Z h' x ST "coder" "B" (.int 0) ∧
  ∃ (t : Addr) (kb : ClassId), n0 ≤ t ∧ h.size ≤ t ∧ ¬ t = x ∧ RoadKit.Fld Z h' x ST "value" "[B" (.ref t) ∧ RoadKit.Arv Z h' t kb .byte N (bs.map Value.int) (.int 0)
/-- **new String(chars) AT A CALL, FOR THE WRITER**: a char[] of n known ints, each 0 to 255 -/
theorem backV {p : Program} {l : Launch} {e : Env} {R : Room} {s : State} {args : Array Value} {below : List Frame} {len W : Nat} {Z : State} {a0 : Array Value} {h : Heap} (hZ : Z.Warmed39 s.vm) (hw : ∀ d ∈ words, d.before a0 Z = true) {kI : Nat} (wi : (Jvm.Cond.instantiable ST kI).before a0 Z = true)
    {x b : Addr} {kC : ClassId} {cs bs : List Int32} {d v0 c0 : Value} {z N : Int32} {n n0 : Nat} (hx0 : n0 ≤ x) (hh0 : n0 ≤ h.size) (E : RoadKit.Exa Z h x ST) (V : RoadKit.Fld Z h x ST "value" "[B" v0) (C : RoadKit.Fld Z h x ST "coder" "B" c0) (K : RoadKit.Arv Z h b kC .char N (cs.map Value.int) d) (S : RoadKit.Sta Z h ST "COMPACT_STRINGS" "Z" (.int z)) (hz : ¬ z = 0)
    (hn : cs.length = n) (hN : N = Int32.ofNat n) (l0 : 0 < n) (l2 : n ≤ 4000) (hp : ∀ c ∈ cs, ¬ c < 0 ∧ ¬ (255 : Int32) < c) (hb : bs = cs.map (fun c => c.toInt8.toInt32)) (hfr : 4 ≤ R.frames) (hlo : W + 65 ≤ R.locals) :
    Back l R p e below s args (⟨"java/lang/String", "<init>", "([C)V"⟩ : MethodName) len W (fun P a => a = #[.ref x, .ref b] ∧ P.U.heap = h ∧ P.cells + 1 ≤ R.cells ∧ P.slots + n ≤ R.slots)
      (fun P _ v B => ∃ L, QV Z x N bs h n0 v B.U.heap L ∧ B.locs = P.locs ++ L ∧ B.cells = P.cells + 1 ∧ B.slots = P.slots + n) := by
  subst hn hN hb
  refine Back.mono (backArv hZ hw wi E V C K S hz (n32 (by omega)) l0 (by omega) (fun c hc => (hp c hc).2) hfr hlo) (fun P a hp => hp) (fun P a v B hp hq => ?_)
  obtain ⟨L, ⟨q1, q2, q3, q4, q5, q6, q7, ⟨kb, v1, v2⟩, q9⟩, hl, hc, hs⟩ := hq
  exact ⟨L, ⟨q1, fun y hy => by rw [q2 y hy]; exact hx0, q3, q5, q7, h.size, kb, hh0, Nat.le_refl _, Nat.ne_of_gt E.lt, q6, by rw [List.map_map]; exact v2⟩, hl, hc, hs⟩
end StrChars.Road
namespace StrChars
open Jvm Sem ClassFile Op Lib Jvm.Stand Jvm.Free.XT Jvm.Free.ALB Jvm.Free.JM Jvm.Free
open Jvm.Lib.Cold (StaticIs)
def hi8 (x : Int32) : Int32 := lo8 (x >>> ((8 : Int32) &&& 31))
theorem shr0 (c : Int32) : c >>> ((0 : Int32) &&& 31) = c := by
  have e : ((0 : Int32) &&& 31) = 0 := by decide
  rw [e]
  apply Int32.toBitVec_inj.mp
  rw [Int32.toBitVec_shiftRight]
  have e1 : ((0 : Int32).toBitVec.smod 32) = 0#32 := by decide
  rw [e1, BitVec.sshiftRight_eq']
  exact BitVec.sshiftRight_zero
end StrChars
namespace StrChars
open Jvm Sem ClassFile Op Lib Jvm.Stand Jvm.Free.XT Jvm.Free.ALB Jvm.Free.JM Jvm.Free
open Jvm.Lib.Cold (StaticIs)
theorem shr1 {n : Nat} (h : 2 * n < 2 ^ 31) : Int32.ofNat (2 * n) >>> ((1 : Int32) &&& 31) = Int32.ofNat n := by
  have e : ((1 : Int32) &&& 31) = 1 := by decide
  rw [e]
  apply Int32.toBitVec_inj.mp
  rw [Int32.toBitVec_shiftRight]
  have e1 : ((1 : Int32).toBitVec.smod 32) = 1#32 := by decide
  have hm : (BitVec.ofNat 32 (2 * n)).toNat = 2 * n := by rw [BitVec.toNat_ofNat, Nat.mod_eq_of_lt (by omega)]
  rw [e1, BitVec.sshiftRight_eq']
  apply BitVec.eq_of_toNat_eq
  show ((BitVec.ofNat 32 (2 * n)).sshiftRight 1).toNat = (BitVec.ofNat 32 n).toNat
  rw [BitVec.toNat_sshiftRight_of_msb_false (by rw [BitVec.msb_eq_false_iff_two_mul_lt, hm]; omega), hm, BitVec.toNat_ofNat, Nat.shiftRight_eq_div_pow]
  omega
/-- the array's cell V codes the n chars f 0 .. f (n - 1) by the coder cd, as the JDK does: coder 1 just where some char is above 255 -/
def Cod (cd : Int32) (n : Nat) (f : Nat → Int32) (V : Cell) : Prop := (cd = 0 ∧ V.slots.size = n ∧ ∀ j, j < n → V.slots[j]? = some (.int (lo8 (f j))) ∧ ¬ 255 < f j) ∨ (cd = 1 ∧ V.slots.size = 2 * n ∧ (∀ j, j < n → V.slots[2 * j]? = some (.int (lo8 (f j))) ∧ V.slots[2 * j + 1]? = some (.int (hi8 (f j)))) ∧ ∃ j, j < n ∧ 255 < f j)
theorem Cod.cd {cd : Int32} {n : Nat} {f : Nat → Int32} {V : Cell} (h : Cod cd n f V) : cd = 0 ∨ cd = 1 := h.imp (fun q => q.1) fun q => q.1
theorem Cod.len {cd : Int32} {n : Nat} {f : Nat → Int32} {V : Cell} (h : Cod cd n f V) (hs : V.slots.size < 2 ^ 31) : Int32.ofNat V.slots.size >>> (cd &&& 31) = Int32.ofNat n := by
  rcases h with ⟨rfl, h, -⟩ | ⟨rfl, h, -⟩
  · rw [shr0, h]
  · rw [h, shr1 (by omega)]
/-- **x is a String of the n chars f 0 .. f (n - 1)**, Latin-1 or UTF-16; its array at t has the cell V -/
def Txt (x t : Addr) (V : Cell) (cd : Int32) (n : Nat) (f : Nat → Int32) (U : State) : Prop := Exact "java/lang/String" x U ∧ Has x "java/lang/String" "value" "[B" (.ref t) U ∧ Has x "java/lang/String" "coder" "B" (.int cd) U ∧ XT.Arr .byte t V U ∧ Cod cd n f V ∧ ∀ j, j < n → ¬ f j < 0 ∧ ¬ 65535 < f j
theorem Txt.mv {x t : Addr} {V : Cell} {cd : Int32} {n : Nat} {f : Nat → Int32} {U U' : State} (h : Txt x t V cd n f U) (hal : U.vm.Alike U'.vm) (hh : U'.heap = U.heap) : Txt x t V cd n f U' := ⟨h.1.mv hal hh, h.2.1.mv hal hh, h.2.2.1.mv hal hh, h.2.2.2.1.mv hal hh, h.2.2.2.2⟩
namespace Cdr
def yN : MethodName := ⟨"java/lang/String", "coder", "()B"⟩
abbrev yB : ByteArray := jdk_42_method_152_code
theorem d0 : decode yB 0 = .ok (.getstatic 38, 3) := by decide +kernel
theorem d3 : decode yB 3 = .ok (.ifCond (.eq) 10, 3) := by decide +kernel
theorem d6 : decode yB 6 = .ok (.aload_n 0, 1) := by decide +kernel
theorem d7 : decode yB 7 = .ok (.getfield 15, 3) := by decide +kernel
theorem d10 : decode yB 10 = .ok (.goto 4, 3) := by decide +kernel
theorem d14 : decode yB 14 = .ok (.ireturn, 1) := by decide +kernel
def site : List Cond := [.fieldLink "java/lang/String" 38 "java/lang/String" "COMPACT_STRINGS" "Z", .fieldLink "java/lang/String" 15 "java/lang/String" "coder" "B"]
def tab : Cond := tabOf yN yB 1 (some .byte) site
def P (x : Addr) (cd z : Int32) (args : Array Value) (s : State) : Prop := args = #[.ref x] ∧ Has x "java/lang/String" "coder" "B" (.int cd) s ∧ (cd = 0 ∨ cd = 1) ∧ StaticIs s "java/lang/String" "COMPACT_STRINGS" "Z" (.int z) ∧ ¬ z = 0
def E (cd : Int32) (r : Option Value) (s u : State) : Prop := XT.PureE (some (.int cd)) r s u
theorem law (l : Launch) (x : Addr) (cd z : Int32) : Law l yN 1 0 0 0 yB 1 (some .byte) site (P x cd z) (E cd) [] 0 0 := by
  refine Law.of_walk (plainFor_of_name (by decide +kernel)) (by decide +kernel) (by decide +kernel) (by decide) (fun _ _ h => by rw [h.1]; rfl) (fun _ U U' hal hh h => ⟨h.1, h.2.1.mv hal hh, h.2.2.1, h.2.2.2.1.there hal hh, h.2.2.2.2⟩) (fun r U U' V V' h1 hal h2 h => XT.PureE.mv r U U' V V' h1 hal h2 h) ?_
  intro p e s m args below meth c s₁ X0 hexec hbytes hml hret hlk hnm hown hh0 W hP
  obtain ⟨rfl, hx, hc, s1, hz⟩ := hP
  have c1 : Steps p.tables e below (s₁.setTop (entryFrame m #[.ref x] 1)) (s₁.setTop (mkF m 0 #[.val (.ref x)] [])) := entry rfl
  obtain ⟨T2, X2, q2, st2⟩ := X0.sget hexec hown (wk W (.fieldLink "java/lang/String" 38 "java/lang/String" "COMPACT_STRINGS" "Z")) s1 (fun _ _ h => by rw [hh0]; exact h) (g := (mkF m 0 #[.val (.ref x)] [])) rfl (hb hbytes d0)
  have hh2 := q2.trans hh0
  have c3 : Steps p.tables e below (s₁.setTop (entryFrame m #[.ref x] 1)) (T2.setTop (mkF m 7 #[.val (.ref x)] [.ref x])) := (c1.trans (st2 _ (Steps.refl _))).trans (by
    refine XS.ifNo X2.here hexec rfl (hb hbytes d3) rfl (i0_eq_f hz) ?_
    refine XS.aloadN X2.here hexec rfl (hb hbytes d6) rfl rfl ?_
    exact Steps.refl _)
  obtain ⟨T4, X4, q4, st4⟩ := X2.hget hexec hown (wk W (.fieldLink "java/lang/String" 15 "java/lang/String" "coder" "B")) (hx.mv X2.warmed.alike hh2) (g := (mkF m 7 #[.val (.ref x)] [.ref x])) rfl (rest := []) rfl (hb hbytes d7)
  have c5 : Steps p.tables e below (s₁.setTop (entryFrame m #[.ref x] 1)) (T4.setTop (mkF m 14 #[.val (.ref x)] [.int cd])) := (c3.trans (st4 _ (Steps.refl _))).trans (by
    refine XS.goto X4.here hexec rfl (pc0 := 10) rfl (hb hbytes d10) (by decide) rfl ?_
    exact Steps.refl _)
  exact ⟨T4, some (.int cd), _, _, _, X4, rfl, rfl, rfl, (fun h => by cases h), ⟨rfl, q4.trans hh2⟩, fun fs hl => c5.trans (X4.ireturnOut hexec hret (by rcases hc with rfl | rfl <;> rfl) (Or.inr (Or.inr (Or.inl rfl))) (hb hbytes d14) hl)⟩
end Cdr
namespace Len
def yN : MethodName := ⟨"java/lang/String", "length", "()I"⟩
abbrev yB : ByteArray := jdk_42_method_54_code
theorem d0 : decode yB 0 = .ok (.aload_n 0, 1) := by decide +kernel
theorem d1 : decode yB 1 = .ok (.getfield 9, 3) := by decide +kernel
theorem d4 : decode yB 4 = .ok (.arraylength, 1) := by decide +kernel
theorem d5 : decode yB 5 = .ok (.aload_n 0, 1) := by decide +kernel
theorem d6 : decode yB 6 = .ok (.invokevirtual 335, 3) := by decide +kernel
theorem d9 : decode yB 9 = .ok (.ishr, 1) := by decide +kernel
theorem d10 : decode yB 10 = .ok (.ireturn, 1) := by decide +kernel
def site : List Cond := [.fieldLink "java/lang/String" 9 "java/lang/String" "value" "[B", Cdr.tab] ++ virtW "java/lang/String" 335 "java/lang/String" Cdr.yN Cdr.yN
def tab : Cond := tabOf yN yB 1 (some .int) site
def P (x t : Addr) (V : Cell) (cd : Int32) (n : Nat) (f : Nat → Int32) (z : Int32) (args : Array Value) (s : State) : Prop := args = #[.ref x] ∧ Txt x t V cd n f s ∧ StaticIs s "java/lang/String" "COMPACT_STRINGS" "Z" (.int z) ∧ ¬ z = 0
def E (n : Nat) (r : Option Value) (s u : State) : Prop := XT.PureE (some (.int (Int32.ofNat n))) r s u
/-- length() of a String of n chars, in either coding -/
theorem law (l : Launch) (x t : Addr) (V : Cell) (cd : Int32) (n : Nat) (f : Nat → Int32) (z : Int32) : Law l yN 1 0 1 13 yB 1 (some .int) site (P x t V cd n f z) (E n) [] 0 0 := by
  refine Law.of_walk (plainFor_of_name (by decide +kernel)) (by decide +kernel) (by decide +kernel) (by decide) (fun _ _ h => by rw [h.1]; rfl) (fun _ U U' hal hh h => ⟨h.1, h.2.1.mv hal hh, h.2.2.1.there hal hh, h.2.2.2⟩) (fun r U U' V V' h1 hal h2 h => XT.PureE.mv r U U' V V' h1 hal h2 h) ?_
  intro p e s m args below meth c s₁ X0 hexec hbytes hml hret hlk hnm hown hh0 W hP
  obtain ⟨rfl, hx, s1, hz⟩ := hP
  have v31 := hx.2.2.2.1.2.2.2
  have c1 : Steps p.tables e below (s₁.setTop (entryFrame m #[.ref x] 1)) (s₁.setTop (mkF m 1 #[.val (.ref x)] [.ref x])) := Steps.trans (entry rfl) (by
    show Steps p.tables e below (s₁.setTop (mkF m 0 #[.val (.ref x)] [])) _
    refine XS.aloadN X0.here hexec rfl (hb hbytes d0) rfl rfl ?_
    exact Steps.refl _)
  obtain ⟨T2, X2, q2, st2⟩ := X0.hget hexec hown (wk W (.fieldLink "java/lang/String" 9 "java/lang/String" "value" "[B")) (hx.mv X0.warmed.alike hh0).2.1 (g := (mkF m 1 #[.val (.ref x)] [.ref x])) rfl (rest := []) rfl (hb hbytes d1)
  have hh2 := q2.trans hh0
  have hx2 := hx.mv X2.warmed.alike hh2
  have c3 : Steps p.tables e below (s₁.setTop (entryFrame m #[.ref x] 1)) (T2.setTop (mkF m 6 #[.val (.ref x)] [.ref x, .int (Int32.ofNat V.slots.size)])) := (c1.trans (st2 _ (Steps.refl _))).trans (by
    refine X2.alen hexec hx2.2.2.2.1 rfl rfl (hb hbytes d4) ?_
    refine XS.aloadN X2.here hexec rfl (hb hbytes d5) rfl rfl ?_
    exact Steps.refl _)
  obtain ⟨v4, T4, X4, E4, g4⟩ := X2.callV hexec (Cdr.law l x cd z) hown (wks W (virtW "java/lang/String" 335 "java/lang/String" Cdr.yN Cdr.yN)) rfl (by decide) (wk W Cdr.tab) (W := 1) (Nat.le_of_ble_eq_true rfl) (Nat.le_of_ble_eq_true rfl) (Nat.le_refl _) (Nat.le_refl _) (hx2.1.fc X2.warmed.alike) hx2.1.is (g := (mkF m 6 #[.val (.ref x)] [.ref x, .int (Int32.ofNat V.slots.size)])) rfl (by rw [hml]; rfl) c3 (argsL := []) (rest := [.int (Int32.ofNat V.slots.size)]) rfl rfl (by show 2 * 0 + (1 + 0) ≤ _; decide) (hb hbytes d6) (⟨rfl, hx2.2.2.1, hx.2.2.2.2.1.cd, s1.there X2.warmed.alike hh2, hz⟩)
  obtain ⟨rfl, q4⟩ := E4
  have c5 : Steps p.tables e below (s₁.setTop (entryFrame m #[.ref x] 1)) (T4.setTop (mkF m 10 #[.val (.ref x)] [.int (Int32.ofNat V.slots.size >>> (cd &&& 31))])) := Steps.trans g4 (by
    refine ishr X4.here hexec rfl (hb hbytes d9) rfl ?_
    exact Steps.refl _)
  rw [hx.2.2.2.2.1.len v31] at c5
  exact ⟨T4, some (.int (Int32.ofNat n)), _, _, _, X4, rfl, rfl, rfl, (fun h => by cases h), ⟨rfl, q4.trans hh2⟩, fun fs hl => c5.trans (X4.ireturnOut hexec hret rfl (Or.inl rfl) (hb hbytes d10) hl)⟩
theorem pays {l : Launch} {R : Room} {p : Program} {e : Env} {below : List Frame} {s : State} {sargs : Array Value} {len W : Nat} (x t : Addr) (V : Cell) (cd : Int32) (n : Nat) (f : Nat → Int32) (z : Int32) (htab : tab.before sargs s = true) (hfr : 2 ≤ R.frames) (hlo : W + 25 ≤ R.locals) :
    Back l R p e below s sargs yN len W (fun A₁ a₁ => A₁.cells + 0 ≤ R.cells ∧ A₁.slots + 0 ≤ R.slots ∧ P x t V cd n f z a₁ A₁.U) (fun A₁ _ v₁ B₁ => E n v₁ A₁.U B₁.U ∧ B₁.locs = A₁.locs ++ [] ∧ B₁.cells = A₁.cells + 0 ∧ B₁.slots = A₁.slots + 0) :=
  (law l x t V cd n f z).pays htab hfr (by omega)
end Len
end StrChars
namespace StrChars.Road
open Jvm Sem ClassFile Op Lib Jvm.Stand Jvm.Free Jvm.Free.XT
open Jvm.Lib.Cold (StaticIs)
theorem consq {a : Array Value} {s : State} {c : Jvm.Cond} {L : List Jvm.Cond} (h0 : c.before a s = true) (h : ∀ w ∈ L, w.before a s = true) : ∀ w ∈ c :: L, w.before a s = true := fun w hw => (List.mem_cons.mp hw).elim (fun e => e ▸ h0) (h w)
/-- the words of String.length(), either coding -/
abbrev wordsLen : List Jvm.Cond := [.code Len.yN Len.yB 1 (some .int), .initialized ST, .fieldLink ST 9 ST "value" "[B", .fieldLink ST 38 ST "COMPACT_STRINGS" "Z", .fieldLink ST 15 ST "coder" "B", .code Cdr.yN Cdr.yB 1 (some .byte), .methodLink ST 335 Cdr.yN, .declares Cdr.yN, .selects ST Cdr.yN Cdr.yN, .instanceMethod Cdr.yN]
theorem tabLen_of {a : Array Value} {s : State} (h : ∀ w ∈ wordsLen, w.before a s = true) : Len.tab.before a s = true := by
  have hc : Cdr.tab.before a s = true := unparts (wk h (.code Cdr.yN Cdr.yB 1 (some .byte))) (wks h (.initialized Cdr.yN.cls :: Cdr.site))
  have q := consq hc h
  exact unparts (wk q (.code Len.yN Len.yB 1 (some .int))) (wks q (.initialized Len.yN.cls :: Len.site))
theorem movedLen {Z s : State} {a0 args : Array Value} (hZ : Z.Warmed39 s.vm) (hw : ∀ d ∈ wordsLen, d.before a0 Z = true) : ∀ d ∈ wordsLen, d.before args s = true := fun d hd => by
  have q := hw d hd
  have t : ∀ d ∈ wordsLen, d = .arrayClass .byte ∨ (d.onTables && d.keepsFace) = true := by decide +kernel
  rcases t d hd with rfl | t
  · exact RoadKit.mvA hZ q
  · exact RoadKit.mv hZ q t
/-- the bytes of the chars cs, low before high -/
def wideBytes : List Int32 → List Value
  | [] => []
  | c :: cs => .int (lo8 c) :: .int (hi8 c) :: wideBytes cs
theorem wide_lo (d : Value) : ∀ (cs : List Int32) (j : Nat), j < cs.length → (wideBytes cs).getD (2 * j) d = .int (lo8 (cs.getD j 0))
  | [], j, h => absurd h (Nat.not_lt_zero j)
  | c :: cs, 0, _ => rfl
  | c :: cs, j + 1, h => by
    have q := wide_lo d cs j (by simpa using h)
    rw [show 2 * (j + 1) = 2 * j + 1 + 1 from by omega]
    simpa [wideBytes] using q
theorem wide_hi (d : Value) : ∀ (cs : List Int32) (j : Nat), j < cs.length → (wideBytes cs).getD (2 * j + 1) d = .int (hi8 (cs.getD j 0))
  | [], j, h => absurd h (Nat.not_lt_zero j)
  | c :: cs, 0, _ => rfl
  | c :: cs, j + 1, h => by
    have q := wide_hi d cs j (by simpa using h)
    rw [show 2 * (j + 1) + 1 = 2 * j + 1 + 1 + 1 from by omega]
    simpa [wideBytes] using q
theorem low_at (d : Value) (cs : List Int32) (j : Nat) (h : j < cs.length) : (cs.map fun c => Value.int (lo8 c)).getD j d = .int (lo8 (cs.getD j 0)) := by
  simp [List.getD_eq_getElem?_getD, h]
/-- an array of N2 bytes vs codes the chars cs by the coder cd -/
def CodA (cs : List Int32) (cd N2 : Int32) (vs : List Value) : Prop := (cd = 0 ∧ N2 = Int32.ofNat cs.length ∧ vs = (cs.map fun c => Value.int (lo8 c)) ∧ ∀ c ∈ cs, ¬ 255 < c) ∨ (cd = 1 ∧ N2 = Int32.ofNat (2 * cs.length) ∧ vs = wideBytes cs ∧ ∃ c ∈ cs, 255 < c)
theorem CodA.cod {cs : List Int32} {cd N2 : Int32} {vs : List Value} {V : Cell} (h : CodA cs cd N2 vs) (hn : 2 * cs.length < 2 ^ 31) (hs : V.slots.size = N2.toNatClampNeg) (hv : RoadKit.Has V vs (.int 0)) : Cod cd cs.length (fun j => cs.getD j 0) V := by
  rcases h with ⟨rfl, rfl, rfl, h⟩ | ⟨rfl, rfl, rfl, c, hc, hw⟩
  · rw [n32 (by omega)] at hs
    exact Or.inl ⟨rfl, hs, fun j hj => ⟨by rw [hv j (by omega), low_at _ _ _ hj], by
      have e : cs.getD j 0 = cs[j] := by simp [List.getD_eq_getElem?_getD, hj]
      show ¬ 255 < cs.getD j 0
      rw [e]; exact h _ (List.getElem_mem _)⟩⟩
  · rw [n32 (by omega)] at hs
    obtain ⟨j, hj, rfl⟩ := List.getElem_of_mem hc
    exact Or.inr ⟨rfl, hs, fun j hj => ⟨by rw [hv _ (by omega), wide_lo _ _ _ hj], by rw [hv _ (by omega), wide_hi _ _ _ hj]⟩, j, hj, by
      have e : cs.getD j 0 = cs[j] := by simp [List.getD_eq_getElem?_getD, hj]
      show 255 < cs.getD j 0
      rw [e]; exact hw⟩
/-- an object of exactly java/lang/String, its two fields found: as the laws ask it -/
theorem strObj {Z U : State} {a0 : Array Value} {kI : Nat} (wi : (Jvm.Cond.instantiable ST kI).before a0 Z = true) (al : Z.vm.Alike U.vm) {x : Addr} {v0 c0 : Value} (E : RoadKit.Exa Z U.heap x ST) (V : RoadKit.Fld Z U.heap x ST "value" "[B" v0) (C : RoadKit.Fld Z U.heap x ST "coder" "B" c0) :
    ∃ (D : Cell) (fV fC : Field), Blank ST x D U ∧ Found ST "value" "[B" fV U ∧ Found ST "coder" "B" fC U ∧ D.slots[fV.slot]? = some v0 ∧ D.slots[fC.slot]? = some c0 ∧ RoadKit.slotOf Z ST "value" "[B" = fV.slot ∧ RoadKit.slotOf Z ST "coder" "B" = fC.slot := by
  obtain ⟨D, cfV, kV, iV, fV, hD, gV, stV, knV, obV, asV, slV⟩ := V
  obtain ⟨D', cfC, kC, iC, fC, hD', gC, stC, -, -, asC, slC⟩ := C
  cases hD.symm.trans hD'
  obtain ⟨D2, kD, e1, e2, e3, e4, e5⟩ := E
  cases hD.symm.trans e1
  obtain ⟨c2, k2, i1, i2, i3, -⟩ := Cond.instantiable_spec wi
  cases e2.symm.trans i1
  cases e3.symm.trans i2
  obtain ⟨kU, u1, u2⟩ := al.2.2 _ _ e3
  exact ⟨D, fV, fC, ⟨hD, ⟨knV, fun q hq => by rw [hq] at obV; cases obV⟩, by rw [al.findClass]; exact e2, kU, u1, by rw [u2]; exact i3, by rw [u2]; exact e5 i3⟩, ⟨SBG.found_only al ⟨cfV, kV, iV, gV⟩, stV⟩, ⟨SBG.found_only al ⟨cfC, kC, iC, gC⟩, stC⟩, slV, slC, by simp [RoadKit.slotOf, gV], by simp [RoadKit.slotOf, gC]⟩
theorem sta_is {Z U : State} (al : Z.vm.Alike U.vm) {C n d : String} {v : Value} (S : RoadKit.Sta Z U.heap C n d v) : StaticIs U C n d v := by
  obtain ⟨cfS, iS, kS, fS, st, cS, t1, t2, t3, t4, t5, t6, t7⟩ := S
  exact StaticIs.there (s := { Z with heap := U.heap }) ⟨cfS, iS, kS, fS, st, cS, t1, t2, t3, t4, t5, (fun q => by rw [q] at t6; cases t6), t7⟩ al rfl
/-- **length() OF SUCH A STRING** -/
theorem lenW {p : Program} {l : Launch} {e : Env} {R : Room} {s : State} {args : Array Value} {below : List Frame} {len W : Nat} {Z : State} {a0 : Array Value} {h : Heap} (hZ : Z.Warmed39 s.vm) (hw : ∀ d ∈ wordsLen, d.before a0 Z = true) {kI : Nat} (wi : (Jvm.Cond.instantiable ST kI).before a0 Z = true)
    {x t : Addr} {kb : ClassId} {cs : List Int32} {cd N2 z : Int32} {vs : List Value} (E : RoadKit.Exa Z h x ST) (V : RoadKit.Fld Z h x ST "value" "[B" (.ref t)) (C : RoadKit.Fld Z h x ST "coder" "B" (.int cd)) (K : RoadKit.Arv Z h t kb .byte N2 vs (.int 0)) (hc : CodA cs cd N2 vs) (hb : ∀ c ∈ cs, ¬ c < 0 ∧ ¬ (65535 : Int32) < c)
    (S : RoadKit.Sta Z h ST "COMPACT_STRINGS" "Z" (.int z)) (hz : ¬ z = 0) (l2 : cs.length ≤ 4000) (hfr : 2 ≤ R.frames) (hlo : W + 25 ≤ R.locals) :
    Back l R p e below s args (⟨"java/lang/String", "length", "()I"⟩ : MethodName) len W (fun P a => a = #[.ref x] ∧ P.U.heap = h ∧ P.cells + 0 ≤ R.cells ∧ P.slots + 0 ≤ R.slots)
      (fun P _ v B => ∃ L, (v = some (.int (Int32.ofNat cs.length)) ∧ L = [] ∧ B.U.heap = h) ∧ B.locs = P.locs ++ L ∧ B.cells = P.cells + 0 ∧ B.slots = P.slots + 0) := by
  obtain ⟨A, K1, K2, K3, K4, K5, K6⟩ := K
  have hcod := hc.cod (by omega) K3 K5
  intro m meth c P g ig mk a X hg hsize hdg hW hn hp'
  obtain ⟨rfl, rfl, r1, r2⟩ := hp'
  have al : Z.vm.Alike P.U.vm := hZ.alike.trans X.warmed.alike
  obtain ⟨D, fV, fC, hB, F1, F2, g1, g2, -, -⟩ := strObj wi al E V C
  have hx : Txt x t A cd cs.length (fun j => cs.getD j 0) P.U := ⟨⟨_, hB.2.2.1, D, hB.1, rfl, by cases q : D.vm <;> first | rfl | exact absurd q (hB.2.1.2 _)⟩, Has.of hB F1 g1, Has.of hB F2 g2, ⟨K1.1, State.isArrayOf_alike al K1.2.1, K1.2.2, by rcases hcod with ⟨-, q, -⟩ | ⟨-, q, -⟩ <;> omega⟩, hcod, fun j hj => by
    have e : cs.getD j 0 = cs[j] := by simp [List.getD_eq_getElem?_getD, hj]
    show ¬ cs.getD j 0 < 0 ∧ ¬ 65535 < cs.getD j 0
    rw [e]; exact hb _ (List.getElem_mem _)⟩
  obtain ⟨v, B, X', ⟨⟨hv, hh⟩, hl, hk, hs⟩, st⟩ := Len.pays x t A cd cs.length (fun j => cs.getD j 0) z (tabLen_of (movedLen hZ hw)) hfr hlo m meth c P g ig mk _ X hg hsize hdg hW hn ⟨r1, r2, rfl, hx, sta_is al S, hz⟩
  exact ⟨v, B, X', ⟨[], ⟨hv, rfl, hh⟩, hl, hk, hs⟩, st⟩
end StrChars.Road
namespace StrChars.Road
open Jvm Sem ClassFile Op Lib Jvm.Stand Jvm.Free Jvm.Free.XT
open Jvm.Lib.Cold (StaticIs)
/-- what backV says of its String, as the contracts of this text ask it: cs's low bytes, coder 0 -/
theorem codOf {cs : List Int32} {n : Nat} (hn : cs.length = n) (hb : ∀ c ∈ cs, ¬ 255 < c) : CodA cs 0 (Int32.ofNat n) ((cs.map lo8).map Value.int) := Or.inl ⟨rfl, by rw [hn], by simp [List.map_map, Function.comp_def], hb⟩
end StrChars.Road
end Jvm.Pilot.@@N@@

namespace Jvm.Pilot.@@N@@
open Jvm Jvm.ClassFile Sem Op Lib Jvm.Free Jvm.Stand Jvm.LawKit Jvm.RoadKit Bundle Jvm.Pilot.@@N@@.Jvm.D

def EL : List (String × Nat) := [("java/lang/String", 7)]
section Facts
variable {Z : State} {h h' : Heap} {a0 : Array Value} {x d : Addr} {vm : Vm} {ws : List Addr}
theorem hEL (hw : ∀ d ∈ tables_1, d.before a0 Z = true) : EW Z a0 EL := EW.cons (text := "") (hw _ (List.mem_of_getElem? (i := 58) rfl)) (fun c hc => by simp at hc) EW.nil
theorem hSA (hw : ∀ d ∈ tables_1, d.before a0 Z = true) : ∀ a ∈ Bundle.stringAtoms, a.before a0 Z = true := fun d hd => hw d ((by decide +kernel : ∀ d ∈ Bundle.stringAtoms, d ∈ tables_1) d hd)
/-- a String that has no value yet is none that the JVM books -/
theorem safe_blank (hal : Z.vm.Alike vm) (E : Exa Z h x "java/lang/String") (F : Fld Z h x "java/lang/String" "value" "[B" .null) : Safe Z EL vm h x := fun B => by
  obtain ⟨cell, k, e1, e2, e3, -, -⟩ := E
  obtain ⟨cell', cf, kf, i, f, f1, f2, -, -, -, -, f7⟩ := F
  cases e1.symm.trans f1
  obtain ⟨p, -, u, a, -, q, -, G, hq | hq⟩ := B
  · subst hq
    cases (show h[q.sa]? = some q.sC from G.ha).symm.trans e1
    obtain ⟨cS, ⟨⟨-, -, -, ⟨c1, k1, i1, g1, -⟩, -, -, -, v1, -⟩, -⟩, -⟩ := G
    obtain ⟨k3, q3, -⟩ := State.fieldFound?_setVm (s := { Z with heap := h }) hal (show ({ Z with heap := h } : State).fieldFound? "java/lang/String" "value" "[B" = _ from f2)
    have e4 := (show (Wst Z vm h).fieldFound? "java/lang/String" "value" "[B" = _ from q3).symm.trans g1
    simp only [Option.some.injEq, Prod.mk.injEq] at e4
    rw [← e4.2.2.2, f7] at v1
    cases v1
  · subst hq
    cases (show h[q.sd]? = some q.SA from G.hd).symm.trans e1
    obtain ⟨cS, -, -, g, -⟩ := G
    have g' : Z.vm.findClass "[B" = some q.SA.cls := by rw [← hal.findClass]; exact g
    obtain ⟨k1, q1, q2⟩ := Vm.findClass_spec g'
    obtain ⟨k2, q3, q4⟩ := Vm.findClass_spec e2
    cases q1.symm.trans q3
    exact absurd (q2.symm.trans q4) (by decide)
/-- a String of n known chars, each 0 to 255 -/
def Str (Z : State) (h : Heap) (x : Addr) (n : Int32) : Prop := ∃ (t : Addr) (kb : ClassId) (cs : List Int32) (N : Int32) (vs : List Value), Exa Z h x "java/lang/String" ∧ Fld Z h x "java/lang/String" "coder" "B" (.int 0) ∧ Fld Z h x "java/lang/String" "value" "[B" (.ref t) ∧ Arv Z h t kb .byte N vs (.int 0) ∧ StrChars.Road.CodA cs 0 N vs ∧ (∀ c ∈ cs, ¬ c < 0 ∧ ¬ (65535 : Int32) < c) ∧ cs.length ≤ 4000 ∧ Int32.ofNat cs.length = n
theorem Str.ext {n : Int32} (S : Str Z h x n) (E : Ext h h') : Str Z h' x n := by
  obtain ⟨t, kb, cs, N, vs, s1, s2, s3, s4, s5⟩ := S
  exact ⟨t, kb, cs, N, vs, s1.ext E, s2.ext E, s3.ext E, s4.ext E, s5⟩
theorem Str.keep0 {n : Int32} (S : Str Z h x n) (K : Keep h h' []) : Str Z h' x n := by
  obtain ⟨t, kb, cs, N, vs, s1, s2, s3, s4, s5⟩ := S
  exact ⟨t, kb, cs, N, vs, s1.keep K, s2.keep K nin0, s3.keep K nin0, s4.keep K nin0, s5⟩
theorem Str.keepD {n : Int32} (S : Str Z h x n) (hw : ∀ d ∈ tables_1, d.before a0 Z = true) (E : Exa Z h d "com/example/motley/motley/bench/Digest") (K : Keep h h' [d]) : Str Z h' x n := by
  obtain ⟨t, kb, cs, N, vs, s1, s2, s3, s4, s5⟩ := S
  have q1 : x ∉ [d] := ninS (Exa.ne s1 E (by decide)) nin0
  have q2 : t ∉ [d] := ninS (fun r => Exa.neArv E s4 (hw _ (List.mem_of_getElem? (i := 35) rfl)) r.symm) nin0
  exact ⟨t, kb, cs, N, vs, s1.keep K, s2.keep K q1, s3.keep K q1, s4.keep K q2, s5⟩
theorem Str.exa {n : Int32} (S : Str Z h x n) : Exa Z h x "java/lang/String" := by
  obtain ⟨t, kb, cs, N, vs, s1, -⟩ := S
  exact s1
theorem own_no (hw : ∀ d ∈ tables_1, d.before a0 Z = true) : ∃ c t, Z.vm.findClass "java/lang/String" = some c ∧ Z.vm.findClass "com/example/motley/motley/bench/Digest" = some t ∧ Z.vm.assignable c t = false := by
  obtain ⟨t, kt, g0, g2, g5, g7, -, -⟩ := Cond.instantiable_spec (hw _ (List.mem_of_getElem? (i := 35) rfl))
  have gi : kt.isInterface = false := by simpa using (Bool.or_eq_false_iff.mp g7).1
  obtain ⟨co, ko, h1, h2, h3, -, -⟩ := Cond.noSuperclass_spec (hw _ (List.mem_of_getElem? (i := 57) rfl))
  have neo := ids_ne h1 g0 (by decide)
  have n0 : NS Z "java/lang/Object" "com/example/motley/motley/bench/Digest" := ⟨co, t, h1, g0, fun fuel => by
    cases fuel with
    | zero => rfl
    | succ f => simp [Vm.isSubclassAux, neo, h2, h3]⟩
  obtain ⟨c, t', q0, q1, q2⟩ := NS.step (hw _ (List.mem_of_getElem? (i := 56) rfl)) n0 (by decide)
  cases g0.symm.trans q1
  obtain ⟨p, k, kp, r1, r2, r3, r4, r5, -, r7⟩ := Cond.superclass_spec q0 (hw _ (List.mem_of_getElem? (i := 56) rfl))
  have ne := ids_ne q0 g0 (by decide)
  refine ⟨c, t, q0, g0, ?_⟩
  show Z.vm.assignableAux (255 + 1) c t = false
  simp [Vm.assignableAux, ne, r2, g2, r5, g5, gi, Vm.isSubclass, q2]
/-- a Digest's four counters -/
def Dg (Z : State) (h : Heap) (d : Addr) (t c r b : Int64) : Prop := Exa Z h d "com/example/motley/motley/bench/Digest" ∧ Fld Z h d "com/example/motley/motley/bench/Digest" "texts" "J" (.long t) ∧ Fld Z h d "com/example/motley/motley/bench/Digest" "textChars" "J" (.long c) ∧ Fld Z h d "com/example/motley/motley/bench/Digest" "reals" "J" (.long r) ∧ Fld Z h d "com/example/motley/motley/bench/Digest" "realBits" "J" (.long b)
theorem Dg.ext {t c r b : Int64} (D : Dg Z h d t c r b) (E : Ext h h') : Dg Z h' d t c r b := ⟨D.1.ext E, D.2.1.ext E, D.2.2.1.ext E, D.2.2.2.1.ext E, D.2.2.2.2.ext E⟩
theorem Dg.keep {t c r b : Int64} (D : Dg Z h d t c r b) (K : Keep h h' ws) (q : d ∉ ws) : Dg Z h' d t c r b := ⟨D.1.keep K, D.2.1.keep K q, D.2.2.1.keep K q, D.2.2.2.1.keep K q, D.2.2.2.2.keep K q⟩
theorem Dg.wr0 {t c r b v : Int64} (D : Dg Z h d t c r b) (hw : ∀ d ∈ tables_1, d.before a0 Z = true) (W : Wr h h' d (RoadKit.slotOf Z "com/example/motley/motley/bench/Digest" "texts" "J") (.long v)) : Dg Z h' d v c r b := ⟨D.1.wr W, D.2.1.same W, D.2.2.1.other W (Or.inr (slot_ne (C := "com/example/motley/motley/bench/Digest") (Or.inl (hw _ (List.mem_of_getElem? (i := 51) rfl))) (Or.inl (hw _ (List.mem_of_getElem? (i := 49) rfl))) (by decide) (t := .long) (t' := .long) (by decide) (by decide))), D.2.2.2.1.other W (Or.inr (slot_ne (C := "com/example/motley/motley/bench/Digest") (Or.inl (hw _ (List.mem_of_getElem? (i := 53) rfl))) (Or.inl (hw _ (List.mem_of_getElem? (i := 49) rfl))) (by decide) (t := .long) (t' := .long) (by decide) (by decide))), D.2.2.2.2.other W (Or.inr (slot_ne (C := "com/example/motley/motley/bench/Digest") (Or.inl (hw _ (List.mem_of_getElem? (i := 55) rfl))) (Or.inl (hw _ (List.mem_of_getElem? (i := 49) rfl))) (by decide) (t := .long) (t' := .long) (by decide) (by decide)))⟩
theorem Dg.wr1 {t c r b v : Int64} (D : Dg Z h d t c r b) (hw : ∀ d ∈ tables_1, d.before a0 Z = true) (W : Wr h h' d (RoadKit.slotOf Z "com/example/motley/motley/bench/Digest" "textChars" "J") (.long v)) : Dg Z h' d t v r b := ⟨D.1.wr W, D.2.1.other W (Or.inr (slot_ne (C := "com/example/motley/motley/bench/Digest") (Or.inl (hw _ (List.mem_of_getElem? (i := 49) rfl))) (Or.inl (hw _ (List.mem_of_getElem? (i := 51) rfl))) (by decide) (t := .long) (t' := .long) (by decide) (by decide))), D.2.2.1.same W, D.2.2.2.1.other W (Or.inr (slot_ne (C := "com/example/motley/motley/bench/Digest") (Or.inl (hw _ (List.mem_of_getElem? (i := 53) rfl))) (Or.inl (hw _ (List.mem_of_getElem? (i := 51) rfl))) (by decide) (t := .long) (t' := .long) (by decide) (by decide))), D.2.2.2.2.other W (Or.inr (slot_ne (C := "com/example/motley/motley/bench/Digest") (Or.inl (hw _ (List.mem_of_getElem? (i := 55) rfl))) (Or.inl (hw _ (List.mem_of_getElem? (i := 51) rfl))) (by decide) (t := .long) (t' := .long) (by decide) (by decide)))⟩
theorem Dg.wr2 {t c r b v : Int64} (D : Dg Z h d t c r b) (hw : ∀ d ∈ tables_1, d.before a0 Z = true) (W : Wr h h' d (RoadKit.slotOf Z "com/example/motley/motley/bench/Digest" "reals" "J") (.long v)) : Dg Z h' d t c v b := ⟨D.1.wr W, D.2.1.other W (Or.inr (slot_ne (C := "com/example/motley/motley/bench/Digest") (Or.inl (hw _ (List.mem_of_getElem? (i := 49) rfl))) (Or.inl (hw _ (List.mem_of_getElem? (i := 53) rfl))) (by decide) (t := .long) (t' := .long) (by decide) (by decide))), D.2.2.1.other W (Or.inr (slot_ne (C := "com/example/motley/motley/bench/Digest") (Or.inl (hw _ (List.mem_of_getElem? (i := 51) rfl))) (Or.inl (hw _ (List.mem_of_getElem? (i := 53) rfl))) (by decide) (t := .long) (t' := .long) (by decide) (by decide))), D.2.2.2.1.same W, D.2.2.2.2.other W (Or.inr (slot_ne (C := "com/example/motley/motley/bench/Digest") (Or.inl (hw _ (List.mem_of_getElem? (i := 55) rfl))) (Or.inl (hw _ (List.mem_of_getElem? (i := 53) rfl))) (by decide) (t := .long) (t' := .long) (by decide) (by decide)))⟩
theorem Dg.wr3 {t c r b v : Int64} (D : Dg Z h d t c r b) (hw : ∀ d ∈ tables_1, d.before a0 Z = true) (W : Wr h h' d (RoadKit.slotOf Z "com/example/motley/motley/bench/Digest" "realBits" "J") (.long v)) : Dg Z h' d t c r v := ⟨D.1.wr W, D.2.1.other W (Or.inr (slot_ne (C := "com/example/motley/motley/bench/Digest") (Or.inl (hw _ (List.mem_of_getElem? (i := 49) rfl))) (Or.inl (hw _ (List.mem_of_getElem? (i := 55) rfl))) (by decide) (t := .long) (t' := .long) (by decide) (by decide))), D.2.2.1.other W (Or.inr (slot_ne (C := "com/example/motley/motley/bench/Digest") (Or.inl (hw _ (List.mem_of_getElem? (i := 51) rfl))) (Or.inl (hw _ (List.mem_of_getElem? (i := 55) rfl))) (by decide) (t := .long) (t' := .long) (by decide) (by decide))), D.2.2.2.1.other W (Or.inr (slot_ne (C := "com/example/motley/motley/bench/Digest") (Or.inl (hw _ (List.mem_of_getElem? (i := 53) rfl))) (Or.inl (hw _ (List.mem_of_getElem? (i := 55) rfl))) (by decide) (t := .long) (t' := .long) (by decide) (by decide))), D.2.2.2.2.same W⟩
theorem chr_ok (y : Int32) : ¬ nar .char (Own.toC (y &&& (255 : Int32))) < 0 ∧ ¬ (255 : Int32) < nar .char (Own.toC (y &&& (255 : Int32))) := by
  have hu : (y &&& (255 : Int32)).toUInt32.toNat ≤ 255 := by
    show (y.toBitVec &&& (255 : Int32).toBitVec).toNat ≤ 255
    rw [BitVec.toNat_and]
    exact Nat.and_le_right
  have key : ∀ u : UInt32, u.toNat ≤ 255 → (u.toUInt16.toUInt32.toInt32).toInt = (u.toNat : Int) ∧ (u.toUInt16.toUInt32.toInt32).toUInt32.toNat = u.toNat := fun u h => by
    have e1 : u.toUInt16.toUInt32.toNat = u.toNat := by
      rw [UInt16.toNat_toUInt32, UInt32.toNat_toUInt16]; omega
    have e2 : (u.toUInt16.toUInt32.toInt32).toUInt32.toNat = u.toNat := by rw [UInt32.toUInt32_toInt32]; exact e1
    refine ⟨?_, e2⟩
    rw [← Int32.toInt_toBitVec, BitVec.toInt_eq_toNat_cond]
    have e3 : (u.toUInt16.toUInt32.toInt32).toBitVec.toNat = u.toNat := e1
    rw [e3, if_pos (by omega)]
  have k1 := key _ hu
  have k2 := key ((y &&& (255 : Int32)).toUInt32.toUInt16.toUInt32.toInt32).toUInt32 (by rw [k1.2]; exact hu)
  have e : (nar .char (Own.toC (y &&& (255 : Int32)))).toInt = ((y &&& (255 : Int32)).toUInt32.toNat : Int) := by
    have := k2.1
    rw [k1.2] at this
    exact this
  have z0 : (0 : Int32).toInt = 0 := by decide
  have z1 : (255 : Int32).toInt = 255 := by decide
  rw [Int32.lt_iff_toInt_lt, Int32.lt_iff_toInt_lt, e, z0, z1]
  omega
theorem lc_ne {x y : Int64} (h : ifCond.holds .ne (Own.lcmpV x y) = true) : x ≠ y := fun q => by
  subst q
  have e : Own.lcmpV x x = 0 := by
    unfold Own.lcmpV
    rw [if_neg (fun q => by rw [gt_iff_lt, Int64.lt_iff_toInt_lt] at q; omega), if_pos rfl]
  rw [e] at h
  exact absurd h (by decide)
theorem lc_eq {x y : Int64} (h : ifCond.holds .ne (Own.lcmpV x y) = false) : x = y := Decidable.byContradiction fun q => by
  have e : Own.lcmpV x y = 1 ∨ Own.lcmpV x y = -1 := by
    unfold Own.lcmpV
    by_cases g : x > y
    · exact Or.inl (if_pos g)
    · right; rw [if_neg g, if_neg q]
  rcases e with e | e <;> rw [e] at h <;> exact absurd h (by decide)
/-- what equals says of two Digests -/
def eqv (t1 c1 r1 b1 t2 c2 r2 b2 : Int64) : Int32 := if t1 = t2 ∧ c1 = c2 ∧ r1 = r2 ∧ b1 = b2 then 1 else 0
end Facts

theorem pd_v : parseMethodDescriptor "()V" = some ⟨[], none⟩ := by decide +kernel
theorem pd_1 : parseMethodDescriptor "(II)Ljava/lang/String;" = some ⟨[.int, .int], some (.object "java/lang/String")⟩ := by decide +kernel
theorem pd_2 : parseMethodDescriptor "([C)V" = some ⟨[.array .char], none⟩ := by decide +kernel
theorem pd_3 : parseMethodDescriptor "([CIILjava/lang/Void;)V" = some ⟨[.array .char, .int, .int, .object "java/lang/Void"], none⟩ := by decide +kernel
theorem pd_9 : parseMethodDescriptor "(Ljava/lang/Object;)Z" = some ⟨[.object "java/lang/Object"], some .boolean⟩ := by decide +kernel
theorem pd_10 : parseMethodDescriptor "(Ljava/lang/String;)V" = some ⟨[.object "java/lang/String"], none⟩ := by decide +kernel
theorem pd_11 : parseMethodDescriptor "()I" = some ⟨[], some .int⟩ := by decide +kernel
theorem pd_13 : parseMethodDescriptor "(D)V" = some ⟨[.double], none⟩ := by decide +kernel
theorem pn_3e : plainName "java/lang/String" = true := by first | (simp [plainName, overriddenIn]; done) | decide +kernel
theorem pn_2e : plainName "java/lang/String" = true := by first | (simp [plainName, overriddenIn]; done) | decide +kernel
theorem pn_1a : plainName "com/example/motley/motley/bench/DigestEqualsPinLaw" = true := by first | (simp [plainName, overriddenIn]; done) | decide +kernel
theorem pn_1b : plainName "com/example/motley/motley/bench/DigestEqualsPinLaw" = true := by first | (simp [plainName, overriddenIn]; done) | decide +kernel
theorem pn_1c : plainName "com/example/motley/motley/bench/DigestEqualsPinLaw" = true := by first | (simp [plainName, overriddenIn]; done) | decide +kernel
theorem pn_1d : plainName "com/example/motley/motley/bench/DigestEqualsPinLaw" = true := by first | (simp [plainName, overriddenIn]; done) | decide +kernel
theorem pn_8 : plainName "com/example/motley/motley/bench/Digest" = true := by first | (simp [plainName, overriddenIn]; done) | decide +kernel
theorem pn_9y : plainName "com/example/motley/motley/bench/Digest" = true := by first | (simp [plainName, overriddenIn]; done) | decide +kernel
theorem pn_9n : plainName "com/example/motley/motley/bench/Digest" = true := by first | (simp [plainName, overriddenIn]; done) | decide +kernel
theorem pn_9s : plainName "com/example/motley/motley/bench/Digest" = true := by first | (simp [plainName, overriddenIn]; done) | decide +kernel
theorem pn_10 : plainName "com/example/motley/motley/bench/Digest" = true := by first | (simp [plainName, overriddenIn]; done) | decide +kernel
theorem pn_13 : plainName "com/example/motley/motley/bench/Digest" = true := by first | (simp [plainName, overriddenIn]; done) | decide +kernel
theorem pn_0 : plainName "com/example/motley/motley/bench/DigestEqualsPinLaw" = true := by first | (simp [plainName, overriddenIn]; done) | decide +kernel
theorem own_d3e_0 : decode jdk_42_method_149_code 0 = .ok (.aload_n 0, 1) := by decide +kernel
theorem own_d3e_1 : decode jdk_42_method_149_code 1 = .ok (.invokespecial 1, 3) := by decide +kernel
theorem own_d3e_4 : decode jdk_42_method_149_code 4 = .ok (.iload_n 3, 1) := by decide +kernel
theorem own_d3e_5 : decode jdk_42_method_149_code 5 = .ok (.ifCond .ne 22, 3) := by decide +kernel
theorem own_d3e_8 : decode jdk_42_method_149_code 8 = .ok (.aload_n 0, 1) := by decide +kernel
theorem own_d3e_9 : decode jdk_42_method_149_code 9 = .ok (.ldc 7, 2) := by decide +kernel
theorem own_d3e_11 : decode jdk_42_method_149_code 11 = .ok (.getfield 9, 3) := by decide +kernel
theorem own_d3e_14 : decode jdk_42_method_149_code 14 = .ok (.putfield 9, 3) := by decide +kernel
theorem own_d3e_17 : decode jdk_42_method_149_code 17 = .ok (.aload_n 0, 1) := by decide +kernel
theorem own_d3e_18 : decode jdk_42_method_149_code 18 = .ok (.ldc 7, 2) := by decide +kernel
theorem own_d3e_20 : decode jdk_42_method_149_code 20 = .ok (.getfield 15, 3) := by decide +kernel
theorem own_d3e_23 : decode jdk_42_method_149_code 23 = .ok (.putfield 15, 3) := by decide +kernel
theorem own_d3e_26 : decode jdk_42_method_149_code 26 = .ok (.return_, 1) := by decide +kernel
theorem ef_3e (m : MethodId) (x1 : Addr) (b1 : Addr) (o1 : Int32) (n1 : Int32) : entryFrame m #[(.ref x1), (.ref b1), (.int o1), (.int n1), .null] 6 = mkF m 0 #[.val (.ref x1), .val (.ref b1), .val (.int o1), .val (.int n1), .val .null, .unset] [] := by first | (simp [entryFrame, mkF, argsToLocals, Value.category, maxLocals]; done) | rfl
def Q_3e (Z : State) (x1 : Addr) (h0 : Heap) (n0 : Nat) (v : Option Value) (h : Heap) (L : List Loc) : Prop := v = none ∧ Fr n0 L ∧ Keep h0 h [x1] ∧ Exa Z h x1 "java/lang/String" ∧ Fld Z h x1 "java/lang/String" "coder" "B" (.int 0) ∧ ∃ (t : Addr) (kb : ClassId), Fld Z h x1 "java/lang/String" "value" "[B" (.ref t) ∧ Arv Z h t kb .byte 0 [] (.int 0)
set_option maxRecDepth 65536 in
set_option maxHeartbeats 40000000 in
theorem rm_3e (l : Launch) (Z : State) (a0 : Array Value) (hw : ∀ d ∈ tables_1, d.before a0 Z = true) (ws : List Jvm.Cond) (x1 : Addr) (b1 : Addr) (o1 : Int32) (n1 : Int32) (h0 : Heap) (n0 : Nat) (Z0 : n0 ≤ h0.size) (c0 : Value) (E0 : Exa Z h0 x1 "java/lang/String") (F1 : Fld Z h0 x1 "java/lang/String" "value" "[B" .null) (F2 : Fld Z h0 x1 "java/lang/String" "coder" "B" c0) (ga : n0 ≤ x1) (hn : ifCond.holds .ne n1 = false) :
    MetFree l (⟨"java/lang/String", "<init>", "([CIILjava/lang/Void;)V"⟩ : MethodName) (head1 (Jvm.Cond.code (⟨"java/lang/String", "<init>", "([CIILjava/lang/Void;)V"⟩ : MethodName) jdk_42_method_149_code 6 none :: ws) ({ frames := 1, cells := 4, slots := 8, locals := 12 } : Room)) (fun aa U => aa = #[(.ref x1), (.ref b1), (.int o1), (.int n1), .null] ∧ Z.Warmed39 U.vm ∧ U.heap = h0 ∧ CHv Z EL U.vm h0) (fun _ _ _ _ _ => True) (fun _ U o U' => ∃ v L, o = .returned v ∧ Q_3e Z x1 h0 n0 v U'.heap L ∧ CHr Z EL U.vm U.heap U'.vm U'.heap ∧ ReturnedEndW U o U' L ({ frames := 1, cells := 4, slots := 8, locals := 12 } : Room).cells ({ frames := 1, cells := 4, slots := 8, locals := 12 } : Room).slots) := by
  refine MetFree.of_bodySF (plainFor_of_name pn_3e) hisR ?_
  intro p e s m args below meth c s₁ Bd hml0 hP hK
  obtain ⟨rfl, hZ, hh, HC0⟩ := hP
  have hx := Bd.exec
  have hby := Bd.bytes
  have hml : c.maxLocals = 6 := hml0
  have hown : s.vm.findClass "java/lang/String" = some m.cls := findClass_of_methodNamed Bd.named
  have hnm := (name_of_methodNamed Bd.named Bd.method).1
  have X0 : Stand p l e ({ frames := 1, cells := 4, slots := 8, locals := 12 } : Room) s m #[(.ref x1), (.ref b1), (.int o1), (.int n1), .null] below meth c s₁ [] 0 0 := Stand.of_body Bd
  have e0 : s₁.heap = h0 := by rw [← hh, Bd.state]; rfl
  have N0 := Fr.nil n0
  have H0 := Own.hr X0 hx hby
  have pre0 : ∀ t, Steps p.tables e below (s₁.setTop (mkF m 0 #[.val (.ref x1), .val (.ref b1), .val (.int o1), .val (.int n1), .val .null, .unset] [])) t → Steps p.tables e below (s₁.setTop (entryFrame m #[(.ref x1), (.ref b1), (.int o1), (.int n1), .null] 6)) t := fun t k => castTop (ef_3e m x1 b1 o1 n1 ) k
  have SB0 : s.Since s.vm h0.size := (State.WarmedH.refl s).since _
  have Sx0 : Safe Z EL s.vm h0 x1 := safe_blank hZ.alike E0 F1
  obtain ⟨T1, X1, e1, st1⟩ := initO X0 hx hZ hown (hw _ (List.mem_of_getElem? (i := 15) rfl)) (hw _ (List.mem_of_getElem? (i := 16) rfl)) (hw _ (List.mem_of_getElem? (i := 17) rfl)) e0 (g := (mkF m 1 #[.val (.ref x1), .val (.ref b1), .val (.int o1), .val (.int n1), .val .null, .unset] [(.ref x1)])) rfl (by rw [hml]; rfl) rfl (hb hby own_d3e_1) (by decide) (W := 0) (by show 2 * 0 + _ ≤ _; exact Nat.le_of_ble_eq_true rfl) (by decide)
  have P1 : ∀ t, Steps p.tables e below (T1.setTop (mkF m 4 #[.val (.ref x1), .val (.ref b1), .val (.int o1), .val (.int n1), .val .null, .unset] [])) t → Steps p.tables e below (s₁.setTop (entryFrame m #[(.ref x1), (.ref b1), (.int o1), (.int n1), .null] 6)) t := fun t k => pre0 t (by
      refine Own.w_aloadN H0 own_d3e_0 1 rfl rfl rfl ?_
      exact st1 t k)
  have H1 := Own.hr X1 hx hby
  obtain ⟨aL2, T2, h2, k12, bL2, kL2, X2, e2, E2, SB2, kB2, hZ2, hown2, XL2, CL2, VL2, AL2, la2, lb2, HR2, -, sf2, st2⟩ := ldcCH (vm0 := s.vm) (s := s) X1 hx hZ hown (hw _ (List.mem_of_getElem? (i := 58) rfl)) (hSA hw) e1 SB0 (Nat.le_refl _) (hEL hw) (List.mem_of_getElem? (i := 0) rfl) HC0 (vs := []) (z := 0) ⟨fun c hc => by simp at hc, rfl⟩ (by decide) rfl (g := (mkF m 9 #[.val (.ref x1), .val (.ref b1), .val (.int o1), .val (.int n1), .val .null, .unset] [(.ref x1)])) rfl (hb hby own_d3e_9) (n := 0) (by decide) (by decide) (by decide : 0 + 2 ≤ _) (by decide : 0 + (0 + 4) ≤ _)
  have hZ := hZ2
  have hown := hown2
  have P2 : ∀ t, Steps p.tables e below (T2.setTop (mkF m 11 #[.val (.ref x1), .val (.ref b1), .val (.int o1), .val (.int n1), .val .null, .unset] [(.ref aL2), (.ref x1)])) t → Steps p.tables e below (s₁.setTop (entryFrame m #[(.ref x1), (.ref b1), (.int o1), (.int n1), .null] 6)) t := fun t k => P1 t (by
      refine Own.w_iloadN H1 own_d3e_4 5 rfl rfl ?_
      refine Own.w_ifCondNo H1 own_d3e_5 (hn) 8 rfl ?_
      refine Own.w_aloadN H1 own_d3e_8 9 rfl rfl rfl ?_
      exact st2 t k)
  have H2 := Own.hr X2 hx hby
  obtain ⟨T3, X3, e3, st3⟩ := getF X2 hx hZ hown (host := "") (Or.inl (hw _ (List.mem_of_getElem? (i := 32) rfl))) Via.refl e2 VL2 (g := (mkF m 11 #[.val (.ref x1), .val (.ref b1), .val (.int o1), .val (.int n1), .val .null, .unset] [(.ref aL2), (.ref x1)])) rfl rfl (hb hby own_d3e_11)
  have P3 : ∀ t, Steps p.tables e below (T3.setTop (mkF m 14 #[.val (.ref x1), .val (.ref b1), .val (.int o1), .val (.int n1), .val .null, .unset] [(.ref bL2), (.ref x1)])) t → Steps p.tables e below (s₁.setTop (entryFrame m #[(.ref x1), (.ref b1), (.int o1), (.int n1), .null] 6)) t := fun t k => P2 t (by
      exact st3 t k)
  have H3 := Own.hr X3 hx hby
  have F1a := F1.ext E2
  have F2a := F2.ext E2
  have E0a := E0.ext E2
  have Sx1 := HR2.safe E0.lt Sx0
  have nb := (sf2 x1 Sx1).2
  obtain ⟨T4, h4, X4, e4, W4, st4⟩ := putF X3 hx hZ hown (host := "") (Or.inl (hw _ (List.mem_of_getElem? (i := 32) rfl))) Via.refl e3 F1a E0a (Or.inr ⟨hw _ (List.mem_of_getElem? (i := 33) rfl), rfl, hnm⟩) (hw _ (List.mem_of_getElem? (i := 5) rfl)) (ty := (.array .byte)) (by decide) rfl rfl (g := (mkF m 14 #[.val (.ref x1), .val (.ref b1), .val (.int o1), .val (.int n1), .val .null, .unset] [(.ref bL2), (.ref x1)])) rfl rfl (hb hby own_d3e_14)
  have P4 : ∀ t, Steps p.tables e below (T4.setTop (mkF m 17 #[.val (.ref x1), .val (.ref b1), .val (.int o1), .val (.int n1), .val .null, .unset] [])) t → Steps p.tables e below (s₁.setTop (entryFrame m #[(.ref x1), (.ref b1), (.int o1), (.int n1), .null] 6)) t := fun t k => P3 t (by
      exact st4 t k)
  have H4 := Own.hr X4 hx hby
  have N5 := Fr.snoc X4 N0 ga
  have F1b := F1a.same W4
  have F2b := F2a.other W4 (Or.inr (slot_ne (C := "java/lang/String") (Or.inr (hw _ (List.mem_of_getElem? (i := 31) rfl))) (Or.inr (hw _ (List.mem_of_getElem? (i := 33) rfl))) (by decide) (t := .byte) (t' := (.array .byte)) (by decide) (by decide)))
  have E0b := E0a.wr W4
  have ALb := AL2.other W4 (fun r => nb r.symm)
  have HCb := HR2.1.wr W4 Sx1
  have HRb := HR2.trans (CHr.wr W4 Sx1 HR2.1)
  have Sx2 := Safe.wr W4 Sx1 HR2.1 Sx1
  have kBb : k12 ≤ h4.size := by rw [W4.size]; exact kB2
  obtain ⟨aL6, T6, h6, k16, bL6, kL6, X6, e6, E6, SB6, kB6, hZ6, hown6, XL6, CL6, VL6, AL6, la6, lb6, HR6, -, sf6, st6⟩ := ldcCH (vm0 := T2.vm) (s := s) X4 hx hZ hown (hw _ (List.mem_of_getElem? (i := 58) rfl)) (hSA hw) e4 SB2 kBb (hEL hw) (List.mem_of_getElem? (i := 0) rfl) HCb (vs := []) (z := 0) ⟨fun c hc => by simp at hc, rfl⟩ (by decide) rfl (g := (mkF m 18 #[.val (.ref x1), .val (.ref b1), .val (.int o1), .val (.int n1), .val .null, .unset] [(.ref x1)])) rfl (hb hby own_d3e_18) (n := 0) (by decide) (by decide) (by decide : 2 + 2 ≤ _) (by decide : 4 + (0 + 4) ≤ _)
  have hZ := hZ6
  have hown := hown6
  have P5 : ∀ t, Steps p.tables e below (T6.setTop (mkF m 20 #[.val (.ref x1), .val (.ref b1), .val (.int o1), .val (.int n1), .val .null, .unset] [(.ref aL6), (.ref x1)])) t → Steps p.tables e below (s₁.setTop (entryFrame m #[(.ref x1), (.ref b1), (.int o1), (.int n1), .null] 6)) t := fun t k => P4 t (by
      refine Own.w_aloadN H4 own_d3e_17 18 rfl rfl rfl ?_
      exact st6 t k)
  have H6 := Own.hr X6 hx hby
  obtain ⟨T7, X7, e7, st7⟩ := getF X6 hx hZ hown (host := "") (Or.inl (hw _ (List.mem_of_getElem? (i := 30) rfl))) Via.refl e6 CL6 (g := (mkF m 20 #[.val (.ref x1), .val (.ref b1), .val (.int o1), .val (.int n1), .val .null, .unset] [(.ref aL6), (.ref x1)])) rfl rfl (hb hby own_d3e_20)
  have P6 : ∀ t, Steps p.tables e below (T7.setTop (mkF m 23 #[.val (.ref x1), .val (.ref b1), .val (.int o1), .val (.int n1), .val .null, .unset] [(.int 0), (.ref x1)])) t → Steps p.tables e below (s₁.setTop (entryFrame m #[(.ref x1), (.ref b1), (.int o1), (.int n1), .null] 6)) t := fun t k => P5 t (by
      exact st7 t k)
  have H7 := Own.hr X7 hx hby
  have F1c := F1b.ext E6
  have F2c := F2b.ext E6
  have E0c := E0b.ext E6
  have ALc := ALb.ext E6
  have Sx3 := HR6.safe E0b.lt Sx2
  obtain ⟨T8, h8, X8, e8, W8, st8⟩ := putF X7 hx hZ hown (host := "") (Or.inl (hw _ (List.mem_of_getElem? (i := 30) rfl))) Via.refl e7 F2c E0c (Or.inr ⟨hw _ (List.mem_of_getElem? (i := 31) rfl), rfl, hnm⟩) (hw _ (List.mem_of_getElem? (i := 5) rfl)) (ty := .byte) (by decide) rfl rfl (g := (mkF m 23 #[.val (.ref x1), .val (.ref b1), .val (.int o1), .val (.int n1), .val .null, .unset] [(.int 0), (.ref x1)])) rfl rfl (hb hby own_d3e_23)
  have P7 : ∀ t, Steps p.tables e below (T8.setTop (mkF m 26 #[.val (.ref x1), .val (.ref b1), .val (.int o1), .val (.int n1), .val .null, .unset] [])) t → Steps p.tables e below (s₁.setTop (entryFrame m #[(.ref x1), (.ref b1), (.int o1), (.int n1), .null] 6)) t := fun t k => P6 t (by
      exact st8 t k)
  have H8 := Own.hr X8 hx hby
  have N9 := Fr.snoc X8 N5 ga
  have F2d := F2c.same W8
  have F1d := F1c.other W8 (Or.inr (slot_ne (C := "java/lang/String") (Or.inr (hw _ (List.mem_of_getElem? (i := 33) rfl))) (Or.inr (hw _ (List.mem_of_getElem? (i := 31) rfl))) (by decide) (t := (.array .byte)) (t' := .byte) (by decide) (by decide)))
  have E0d := E0c.wr W8
  have ALd := ALc.other W8 (fun r => nb r.symm)
  have HCd := HR6.1.wr W8 Sx3
  have HRd := (HRb.trans HR6).trans (CHr.wr W8 Sx3 HR6.1)
  have K1 := ((((Keep.refl h0 [x1]).ext E2).wr W4 (Or.inl (List.mem_of_getElem? (i := 0) rfl))).ext E6).wr W8 (Or.inl (List.mem_of_getElem? (i := 0) rfl))
  have kBd : k16 ≤ h8.size := by rw [W8.size]; exact kB6
  have HRe := HRd.trans (CHv.at (vm0 := T6.vm) (s := s) X8 hZ (hEL hw) HCd)
  subst e8
  rw [← hh] at HRe
  obtain ⟨fs, hr, hrun, hended, hW, hsame⟩ := X8.leave (v := none) (fun _ => rfl)
  obtain ⟨hW1, hW2, hW3⟩ := SB6.ended hW (kBd) hsame
  refine ⟨_, _, P7 _ ?_, hrun, hended, _, _, rfl, ?_, HRe, ⟨_, rfl⟩, hW1, hW2, hW3.mono (by decide : 4 ≤ _) (by decide : 8 ≤ _)⟩
  · exact X8.returnOut hx Bd.returns (hb hby own_d3e_26) hr
  · exact ⟨rfl, N9, K1, E0d, F2d, _, _, F1d, ALd⟩
theorem own_d2e_0 : decode jdk_42_method_3_code 0 = .ok (.aload_n 0, 1) := by decide +kernel
theorem own_d2e_1 : decode jdk_42_method_3_code 1 = .ok (.aload_n 1, 1) := by decide +kernel
theorem own_d2e_2 : decode jdk_42_method_3_code 2 = .ok (.iconst 0, 1) := by decide +kernel
theorem own_d2e_3 : decode jdk_42_method_3_code 3 = .ok (.aload_n 1, 1) := by decide +kernel
theorem own_d2e_4 : decode jdk_42_method_3_code 4 = .ok (.arraylength, 1) := by decide +kernel
theorem own_d2e_5 : decode jdk_42_method_3_code 5 = .ok (.aconst_null, 1) := by decide +kernel
theorem own_d2e_6 : decode jdk_42_method_3_code 6 = .ok (.invokespecial 27, 3) := by decide +kernel
theorem own_d2e_9 : decode jdk_42_method_3_code 9 = .ok (.return_, 1) := by decide +kernel
theorem ef_2e (m : MethodId) (x1 : Addr) (b1 : Addr) : entryFrame m #[(.ref x1), (.ref b1)] 2 = mkF m 0 #[.val (.ref x1), .val (.ref b1)] [] := by first | (simp [entryFrame, mkF, argsToLocals, Value.category, maxLocals]; done) | rfl
def Q_2e := Q_3e
set_option maxRecDepth 65536 in
set_option maxHeartbeats 40000000 in
theorem rm_2e (l : Launch) (Z : State) (a0 : Array Value) (hw : ∀ d ∈ tables_1, d.before a0 Z = true) (ws : List Jvm.Cond) (x1 : Addr) (b1 : Addr) (h0 : Heap) (n0 : Nat) (Z0 : n0 ≤ h0.size) (c0 : Value) (E0 : Exa Z h0 x1 "java/lang/String") (F1 : Fld Z h0 x1 "java/lang/String" "value" "[B" .null) (F2 : Fld Z h0 x1 "java/lang/String" "coder" "B" c0) (ga : n0 ≤ x1) (cl : Cell) (Ar : Arr Z h0 b1 cl .char) (Sz : cl.slots.size = 0) :
    MetFree l (⟨"java/lang/String", "<init>", "([C)V"⟩ : MethodName) (head1 (Jvm.Cond.code (⟨"java/lang/String", "<init>", "([C)V"⟩ : MethodName) jdk_42_method_3_code 2 none :: ws) ({ frames := 2, cells := 4, slots := 8, locals := 29 } : Room)) (fun aa U => aa = #[(.ref x1), (.ref b1)] ∧ Z.Warmed39 U.vm ∧ U.heap = h0 ∧ CHv Z EL U.vm h0) (fun _ _ _ _ _ => True) (fun _ U o U' => ∃ v L, o = .returned v ∧ Q_2e Z x1 h0 n0 v U'.heap L ∧ CHr Z EL U.vm U.heap U'.vm U'.heap ∧ ReturnedEndW U o U' L ({ frames := 2, cells := 4, slots := 8, locals := 29 } : Room).cells ({ frames := 2, cells := 4, slots := 8, locals := 29 } : Room).slots) := by
  refine MetFree.of_bodySF (plainFor_of_name pn_2e) hisR ?_
  intro p e s m args below meth c s₁ Bd hml0 hP hK
  obtain ⟨rfl, hZ, hh, HC0⟩ := hP
  have hx := Bd.exec
  have hby := Bd.bytes
  have hml : c.maxLocals = 2 := hml0
  have hown : s.vm.findClass "java/lang/String" = some m.cls := findClass_of_methodNamed Bd.named
  have hnm := (name_of_methodNamed Bd.named Bd.method).1
  have X0 : Stand p l e ({ frames := 2, cells := 4, slots := 8, locals := 29 } : Room) s m #[(.ref x1), (.ref b1)] below meth c s₁ [] 0 0 := Stand.of_body Bd
  have e0 : s₁.heap = h0 := by rw [← hh, Bd.state]; rfl
  have N0 := Fr.nil n0
  have H0 := Own.hr X0 hx hby
  have pre0 : ∀ t, Steps p.tables e below (s₁.setTop (mkF m 0 #[.val (.ref x1), .val (.ref b1)] [])) t → Steps p.tables e below (s₁.setTop (entryFrame m #[(.ref x1), (.ref b1)] 2)) t := fun t k => castTop (ef_2e m x1 b1) k
  have SB0 : s.Since s.vm h0.size := (State.WarmedH.refl s).since _
  have l0 : cl.slots.size.toInt32 = (0 : Int32) := by rw [Sz]; rfl
  have P1 : ∀ t, Steps p.tables e below (s₁.setTop (mkF m 6 #[.val (.ref x1), .val (.ref b1)] [.null, (.int (0 : Int32)), (.int (0 : Int32)), (.ref b1), (.ref x1)])) t → Steps p.tables e below (s₁.setTop (entryFrame m #[(.ref x1), (.ref b1)] 2)) t := fun t k => pre0 t (by
      refine Own.w_aloadN H0 own_d2e_0 1 rfl rfl rfl ?_
      refine Own.w_aloadN H0 own_d2e_1 2 rfl rfl rfl ?_
      refine Own.w_iconst H0 own_d2e_2 3 rfl (z := (0 : Int32)) rfl ?_
      refine Own.w_aloadN H0 own_d2e_3 4 rfl rfl rfl ?_
      refine X0.arraylength hx (by rw [e0]; exact Ar.1) (State.isArrayOf_alike hZ.alike Ar.2.1) (g := (mkF m 4 #[.val (.ref x1), .val (.ref b1)] [(.ref b1), (.int (0 : Int32)), (.ref b1), (.ref x1)])) rfl rfl (hb hby own_d2e_4) _ ?_
      rw [l0]
      show Steps p.tables e below (s₁.setTop (mkF m 5 #[.val (.ref x1), .val (.ref b1)] [(.int (0 : Int32)), (.int (0 : Int32)), (.ref b1), (.ref x1)])) _
      refine Own.w_aconstNull H0 own_d2e_5 6 rfl ?_
      exact k)
  obtain ⟨_, _, ⟨T10, L10, k10, n10⟩, -, Xr10, hS10, hg10, ⟨Lc10, hQ10, l10, y10, z10, HR10⟩, st10⟩ := Stand.specialBackS (s := s.setVm s.vm) X0 hx (y := (⟨"java/lang/String", "<init>", "([CIILjava/lang/Void;)V"⟩ : MethodName)) rfl hown (mvT hZ (hw _ (List.mem_of_getElem? (i := 11) rfl))) (mvT hZ (hw _ (List.mem_of_getElem? (i := 12) rfl))) (mvT hZ (hw _ (List.mem_of_getElem? (i := 14) rfl))) (by decide) (backOfSH (s := s) (vm0 := s.vm) (W := 0) (rm_3e l Z a0 hw [] x1 b1 (0 : Int32) (0 : Int32) h0 n0 Z0 c0 E0 F1 F2 ga rfl) hZ (hw _ (List.mem_of_getElem? (i := 14) rfl)) (hw _ (List.mem_of_getElem? (i := 6) rfl)) (by decide) (by decide) (hEL hw) HC0) (g := (mkF m 6 #[.val (.ref x1), .val (.ref b1)] [.null, (.int (0 : Int32)), (.int (0 : Int32)), (.ref b1), (.ref x1)])) rfl (by rw [hml]; rfl) (Steps.refl _) (a := x1) (argsL := [(.ref b1), (.int (0 : Int32)), (.int (0 : Int32)), .null]) (rest := []) (lenOf pd_3 rfl) rfl (by show 2 * 0 + _ ≤ _; exact Nat.le_of_ble_eq_true rfl) (hb hby own_d2e_6) (fun _ _ => ⟨rfl, e0, (by decide : 0 + 4 ≤ _), (by decide : 0 + 8 ≤ _)⟩)
  dsimp only [Pt.U, Pt.locs, Pt.cells, Pt.slots] at Xr10 hS10 hg10 l10 y10 z10 HR10 st10 hQ10
  subst l10 y10 z10
  obtain ⟨X10, SB10, hZ10, hown10⟩ := rebS (vm0 := s.vm) SB0 (n1 := s₁.heap.size) (Nat.le_of_eq (congrArg Array.size e0.symm)) Xr10 hS10 hg10 hZ hown
  have hZ := hZ10
  have hown := hown10
  obtain ⟨rfl, Nc, K1, E1, C1, t1, kb1, V1, A1⟩ := hQ10
  have P2 : ∀ t, Steps p.tables e below (T10.setTop (mkF m 9 #[.val (.ref x1), .val (.ref b1)] [])) t → Steps p.tables e below (s₁.setTop (entryFrame m #[(.ref x1), (.ref b1)] 2)) t := fun t k => P1 t (by
      exact st10.trans k)
  have H10 := Own.hr X10 hx hby
  have N11 := Fr.app N0 Nc
  have HRe := HR10
  rw [← hh] at HRe
  obtain ⟨fs, hr, hrun, hended, hW, hsame⟩ := X10.leave (v := none) (fun _ => rfl)
  obtain ⟨hW1, hW2, hW3⟩ := SB10.ended hW ((Nat.le_refl _)) hsame
  refine ⟨_, _, P2 _ ?_, hrun, hended, _, _, rfl, ?_, HRe, ⟨_, rfl⟩, hW1, hW2, hW3.mono (by decide : 4 ≤ _) (by decide : 8 ≤ _)⟩
  · exact X10.returnOut hx Bd.returns (hb hby own_d2e_9) hr
  · exact ⟨rfl, N11, K1, E1, C1, _, _, V1, A1⟩
def Q_1 (Z : State) (n : Int32) (h0 : Heap) (n0 : Nat) (v : Option Value) (h : Heap) (L : List Loc) : Prop := ∃ aS, v = some (.ref aS) ∧ Fr n0 L ∧ Keep h0 h [] ∧ Str Z h aS n
def Q_1a := Q_1
def Q_1b := Q_1
def Q_1c := Q_1
def Q_1d := Q_1
theorem own_d1a_0 : decode method_2_code 0 = .ok (.iload_n 1, 1) := by decide +kernel
theorem own_d1a_1 : decode method_2_code 1 = .ok (.sipush 255, 3) := by decide +kernel
theorem own_d1a_4 : decode method_2_code 4 = .ok (.iand, 1) := by decide +kernel
theorem own_d1a_5 : decode method_2_code 5 = .ok (.i2c, 1) := by decide +kernel
theorem own_d1a_6 : decode method_2_code 6 = .ok (.istore_n 2, 1) := by decide +kernel
theorem own_d1a_7 : decode method_2_code 7 = .ok (.iload_n 1, 1) := by decide +kernel
theorem own_d1a_8 : decode method_2_code 8 = .ok (.bipush 8, 2) := by decide +kernel
theorem own_d1a_10 : decode method_2_code 10 = .ok (.iushr, 1) := by decide +kernel
theorem own_d1a_11 : decode method_2_code 11 = .ok (.sipush 255, 3) := by decide +kernel
theorem own_d1a_14 : decode method_2_code 14 = .ok (.iand, 1) := by decide +kernel
theorem own_d1a_15 : decode method_2_code 15 = .ok (.i2c, 1) := by decide +kernel
theorem own_d1a_16 : decode method_2_code 16 = .ok (.istore_n 3, 1) := by decide +kernel
theorem own_d1a_17 : decode method_2_code 17 = .ok (.iload_n 1, 1) := by decide +kernel
theorem own_d1a_18 : decode method_2_code 18 = .ok (.bipush 16, 2) := by decide +kernel
theorem own_d1a_20 : decode method_2_code 20 = .ok (.iushr, 1) := by decide +kernel
theorem own_d1a_21 : decode method_2_code 21 = .ok (.sipush 255, 3) := by decide +kernel
theorem own_d1a_24 : decode method_2_code 24 = .ok (.iand, 1) := by decide +kernel
theorem own_d1a_25 : decode method_2_code 25 = .ok (.i2c, 1) := by decide +kernel
theorem own_d1a_26 : decode method_2_code 26 = .ok (.istore 4, 2) := by decide +kernel
theorem own_d1a_28 : decode method_2_code 28 = .ok (.iload_n 0, 1) := by decide +kernel
theorem own_d1a_29 : decode method_2_code 29 = .ok (.ifCond .ne 14, 3) := by decide +kernel
theorem own_d1a_32 : decode method_2_code 32 = .ok (.new 7, 3) := by decide +kernel
theorem own_d1a_35 : decode method_2_code 35 = .ok (.dup, 1) := by decide +kernel
theorem own_d1a_36 : decode method_2_code 36 = .ok (.iconst 0, 1) := by decide +kernel
theorem own_d1a_37 : decode method_2_code 37 = .ok (.newarray .char, 2) := by decide +kernel
theorem own_d1a_39 : decode method_2_code 39 = .ok (.invokespecial 9, 3) := by decide +kernel
theorem own_d1a_42 : decode method_2_code 42 = .ok (.areturn, 1) := by decide +kernel
theorem ef_1a (m : MethodId) (n : Int32) (ci : Int32) : entryFrame m #[(.int n), (.int ci)] 5 = mkF m 0 #[.val (.int n), .val (.int ci), .unset, .unset, .unset] [] := by first | (simp [entryFrame, mkF, argsToLocals, Value.category, maxLocals]; done) | rfl
set_option maxRecDepth 65536 in
set_option maxHeartbeats 40000000 in
theorem rm_1a (l : Launch) (Z : State) (a0 : Array Value) (hw : ∀ d ∈ tables_1, d.before a0 Z = true) (ws : List Jvm.Cond) (n : Int32) (ci : Int32) (h0 : Heap) (n0 : Nat) (Z0 : n0 ≤ h0.size) (z : Int32) (OL : Old Z n0 h0) (S0 : Sta Z Z.heap "java/lang/String" "COMPACT_STRINGS" "Z" (.int z)) (hz : ¬ z = 0) (hn0 : ifCond.holds .ne n = false) :
    MetFree l (⟨"com/example/motley/motley/bench/DigestEqualsPinLaw", "str", "(II)Ljava/lang/String;"⟩ : MethodName) (head1 (Jvm.Cond.code (⟨"com/example/motley/motley/bench/DigestEqualsPinLaw", "str", "(II)Ljava/lang/String;"⟩ : MethodName) method_2_code 5 (some (.object "java/lang/String")) :: ws) ({ frames := 4, cells := 6, slots := 16, locals := 66 } : Room)) (fun aa U => aa = #[(.int n), (.int ci)] ∧ Z.Warmed39 U.vm ∧ U.heap = h0 ∧ CHv Z EL U.vm h0) (fun _ _ _ _ _ => True) (fun _ U o U' => ∃ v L, o = .returned v ∧ Q_1a Z n h0 n0 v U'.heap L ∧ CHr Z EL U.vm U.heap U'.vm U'.heap ∧ ReturnedEndW U o U' L ({ frames := 4, cells := 6, slots := 16, locals := 66 } : Room).cells ({ frames := 4, cells := 6, slots := 16, locals := 66 } : Room).slots) := by
  refine MetFree.of_bodySF (plainFor_of_name pn_1a) hisR ?_
  intro p e s m args below meth c s₁ Bd hml0 hP hK
  obtain ⟨rfl, hZ, hh, HC0⟩ := hP
  have hx := Bd.exec
  have hby := Bd.bytes
  have hml : c.maxLocals = 5 := hml0
  have hown : s.vm.findClass "com/example/motley/motley/bench/DigestEqualsPinLaw" = some m.cls := findClass_of_methodNamed Bd.named
  have hnm := (name_of_methodNamed Bd.named Bd.method).1
  have X0 : Stand p l e ({ frames := 4, cells := 6, slots := 16, locals := 66 } : Room) s m #[(.int n), (.int ci)] below meth c s₁ [] 0 0 := Stand.of_body Bd
  have e0 : s₁.heap = h0 := by rw [← hh, Bd.state]; rfl
  have N0 := Fr.nil n0
  have H0 := Own.hr X0 hx hby
  have pre0 : ∀ t, Steps p.tables e below (s₁.setTop (mkF m 0 #[.val (.int n), .val (.int ci), .unset, .unset, .unset] [])) t → Steps p.tables e below (s₁.setTop (entryFrame m #[(.int n), (.int ci)] 5)) t := fun t k => castTop (ef_1a m n ci) k
  have SB0 : s.Since s.vm h0.size := (State.WarmedH.refl s).since _
  have P1 : ∀ t, Steps p.tables e below (s₁.setTop (mkF m 32 #[.val (.int n), .val (.int ci), .val (.int (Own.toC (ci &&& (255 : Int32)))), .val (.int (Own.toC ((Own.ushr ci (8 : Int32)) &&& (255 : Int32)))), .val (.int (Own.toC ((Own.ushr ci (16 : Int32)) &&& (255 : Int32))))] [])) t → Steps p.tables e below (s₁.setTop (entryFrame m #[(.int n), (.int ci)] 5)) t := fun t k => pre0 t (by
      refine Own.w_iloadN H0 own_d1a_0 1 rfl rfl ?_
      refine Own.w_sipush H0 own_d1a_1 4 rfl (z := (255 : Int32)) rfl ?_
      refine Own.w_iand H0 own_d1a_4 5 rfl ?_
      refine Own.w_i2c H0 own_d1a_5 6 rfl ?_
      refine Own.w_istoreN H0 own_d1a_6 7 rfl (l' := #[.val (.int n), .val (.int ci), .val (.int (Own.toC (ci &&& (255 : Int32)))), .unset, .unset]) rfl ?_
      refine Own.w_iloadN H0 own_d1a_7 8 rfl rfl ?_
      refine Own.w_bipush H0 own_d1a_8 10 rfl (z := (8 : Int32)) rfl ?_
      refine Own.w_iushr H0 own_d1a_10 11 rfl ?_
      refine Own.w_sipush H0 own_d1a_11 14 rfl (z := (255 : Int32)) rfl ?_
      refine Own.w_iand H0 own_d1a_14 15 rfl ?_
      refine Own.w_i2c H0 own_d1a_15 16 rfl ?_
      refine Own.w_istoreN H0 own_d1a_16 17 rfl (l' := #[.val (.int n), .val (.int ci), .val (.int (Own.toC (ci &&& (255 : Int32)))), .val (.int (Own.toC ((Own.ushr ci (8 : Int32)) &&& (255 : Int32)))), .unset]) rfl ?_
      refine Own.w_iloadN H0 own_d1a_17 18 rfl rfl ?_
      refine Own.w_bipush H0 own_d1a_18 20 rfl (z := (16 : Int32)) rfl ?_
      refine Own.w_iushr H0 own_d1a_20 21 rfl ?_
      refine Own.w_sipush H0 own_d1a_21 24 rfl (z := (255 : Int32)) rfl ?_
      refine Own.w_iand H0 own_d1a_24 25 rfl ?_
      refine Own.w_i2c H0 own_d1a_25 26 rfl ?_
      refine Own.w_istore H0 own_d1a_26 28 rfl (l' := #[.val (.int n), .val (.int ci), .val (.int (Own.toC (ci &&& (255 : Int32)))), .val (.int (Own.toC ((Own.ushr ci (8 : Int32)) &&& (255 : Int32)))), .val (.int (Own.toC ((Own.ushr ci (16 : Int32)) &&& (255 : Int32))))]) rfl ?_
      refine Own.w_iloadN H0 own_d1a_28 29 rfl rfl ?_
      refine Own.w_ifCondNo H0 own_d1a_29 (hn0) 32 rfl ?_
      exact k)
  obtain ⟨T12, h12, X12, e12, E12, A12, D12, -, st12⟩ := newO X0 hx hZ hown (hw _ (List.mem_of_getElem? (i := 4) rfl)) (hw _ (List.mem_of_getElem? (i := 5) rfl)) (hw _ (List.mem_of_getElem? (i := 6) rfl)) e0 (g := (mkF m 32 #[.val (.int n), .val (.int ci), .val (.int (Own.toC (ci &&& (255 : Int32)))), .val (.int (Own.toC ((Own.ushr ci (8 : Int32)) &&& (255 : Int32)))), .val (.int (Own.toC ((Own.ushr ci (16 : Int32)) &&& (255 : Int32))))] [])) rfl (hb hby own_d1a_32) (by decide : 0 + 1 ≤ _) (by decide : 0 + 4 ≤ _)
  obtain ⟨a12, g12⟩ : ∃ z, z = (h0).size := ⟨_, rfl⟩
  rw [← g12] at A12 D12 st12
  have P2 : ∀ t, Steps p.tables e below (T12.setTop (mkF m 35 #[.val (.int n), .val (.int ci), .val (.int (Own.toC (ci &&& (255 : Int32)))), .val (.int (Own.toC ((Own.ushr ci (8 : Int32)) &&& (255 : Int32)))), .val (.int (Own.toC ((Own.ushr ci (16 : Int32)) &&& (255 : Int32))))] [(.ref a12)])) t → Steps p.tables e below (s₁.setTop (entryFrame m #[(.int n), (.int ci)] 5)) t := fun t k => P1 t (by
      exact st12 t k)
  have H12 := Own.hr X12 hx hby
  have ga : n0 ≤ a12 := by rw [g12]; exact Z0
  have V1 := D12 (Or.inr (hw _ (List.mem_of_getElem? (i := 33) rfl))) (ty := .array .byte) (by decide)
  have C1 := D12 (Or.inr (hw _ (List.mem_of_getElem? (i := 31) rfl))) (ty := .byte) (by decide)
  obtain ⟨T13, h13, cA13, X13, e13, E13, A13, st13⟩ := newP X12 hx hZ (hw _ (List.mem_of_getElem? (i := 7) rfl)) e12 (g := (mkF m 37 #[.val (.int n), .val (.int ci), .val (.int (Own.toC (ci &&& (255 : Int32)))), .val (.int (Own.toC ((Own.ushr ci (8 : Int32)) &&& (255 : Int32)))), .val (.int (Own.toC ((Own.ushr ci (16 : Int32)) &&& (255 : Int32))))] [(.int (0 : Int32)), (.ref a12), (.ref a12)])) rfl (hb hby own_d1a_37) rfl (by decide) (cap := 0) (by decide) (by decide) (by decide : 1 + 1 ≤ _) (by decide : 4 + 0 ≤ _)
  obtain ⟨a13, g13⟩ : ∃ z, z = (h12).size := ⟨_, rfl⟩
  rw [← g13] at A13 st13
  have P3 : ∀ t, Steps p.tables e below (T13.setTop (mkF m 39 #[.val (.int n), .val (.int ci), .val (.int (Own.toC (ci &&& (255 : Int32)))), .val (.int (Own.toC ((Own.ushr ci (8 : Int32)) &&& (255 : Int32)))), .val (.int (Own.toC ((Own.ushr ci (16 : Int32)) &&& (255 : Int32))))] [(.ref a13), (.ref a12), (.ref a12)])) t → Steps p.tables e below (s₁.setTop (entryFrame m #[(.int n), (.int ci)] 5)) t := fun t k => P2 t (by
      refine Own.w_dup H12 own_d1a_35 36 rfl rfl ?_
      refine Own.w_iconst H12 own_d1a_36 37 rfl (z := (0 : Int32)) rfl ?_
      exact st13 t k)
  have H13 := Own.hr X13 hx hby
  have gc : n0 ≤ a13 := by rw [g13]; exact Nat.le_trans Z0 E12.1
  have ne : a12 ≠ a13 := Nat.ne_of_lt (Nat.lt_of_lt_of_le A12.lt (Nat.le_of_eq g13.symm))
  have E0 := A12.ext E13
  have F1 := V1.ext E13
  have F2 := C1.ext E13
  have K0 := ((Keep.refl h0 []).ext E12).ext E13
  have OL0 := (OL.ext E12).ext E13
  have HCn := (HC0.ext E12).ext E13
  obtain ⟨_, _, ⟨T14, L14, k14, n14⟩, -, Xr14, hS14, hg14, ⟨Lc14, hQ14, l14, y14, z14, HR14⟩, st14⟩ := Stand.specialBackS (s := s.setVm s.vm) X13 hx (y := (⟨"java/lang/String", "<init>", "([C)V"⟩ : MethodName)) rfl hown (mvT hZ (hw _ (List.mem_of_getElem? (i := 8) rfl))) (mvT hZ (hw _ (List.mem_of_getElem? (i := 9) rfl))) (mvT hZ (hw _ (List.mem_of_getElem? (i := 10) rfl))) (by decide) (backOfSH (s := s) (vm0 := s.vm) (W := 1) (rm_2e l Z a0 hw [] a12 a13 h13 n0 (Nat.le_trans Z0 K0.1) _ E0 F1 F2 ga _ A13 (by rw [sz_new]; decide)) hZ (hw _ (List.mem_of_getElem? (i := 10) rfl)) (hw _ (List.mem_of_getElem? (i := 6) rfl)) (by decide) (by decide) (hEL hw) HCn) (g := (mkF m 39 #[.val (.int n), .val (.int ci), .val (.int (Own.toC (ci &&& (255 : Int32)))), .val (.int (Own.toC ((Own.ushr ci (8 : Int32)) &&& (255 : Int32)))), .val (.int (Own.toC ((Own.ushr ci (16 : Int32)) &&& (255 : Int32))))] [(.ref a13), (.ref a12), (.ref a12)])) rfl (by rw [hml]; rfl) (Steps.refl _) (a := a12) (argsL := [(.ref a13)]) (rest := [(.ref a12)]) (lenOf pd_2 rfl) rfl (by show 2 * 0 + _ ≤ _; exact Nat.le_of_ble_eq_true rfl) (hb hby own_d1a_39) (fun _ _ => ⟨rfl, e13, (by decide : 2 + 4 ≤ _), (by decide : 4 + 8 ≤ _)⟩)
  dsimp only [Pt.U, Pt.locs, Pt.cells, Pt.slots] at Xr14 hS14 hg14 l14 y14 z14 HR14 st14 hQ14
  subst l14 y14 z14
  obtain ⟨X14, SB14, hZ14, hown14⟩ := rebS (vm0 := s.vm) SB0 (n1 := T13.heap.size) (Nat.le_trans (Nat.le_trans E12.1 E13.1) (Nat.le_of_eq (congrArg Array.size e13.symm))) Xr14 hS14 hg14 hZ hown
  have hZ := hZ14
  have hown := hown14
  obtain ⟨rfl, Nc, Kc, Ec, Cc, t1, kb1, Vc, Ac⟩ := hQ14
  have P4 : ∀ t, Steps p.tables e below (T14.setTop (mkF m 42 #[.val (.int n), .val (.int ci), .val (.int (Own.toC (ci &&& (255 : Int32)))), .val (.int (Own.toC ((Own.ushr ci (8 : Int32)) &&& (255 : Int32)))), .val (.int (Own.toC ((Own.ushr ci (16 : Int32)) &&& (255 : Int32))))] [(.ref a12)])) t → Steps p.tables e below (s₁.setTop (entryFrame m #[(.int n), (.int ci)] 5)) t := fun t k => P3 t (by
      exact st14.trans k)
  have H14 := Own.hr X14 hx hby
  have N15 := Fr.app N0 Nc
  have Kf := K0.trans Kc (allS (Or.inr (Nat.le_of_eq g12.symm)) all0)
  have hn' : n = 0 := by simpa [ifCond.holds] using hn0
  have HRe := ((CHr.ext E12 HC0).trans (CHr.ext E13 (HC0.ext E12))).trans HR14
  rw [← hh] at HRe
  obtain ⟨fs, hr, hrun, hended, hW, hsame⟩ := X14.leave (v := some (.ref a12)) (fun h => by rw [Bd.returns] at h; cases h)
  obtain ⟨hW1, hW2, hW3⟩ := SB14.ended hW ((Nat.le_refl _)) hsame
  refine ⟨_, _, P4 _ ?_, hrun, hended, _, _, rfl, ?_, HRe, ⟨_, rfl⟩, hW1, hW2, hW3.mono (by decide : 6 ≤ _) (by decide : 12 ≤ _)⟩
  · exact retOut X14 hx Bd.returns rfl (Or.inr (Or.inr (Or.inr (Or.inr ⟨rfl, rfl, rfl⟩)))) (hb hby own_d1a_42) hr
  · exact ⟨_, rfl, N15, Kf, t1, kb1, [], 0, [], Ec, Cc, Vc, Ac, Or.inl ⟨rfl, rfl, rfl, (fun c hc => nomatch hc)⟩, (fun c hc => nomatch hc), (by decide : 0 ≤ 4000), hn'.symm⟩
theorem own_d1b_0 : decode method_2_code 0 = .ok (.iload_n 1, 1) := by decide +kernel
theorem own_d1b_1 : decode method_2_code 1 = .ok (.sipush 255, 3) := by decide +kernel
theorem own_d1b_4 : decode method_2_code 4 = .ok (.iand, 1) := by decide +kernel
theorem own_d1b_5 : decode method_2_code 5 = .ok (.i2c, 1) := by decide +kernel
theorem own_d1b_6 : decode method_2_code 6 = .ok (.istore_n 2, 1) := by decide +kernel
theorem own_d1b_7 : decode method_2_code 7 = .ok (.iload_n 1, 1) := by decide +kernel
theorem own_d1b_8 : decode method_2_code 8 = .ok (.bipush 8, 2) := by decide +kernel
theorem own_d1b_10 : decode method_2_code 10 = .ok (.iushr, 1) := by decide +kernel
theorem own_d1b_11 : decode method_2_code 11 = .ok (.sipush 255, 3) := by decide +kernel
theorem own_d1b_14 : decode method_2_code 14 = .ok (.iand, 1) := by decide +kernel
theorem own_d1b_15 : decode method_2_code 15 = .ok (.i2c, 1) := by decide +kernel
theorem own_d1b_16 : decode method_2_code 16 = .ok (.istore_n 3, 1) := by decide +kernel
theorem own_d1b_17 : decode method_2_code 17 = .ok (.iload_n 1, 1) := by decide +kernel
theorem own_d1b_18 : decode method_2_code 18 = .ok (.bipush 16, 2) := by decide +kernel
theorem own_d1b_20 : decode method_2_code 20 = .ok (.iushr, 1) := by decide +kernel
theorem own_d1b_21 : decode method_2_code 21 = .ok (.sipush 255, 3) := by decide +kernel
theorem own_d1b_24 : decode method_2_code 24 = .ok (.iand, 1) := by decide +kernel
theorem own_d1b_25 : decode method_2_code 25 = .ok (.i2c, 1) := by decide +kernel
theorem own_d1b_26 : decode method_2_code 26 = .ok (.istore 4, 2) := by decide +kernel
theorem own_d1b_28 : decode method_2_code 28 = .ok (.iload_n 0, 1) := by decide +kernel
theorem own_d1b_29 : decode method_2_code 29 = .ok (.ifCond .ne 14, 3) := by decide +kernel
theorem own_d1b_43 : decode method_2_code 43 = .ok (.iload_n 0, 1) := by decide +kernel
theorem own_d1b_44 : decode method_2_code 44 = .ok (.iconst 1, 1) := by decide +kernel
theorem own_d1b_45 : decode method_2_code 45 = .ok (.if_icmp .ne 18, 3) := by decide +kernel
theorem own_d1b_48 : decode method_2_code 48 = .ok (.new 7, 3) := by decide +kernel
theorem own_d1b_51 : decode method_2_code 51 = .ok (.dup, 1) := by decide +kernel
theorem own_d1b_52 : decode method_2_code 52 = .ok (.iconst 1, 1) := by decide +kernel
theorem own_d1b_53 : decode method_2_code 53 = .ok (.newarray .char, 2) := by decide +kernel
theorem own_d1b_55 : decode method_2_code 55 = .ok (.dup, 1) := by decide +kernel
theorem own_d1b_56 : decode method_2_code 56 = .ok (.iconst 0, 1) := by decide +kernel
theorem own_d1b_57 : decode method_2_code 57 = .ok (.iload_n 2, 1) := by decide +kernel
theorem own_d1b_58 : decode method_2_code 58 = .ok (.castore, 1) := by decide +kernel
theorem own_d1b_59 : decode method_2_code 59 = .ok (.invokespecial 9, 3) := by decide +kernel
theorem own_d1b_62 : decode method_2_code 62 = .ok (.areturn, 1) := by decide +kernel
theorem ef_1b (m : MethodId) (n : Int32) (ci : Int32) : entryFrame m #[(.int n), (.int ci)] 5 = mkF m 0 #[.val (.int n), .val (.int ci), .unset, .unset, .unset] [] := by first | (simp [entryFrame, mkF, argsToLocals, Value.category, maxLocals]; done) | rfl
set_option maxRecDepth 65536 in
set_option maxHeartbeats 40000000 in
theorem rm_1b (l : Launch) (Z : State) (a0 : Array Value) (hw : ∀ d ∈ tables_1, d.before a0 Z = true) (ws : List Jvm.Cond) (n : Int32) (ci : Int32) (h0 : Heap) (n0 : Nat) (Z0 : n0 ≤ h0.size) (z : Int32) (OL : Old Z n0 h0) (S0 : Sta Z Z.heap "java/lang/String" "COMPACT_STRINGS" "Z" (.int z)) (hz : ¬ z = 0) (hn0 : ifCond.holds .ne n = true) (hn1 : if_icmp.holds .ne n (1 : Int32) = false) :
    MetFree l (⟨"com/example/motley/motley/bench/DigestEqualsPinLaw", "str", "(II)Ljava/lang/String;"⟩ : MethodName) (head1 (Jvm.Cond.code (⟨"com/example/motley/motley/bench/DigestEqualsPinLaw", "str", "(II)Ljava/lang/String;"⟩ : MethodName) method_2_code 5 (some (.object "java/lang/String")) :: ws) ({ frames := 4, cells := 6, slots := 16, locals := 66 } : Room)) (fun aa U => aa = #[(.int n), (.int ci)] ∧ Z.Warmed39 U.vm ∧ U.heap = h0 ∧ CHv Z EL U.vm h0) (fun _ _ _ _ _ => True) (fun _ U o U' => ∃ v L, o = .returned v ∧ Q_1b Z n h0 n0 v U'.heap L ∧ CHr Z EL U.vm U.heap U'.vm U'.heap ∧ ReturnedEndW U o U' L ({ frames := 4, cells := 6, slots := 16, locals := 66 } : Room).cells ({ frames := 4, cells := 6, slots := 16, locals := 66 } : Room).slots) := by
  refine MetFree.of_bodySF (plainFor_of_name pn_1b) hisR ?_
  intro p e s m args below meth c s₁ Bd hml0 hP hK
  obtain ⟨rfl, hZ, hh, HC0⟩ := hP
  have hx := Bd.exec
  have hby := Bd.bytes
  have hml : c.maxLocals = 5 := hml0
  have hown : s.vm.findClass "com/example/motley/motley/bench/DigestEqualsPinLaw" = some m.cls := findClass_of_methodNamed Bd.named
  have hnm := (name_of_methodNamed Bd.named Bd.method).1
  have X0 : Stand p l e ({ frames := 4, cells := 6, slots := 16, locals := 66 } : Room) s m #[(.int n), (.int ci)] below meth c s₁ [] 0 0 := Stand.of_body Bd
  have e0 : s₁.heap = h0 := by rw [← hh, Bd.state]; rfl
  have N0 := Fr.nil n0
  have H0 := Own.hr X0 hx hby
  have pre0 : ∀ t, Steps p.tables e below (s₁.setTop (mkF m 0 #[.val (.int n), .val (.int ci), .unset, .unset, .unset] [])) t → Steps p.tables e below (s₁.setTop (entryFrame m #[(.int n), (.int ci)] 5)) t := fun t k => castTop (ef_1b m n ci) k
  have SB0 : s.Since s.vm h0.size := (State.WarmedH.refl s).since _
  have P1 : ∀ t, Steps p.tables e below (s₁.setTop (mkF m 48 #[.val (.int n), .val (.int ci), .val (.int (Own.toC (ci &&& (255 : Int32)))), .val (.int (Own.toC ((Own.ushr ci (8 : Int32)) &&& (255 : Int32)))), .val (.int (Own.toC ((Own.ushr ci (16 : Int32)) &&& (255 : Int32))))] [])) t → Steps p.tables e below (s₁.setTop (entryFrame m #[(.int n), (.int ci)] 5)) t := fun t k => pre0 t (by
      refine Own.w_iloadN H0 own_d1b_0 1 rfl rfl ?_
      refine Own.w_sipush H0 own_d1b_1 4 rfl (z := (255 : Int32)) rfl ?_
      refine Own.w_iand H0 own_d1b_4 5 rfl ?_
      refine Own.w_i2c H0 own_d1b_5 6 rfl ?_
      refine Own.w_istoreN H0 own_d1b_6 7 rfl (l' := #[.val (.int n), .val (.int ci), .val (.int (Own.toC (ci &&& (255 : Int32)))), .unset, .unset]) rfl ?_
      refine Own.w_iloadN H0 own_d1b_7 8 rfl rfl ?_
      refine Own.w_bipush H0 own_d1b_8 10 rfl (z := (8 : Int32)) rfl ?_
      refine Own.w_iushr H0 own_d1b_10 11 rfl ?_
      refine Own.w_sipush H0 own_d1b_11 14 rfl (z := (255 : Int32)) rfl ?_
      refine Own.w_iand H0 own_d1b_14 15 rfl ?_
      refine Own.w_i2c H0 own_d1b_15 16 rfl ?_
      refine Own.w_istoreN H0 own_d1b_16 17 rfl (l' := #[.val (.int n), .val (.int ci), .val (.int (Own.toC (ci &&& (255 : Int32)))), .val (.int (Own.toC ((Own.ushr ci (8 : Int32)) &&& (255 : Int32)))), .unset]) rfl ?_
      refine Own.w_iloadN H0 own_d1b_17 18 rfl rfl ?_
      refine Own.w_bipush H0 own_d1b_18 20 rfl (z := (16 : Int32)) rfl ?_
      refine Own.w_iushr H0 own_d1b_20 21 rfl ?_
      refine Own.w_sipush H0 own_d1b_21 24 rfl (z := (255 : Int32)) rfl ?_
      refine Own.w_iand H0 own_d1b_24 25 rfl ?_
      refine Own.w_i2c H0 own_d1b_25 26 rfl ?_
      refine Own.w_istore H0 own_d1b_26 28 rfl (l' := #[.val (.int n), .val (.int ci), .val (.int (Own.toC (ci &&& (255 : Int32)))), .val (.int (Own.toC ((Own.ushr ci (8 : Int32)) &&& (255 : Int32)))), .val (.int (Own.toC ((Own.ushr ci (16 : Int32)) &&& (255 : Int32))))]) rfl ?_
      refine Own.w_iloadN H0 own_d1b_28 29 rfl rfl ?_
      refine Own.w_ifCondYes H0 own_d1b_29 (hn0) 43 (by decide) (by decide) ?_
      refine Own.w_iloadN H0 own_d1b_43 44 rfl rfl ?_
      refine Own.w_iconst H0 own_d1b_44 45 rfl (z := (1 : Int32)) rfl ?_
      refine Own.w_icmpNo H0 own_d1b_45 (hn1) 48 rfl ?_
      exact k)
  obtain ⟨T16, h16, X16, e16, E16, A16, D16, -, st16⟩ := newO X0 hx hZ hown (hw _ (List.mem_of_getElem? (i := 4) rfl)) (hw _ (List.mem_of_getElem? (i := 5) rfl)) (hw _ (List.mem_of_getElem? (i := 6) rfl)) e0 (g := (mkF m 48 #[.val (.int n), .val (.int ci), .val (.int (Own.toC (ci &&& (255 : Int32)))), .val (.int (Own.toC ((Own.ushr ci (8 : Int32)) &&& (255 : Int32)))), .val (.int (Own.toC ((Own.ushr ci (16 : Int32)) &&& (255 : Int32))))] [])) rfl (hb hby own_d1b_48) (by decide : 0 + 1 ≤ _) (by decide : 0 + 4 ≤ _)
  obtain ⟨a16, g16⟩ : ∃ z, z = (h0).size := ⟨_, rfl⟩
  rw [← g16] at A16 D16 st16
  have P2 : ∀ t, Steps p.tables e below (T16.setTop (mkF m 51 #[.val (.int n), .val (.int ci), .val (.int (Own.toC (ci &&& (255 : Int32)))), .val (.int (Own.toC ((Own.ushr ci (8 : Int32)) &&& (255 : Int32)))), .val (.int (Own.toC ((Own.ushr ci (16 : Int32)) &&& (255 : Int32))))] [(.ref a16)])) t → Steps p.tables e below (s₁.setTop (entryFrame m #[(.int n), (.int ci)] 5)) t := fun t k => P1 t (by
      exact st16 t k)
  have H16 := Own.hr X16 hx hby
  have ga : n0 ≤ a16 := by rw [g16]; exact Z0
  have V1 := D16 (Or.inr (hw _ (List.mem_of_getElem? (i := 33) rfl))) (ty := .array .byte) (by decide)
  have C1 := D16 (Or.inr (hw _ (List.mem_of_getElem? (i := 31) rfl))) (ty := .byte) (by decide)
  obtain ⟨T17, h17, cA17, X17, e17, E17, A17, st17⟩ := newP X16 hx hZ (hw _ (List.mem_of_getElem? (i := 7) rfl)) e16 (g := (mkF m 53 #[.val (.int n), .val (.int ci), .val (.int (Own.toC (ci &&& (255 : Int32)))), .val (.int (Own.toC ((Own.ushr ci (8 : Int32)) &&& (255 : Int32)))), .val (.int (Own.toC ((Own.ushr ci (16 : Int32)) &&& (255 : Int32))))] [(.int (1 : Int32)), (.ref a16), (.ref a16)])) rfl (hb hby own_d1b_53) rfl (by decide) (cap := 1) (by decide) (by decide) (by decide : 1 + 1 ≤ _) (by decide : 4 + 1 ≤ _)
  obtain ⟨a17, g17⟩ : ∃ z, z = (h16).size := ⟨_, rfl⟩
  rw [← g17] at A17 st17
  have P3 : ∀ t, Steps p.tables e below (T17.setTop (mkF m 55 #[.val (.int n), .val (.int ci), .val (.int (Own.toC (ci &&& (255 : Int32)))), .val (.int (Own.toC ((Own.ushr ci (8 : Int32)) &&& (255 : Int32)))), .val (.int (Own.toC ((Own.ushr ci (16 : Int32)) &&& (255 : Int32))))] [(.ref a17), (.ref a16), (.ref a16)])) t → Steps p.tables e below (s₁.setTop (entryFrame m #[(.int n), (.int ci)] 5)) t := fun t k => P2 t (by
      refine Own.w_dup H16 own_d1b_51 52 rfl rfl ?_
      refine Own.w_iconst H16 own_d1b_52 53 rfl (z := (1 : Int32)) rfl ?_
      exact st17 t k)
  have H17 := Own.hr X17 hx hby
  have gc : n0 ≤ a17 := by rw [g17]; exact Nat.le_trans Z0 E16.1
  have ne : a16 ≠ a17 := Nat.ne_of_lt (Nat.lt_of_lt_of_le A16.lt (Nat.le_of_eq g17.symm))
  have E0 := A16.ext E17
  have F1 := V1.ext E17
  have F2 := C1.ext E17
  have K0 := ((Keep.refl h0 []).ext E16).ext E17
  have OL0 := (OL.ext E16).ext E17
  have Va := (Arv.new A17 (by decide)).pad (pad_rep [] (.int (0 : Int32)) 1)
  obtain ⟨cl18, Ar18, q118, S18, q318, Hh18, G18⟩ := id Va
  obtain ⟨T18, h18, X18, e18, W18, st18⟩ := stC X17 hx hZ e17 Ar18 (j := (0 : Int32)) (inb_of S18 ⟨(by decide : ¬ ((0 : Int32) < (0 : Int32))), (by decide : (0 : Int32) < (1 : Int32))⟩) (g := (mkF m 58 #[.val (.int n), .val (.int ci), .val (.int (Own.toC (ci &&& (255 : Int32)))), .val (.int (Own.toC ((Own.ushr ci (8 : Int32)) &&& (255 : Int32)))), .val (.int (Own.toC ((Own.ushr ci (16 : Int32)) &&& (255 : Int32))))] [(.int (Own.toC (ci &&& (255 : Int32)))), (.int (0 : Int32)), (.ref a17), (.ref a17), (.ref a16), (.ref a16)])) rfl rfl (hb hby own_d1b_58)
  have P4 : ∀ t, Steps p.tables e below (T18.setTop (mkF m 59 #[.val (.int n), .val (.int ci), .val (.int (Own.toC (ci &&& (255 : Int32)))), .val (.int (Own.toC ((Own.ushr ci (8 : Int32)) &&& (255 : Int32)))), .val (.int (Own.toC ((Own.ushr ci (16 : Int32)) &&& (255 : Int32))))] [(.ref a17), (.ref a16), (.ref a16)])) t → Steps p.tables e below (s₁.setTop (entryFrame m #[(.int n), (.int ci)] 5)) t := fun t k => P3 t (by
      refine Own.w_dup H17 own_d1b_55 56 rfl rfl ?_
      refine Own.w_iconst H17 own_d1b_56 57 rfl (z := (0 : Int32)) rfl ?_
      refine Own.w_iloadN H17 own_d1b_57 58 rfl rfl ?_
      exact st18 t k)
  have H18 := Own.hr X18 hx hby
  have V18 := Arv.set Ar18 q118 S18 q318 Hh18 G18 (fits_nar_char _) W18 0 rfl (Nat.le_of_ble_eq_true rfl)
  have N19 := Fr.snoc X18 N0 gc
  have E0 := E0.wr W18
  have F1 := F1.other W18 (Or.inl ne)
  have F2 := F2.other W18 (Or.inl ne)
  have K0 := K0.wr W18 (Or.inr (Nat.le_trans E16.1 (Nat.le_of_eq g17.symm)))
  have OL0 := OL0.wr W18 gc
  have hws : ∀ d ∈ StrChars.Road.words, d.before a0 Z = true := fun d hd => hw d ((by decide +kernel : ∀ d ∈ StrChars.Road.words, d ∈ tables_1) d hd)
  have hp : ∀ c ∈ ([nar .char (Own.toC (ci &&& (255 : Int32)))] : List Int32), ¬ c < 0 ∧ ¬ (255 : Int32) < c := by
    intro c hc
    simp only [List.mem_cons, List.not_mem_nil, or_false] at hc
    rcases hc with rfl <;> exact chr_ok _
  obtain ⟨_, _, ⟨T20, L20, k20, n20⟩, -, X20, ⟨Lc20, hQ20, l20, y20, z20⟩, st20⟩ := X18.specialBack hx (y := (⟨"java/lang/String", "<init>", "([C)V"⟩ : MethodName)) rfl hown (mvT hZ (hw _ (List.mem_of_getElem? (i := 8) rfl))) (mvT hZ (hw _ (List.mem_of_getElem? (i := 9) rfl))) (mvT hZ (hw _ (List.mem_of_getElem? (i := 10) rfl))) (by decide) (StrChars.Road.backV (W := 1) hZ hws (kI := 4) (hw _ (List.mem_of_getElem? (i := 5) rfl)) (cs := ([nar .char (Own.toC (ci &&& (255 : Int32)))] : List Int32)) (bs := ([nar .char (Own.toC (ci &&& (255 : Int32)))] : List Int32).map (fun c => c.toInt8.toInt32)) (n := 1) ga (Nat.le_trans Z0 K0.1) E0 F1 F2 V18 (S0.ext OL0.2) hz rfl rfl (by decide) (by decide) hp rfl (by decide) (by decide)) (g := (mkF m 59 #[.val (.int n), .val (.int ci), .val (.int (Own.toC (ci &&& (255 : Int32)))), .val (.int (Own.toC ((Own.ushr ci (8 : Int32)) &&& (255 : Int32)))), .val (.int (Own.toC ((Own.ushr ci (16 : Int32)) &&& (255 : Int32))))] [(.ref a17), (.ref a16), (.ref a16)])) rfl (by rw [hml]; rfl) (Steps.refl _) (a := a16) (argsL := [(.ref a17)]) (rest := [(.ref a16)]) (lenOf pd_2 rfl) rfl (by show 2 * 0 + _ ≤ _; exact Nat.le_of_ble_eq_true rfl) (hb hby own_d1b_59) (fun _ _ => ⟨rfl, e18, (by decide : 2 + 1 ≤ _), (by decide : 5 + 1 ≤ _)⟩)
  dsimp only [Pt.U, Pt.locs, Pt.cells, Pt.slots] at X20 l20 y20 z20 st20 hQ20
  subst l20 y20 z20
  obtain ⟨rfl, Nc, Kc, Ec, Cc, t1, kb1, -, -, -, Vc, Ac⟩ := hQ20
  have P5 : ∀ t, Steps p.tables e below (T20.setTop (mkF m 62 #[.val (.int n), .val (.int ci), .val (.int (Own.toC (ci &&& (255 : Int32)))), .val (.int (Own.toC ((Own.ushr ci (8 : Int32)) &&& (255 : Int32)))), .val (.int (Own.toC ((Own.ushr ci (16 : Int32)) &&& (255 : Int32))))] [(.ref a16)])) t → Steps p.tables e below (s₁.setTop (entryFrame m #[(.int n), (.int ci)] 5)) t := fun t k => P4 t (by
      exact st20.trans k)
  have H20 := Own.hr X20 hx hby
  have N21 := Fr.app N19 Nc
  have Kf := K0.trans Kc (allS (Or.inr (Nat.le_of_eq g16.symm)) all0)
  have hn' : n = (1 : Int32) := by simpa [if_icmp.holds] using hn1
  have HRa := CHr.keep Kf sf0 HC0
  have HRe := HRa.trans (CHv.at (vm0 := s.vm) (s := s) X20 hZ (hEL hw) HRa.1)
  rw [← hh] at HRe
  have hcd := StrChars.Road.codOf (cs := ([nar .char (Own.toC (ci &&& (255 : Int32)))] : List Int32)) (n := 1) rfl (fun x hx => (hp x hx).2)
  obtain ⟨fs, hr, hrun, hended, hW, hsame⟩ := X20.leave (v := some (.ref a16)) (fun h => by rw [Bd.returns] at h; cases h)
  obtain ⟨hW1, hW2, hW3⟩ := SB0.ended hW (Kf.1) hsame
  refine ⟨_, _, P5 _ ?_, hrun, hended, _, _, rfl, ?_, HRe, ⟨_, rfl⟩, hW1, hW2, hW3.mono (by decide : 3 ≤ _) (by decide : 6 ≤ _)⟩
  · exact retOut X20 hx Bd.returns rfl (Or.inr (Or.inr (Or.inr (Or.inr ⟨rfl, rfl, rfl⟩)))) (hb hby own_d1b_62) hr
  · exact ⟨_, rfl, N21, Kf, t1, kb1, ([nar .char (Own.toC (ci &&& (255 : Int32)))] : List Int32), (1 : Int32), _, Ec, Cc, Vc, Ac, hcd, fun c hc => ⟨(hp c hc).1, fun r => (hp c hc).2 (Int32.lt_trans (by decide) r)⟩, (by decide : 1 ≤ 4000), hn'.symm⟩
theorem own_d1c_0 : decode method_2_code 0 = .ok (.iload_n 1, 1) := by decide +kernel
theorem own_d1c_1 : decode method_2_code 1 = .ok (.sipush 255, 3) := by decide +kernel
theorem own_d1c_4 : decode method_2_code 4 = .ok (.iand, 1) := by decide +kernel
theorem own_d1c_5 : decode method_2_code 5 = .ok (.i2c, 1) := by decide +kernel
theorem own_d1c_6 : decode method_2_code 6 = .ok (.istore_n 2, 1) := by decide +kernel
theorem own_d1c_7 : decode method_2_code 7 = .ok (.iload_n 1, 1) := by decide +kernel
theorem own_d1c_8 : decode method_2_code 8 = .ok (.bipush 8, 2) := by decide +kernel
theorem own_d1c_10 : decode method_2_code 10 = .ok (.iushr, 1) := by decide +kernel
theorem own_d1c_11 : decode method_2_code 11 = .ok (.sipush 255, 3) := by decide +kernel
theorem own_d1c_14 : decode method_2_code 14 = .ok (.iand, 1) := by decide +kernel
theorem own_d1c_15 : decode method_2_code 15 = .ok (.i2c, 1) := by decide +kernel
theorem own_d1c_16 : decode method_2_code 16 = .ok (.istore_n 3, 1) := by decide +kernel
theorem own_d1c_17 : decode method_2_code 17 = .ok (.iload_n 1, 1) := by decide +kernel
theorem own_d1c_18 : decode method_2_code 18 = .ok (.bipush 16, 2) := by decide +kernel
theorem own_d1c_20 : decode method_2_code 20 = .ok (.iushr, 1) := by decide +kernel
theorem own_d1c_21 : decode method_2_code 21 = .ok (.sipush 255, 3) := by decide +kernel
theorem own_d1c_24 : decode method_2_code 24 = .ok (.iand, 1) := by decide +kernel
theorem own_d1c_25 : decode method_2_code 25 = .ok (.i2c, 1) := by decide +kernel
theorem own_d1c_26 : decode method_2_code 26 = .ok (.istore 4, 2) := by decide +kernel
theorem own_d1c_28 : decode method_2_code 28 = .ok (.iload_n 0, 1) := by decide +kernel
theorem own_d1c_29 : decode method_2_code 29 = .ok (.ifCond .ne 14, 3) := by decide +kernel
theorem own_d1c_43 : decode method_2_code 43 = .ok (.iload_n 0, 1) := by decide +kernel
theorem own_d1c_44 : decode method_2_code 44 = .ok (.iconst 1, 1) := by decide +kernel
theorem own_d1c_45 : decode method_2_code 45 = .ok (.if_icmp .ne 18, 3) := by decide +kernel
theorem own_d1c_63 : decode method_2_code 63 = .ok (.iload_n 0, 1) := by decide +kernel
theorem own_d1c_64 : decode method_2_code 64 = .ok (.iconst 2, 1) := by decide +kernel
theorem own_d1c_65 : decode method_2_code 65 = .ok (.if_icmp .ne 22, 3) := by decide +kernel
theorem own_d1c_68 : decode method_2_code 68 = .ok (.new 7, 3) := by decide +kernel
theorem own_d1c_71 : decode method_2_code 71 = .ok (.dup, 1) := by decide +kernel
theorem own_d1c_72 : decode method_2_code 72 = .ok (.iconst 2, 1) := by decide +kernel
theorem own_d1c_73 : decode method_2_code 73 = .ok (.newarray .char, 2) := by decide +kernel
theorem own_d1c_75 : decode method_2_code 75 = .ok (.dup, 1) := by decide +kernel
theorem own_d1c_76 : decode method_2_code 76 = .ok (.iconst 0, 1) := by decide +kernel
theorem own_d1c_77 : decode method_2_code 77 = .ok (.iload_n 2, 1) := by decide +kernel
theorem own_d1c_78 : decode method_2_code 78 = .ok (.castore, 1) := by decide +kernel
theorem own_d1c_79 : decode method_2_code 79 = .ok (.dup, 1) := by decide +kernel
theorem own_d1c_80 : decode method_2_code 80 = .ok (.iconst 1, 1) := by decide +kernel
theorem own_d1c_81 : decode method_2_code 81 = .ok (.iload_n 3, 1) := by decide +kernel
theorem own_d1c_82 : decode method_2_code 82 = .ok (.castore, 1) := by decide +kernel
theorem own_d1c_83 : decode method_2_code 83 = .ok (.invokespecial 9, 3) := by decide +kernel
theorem own_d1c_86 : decode method_2_code 86 = .ok (.areturn, 1) := by decide +kernel
theorem ef_1c (m : MethodId) (n : Int32) (ci : Int32) : entryFrame m #[(.int n), (.int ci)] 5 = mkF m 0 #[.val (.int n), .val (.int ci), .unset, .unset, .unset] [] := by first | (simp [entryFrame, mkF, argsToLocals, Value.category, maxLocals]; done) | rfl
set_option maxRecDepth 65536 in
set_option maxHeartbeats 40000000 in
theorem rm_1c (l : Launch) (Z : State) (a0 : Array Value) (hw : ∀ d ∈ tables_1, d.before a0 Z = true) (ws : List Jvm.Cond) (n : Int32) (ci : Int32) (h0 : Heap) (n0 : Nat) (Z0 : n0 ≤ h0.size) (z : Int32) (OL : Old Z n0 h0) (S0 : Sta Z Z.heap "java/lang/String" "COMPACT_STRINGS" "Z" (.int z)) (hz : ¬ z = 0) (hn0 : ifCond.holds .ne n = true) (hn1 : if_icmp.holds .ne n (1 : Int32) = true) (hn2 : if_icmp.holds .ne n (2 : Int32) = false) :
    MetFree l (⟨"com/example/motley/motley/bench/DigestEqualsPinLaw", "str", "(II)Ljava/lang/String;"⟩ : MethodName) (head1 (Jvm.Cond.code (⟨"com/example/motley/motley/bench/DigestEqualsPinLaw", "str", "(II)Ljava/lang/String;"⟩ : MethodName) method_2_code 5 (some (.object "java/lang/String")) :: ws) ({ frames := 4, cells := 6, slots := 16, locals := 66 } : Room)) (fun aa U => aa = #[(.int n), (.int ci)] ∧ Z.Warmed39 U.vm ∧ U.heap = h0 ∧ CHv Z EL U.vm h0) (fun _ _ _ _ _ => True) (fun _ U o U' => ∃ v L, o = .returned v ∧ Q_1c Z n h0 n0 v U'.heap L ∧ CHr Z EL U.vm U.heap U'.vm U'.heap ∧ ReturnedEndW U o U' L ({ frames := 4, cells := 6, slots := 16, locals := 66 } : Room).cells ({ frames := 4, cells := 6, slots := 16, locals := 66 } : Room).slots) := by
  refine MetFree.of_bodySF (plainFor_of_name pn_1c) hisR ?_
  intro p e s m args below meth c s₁ Bd hml0 hP hK
  obtain ⟨rfl, hZ, hh, HC0⟩ := hP
  have hx := Bd.exec
  have hby := Bd.bytes
  have hml : c.maxLocals = 5 := hml0
  have hown : s.vm.findClass "com/example/motley/motley/bench/DigestEqualsPinLaw" = some m.cls := findClass_of_methodNamed Bd.named
  have hnm := (name_of_methodNamed Bd.named Bd.method).1
  have X0 : Stand p l e ({ frames := 4, cells := 6, slots := 16, locals := 66 } : Room) s m #[(.int n), (.int ci)] below meth c s₁ [] 0 0 := Stand.of_body Bd
  have e0 : s₁.heap = h0 := by rw [← hh, Bd.state]; rfl
  have N0 := Fr.nil n0
  have H0 := Own.hr X0 hx hby
  have pre0 : ∀ t, Steps p.tables e below (s₁.setTop (mkF m 0 #[.val (.int n), .val (.int ci), .unset, .unset, .unset] [])) t → Steps p.tables e below (s₁.setTop (entryFrame m #[(.int n), (.int ci)] 5)) t := fun t k => castTop (ef_1c m n ci) k
  have SB0 : s.Since s.vm h0.size := (State.WarmedH.refl s).since _
  have P1 : ∀ t, Steps p.tables e below (s₁.setTop (mkF m 68 #[.val (.int n), .val (.int ci), .val (.int (Own.toC (ci &&& (255 : Int32)))), .val (.int (Own.toC ((Own.ushr ci (8 : Int32)) &&& (255 : Int32)))), .val (.int (Own.toC ((Own.ushr ci (16 : Int32)) &&& (255 : Int32))))] [])) t → Steps p.tables e below (s₁.setTop (entryFrame m #[(.int n), (.int ci)] 5)) t := fun t k => pre0 t (by
      refine Own.w_iloadN H0 own_d1c_0 1 rfl rfl ?_
      refine Own.w_sipush H0 own_d1c_1 4 rfl (z := (255 : Int32)) rfl ?_
      refine Own.w_iand H0 own_d1c_4 5 rfl ?_
      refine Own.w_i2c H0 own_d1c_5 6 rfl ?_
      refine Own.w_istoreN H0 own_d1c_6 7 rfl (l' := #[.val (.int n), .val (.int ci), .val (.int (Own.toC (ci &&& (255 : Int32)))), .unset, .unset]) rfl ?_
      refine Own.w_iloadN H0 own_d1c_7 8 rfl rfl ?_
      refine Own.w_bipush H0 own_d1c_8 10 rfl (z := (8 : Int32)) rfl ?_
      refine Own.w_iushr H0 own_d1c_10 11 rfl ?_
      refine Own.w_sipush H0 own_d1c_11 14 rfl (z := (255 : Int32)) rfl ?_
      refine Own.w_iand H0 own_d1c_14 15 rfl ?_
      refine Own.w_i2c H0 own_d1c_15 16 rfl ?_
      refine Own.w_istoreN H0 own_d1c_16 17 rfl (l' := #[.val (.int n), .val (.int ci), .val (.int (Own.toC (ci &&& (255 : Int32)))), .val (.int (Own.toC ((Own.ushr ci (8 : Int32)) &&& (255 : Int32)))), .unset]) rfl ?_
      refine Own.w_iloadN H0 own_d1c_17 18 rfl rfl ?_
      refine Own.w_bipush H0 own_d1c_18 20 rfl (z := (16 : Int32)) rfl ?_
      refine Own.w_iushr H0 own_d1c_20 21 rfl ?_
      refine Own.w_sipush H0 own_d1c_21 24 rfl (z := (255 : Int32)) rfl ?_
      refine Own.w_iand H0 own_d1c_24 25 rfl ?_
      refine Own.w_i2c H0 own_d1c_25 26 rfl ?_
      refine Own.w_istore H0 own_d1c_26 28 rfl (l' := #[.val (.int n), .val (.int ci), .val (.int (Own.toC (ci &&& (255 : Int32)))), .val (.int (Own.toC ((Own.ushr ci (8 : Int32)) &&& (255 : Int32)))), .val (.int (Own.toC ((Own.ushr ci (16 : Int32)) &&& (255 : Int32))))]) rfl ?_
      refine Own.w_iloadN H0 own_d1c_28 29 rfl rfl ?_
      refine Own.w_ifCondYes H0 own_d1c_29 (hn0) 43 (by decide) (by decide) ?_
      refine Own.w_iloadN H0 own_d1c_43 44 rfl rfl ?_
      refine Own.w_iconst H0 own_d1c_44 45 rfl (z := (1 : Int32)) rfl ?_
      refine Own.w_icmpYes H0 own_d1c_45 (hn1) 63 (by decide) (by decide) ?_
      refine Own.w_iloadN H0 own_d1c_63 64 rfl rfl ?_
      refine Own.w_iconst H0 own_d1c_64 65 rfl (z := (2 : Int32)) rfl ?_
      refine Own.w_icmpNo H0 own_d1c_65 (hn2) 68 rfl ?_
      exact k)
  obtain ⟨T22, h22, X22, e22, E22, A22, D22, -, st22⟩ := newO X0 hx hZ hown (hw _ (List.mem_of_getElem? (i := 4) rfl)) (hw _ (List.mem_of_getElem? (i := 5) rfl)) (hw _ (List.mem_of_getElem? (i := 6) rfl)) e0 (g := (mkF m 68 #[.val (.int n), .val (.int ci), .val (.int (Own.toC (ci &&& (255 : Int32)))), .val (.int (Own.toC ((Own.ushr ci (8 : Int32)) &&& (255 : Int32)))), .val (.int (Own.toC ((Own.ushr ci (16 : Int32)) &&& (255 : Int32))))] [])) rfl (hb hby own_d1c_68) (by decide : 0 + 1 ≤ _) (by decide : 0 + 4 ≤ _)
  obtain ⟨a22, g22⟩ : ∃ z, z = (h0).size := ⟨_, rfl⟩
  rw [← g22] at A22 D22 st22
  have P2 : ∀ t, Steps p.tables e below (T22.setTop (mkF m 71 #[.val (.int n), .val (.int ci), .val (.int (Own.toC (ci &&& (255 : Int32)))), .val (.int (Own.toC ((Own.ushr ci (8 : Int32)) &&& (255 : Int32)))), .val (.int (Own.toC ((Own.ushr ci (16 : Int32)) &&& (255 : Int32))))] [(.ref a22)])) t → Steps p.tables e below (s₁.setTop (entryFrame m #[(.int n), (.int ci)] 5)) t := fun t k => P1 t (by
      exact st22 t k)
  have H22 := Own.hr X22 hx hby
  have ga : n0 ≤ a22 := by rw [g22]; exact Z0
  have V1 := D22 (Or.inr (hw _ (List.mem_of_getElem? (i := 33) rfl))) (ty := .array .byte) (by decide)
  have C1 := D22 (Or.inr (hw _ (List.mem_of_getElem? (i := 31) rfl))) (ty := .byte) (by decide)
  obtain ⟨T23, h23, cA23, X23, e23, E23, A23, st23⟩ := newP X22 hx hZ (hw _ (List.mem_of_getElem? (i := 7) rfl)) e22 (g := (mkF m 73 #[.val (.int n), .val (.int ci), .val (.int (Own.toC (ci &&& (255 : Int32)))), .val (.int (Own.toC ((Own.ushr ci (8 : Int32)) &&& (255 : Int32)))), .val (.int (Own.toC ((Own.ushr ci (16 : Int32)) &&& (255 : Int32))))] [(.int (2 : Int32)), (.ref a22), (.ref a22)])) rfl (hb hby own_d1c_73) rfl (by decide) (cap := 2) (by decide) (by decide) (by decide : 1 + 1 ≤ _) (by decide : 4 + 2 ≤ _)
  obtain ⟨a23, g23⟩ : ∃ z, z = (h22).size := ⟨_, rfl⟩
  rw [← g23] at A23 st23
  have P3 : ∀ t, Steps p.tables e below (T23.setTop (mkF m 75 #[.val (.int n), .val (.int ci), .val (.int (Own.toC (ci &&& (255 : Int32)))), .val (.int (Own.toC ((Own.ushr ci (8 : Int32)) &&& (255 : Int32)))), .val (.int (Own.toC ((Own.ushr ci (16 : Int32)) &&& (255 : Int32))))] [(.ref a23), (.ref a22), (.ref a22)])) t → Steps p.tables e below (s₁.setTop (entryFrame m #[(.int n), (.int ci)] 5)) t := fun t k => P2 t (by
      refine Own.w_dup H22 own_d1c_71 72 rfl rfl ?_
      refine Own.w_iconst H22 own_d1c_72 73 rfl (z := (2 : Int32)) rfl ?_
      exact st23 t k)
  have H23 := Own.hr X23 hx hby
  have gc : n0 ≤ a23 := by rw [g23]; exact Nat.le_trans Z0 E22.1
  have ne : a22 ≠ a23 := Nat.ne_of_lt (Nat.lt_of_lt_of_le A22.lt (Nat.le_of_eq g23.symm))
  have E0 := A22.ext E23
  have F1 := V1.ext E23
  have F2 := C1.ext E23
  have K0 := ((Keep.refl h0 []).ext E22).ext E23
  have OL0 := (OL.ext E22).ext E23
  have Va := (Arv.new A23 (by decide)).pad (pad_rep [] (.int (0 : Int32)) 2)
  obtain ⟨cl24, Ar24, q124, S24, q324, Hh24, G24⟩ := id Va
  obtain ⟨T24, h24, X24, e24, W24, st24⟩ := stC X23 hx hZ e23 Ar24 (j := (0 : Int32)) (inb_of S24 ⟨(by decide : ¬ ((0 : Int32) < (0 : Int32))), (by decide : (0 : Int32) < (2 : Int32))⟩) (g := (mkF m 78 #[.val (.int n), .val (.int ci), .val (.int (Own.toC (ci &&& (255 : Int32)))), .val (.int (Own.toC ((Own.ushr ci (8 : Int32)) &&& (255 : Int32)))), .val (.int (Own.toC ((Own.ushr ci (16 : Int32)) &&& (255 : Int32))))] [(.int (Own.toC (ci &&& (255 : Int32)))), (.int (0 : Int32)), (.ref a23), (.ref a23), (.ref a22), (.ref a22)])) rfl rfl (hb hby own_d1c_78)
  have P4 : ∀ t, Steps p.tables e below (T24.setTop (mkF m 79 #[.val (.int n), .val (.int ci), .val (.int (Own.toC (ci &&& (255 : Int32)))), .val (.int (Own.toC ((Own.ushr ci (8 : Int32)) &&& (255 : Int32)))), .val (.int (Own.toC ((Own.ushr ci (16 : Int32)) &&& (255 : Int32))))] [(.ref a23), (.ref a22), (.ref a22)])) t → Steps p.tables e below (s₁.setTop (entryFrame m #[(.int n), (.int ci)] 5)) t := fun t k => P3 t (by
      refine Own.w_dup H23 own_d1c_75 76 rfl rfl ?_
      refine Own.w_iconst H23 own_d1c_76 77 rfl (z := (0 : Int32)) rfl ?_
      refine Own.w_iloadN H23 own_d1c_77 78 rfl rfl ?_
      exact st24 t k)
  have H24 := Own.hr X24 hx hby
  have V24 := Arv.set Ar24 q124 S24 q324 Hh24 G24 (fits_nar_char _) W24 0 rfl (Nat.le_of_ble_eq_true rfl)
  have N25 := Fr.snoc X24 N0 gc
  have E0 := E0.wr W24
  have F1 := F1.other W24 (Or.inl ne)
  have F2 := F2.other W24 (Or.inl ne)
  have K0 := K0.wr W24 (Or.inr (Nat.le_trans E22.1 (Nat.le_of_eq g23.symm)))
  have OL0 := OL0.wr W24 gc
  obtain ⟨cl26, Ar26, q126, S26, q326, Hh26, G26⟩ := id V24
  obtain ⟨T26, h26, X26, e26, W26, st26⟩ := stC X24 hx hZ e24 Ar26 (j := (1 : Int32)) (inb_of S26 ⟨(by decide : ¬ ((1 : Int32) < (0 : Int32))), (by decide : (1 : Int32) < (2 : Int32))⟩) (g := (mkF m 82 #[.val (.int n), .val (.int ci), .val (.int (Own.toC (ci &&& (255 : Int32)))), .val (.int (Own.toC ((Own.ushr ci (8 : Int32)) &&& (255 : Int32)))), .val (.int (Own.toC ((Own.ushr ci (16 : Int32)) &&& (255 : Int32))))] [(.int (Own.toC ((Own.ushr ci (8 : Int32)) &&& (255 : Int32)))), (.int (1 : Int32)), (.ref a23), (.ref a23), (.ref a22), (.ref a22)])) rfl rfl (hb hby own_d1c_82)
  have P5 : ∀ t, Steps p.tables e below (T26.setTop (mkF m 83 #[.val (.int n), .val (.int ci), .val (.int (Own.toC (ci &&& (255 : Int32)))), .val (.int (Own.toC ((Own.ushr ci (8 : Int32)) &&& (255 : Int32)))), .val (.int (Own.toC ((Own.ushr ci (16 : Int32)) &&& (255 : Int32))))] [(.ref a23), (.ref a22), (.ref a22)])) t → Steps p.tables e below (s₁.setTop (entryFrame m #[(.int n), (.int ci)] 5)) t := fun t k => P4 t (by
      refine Own.w_dup H24 own_d1c_79 80 rfl rfl ?_
      refine Own.w_iconst H24 own_d1c_80 81 rfl (z := (1 : Int32)) rfl ?_
      refine Own.w_iloadN H24 own_d1c_81 82 rfl rfl ?_
      exact st26 t k)
  have H26 := Own.hr X26 hx hby
  have V26 := Arv.set Ar26 q126 S26 q326 Hh26 G26 (fits_nar_char _) W26 1 rfl (Nat.le_of_ble_eq_true rfl)
  have N27 := Fr.snoc X26 N25 gc
  have E0 := E0.wr W26
  have F1 := F1.other W26 (Or.inl ne)
  have F2 := F2.other W26 (Or.inl ne)
  have K0 := K0.wr W26 (Or.inr (Nat.le_trans E22.1 (Nat.le_of_eq g23.symm)))
  have OL0 := OL0.wr W26 gc
  have hws : ∀ d ∈ StrChars.Road.words, d.before a0 Z = true := fun d hd => hw d ((by decide +kernel : ∀ d ∈ StrChars.Road.words, d ∈ tables_1) d hd)
  have hp : ∀ c ∈ ([nar .char (Own.toC (ci &&& (255 : Int32))), nar .char (Own.toC ((Own.ushr ci (8 : Int32)) &&& (255 : Int32)))] : List Int32), ¬ c < 0 ∧ ¬ (255 : Int32) < c := by
    intro c hc
    simp only [List.mem_cons, List.not_mem_nil, or_false] at hc
    rcases hc with rfl | rfl <;> exact chr_ok _
  obtain ⟨_, _, ⟨T28, L28, k28, n28⟩, -, X28, ⟨Lc28, hQ28, l28, y28, z28⟩, st28⟩ := X26.specialBack hx (y := (⟨"java/lang/String", "<init>", "([C)V"⟩ : MethodName)) rfl hown (mvT hZ (hw _ (List.mem_of_getElem? (i := 8) rfl))) (mvT hZ (hw _ (List.mem_of_getElem? (i := 9) rfl))) (mvT hZ (hw _ (List.mem_of_getElem? (i := 10) rfl))) (by decide) (StrChars.Road.backV (W := 1) hZ hws (kI := 4) (hw _ (List.mem_of_getElem? (i := 5) rfl)) (cs := ([nar .char (Own.toC (ci &&& (255 : Int32))), nar .char (Own.toC ((Own.ushr ci (8 : Int32)) &&& (255 : Int32)))] : List Int32)) (bs := ([nar .char (Own.toC (ci &&& (255 : Int32))), nar .char (Own.toC ((Own.ushr ci (8 : Int32)) &&& (255 : Int32)))] : List Int32).map (fun c => c.toInt8.toInt32)) (n := 2) ga (Nat.le_trans Z0 K0.1) E0 F1 F2 V26 (S0.ext OL0.2) hz rfl rfl (by decide) (by decide) hp rfl (by decide) (by decide)) (g := (mkF m 83 #[.val (.int n), .val (.int ci), .val (.int (Own.toC (ci &&& (255 : Int32)))), .val (.int (Own.toC ((Own.ushr ci (8 : Int32)) &&& (255 : Int32)))), .val (.int (Own.toC ((Own.ushr ci (16 : Int32)) &&& (255 : Int32))))] [(.ref a23), (.ref a22), (.ref a22)])) rfl (by rw [hml]; rfl) (Steps.refl _) (a := a22) (argsL := [(.ref a23)]) (rest := [(.ref a22)]) (lenOf pd_2 rfl) rfl (by show 2 * 0 + _ ≤ _; exact Nat.le_of_ble_eq_true rfl) (hb hby own_d1c_83) (fun _ _ => ⟨rfl, e26, (by decide : 2 + 1 ≤ _), (by decide : 6 + 2 ≤ _)⟩)
  dsimp only [Pt.U, Pt.locs, Pt.cells, Pt.slots] at X28 l28 y28 z28 st28 hQ28
  subst l28 y28 z28
  obtain ⟨rfl, Nc, Kc, Ec, Cc, t1, kb1, -, -, -, Vc, Ac⟩ := hQ28
  have P6 : ∀ t, Steps p.tables e below (T28.setTop (mkF m 86 #[.val (.int n), .val (.int ci), .val (.int (Own.toC (ci &&& (255 : Int32)))), .val (.int (Own.toC ((Own.ushr ci (8 : Int32)) &&& (255 : Int32)))), .val (.int (Own.toC ((Own.ushr ci (16 : Int32)) &&& (255 : Int32))))] [(.ref a22)])) t → Steps p.tables e below (s₁.setTop (entryFrame m #[(.int n), (.int ci)] 5)) t := fun t k => P5 t (by
      exact st28.trans k)
  have H28 := Own.hr X28 hx hby
  have N29 := Fr.app N27 Nc
  have Kf := K0.trans Kc (allS (Or.inr (Nat.le_of_eq g22.symm)) all0)
  have hn' : n = (2 : Int32) := by simpa [if_icmp.holds] using hn2
  have HRa := CHr.keep Kf sf0 HC0
  have HRe := HRa.trans (CHv.at (vm0 := s.vm) (s := s) X28 hZ (hEL hw) HRa.1)
  rw [← hh] at HRe
  have hcd := StrChars.Road.codOf (cs := ([nar .char (Own.toC (ci &&& (255 : Int32))), nar .char (Own.toC ((Own.ushr ci (8 : Int32)) &&& (255 : Int32)))] : List Int32)) (n := 2) rfl (fun x hx => (hp x hx).2)
  obtain ⟨fs, hr, hrun, hended, hW, hsame⟩ := X28.leave (v := some (.ref a22)) (fun h => by rw [Bd.returns] at h; cases h)
  obtain ⟨hW1, hW2, hW3⟩ := SB0.ended hW (Kf.1) hsame
  refine ⟨_, _, P6 _ ?_, hrun, hended, _, _, rfl, ?_, HRe, ⟨_, rfl⟩, hW1, hW2, hW3.mono (by decide : 3 ≤ _) (by decide : 8 ≤ _)⟩
  · exact retOut X28 hx Bd.returns rfl (Or.inr (Or.inr (Or.inr (Or.inr ⟨rfl, rfl, rfl⟩)))) (hb hby own_d1c_86) hr
  · exact ⟨_, rfl, N29, Kf, t1, kb1, ([nar .char (Own.toC (ci &&& (255 : Int32))), nar .char (Own.toC ((Own.ushr ci (8 : Int32)) &&& (255 : Int32)))] : List Int32), (2 : Int32), _, Ec, Cc, Vc, Ac, hcd, fun c hc => ⟨(hp c hc).1, fun r => (hp c hc).2 (Int32.lt_trans (by decide) r)⟩, (by decide : 2 ≤ 4000), hn'.symm⟩
theorem own_d1d_0 : decode method_2_code 0 = .ok (.iload_n 1, 1) := by decide +kernel
theorem own_d1d_1 : decode method_2_code 1 = .ok (.sipush 255, 3) := by decide +kernel
theorem own_d1d_4 : decode method_2_code 4 = .ok (.iand, 1) := by decide +kernel
theorem own_d1d_5 : decode method_2_code 5 = .ok (.i2c, 1) := by decide +kernel
theorem own_d1d_6 : decode method_2_code 6 = .ok (.istore_n 2, 1) := by decide +kernel
theorem own_d1d_7 : decode method_2_code 7 = .ok (.iload_n 1, 1) := by decide +kernel
theorem own_d1d_8 : decode method_2_code 8 = .ok (.bipush 8, 2) := by decide +kernel
theorem own_d1d_10 : decode method_2_code 10 = .ok (.iushr, 1) := by decide +kernel
theorem own_d1d_11 : decode method_2_code 11 = .ok (.sipush 255, 3) := by decide +kernel
theorem own_d1d_14 : decode method_2_code 14 = .ok (.iand, 1) := by decide +kernel
theorem own_d1d_15 : decode method_2_code 15 = .ok (.i2c, 1) := by decide +kernel
theorem own_d1d_16 : decode method_2_code 16 = .ok (.istore_n 3, 1) := by decide +kernel
theorem own_d1d_17 : decode method_2_code 17 = .ok (.iload_n 1, 1) := by decide +kernel
theorem own_d1d_18 : decode method_2_code 18 = .ok (.bipush 16, 2) := by decide +kernel
theorem own_d1d_20 : decode method_2_code 20 = .ok (.iushr, 1) := by decide +kernel
theorem own_d1d_21 : decode method_2_code 21 = .ok (.sipush 255, 3) := by decide +kernel
theorem own_d1d_24 : decode method_2_code 24 = .ok (.iand, 1) := by decide +kernel
theorem own_d1d_25 : decode method_2_code 25 = .ok (.i2c, 1) := by decide +kernel
theorem own_d1d_26 : decode method_2_code 26 = .ok (.istore 4, 2) := by decide +kernel
theorem own_d1d_28 : decode method_2_code 28 = .ok (.iload_n 0, 1) := by decide +kernel
theorem own_d1d_29 : decode method_2_code 29 = .ok (.ifCond .ne 14, 3) := by decide +kernel
theorem own_d1d_43 : decode method_2_code 43 = .ok (.iload_n 0, 1) := by decide +kernel
theorem own_d1d_44 : decode method_2_code 44 = .ok (.iconst 1, 1) := by decide +kernel
theorem own_d1d_45 : decode method_2_code 45 = .ok (.if_icmp .ne 18, 3) := by decide +kernel
theorem own_d1d_63 : decode method_2_code 63 = .ok (.iload_n 0, 1) := by decide +kernel
theorem own_d1d_64 : decode method_2_code 64 = .ok (.iconst 2, 1) := by decide +kernel
theorem own_d1d_65 : decode method_2_code 65 = .ok (.if_icmp .ne 22, 3) := by decide +kernel
theorem own_d1d_87 : decode method_2_code 87 = .ok (.new 7, 3) := by decide +kernel
theorem own_d1d_90 : decode method_2_code 90 = .ok (.dup, 1) := by decide +kernel
theorem own_d1d_91 : decode method_2_code 91 = .ok (.iconst 3, 1) := by decide +kernel
theorem own_d1d_92 : decode method_2_code 92 = .ok (.newarray .char, 2) := by decide +kernel
theorem own_d1d_94 : decode method_2_code 94 = .ok (.dup, 1) := by decide +kernel
theorem own_d1d_95 : decode method_2_code 95 = .ok (.iconst 0, 1) := by decide +kernel
theorem own_d1d_96 : decode method_2_code 96 = .ok (.iload_n 2, 1) := by decide +kernel
theorem own_d1d_97 : decode method_2_code 97 = .ok (.castore, 1) := by decide +kernel
theorem own_d1d_98 : decode method_2_code 98 = .ok (.dup, 1) := by decide +kernel
theorem own_d1d_99 : decode method_2_code 99 = .ok (.iconst 1, 1) := by decide +kernel
theorem own_d1d_100 : decode method_2_code 100 = .ok (.iload_n 3, 1) := by decide +kernel
theorem own_d1d_101 : decode method_2_code 101 = .ok (.castore, 1) := by decide +kernel
theorem own_d1d_102 : decode method_2_code 102 = .ok (.dup, 1) := by decide +kernel
theorem own_d1d_103 : decode method_2_code 103 = .ok (.iconst 2, 1) := by decide +kernel
theorem own_d1d_104 : decode method_2_code 104 = .ok (.iload 4, 2) := by decide +kernel
theorem own_d1d_106 : decode method_2_code 106 = .ok (.castore, 1) := by decide +kernel
theorem own_d1d_107 : decode method_2_code 107 = .ok (.invokespecial 9, 3) := by decide +kernel
theorem own_d1d_110 : decode method_2_code 110 = .ok (.areturn, 1) := by decide +kernel
theorem ef_1d (m : MethodId) (n : Int32) (ci : Int32) : entryFrame m #[(.int n), (.int ci)] 5 = mkF m 0 #[.val (.int n), .val (.int ci), .unset, .unset, .unset] [] := by first | (simp [entryFrame, mkF, argsToLocals, Value.category, maxLocals]; done) | rfl
set_option maxRecDepth 65536 in
set_option maxHeartbeats 40000000 in
theorem rm_1d (l : Launch) (Z : State) (a0 : Array Value) (hw : ∀ d ∈ tables_1, d.before a0 Z = true) (ws : List Jvm.Cond) (n : Int32) (ci : Int32) (h0 : Heap) (n0 : Nat) (Z0 : n0 ≤ h0.size) (z : Int32) (OL : Old Z n0 h0) (S0 : Sta Z Z.heap "java/lang/String" "COMPACT_STRINGS" "Z" (.int z)) (hz : ¬ z = 0) (hn0 : ifCond.holds .ne n = true) (hn1 : if_icmp.holds .ne n (1 : Int32) = true) (hn2 : if_icmp.holds .ne n (2 : Int32) = true) (hn3 : n = (3 : Int32)) :
    MetFree l (⟨"com/example/motley/motley/bench/DigestEqualsPinLaw", "str", "(II)Ljava/lang/String;"⟩ : MethodName) (head1 (Jvm.Cond.code (⟨"com/example/motley/motley/bench/DigestEqualsPinLaw", "str", "(II)Ljava/lang/String;"⟩ : MethodName) method_2_code 5 (some (.object "java/lang/String")) :: ws) ({ frames := 4, cells := 6, slots := 16, locals := 66 } : Room)) (fun aa U => aa = #[(.int n), (.int ci)] ∧ Z.Warmed39 U.vm ∧ U.heap = h0 ∧ CHv Z EL U.vm h0) (fun _ _ _ _ _ => True) (fun _ U o U' => ∃ v L, o = .returned v ∧ Q_1d Z n h0 n0 v U'.heap L ∧ CHr Z EL U.vm U.heap U'.vm U'.heap ∧ ReturnedEndW U o U' L ({ frames := 4, cells := 6, slots := 16, locals := 66 } : Room).cells ({ frames := 4, cells := 6, slots := 16, locals := 66 } : Room).slots) := by
  refine MetFree.of_bodySF (plainFor_of_name pn_1d) hisR ?_
  intro p e s m args below meth c s₁ Bd hml0 hP hK
  obtain ⟨rfl, hZ, hh, HC0⟩ := hP
  have hx := Bd.exec
  have hby := Bd.bytes
  have hml : c.maxLocals = 5 := hml0
  have hown : s.vm.findClass "com/example/motley/motley/bench/DigestEqualsPinLaw" = some m.cls := findClass_of_methodNamed Bd.named
  have hnm := (name_of_methodNamed Bd.named Bd.method).1
  have X0 : Stand p l e ({ frames := 4, cells := 6, slots := 16, locals := 66 } : Room) s m #[(.int n), (.int ci)] below meth c s₁ [] 0 0 := Stand.of_body Bd
  have e0 : s₁.heap = h0 := by rw [← hh, Bd.state]; rfl
  have N0 := Fr.nil n0
  have H0 := Own.hr X0 hx hby
  have pre0 : ∀ t, Steps p.tables e below (s₁.setTop (mkF m 0 #[.val (.int n), .val (.int ci), .unset, .unset, .unset] [])) t → Steps p.tables e below (s₁.setTop (entryFrame m #[(.int n), (.int ci)] 5)) t := fun t k => castTop (ef_1d m n ci) k
  have SB0 : s.Since s.vm h0.size := (State.WarmedH.refl s).since _
  have P1 : ∀ t, Steps p.tables e below (s₁.setTop (mkF m 87 #[.val (.int n), .val (.int ci), .val (.int (Own.toC (ci &&& (255 : Int32)))), .val (.int (Own.toC ((Own.ushr ci (8 : Int32)) &&& (255 : Int32)))), .val (.int (Own.toC ((Own.ushr ci (16 : Int32)) &&& (255 : Int32))))] [])) t → Steps p.tables e below (s₁.setTop (entryFrame m #[(.int n), (.int ci)] 5)) t := fun t k => pre0 t (by
      refine Own.w_iloadN H0 own_d1d_0 1 rfl rfl ?_
      refine Own.w_sipush H0 own_d1d_1 4 rfl (z := (255 : Int32)) rfl ?_
      refine Own.w_iand H0 own_d1d_4 5 rfl ?_
      refine Own.w_i2c H0 own_d1d_5 6 rfl ?_
      refine Own.w_istoreN H0 own_d1d_6 7 rfl (l' := #[.val (.int n), .val (.int ci), .val (.int (Own.toC (ci &&& (255 : Int32)))), .unset, .unset]) rfl ?_
      refine Own.w_iloadN H0 own_d1d_7 8 rfl rfl ?_
      refine Own.w_bipush H0 own_d1d_8 10 rfl (z := (8 : Int32)) rfl ?_
      refine Own.w_iushr H0 own_d1d_10 11 rfl ?_
      refine Own.w_sipush H0 own_d1d_11 14 rfl (z := (255 : Int32)) rfl ?_
      refine Own.w_iand H0 own_d1d_14 15 rfl ?_
      refine Own.w_i2c H0 own_d1d_15 16 rfl ?_
      refine Own.w_istoreN H0 own_d1d_16 17 rfl (l' := #[.val (.int n), .val (.int ci), .val (.int (Own.toC (ci &&& (255 : Int32)))), .val (.int (Own.toC ((Own.ushr ci (8 : Int32)) &&& (255 : Int32)))), .unset]) rfl ?_
      refine Own.w_iloadN H0 own_d1d_17 18 rfl rfl ?_
      refine Own.w_bipush H0 own_d1d_18 20 rfl (z := (16 : Int32)) rfl ?_
      refine Own.w_iushr H0 own_d1d_20 21 rfl ?_
      refine Own.w_sipush H0 own_d1d_21 24 rfl (z := (255 : Int32)) rfl ?_
      refine Own.w_iand H0 own_d1d_24 25 rfl ?_
      refine Own.w_i2c H0 own_d1d_25 26 rfl ?_
      refine Own.w_istore H0 own_d1d_26 28 rfl (l' := #[.val (.int n), .val (.int ci), .val (.int (Own.toC (ci &&& (255 : Int32)))), .val (.int (Own.toC ((Own.ushr ci (8 : Int32)) &&& (255 : Int32)))), .val (.int (Own.toC ((Own.ushr ci (16 : Int32)) &&& (255 : Int32))))]) rfl ?_
      refine Own.w_iloadN H0 own_d1d_28 29 rfl rfl ?_
      refine Own.w_ifCondYes H0 own_d1d_29 (hn0) 43 (by decide) (by decide) ?_
      refine Own.w_iloadN H0 own_d1d_43 44 rfl rfl ?_
      refine Own.w_iconst H0 own_d1d_44 45 rfl (z := (1 : Int32)) rfl ?_
      refine Own.w_icmpYes H0 own_d1d_45 (hn1) 63 (by decide) (by decide) ?_
      refine Own.w_iloadN H0 own_d1d_63 64 rfl rfl ?_
      refine Own.w_iconst H0 own_d1d_64 65 rfl (z := (2 : Int32)) rfl ?_
      refine Own.w_icmpYes H0 own_d1d_65 (hn2) 87 (by decide) (by decide) ?_
      exact k)
  obtain ⟨T30, h30, X30, e30, E30, A30, D30, -, st30⟩ := newO X0 hx hZ hown (hw _ (List.mem_of_getElem? (i := 4) rfl)) (hw _ (List.mem_of_getElem? (i := 5) rfl)) (hw _ (List.mem_of_getElem? (i := 6) rfl)) e0 (g := (mkF m 87 #[.val (.int n), .val (.int ci), .val (.int (Own.toC (ci &&& (255 : Int32)))), .val (.int (Own.toC ((Own.ushr ci (8 : Int32)) &&& (255 : Int32)))), .val (.int (Own.toC ((Own.ushr ci (16 : Int32)) &&& (255 : Int32))))] [])) rfl (hb hby own_d1d_87) (by decide : 0 + 1 ≤ _) (by decide : 0 + 4 ≤ _)
  obtain ⟨a30, g30⟩ : ∃ z, z = (h0).size := ⟨_, rfl⟩
  rw [← g30] at A30 D30 st30
  have P2 : ∀ t, Steps p.tables e below (T30.setTop (mkF m 90 #[.val (.int n), .val (.int ci), .val (.int (Own.toC (ci &&& (255 : Int32)))), .val (.int (Own.toC ((Own.ushr ci (8 : Int32)) &&& (255 : Int32)))), .val (.int (Own.toC ((Own.ushr ci (16 : Int32)) &&& (255 : Int32))))] [(.ref a30)])) t → Steps p.tables e below (s₁.setTop (entryFrame m #[(.int n), (.int ci)] 5)) t := fun t k => P1 t (by
      exact st30 t k)
  have H30 := Own.hr X30 hx hby
  have ga : n0 ≤ a30 := by rw [g30]; exact Z0
  have V1 := D30 (Or.inr (hw _ (List.mem_of_getElem? (i := 33) rfl))) (ty := .array .byte) (by decide)
  have C1 := D30 (Or.inr (hw _ (List.mem_of_getElem? (i := 31) rfl))) (ty := .byte) (by decide)
  obtain ⟨T31, h31, cA31, X31, e31, E31, A31, st31⟩ := newP X30 hx hZ (hw _ (List.mem_of_getElem? (i := 7) rfl)) e30 (g := (mkF m 92 #[.val (.int n), .val (.int ci), .val (.int (Own.toC (ci &&& (255 : Int32)))), .val (.int (Own.toC ((Own.ushr ci (8 : Int32)) &&& (255 : Int32)))), .val (.int (Own.toC ((Own.ushr ci (16 : Int32)) &&& (255 : Int32))))] [(.int (3 : Int32)), (.ref a30), (.ref a30)])) rfl (hb hby own_d1d_92) rfl (by decide) (cap := 3) (by decide) (by decide) (by decide : 1 + 1 ≤ _) (by decide : 4 + 3 ≤ _)
  obtain ⟨a31, g31⟩ : ∃ z, z = (h30).size := ⟨_, rfl⟩
  rw [← g31] at A31 st31
  have P3 : ∀ t, Steps p.tables e below (T31.setTop (mkF m 94 #[.val (.int n), .val (.int ci), .val (.int (Own.toC (ci &&& (255 : Int32)))), .val (.int (Own.toC ((Own.ushr ci (8 : Int32)) &&& (255 : Int32)))), .val (.int (Own.toC ((Own.ushr ci (16 : Int32)) &&& (255 : Int32))))] [(.ref a31), (.ref a30), (.ref a30)])) t → Steps p.tables e below (s₁.setTop (entryFrame m #[(.int n), (.int ci)] 5)) t := fun t k => P2 t (by
      refine Own.w_dup H30 own_d1d_90 91 rfl rfl ?_
      refine Own.w_iconst H30 own_d1d_91 92 rfl (z := (3 : Int32)) rfl ?_
      exact st31 t k)
  have H31 := Own.hr X31 hx hby
  have gc : n0 ≤ a31 := by rw [g31]; exact Nat.le_trans Z0 E30.1
  have ne : a30 ≠ a31 := Nat.ne_of_lt (Nat.lt_of_lt_of_le A30.lt (Nat.le_of_eq g31.symm))
  have E0 := A30.ext E31
  have F1 := V1.ext E31
  have F2 := C1.ext E31
  have K0 := ((Keep.refl h0 []).ext E30).ext E31
  have OL0 := (OL.ext E30).ext E31
  have Va := (Arv.new A31 (by decide)).pad (pad_rep [] (.int (0 : Int32)) 3)
  obtain ⟨cl32, Ar32, q132, S32, q332, Hh32, G32⟩ := id Va
  obtain ⟨T32, h32, X32, e32, W32, st32⟩ := stC X31 hx hZ e31 Ar32 (j := (0 : Int32)) (inb_of S32 ⟨(by decide : ¬ ((0 : Int32) < (0 : Int32))), (by decide : (0 : Int32) < (3 : Int32))⟩) (g := (mkF m 97 #[.val (.int n), .val (.int ci), .val (.int (Own.toC (ci &&& (255 : Int32)))), .val (.int (Own.toC ((Own.ushr ci (8 : Int32)) &&& (255 : Int32)))), .val (.int (Own.toC ((Own.ushr ci (16 : Int32)) &&& (255 : Int32))))] [(.int (Own.toC (ci &&& (255 : Int32)))), (.int (0 : Int32)), (.ref a31), (.ref a31), (.ref a30), (.ref a30)])) rfl rfl (hb hby own_d1d_97)
  have P4 : ∀ t, Steps p.tables e below (T32.setTop (mkF m 98 #[.val (.int n), .val (.int ci), .val (.int (Own.toC (ci &&& (255 : Int32)))), .val (.int (Own.toC ((Own.ushr ci (8 : Int32)) &&& (255 : Int32)))), .val (.int (Own.toC ((Own.ushr ci (16 : Int32)) &&& (255 : Int32))))] [(.ref a31), (.ref a30), (.ref a30)])) t → Steps p.tables e below (s₁.setTop (entryFrame m #[(.int n), (.int ci)] 5)) t := fun t k => P3 t (by
      refine Own.w_dup H31 own_d1d_94 95 rfl rfl ?_
      refine Own.w_iconst H31 own_d1d_95 96 rfl (z := (0 : Int32)) rfl ?_
      refine Own.w_iloadN H31 own_d1d_96 97 rfl rfl ?_
      exact st32 t k)
  have H32 := Own.hr X32 hx hby
  have V32 := Arv.set Ar32 q132 S32 q332 Hh32 G32 (fits_nar_char _) W32 0 rfl (Nat.le_of_ble_eq_true rfl)
  have N33 := Fr.snoc X32 N0 gc
  have E0 := E0.wr W32
  have F1 := F1.other W32 (Or.inl ne)
  have F2 := F2.other W32 (Or.inl ne)
  have K0 := K0.wr W32 (Or.inr (Nat.le_trans E30.1 (Nat.le_of_eq g31.symm)))
  have OL0 := OL0.wr W32 gc
  obtain ⟨cl34, Ar34, q134, S34, q334, Hh34, G34⟩ := id V32
  obtain ⟨T34, h34, X34, e34, W34, st34⟩ := stC X32 hx hZ e32 Ar34 (j := (1 : Int32)) (inb_of S34 ⟨(by decide : ¬ ((1 : Int32) < (0 : Int32))), (by decide : (1 : Int32) < (3 : Int32))⟩) (g := (mkF m 101 #[.val (.int n), .val (.int ci), .val (.int (Own.toC (ci &&& (255 : Int32)))), .val (.int (Own.toC ((Own.ushr ci (8 : Int32)) &&& (255 : Int32)))), .val (.int (Own.toC ((Own.ushr ci (16 : Int32)) &&& (255 : Int32))))] [(.int (Own.toC ((Own.ushr ci (8 : Int32)) &&& (255 : Int32)))), (.int (1 : Int32)), (.ref a31), (.ref a31), (.ref a30), (.ref a30)])) rfl rfl (hb hby own_d1d_101)
  have P5 : ∀ t, Steps p.tables e below (T34.setTop (mkF m 102 #[.val (.int n), .val (.int ci), .val (.int (Own.toC (ci &&& (255 : Int32)))), .val (.int (Own.toC ((Own.ushr ci (8 : Int32)) &&& (255 : Int32)))), .val (.int (Own.toC ((Own.ushr ci (16 : Int32)) &&& (255 : Int32))))] [(.ref a31), (.ref a30), (.ref a30)])) t → Steps p.tables e below (s₁.setTop (entryFrame m #[(.int n), (.int ci)] 5)) t := fun t k => P4 t (by
      refine Own.w_dup H32 own_d1d_98 99 rfl rfl ?_
      refine Own.w_iconst H32 own_d1d_99 100 rfl (z := (1 : Int32)) rfl ?_
      refine Own.w_iloadN H32 own_d1d_100 101 rfl rfl ?_
      exact st34 t k)
  have H34 := Own.hr X34 hx hby
  have V34 := Arv.set Ar34 q134 S34 q334 Hh34 G34 (fits_nar_char _) W34 1 rfl (Nat.le_of_ble_eq_true rfl)
  have N35 := Fr.snoc X34 N33 gc
  have E0 := E0.wr W34
  have F1 := F1.other W34 (Or.inl ne)
  have F2 := F2.other W34 (Or.inl ne)
  have K0 := K0.wr W34 (Or.inr (Nat.le_trans E30.1 (Nat.le_of_eq g31.symm)))
  have OL0 := OL0.wr W34 gc
  obtain ⟨cl36, Ar36, q136, S36, q336, Hh36, G36⟩ := id V34
  obtain ⟨T36, h36, X36, e36, W36, st36⟩ := stC X34 hx hZ e34 Ar36 (j := (2 : Int32)) (inb_of S36 ⟨(by decide : ¬ ((2 : Int32) < (0 : Int32))), (by decide : (2 : Int32) < (3 : Int32))⟩) (g := (mkF m 106 #[.val (.int n), .val (.int ci), .val (.int (Own.toC (ci &&& (255 : Int32)))), .val (.int (Own.toC ((Own.ushr ci (8 : Int32)) &&& (255 : Int32)))), .val (.int (Own.toC ((Own.ushr ci (16 : Int32)) &&& (255 : Int32))))] [(.int (Own.toC ((Own.ushr ci (16 : Int32)) &&& (255 : Int32)))), (.int (2 : Int32)), (.ref a31), (.ref a31), (.ref a30), (.ref a30)])) rfl rfl (hb hby own_d1d_106)
  have P6 : ∀ t, Steps p.tables e below (T36.setTop (mkF m 107 #[.val (.int n), .val (.int ci), .val (.int (Own.toC (ci &&& (255 : Int32)))), .val (.int (Own.toC ((Own.ushr ci (8 : Int32)) &&& (255 : Int32)))), .val (.int (Own.toC ((Own.ushr ci (16 : Int32)) &&& (255 : Int32))))] [(.ref a31), (.ref a30), (.ref a30)])) t → Steps p.tables e below (s₁.setTop (entryFrame m #[(.int n), (.int ci)] 5)) t := fun t k => P5 t (by
      refine Own.w_dup H34 own_d1d_102 103 rfl rfl ?_
      refine Own.w_iconst H34 own_d1d_103 104 rfl (z := (2 : Int32)) rfl ?_
      refine Own.w_iload H34 own_d1d_104 106 rfl rfl ?_
      exact st36 t k)
  have H36 := Own.hr X36 hx hby
  have V36 := Arv.set Ar36 q136 S36 q336 Hh36 G36 (fits_nar_char _) W36 2 rfl (Nat.le_of_ble_eq_true rfl)
  have N37 := Fr.snoc X36 N35 gc
  have E0 := E0.wr W36
  have F1 := F1.other W36 (Or.inl ne)
  have F2 := F2.other W36 (Or.inl ne)
  have K0 := K0.wr W36 (Or.inr (Nat.le_trans E30.1 (Nat.le_of_eq g31.symm)))
  have OL0 := OL0.wr W36 gc
  have hws : ∀ d ∈ StrChars.Road.words, d.before a0 Z = true := fun d hd => hw d ((by decide +kernel : ∀ d ∈ StrChars.Road.words, d ∈ tables_1) d hd)
  have hp : ∀ c ∈ ([nar .char (Own.toC (ci &&& (255 : Int32))), nar .char (Own.toC ((Own.ushr ci (8 : Int32)) &&& (255 : Int32))), nar .char (Own.toC ((Own.ushr ci (16 : Int32)) &&& (255 : Int32)))] : List Int32), ¬ c < 0 ∧ ¬ (255 : Int32) < c := by
    intro c hc
    simp only [List.mem_cons, List.not_mem_nil, or_false] at hc
    rcases hc with rfl | rfl | rfl <;> exact chr_ok _
  obtain ⟨_, _, ⟨T38, L38, k38, n38⟩, -, X38, ⟨Lc38, hQ38, l38, y38, z38⟩, st38⟩ := X36.specialBack hx (y := (⟨"java/lang/String", "<init>", "([C)V"⟩ : MethodName)) rfl hown (mvT hZ (hw _ (List.mem_of_getElem? (i := 8) rfl))) (mvT hZ (hw _ (List.mem_of_getElem? (i := 9) rfl))) (mvT hZ (hw _ (List.mem_of_getElem? (i := 10) rfl))) (by decide) (StrChars.Road.backV (W := 1) hZ hws (kI := 4) (hw _ (List.mem_of_getElem? (i := 5) rfl)) (cs := ([nar .char (Own.toC (ci &&& (255 : Int32))), nar .char (Own.toC ((Own.ushr ci (8 : Int32)) &&& (255 : Int32))), nar .char (Own.toC ((Own.ushr ci (16 : Int32)) &&& (255 : Int32)))] : List Int32)) (bs := ([nar .char (Own.toC (ci &&& (255 : Int32))), nar .char (Own.toC ((Own.ushr ci (8 : Int32)) &&& (255 : Int32))), nar .char (Own.toC ((Own.ushr ci (16 : Int32)) &&& (255 : Int32)))] : List Int32).map (fun c => c.toInt8.toInt32)) (n := 3) ga (Nat.le_trans Z0 K0.1) E0 F1 F2 V36 (S0.ext OL0.2) hz rfl rfl (by decide) (by decide) hp rfl (by decide) (by decide)) (g := (mkF m 107 #[.val (.int n), .val (.int ci), .val (.int (Own.toC (ci &&& (255 : Int32)))), .val (.int (Own.toC ((Own.ushr ci (8 : Int32)) &&& (255 : Int32)))), .val (.int (Own.toC ((Own.ushr ci (16 : Int32)) &&& (255 : Int32))))] [(.ref a31), (.ref a30), (.ref a30)])) rfl (by rw [hml]; rfl) (Steps.refl _) (a := a30) (argsL := [(.ref a31)]) (rest := [(.ref a30)]) (lenOf pd_2 rfl) rfl (by show 2 * 0 + _ ≤ _; exact Nat.le_of_ble_eq_true rfl) (hb hby own_d1d_107) (fun _ _ => ⟨rfl, e36, (by decide : 2 + 1 ≤ _), (by decide : 7 + 3 ≤ _)⟩)
  dsimp only [Pt.U, Pt.locs, Pt.cells, Pt.slots] at X38 l38 y38 z38 st38 hQ38
  subst l38 y38 z38
  obtain ⟨rfl, Nc, Kc, Ec, Cc, t1, kb1, -, -, -, Vc, Ac⟩ := hQ38
  have P7 : ∀ t, Steps p.tables e below (T38.setTop (mkF m 110 #[.val (.int n), .val (.int ci), .val (.int (Own.toC (ci &&& (255 : Int32)))), .val (.int (Own.toC ((Own.ushr ci (8 : Int32)) &&& (255 : Int32)))), .val (.int (Own.toC ((Own.ushr ci (16 : Int32)) &&& (255 : Int32))))] [(.ref a30)])) t → Steps p.tables e below (s₁.setTop (entryFrame m #[(.int n), (.int ci)] 5)) t := fun t k => P6 t (by
      exact st38.trans k)
  have H38 := Own.hr X38 hx hby
  have N39 := Fr.app N37 Nc
  have Kf := K0.trans Kc (allS (Or.inr (Nat.le_of_eq g30.symm)) all0)
  have hn' : n = (3 : Int32) := hn3
  have HRa := CHr.keep Kf sf0 HC0
  have HRe := HRa.trans (CHv.at (vm0 := s.vm) (s := s) X38 hZ (hEL hw) HRa.1)
  rw [← hh] at HRe
  have hcd := StrChars.Road.codOf (cs := ([nar .char (Own.toC (ci &&& (255 : Int32))), nar .char (Own.toC ((Own.ushr ci (8 : Int32)) &&& (255 : Int32))), nar .char (Own.toC ((Own.ushr ci (16 : Int32)) &&& (255 : Int32)))] : List Int32)) (n := 3) rfl (fun x hx => (hp x hx).2)
  obtain ⟨fs, hr, hrun, hended, hW, hsame⟩ := X38.leave (v := some (.ref a30)) (fun h => by rw [Bd.returns] at h; cases h)
  obtain ⟨hW1, hW2, hW3⟩ := SB0.ended hW (Kf.1) hsame
  refine ⟨_, _, P7 _ ?_, hrun, hended, _, _, rfl, ?_, HRe, ⟨_, rfl⟩, hW1, hW2, hW3.mono (by decide : 3 ≤ _) (by decide : 10 ≤ _)⟩
  · exact retOut X38 hx Bd.returns rfl (Or.inr (Or.inr (Or.inr (Or.inr ⟨rfl, rfl, rfl⟩)))) (hb hby own_d1d_110) hr
  · exact ⟨_, rfl, N39, Kf, t1, kb1, ([nar .char (Own.toC (ci &&& (255 : Int32))), nar .char (Own.toC ((Own.ushr ci (8 : Int32)) &&& (255 : Int32))), nar .char (Own.toC ((Own.ushr ci (16 : Int32)) &&& (255 : Int32)))] : List Int32), (3 : Int32), _, Ec, Cc, Vc, Ac, hcd, fun c hc => ⟨(hp c hc).1, fun r => (hp c hc).2 (Int32.lt_trans (by decide) r)⟩, (by decide : 3 ≤ 4000), hn'.symm⟩
theorem rm_1 (l : Launch) (Z : State) (a0 : Array Value) (hw : ∀ d ∈ tables_1, d.before a0 Z = true) (ws : List Jvm.Cond) (n c : Int32) (h0 : Heap) (n0 : Nat) (Z0 : n0 ≤ h0.size) (z : Int32) (OL : Old Z n0 h0) (S0 : Sta Z Z.heap "java/lang/String" "COMPACT_STRINGS" "Z" (.int z)) (hz : ¬ z = 0) (hn : 0 ≤ n.toInt ∧ n.toInt ≤ 3) :
    MetFree l (⟨"com/example/motley/motley/bench/DigestEqualsPinLaw", "str", "(II)Ljava/lang/String;"⟩ : MethodName) (head1 (Jvm.Cond.code (⟨"com/example/motley/motley/bench/DigestEqualsPinLaw", "str", "(II)Ljava/lang/String;"⟩ : MethodName) method_2_code 5 (some (.object "java/lang/String")) :: ws) ({ frames := 4, cells := 6, slots := 16, locals := 66 } : Room)) (fun aa U => aa = #[(.int n), (.int c)] ∧ Z.Warmed39 U.vm ∧ U.heap = h0 ∧ CHv Z EL U.vm h0) (fun _ _ _ _ _ => True) (fun _ U o U' => ∃ v L, o = .returned v ∧ Q_1 Z n h0 n0 v U'.heap L ∧ CHr Z EL U.vm U.heap U'.vm U'.heap ∧ ReturnedEndW U o U' L ({ frames := 4, cells := 6, slots := 16, locals := 66 } : Room).cells ({ frames := 4, cells := 6, slots := 16, locals := 66 } : Room).slots) := by
  cases q0 : ifCond.holds .ne n
  · exact rm_1a l Z a0 hw ws n c h0 n0 Z0 z OL S0 hz q0
  · cases q1 : if_icmp.holds .ne n (1 : Int32)
    · exact rm_1b l Z a0 hw ws n c h0 n0 Z0 z OL S0 hz q0 q1
    · cases q2 : if_icmp.holds .ne n (2 : Int32)
      · exact rm_1c l Z a0 hw ws n c h0 n0 Z0 z OL S0 hz q0 q1 q2
      · have r0 : n ≠ 0 := by simpa [ifCond.holds] using q0
        have r1 : n ≠ 1 := by simpa [if_icmp.holds] using q1
        have r2 : n ≠ 2 := by simpa [if_icmp.holds] using q2
        have t0 : n.toInt ≠ 0 := fun r => r0 (Int32.toInt_inj.mp r)
        have t1 : n.toInt ≠ 1 := fun r => r1 (Int32.toInt_inj.mp r)
        have t2 : n.toInt ≠ 2 := fun r => r2 (Int32.toInt_inj.mp r)
        have t3 : n = 3 := Int32.toInt_inj.mp (by have e : (3 : Int32).toInt = 3 := by decide
                                                  rw [e]; omega)
        exact rm_1d l Z a0 hw ws n c h0 n0 Z0 z OL S0 hz q0 q1 q2 t3
theorem own_d8_0 : decode prog_20_method_1_code 0 = .ok (.aload_n 0, 1) := by decide +kernel
theorem own_d8_1 : decode prog_20_method_1_code 1 = .ok (.invokespecial 1, 3) := by decide +kernel
theorem own_d8_4 : decode prog_20_method_1_code 4 = .ok (.return_, 1) := by decide +kernel
theorem ef_8 (m : MethodId) (d : Addr) : entryFrame m #[(.ref d)] 1 = mkF m 0 #[.val (.ref d)] [] := by first | (simp [entryFrame, mkF, argsToLocals, Value.category, maxLocals]; done) | rfl
def Q_8 (Z : State) (d : Addr) (h0 : Heap) (n0 : Nat) (v : Option Value) (h : Heap) (L : List Loc) : Prop := v = none ∧ Fr n0 L ∧ h = h0
set_option maxRecDepth 65536 in
set_option maxHeartbeats 40000000 in
theorem rm_8 (l : Launch) (Z : State) (a0 : Array Value) (hw : ∀ d ∈ tables_1, d.before a0 Z = true) (ws : List Jvm.Cond) (d : Addr) (h0 : Heap) (n0 : Nat) (Z0 : n0 ≤ h0.size)  :
    MetFree l (⟨"com/example/motley/motley/bench/Digest", "<init>", "()V"⟩ : MethodName) (head1 (Jvm.Cond.code (⟨"com/example/motley/motley/bench/Digest", "<init>", "()V"⟩ : MethodName) prog_20_method_1_code 1 none :: ws) ({ frames := 1, cells := 0, slots := 0, locals := 12 } : Room)) (fun aa U => aa = #[(.ref d)] ∧ Z.Warmed39 U.vm ∧ U.heap = h0) (fun _ _ _ _ _ => True) (fun _ U o U' => ∃ v L, o = .returned v ∧ Q_8 Z d h0 n0 v U'.heap L ∧ FrameEnd U o U' L ({ frames := 1, cells := 0, slots := 0, locals := 12 } : Room).cells ({ frames := 1, cells := 0, slots := 0, locals := 12 } : Room).slots) := by
  refine MetFree.of_bodySF (plainFor_of_name pn_8) hisR ?_
  intro p e s m args below meth c s₁ Bd hml0 hP hK
  obtain ⟨rfl, hZ, hh⟩ := hP
  have hx := Bd.exec
  have hby := Bd.bytes
  have hml : c.maxLocals = 1 := hml0
  have hown : s.vm.findClass "com/example/motley/motley/bench/Digest" = some m.cls := findClass_of_methodNamed Bd.named
  have hnm := (name_of_methodNamed Bd.named Bd.method).1
  have X0 : Stand p l e ({ frames := 1, cells := 0, slots := 0, locals := 12 } : Room) s m #[(.ref d)] below meth c s₁ [] 0 0 := Stand.of_body Bd
  have e0 : s₁.heap = h0 := by rw [← hh, Bd.state]; rfl
  have N0 := Fr.nil n0
  have H0 := Own.hr X0 hx hby
  have pre0 : ∀ t, Steps p.tables e below (s₁.setTop (mkF m 0 #[.val (.ref d)] [])) t → Steps p.tables e below (s₁.setTop (entryFrame m #[(.ref d)] 1)) t := fun t k => castTop (ef_8 m d) k
  obtain ⟨T40, X40, e40, st40⟩ := initO X0 hx hZ hown (hw _ (List.mem_of_getElem? (i := 40) rfl)) (hw _ (List.mem_of_getElem? (i := 16) rfl)) (hw _ (List.mem_of_getElem? (i := 17) rfl)) e0 (g := (mkF m 1 #[.val (.ref d)] [(.ref d)])) rfl (by rw [hml]; rfl) rfl (hb hby own_d8_1) (by decide) (W := 0) (by show 2 * 0 + _ ≤ _; exact Nat.le_of_ble_eq_true rfl) (by decide)
  have P1 : ∀ t, Steps p.tables e below (T40.setTop (mkF m 4 #[.val (.ref d)] [])) t → Steps p.tables e below (s₁.setTop (entryFrame m #[(.ref d)] 1)) t := fun t k => pre0 t (by
      refine Own.w_aloadN H0 own_d8_0 1 rfl rfl rfl ?_
      exact st40 t k)
  have H40 := Own.hr X40 hx hby
  obtain ⟨fs, hr, hrun, hended, hW, hsame⟩ := X40.leave (v := none) (fun _ => rfl)
  refine ⟨_, _, P1 _ ?_, hrun, hended, _, _, rfl, ?_, ⟨_, rfl⟩, hW, hsame.mono (by decide : 0 ≤ _) (by decide : 0 ≤ _)⟩
  · exact X40.returnOut hx Bd.returns (hb hby own_d8_4) hr
  · exact ⟨rfl, N0, e40⟩
theorem own_d10_0 : decode prog_20_method_2_code 0 = .ok (.aload_n 0, 1) := by decide +kernel
theorem own_d10_1 : decode prog_20_method_2_code 1 = .ok (.dup, 1) := by decide +kernel
theorem own_d10_2 : decode prog_20_method_2_code 2 = .ok (.getfield 7, 3) := by decide +kernel
theorem own_d10_5 : decode prog_20_method_2_code 5 = .ok (.lconst 1, 1) := by decide +kernel
theorem own_d10_6 : decode prog_20_method_2_code 6 = .ok (.ladd, 1) := by decide +kernel
theorem own_d10_7 : decode prog_20_method_2_code 7 = .ok (.putfield 7, 3) := by decide +kernel
theorem own_d10_10 : decode prog_20_method_2_code 10 = .ok (.aload_n 0, 1) := by decide +kernel
theorem own_d10_11 : decode prog_20_method_2_code 11 = .ok (.dup, 1) := by decide +kernel
theorem own_d10_12 : decode prog_20_method_2_code 12 = .ok (.getfield 13, 3) := by decide +kernel
theorem own_d10_15 : decode prog_20_method_2_code 15 = .ok (.aload_n 1, 1) := by decide +kernel
theorem own_d10_16 : decode prog_20_method_2_code 16 = .ok (.invokevirtual 16, 3) := by decide +kernel
theorem own_d10_19 : decode prog_20_method_2_code 19 = .ok (.i2l, 1) := by decide +kernel
theorem own_d10_20 : decode prog_20_method_2_code 20 = .ok (.ladd, 1) := by decide +kernel
theorem own_d10_21 : decode prog_20_method_2_code 21 = .ok (.putfield 13, 3) := by decide +kernel
theorem own_d10_24 : decode prog_20_method_2_code 24 = .ok (.return_, 1) := by decide +kernel
theorem ef_10 (m : MethodId) (d : Addr) (x1 : Addr) : entryFrame m #[(.ref d), (.ref x1)] 2 = mkF m 0 #[.val (.ref d), .val (.ref x1)] [] := by first | (simp [entryFrame, mkF, argsToLocals, Value.category, maxLocals]; done) | rfl
def Q_10 (Z : State) (d : Addr) (t1 c1 r1 b1 : Int64) (n : Int32) (h0 : Heap) (n0 : Nat) (v : Option Value) (h : Heap) (L : List Loc) : Prop := v = none ∧ Fr n0 L ∧ Keep h0 h [d] ∧ Dg Z h d (t1 + 1) (c1 + Int32.toInt64 n) r1 b1
set_option maxRecDepth 65536 in
set_option maxHeartbeats 40000000 in
theorem rm_10 (l : Launch) (Z : State) (a0 : Array Value) (hw : ∀ d ∈ tables_1, d.before a0 Z = true) (ws : List Jvm.Cond) (d : Addr) (x1 : Addr) (h0 : Heap) (n0 : Nat) (Z0 : n0 ≤ h0.size) (t1 c1 r1 b1 : Int64) (D0 : Dg Z h0 d t1 c1 r1 b1) (ga : n0 ≤ d) (n : Int32) (St : Str Z h0 x1 n) (z : Int32) (OL : Old Z n0 h0) (S0 : Sta Z Z.heap "java/lang/String" "COMPACT_STRINGS" "Z" (.int z)) (hz : ¬ z = 0) :
    MetFree l (⟨"com/example/motley/motley/bench/Digest", "text", "(Ljava/lang/String;)V"⟩ : MethodName) (head1 (Jvm.Cond.code (⟨"com/example/motley/motley/bench/Digest", "text", "(Ljava/lang/String;)V"⟩ : MethodName) prog_20_method_2_code 2 none :: ws) ({ frames := 2, cells := 0, slots := 0, locals := 28 } : Room)) (fun aa U => aa = #[(.ref d), (.ref x1)] ∧ Z.Warmed39 U.vm ∧ U.heap = h0) (fun _ _ _ _ _ => True) (fun _ U o U' => ∃ v L, o = .returned v ∧ Q_10 Z d t1 c1 r1 b1 n h0 n0 v U'.heap L ∧ FrameEnd U o U' L ({ frames := 2, cells := 0, slots := 0, locals := 28 } : Room).cells ({ frames := 2, cells := 0, slots := 0, locals := 28 } : Room).slots) := by
  refine MetFree.of_bodySF (plainFor_of_name pn_10) hisR ?_
  intro p e s m args below meth c s₁ Bd hml0 hP hK
  obtain ⟨rfl, hZ, hh⟩ := hP
  have hx := Bd.exec
  have hby := Bd.bytes
  have hml : c.maxLocals = 2 := hml0
  have hown : s.vm.findClass "com/example/motley/motley/bench/Digest" = some m.cls := findClass_of_methodNamed Bd.named
  have hnm := (name_of_methodNamed Bd.named Bd.method).1
  have X0 : Stand p l e ({ frames := 2, cells := 0, slots := 0, locals := 28 } : Room) s m #[(.ref d), (.ref x1)] below meth c s₁ [] 0 0 := Stand.of_body Bd
  have e0 : s₁.heap = h0 := by rw [← hh, Bd.state]; rfl
  have N0 := Fr.nil n0
  have H0 := Own.hr X0 hx hby
  have pre0 : ∀ t, Steps p.tables e below (s₁.setTop (mkF m 0 #[.val (.ref d), .val (.ref x1)] [])) t → Steps p.tables e below (s₁.setTop (entryFrame m #[(.ref d), (.ref x1)] 2)) t := fun t k => castTop (ef_10 m d x1) k
  obtain ⟨T41, X41, e41, st41⟩ := getF X0 hx hZ hown (host := "") (Or.inl (hw _ (List.mem_of_getElem? (i := 48) rfl))) Via.refl e0 D0.2.1 (g := (mkF m 2 #[.val (.ref d), .val (.ref x1)] [(.ref d), (.ref d)])) rfl rfl (hb hby own_d10_2)
  have P1 : ∀ t, Steps p.tables e below (T41.setTop (mkF m 5 #[.val (.ref d), .val (.ref x1)] [(.long t1), (.ref d)])) t → Steps p.tables e below (s₁.setTop (entryFrame m #[(.ref d), (.ref x1)] 2)) t := fun t k => pre0 t (by
      refine Own.w_aloadN H0 own_d10_0 1 rfl rfl rfl ?_
      refine Own.w_dup H0 own_d10_1 2 rfl rfl ?_
      exact st41 t k)
  have H41 := Own.hr X41 hx hby
  obtain ⟨T42, h42, X42, e42, W42, st42⟩ := putF X41 hx hZ hown (host := "") (Or.inl (hw _ (List.mem_of_getElem? (i := 48) rfl))) Via.refl e41 D0.2.1 D0.1 (Or.inl (hw _ (List.mem_of_getElem? (i := 49) rfl))) (hw _ (List.mem_of_getElem? (i := 35) rfl)) (ty := .long) (by decide) rfl rfl (g := (mkF m 7 #[.val (.ref d), .val (.ref x1)] [(.long (t1 + (1 : Int64))), (.ref d)])) rfl rfl (hb hby own_d10_7)
  have P2 : ∀ t, Steps p.tables e below (T42.setTop (mkF m 10 #[.val (.ref d), .val (.ref x1)] [])) t → Steps p.tables e below (s₁.setTop (entryFrame m #[(.ref d), (.ref x1)] 2)) t := fun t k => P1 t (by
      refine Own.w_lconst H41 own_d10_5 6 rfl (z := (1 : Int64)) rfl ?_
      refine Own.w_ladd H41 own_d10_6 7 rfl ?_
      exact st42 t k)
  have H42 := Own.hr X42 hx hby
  have N43 := Fr.snoc X42 N0 ga
  have D1 := D0.wr0 hw W42
  have K1 := (Keep.refl h0 [d]).wr W42 (Or.inl (List.mem_of_getElem? (i := 0) rfl))
  have St1 := St.keepD hw D0.1 (Keep.of_wr W42)
  have OL1 := OL.wr W42 ga
  obtain ⟨tt, kb, cs, N, vs, s1, s2, s3, s4, s5, s6, s7, rfl⟩ := St1
  have hln : ∀ d ∈ StrChars.Road.wordsLen, d.before a0 Z = true := fun d hd => hw d ((by decide +kernel : ∀ d ∈ StrChars.Road.wordsLen, d ∈ tables_1) d hd)
  obtain ⟨T44, X44, e44, st44⟩ := getF X42 hx hZ hown (host := "") (Or.inl (hw _ (List.mem_of_getElem? (i := 50) rfl))) Via.refl e42 D1.2.2.1 (g := (mkF m 12 #[.val (.ref d), .val (.ref x1)] [(.ref d), (.ref d)])) rfl rfl (hb hby own_d10_12)
  have P3 : ∀ t, Steps p.tables e below (T44.setTop (mkF m 15 #[.val (.ref d), .val (.ref x1)] [(.long c1), (.ref d)])) t → Steps p.tables e below (s₁.setTop (entryFrame m #[(.ref d), (.ref x1)] 2)) t := fun t k => P2 t (by
      refine Own.w_aloadN H42 own_d10_10 11 rfl rfl rfl ?_
      refine Own.w_dup H42 own_d10_11 12 rfl rfl ?_
      exact st44 t k)
  have H44 := Own.hr X44 hx hby
  obtain ⟨cq45, kq45, qa45, qb45, qc45⟩ := isOf hZ e44 s1
  obtain ⟨_, _, ⟨T45, L45, k45, n45⟩, -, X45, ⟨Lc45, hQ45, l45, y45, z45⟩, st45⟩ := X44.virtualBack hx (y := (⟨"java/lang/String", "length", "()I"⟩ : MethodName)) (z := (⟨"java/lang/String", "length", "()I"⟩ : MethodName)) hown (mvT hZ (hw _ (List.mem_of_getElem? (i := 66) rfl))) (mvT hZ (hw _ (List.mem_of_getElem? (i := 67) rfl))) (notFace_of_selects (args := #[]) (mvT hZ (hw _ (List.mem_of_getElem? (i := 69) rfl)))) (mvT hZ (hw _ (List.mem_of_getElem? (i := 69) rfl))) (mvT hZ (hw _ (List.mem_of_getElem? (i := 68) rfl))) (by decide) (StrChars.Road.lenW (W := 3) hZ hln (kI := 4) (hw _ (List.mem_of_getElem? (i := 5) rfl)) s1 s3 s2 s4 s5 s6 (S0.ext OL1.2) hz s7 (by decide) (by decide)) qa45 qc45 (g := (mkF m 16 #[.val (.ref d), .val (.ref x1)] [(.ref x1), (.long c1), (.ref d)])) rfl (by rw [hml]; rfl) (Steps.refl _) (argsL := []) (rest := [(.long c1), (.ref d)]) (lenOf pd_11 rfl) rfl (by show 2 * 0 + _ ≤ _; exact Nat.le_of_ble_eq_true rfl) (hb hby own_d10_16) (fun _ _ => ⟨rfl, e44, (by decide : 0 + 0 ≤ _), (by decide : 0 + 0 ≤ _)⟩)
  dsimp only [Pt.U, Pt.locs, Pt.cells, Pt.slots] at X45 l45 y45 z45 st45 hQ45
  subst l45 y45 z45
  obtain ⟨rfl, rfl, el⟩ := hQ45
  have P4 : ∀ t, Steps p.tables e below (T45.setTop (mkF m 19 #[.val (.ref d), .val (.ref x1)] [(.int (Int32.ofNat cs.length)), (.long c1), (.ref d)])) t → Steps p.tables e below (s₁.setTop (entryFrame m #[(.ref d), (.ref x1)] 2)) t := fun t k => P3 t (by
      refine Own.w_aloadN H44 own_d10_15 16 rfl rfl rfl ?_
      exact st45.trans k)
  have H45 := Own.hr X45 hx hby
  have N46 := Fr.app N43 (Fr.nil n0)
  obtain ⟨T47, h47, X47, e47, W47, st47⟩ := putF X45 hx hZ hown (host := "") (Or.inl (hw _ (List.mem_of_getElem? (i := 50) rfl))) Via.refl el D1.2.2.1 D1.1 (Or.inl (hw _ (List.mem_of_getElem? (i := 51) rfl))) (hw _ (List.mem_of_getElem? (i := 35) rfl)) (ty := .long) (by decide) rfl rfl (g := (mkF m 21 #[.val (.ref d), .val (.ref x1)] [(.long (c1 + (Int32.toInt64 (Int32.ofNat cs.length)))), (.ref d)])) rfl rfl (hb hby own_d10_21)
  have P5 : ∀ t, Steps p.tables e below (T47.setTop (mkF m 24 #[.val (.ref d), .val (.ref x1)] [])) t → Steps p.tables e below (s₁.setTop (entryFrame m #[(.ref d), (.ref x1)] 2)) t := fun t k => P4 t (by
      refine Own.w_i2l H45 own_d10_19 20 rfl ?_
      refine Own.w_ladd H45 own_d10_20 21 rfl ?_
      exact st47 t k)
  have H47 := Own.hr X47 hx hby
  have N48 := Fr.snoc X47 N46 ga
  have D2 := D1.wr1 hw W47
  have K2 := K1.wr W47 (Or.inl (List.mem_of_getElem? (i := 0) rfl))
  obtain ⟨fs, hr, hrun, hended, hW, hsame⟩ := X47.leave (v := none) (fun _ => rfl)
  refine ⟨_, _, P5 _ ?_, hrun, hended, _, _, rfl, ?_, ⟨_, rfl⟩, hW, hsame.mono (by decide : 0 ≤ _) (by decide : 0 ≤ _)⟩
  · exact X47.returnOut hx Bd.returns (hb hby own_d10_24) hr
  · subst e47; exact ⟨rfl, N48, K2, D2⟩
theorem own_d13_0 : decode prog_20_method_3_code 0 = .ok (.aload_n 0, 1) := by decide +kernel
theorem own_d13_1 : decode prog_20_method_3_code 1 = .ok (.dup, 1) := by decide +kernel
theorem own_d13_2 : decode prog_20_method_3_code 2 = .ok (.getfield 22, 3) := by decide +kernel
theorem own_d13_5 : decode prog_20_method_3_code 5 = .ok (.lconst 1, 1) := by decide +kernel
theorem own_d13_6 : decode prog_20_method_3_code 6 = .ok (.ladd, 1) := by decide +kernel
theorem own_d13_7 : decode prog_20_method_3_code 7 = .ok (.putfield 22, 3) := by decide +kernel
theorem own_d13_10 : decode prog_20_method_3_code 10 = .ok (.aload_n 0, 1) := by decide +kernel
theorem own_d13_11 : decode prog_20_method_3_code 11 = .ok (.dup, 1) := by decide +kernel
theorem own_d13_12 : decode prog_20_method_3_code 12 = .ok (.getfield 25, 3) := by decide +kernel
theorem own_d13_15 : decode prog_20_method_3_code 15 = .ok (.dload_n 1, 1) := by decide +kernel
theorem own_d13_16 : decode prog_20_method_3_code 16 = .ok (.invokestatic 28, 3) := by decide +kernel
theorem own_d13_19 : decode prog_20_method_3_code 19 = .ok (.ladd, 1) := by decide +kernel
theorem own_d13_20 : decode prog_20_method_3_code 20 = .ok (.putfield 25, 3) := by decide +kernel
theorem own_d13_23 : decode prog_20_method_3_code 23 = .ok (.return_, 1) := by decide +kernel
theorem ef_13 (m : MethodId) (d : Addr) (x1 : UInt64) : entryFrame m #[(.ref d), (.double x1)] 3 = mkF m 0 #[.val (.ref d), .val (.double x1), .second] [] := by first | (simp [entryFrame, mkF, argsToLocals, Value.category, maxLocals]; done) | rfl
def Q_13 (Z : State) (d : Addr) (x1 : UInt64) (t1 c1 r1 b1 : Int64) (h0 : Heap) (n0 : Nat) (v : Option Value) (h : Heap) (L : List Loc) : Prop := v = none ∧ Fr n0 L ∧ Keep h0 h [d] ∧ Dg Z h d t1 c1 (r1 + 1) (b1 + UInt64.toInt64 x1)
set_option maxRecDepth 65536 in
set_option maxHeartbeats 40000000 in
theorem rm_13 (l : Launch) (Z : State) (a0 : Array Value) (hw : ∀ d ∈ tables_1, d.before a0 Z = true) (ws : List Jvm.Cond) (d : Addr) (x1 : UInt64) (h0 : Heap) (n0 : Nat) (Z0 : n0 ≤ h0.size) (t1 c1 r1 b1 : Int64) (D0 : Dg Z h0 d t1 c1 r1 b1) (ga : n0 ≤ d) :
    MetFree l (⟨"com/example/motley/motley/bench/Digest", "real", "(D)V"⟩ : MethodName) (head1 (Jvm.Cond.code (⟨"com/example/motley/motley/bench/Digest", "real", "(D)V"⟩ : MethodName) prog_20_method_3_code 3 none :: ws) ({ frames := 1, cells := 0, slots := 0, locals := 18 } : Room)) (fun aa U => aa = #[(.ref d), (.double x1)] ∧ Z.Warmed39 U.vm ∧ U.heap = h0) (fun _ _ _ _ _ => True) (fun _ U o U' => ∃ v L, o = .returned v ∧ Q_13 Z d x1 t1 c1 r1 b1 h0 n0 v U'.heap L ∧ FrameEnd U o U' L ({ frames := 1, cells := 0, slots := 0, locals := 18 } : Room).cells ({ frames := 1, cells := 0, slots := 0, locals := 18 } : Room).slots) := by
  refine MetFree.of_bodySF (plainFor_of_name pn_13) hisR ?_
  intro p e s m args below meth c s₁ Bd hml0 hP hK
  obtain ⟨rfl, hZ, hh⟩ := hP
  have hx := Bd.exec
  have hby := Bd.bytes
  have hml : c.maxLocals = 3 := hml0
  have hown : s.vm.findClass "com/example/motley/motley/bench/Digest" = some m.cls := findClass_of_methodNamed Bd.named
  have hnm := (name_of_methodNamed Bd.named Bd.method).1
  have X0 : Stand p l e ({ frames := 1, cells := 0, slots := 0, locals := 18 } : Room) s m #[(.ref d), (.double x1)] below meth c s₁ [] 0 0 := Stand.of_body Bd
  have e0 : s₁.heap = h0 := by rw [← hh, Bd.state]; rfl
  have N0 := Fr.nil n0
  have H0 := Own.hr X0 hx hby
  have pre0 : ∀ t, Steps p.tables e below (s₁.setTop (mkF m 0 #[.val (.ref d), .val (.double x1), .second] [])) t → Steps p.tables e below (s₁.setTop (entryFrame m #[(.ref d), (.double x1)] 3)) t := fun t k => castTop (ef_13 m d x1) k
  obtain ⟨T49, X49, e49, st49⟩ := getF X0 hx hZ hown (host := "") (Or.inl (hw _ (List.mem_of_getElem? (i := 52) rfl))) Via.refl e0 D0.2.2.2.1 (g := (mkF m 2 #[.val (.ref d), .val (.double x1), .second] [(.ref d), (.ref d)])) rfl rfl (hb hby own_d13_2)
  have P1 : ∀ t, Steps p.tables e below (T49.setTop (mkF m 5 #[.val (.ref d), .val (.double x1), .second] [(.long r1), (.ref d)])) t → Steps p.tables e below (s₁.setTop (entryFrame m #[(.ref d), (.double x1)] 3)) t := fun t k => pre0 t (by
      refine Own.w_aloadN H0 own_d13_0 1 rfl rfl rfl ?_
      refine Own.w_dup H0 own_d13_1 2 rfl rfl ?_
      exact st49 t k)
  have H49 := Own.hr X49 hx hby
  obtain ⟨T50, h50, X50, e50, W50, st50⟩ := putF X49 hx hZ hown (host := "") (Or.inl (hw _ (List.mem_of_getElem? (i := 52) rfl))) Via.refl e49 D0.2.2.2.1 D0.1 (Or.inl (hw _ (List.mem_of_getElem? (i := 53) rfl))) (hw _ (List.mem_of_getElem? (i := 35) rfl)) (ty := .long) (by decide) rfl rfl (g := (mkF m 7 #[.val (.ref d), .val (.double x1), .second] [(.long (r1 + (1 : Int64))), (.ref d)])) rfl rfl (hb hby own_d13_7)
  have P2 : ∀ t, Steps p.tables e below (T50.setTop (mkF m 10 #[.val (.ref d), .val (.double x1), .second] [])) t → Steps p.tables e below (s₁.setTop (entryFrame m #[(.ref d), (.double x1)] 3)) t := fun t k => P1 t (by
      refine Own.w_lconst H49 own_d13_5 6 rfl (z := (1 : Int64)) rfl ?_
      refine Own.w_ladd H49 own_d13_6 7 rfl ?_
      exact st50 t k)
  have H50 := Own.hr X50 hx hby
  have N51 := Fr.snoc X50 N0 ga
  have D1 := D0.wr2 hw W50
  have K1 := (Keep.refl h0 [d]).wr W50 (Or.inl (List.mem_of_getElem? (i := 0) rfl))
  obtain ⟨T52, X52, e52, st52⟩ := getF X50 hx hZ hown (host := "") (Or.inl (hw _ (List.mem_of_getElem? (i := 54) rfl))) Via.refl e50 D1.2.2.2.2 (g := (mkF m 12 #[.val (.ref d), .val (.double x1), .second] [(.ref d), (.ref d)])) rfl rfl (hb hby own_d13_12)
  have P3 : ∀ t, Steps p.tables e below (T52.setTop (mkF m 15 #[.val (.ref d), .val (.double x1), .second] [(.long b1), (.ref d)])) t → Steps p.tables e below (s₁.setTop (entryFrame m #[(.ref d), (.double x1)] 3)) t := fun t k => P2 t (by
      refine Own.w_aloadN H50 own_d13_10 11 rfl rfl rfl ?_
      refine Own.w_dup H50 own_d13_11 12 rfl rfl ?_
      exact st52 t k)
  have H52 := Own.hr X52 hx hby
  obtain ⟨T53, X53, e53, st53⟩ := Own.nat_bits X52 hx hZ hown (hw _ (List.mem_of_getElem? (i := 81) rfl)) (hw _ (List.mem_of_getElem? (i := 82) rfl)) (hw _ (List.mem_of_getElem? (i := 83) rfl)) (hw _ (List.mem_of_getElem? (i := 84) rfl)) (by decide) (W := 3) (by decide) e52 (b := x1) (hb hby own_d13_16) #[.val (.ref d), .val (.double x1), .second] [(.long b1), (.ref d)] (by rw [hml]; rfl) (by exact Nat.le_of_ble_eq_true rfl)
  have P4 : ∀ t, Steps p.tables e below (T53.setTop (mkF m 19 #[.val (.ref d), .val (.double x1), .second] [(.long (UInt64.toInt64 x1)), (.long b1), (.ref d)])) t → Steps p.tables e below (s₁.setTop (entryFrame m #[(.ref d), (.double x1)] 3)) t := fun t k => P3 t (by
      refine Own.w_dloadN H52 own_d13_15 16 rfl rfl ?_
      exact st53 t k)
  have H53 := Own.hr X53 hx hby
  obtain ⟨T54, h54, X54, e54, W54, st54⟩ := putF X53 hx hZ hown (host := "") (Or.inl (hw _ (List.mem_of_getElem? (i := 54) rfl))) Via.refl e53 D1.2.2.2.2 D1.1 (Or.inl (hw _ (List.mem_of_getElem? (i := 55) rfl))) (hw _ (List.mem_of_getElem? (i := 35) rfl)) (ty := .long) (by decide) rfl rfl (g := (mkF m 20 #[.val (.ref d), .val (.double x1), .second] [(.long (b1 + (UInt64.toInt64 x1))), (.ref d)])) rfl rfl (hb hby own_d13_20)
  have P5 : ∀ t, Steps p.tables e below (T54.setTop (mkF m 23 #[.val (.ref d), .val (.double x1), .second] [])) t → Steps p.tables e below (s₁.setTop (entryFrame m #[(.ref d), (.double x1)] 3)) t := fun t k => P4 t (by
      refine Own.w_ladd H53 own_d13_19 20 rfl ?_
      exact st54 t k)
  have H54 := Own.hr X54 hx hby
  have N55 := Fr.snoc X54 N51 ga
  have D2 := D1.wr3 hw W54
  have K2 := K1.wr W54 (Or.inl (List.mem_of_getElem? (i := 0) rfl))
  obtain ⟨fs, hr, hrun, hended, hW, hsame⟩ := X54.leave (v := none) (fun _ => rfl)
  refine ⟨_, _, P5 _ ?_, hrun, hended, _, _, rfl, ?_, ⟨_, rfl⟩, hW, hsame.mono (by decide : 0 ≤ _) (by decide : 0 ≤ _)⟩
  · exact X54.returnOut hx Bd.returns (hb hby own_d13_23) hr
  · subst e54; exact ⟨rfl, N55, K2, D2⟩
theorem own_d9y_0 : decode prog_20_method_6_code 0 = .ok (.aload_n 1, 1) := by decide +kernel
theorem own_d9y_1 : decode prog_20_method_6_code 1 = .ok (.instanceof 8, 3) := by decide +kernel
theorem own_d9y_4 : decode prog_20_method_6_code 4 = .ok (.ifCond .eq 60, 3) := by decide +kernel
theorem own_d9y_7 : decode prog_20_method_6_code 7 = .ok (.aload_n 1, 1) := by decide +kernel
theorem own_d9y_8 : decode prog_20_method_6_code 8 = .ok (.checkcast 8, 3) := by decide +kernel
theorem own_d9y_11 : decode prog_20_method_6_code 11 = .ok (.astore_n 2, 1) := by decide +kernel
theorem own_d9y_12 : decode prog_20_method_6_code 12 = .ok (.aload_n 0, 1) := by decide +kernel
theorem own_d9y_13 : decode prog_20_method_6_code 13 = .ok (.getfield 7, 3) := by decide +kernel
theorem own_d9y_16 : decode prog_20_method_6_code 16 = .ok (.aload_n 2, 1) := by decide +kernel
theorem own_d9y_17 : decode prog_20_method_6_code 17 = .ok (.getfield 7, 3) := by decide +kernel
theorem own_d9y_20 : decode prog_20_method_6_code 20 = .ok (.lcmp, 1) := by decide +kernel
theorem own_d9y_21 : decode prog_20_method_6_code 21 = .ok (.ifCond .ne 43, 3) := by decide +kernel
theorem own_d9y_24 : decode prog_20_method_6_code 24 = .ok (.aload_n 0, 1) := by decide +kernel
theorem own_d9y_25 : decode prog_20_method_6_code 25 = .ok (.getfield 13, 3) := by decide +kernel
theorem own_d9y_28 : decode prog_20_method_6_code 28 = .ok (.aload_n 2, 1) := by decide +kernel
theorem own_d9y_29 : decode prog_20_method_6_code 29 = .ok (.getfield 13, 3) := by decide +kernel
theorem own_d9y_32 : decode prog_20_method_6_code 32 = .ok (.lcmp, 1) := by decide +kernel
theorem own_d9y_33 : decode prog_20_method_6_code 33 = .ok (.ifCond .ne 31, 3) := by decide +kernel
theorem own_d9y_36 : decode prog_20_method_6_code 36 = .ok (.aload_n 0, 1) := by decide +kernel
theorem own_d9y_37 : decode prog_20_method_6_code 37 = .ok (.getfield 22, 3) := by decide +kernel
theorem own_d9y_40 : decode prog_20_method_6_code 40 = .ok (.aload_n 2, 1) := by decide +kernel
theorem own_d9y_41 : decode prog_20_method_6_code 41 = .ok (.getfield 22, 3) := by decide +kernel
theorem own_d9y_44 : decode prog_20_method_6_code 44 = .ok (.lcmp, 1) := by decide +kernel
theorem own_d9y_45 : decode prog_20_method_6_code 45 = .ok (.ifCond .ne 19, 3) := by decide +kernel
theorem own_d9y_48 : decode prog_20_method_6_code 48 = .ok (.aload_n 0, 1) := by decide +kernel
theorem own_d9y_49 : decode prog_20_method_6_code 49 = .ok (.getfield 25, 3) := by decide +kernel
theorem own_d9y_52 : decode prog_20_method_6_code 52 = .ok (.aload_n 2, 1) := by decide +kernel
theorem own_d9y_53 : decode prog_20_method_6_code 53 = .ok (.getfield 25, 3) := by decide +kernel
theorem own_d9y_56 : decode prog_20_method_6_code 56 = .ok (.lcmp, 1) := by decide +kernel
theorem own_d9y_57 : decode prog_20_method_6_code 57 = .ok (.ifCond .ne 7, 3) := by decide +kernel
theorem own_d9y_60 : decode prog_20_method_6_code 60 = .ok (.iconst 1, 1) := by decide +kernel
theorem own_d9y_61 : decode prog_20_method_6_code 61 = .ok (.goto 4, 3) := by decide +kernel
theorem own_d9y_64 : decode prog_20_method_6_code 64 = .ok (.iconst 0, 1) := by decide +kernel
theorem own_d9y_65 : decode prog_20_method_6_code 65 = .ok (.ireturn, 1) := by decide +kernel
theorem ef_9y (m : MethodId) (d : Addr) (e2 : Addr) : entryFrame m #[(.ref d), (.ref e2)] 3 = mkF m 0 #[.val (.ref d), .val (.ref e2), .unset] [] := by first | (simp [entryFrame, mkF, argsToLocals, Value.category, maxLocals]; done) | rfl
def Q_9y (Z : State) (t1 c1 r1 b1 t2 c2 r2 b2 : Int64) (h0 : Heap) (n0 : Nat) (v : Option Value) (h : Heap) (L : List Loc) : Prop := v = some (.int (eqv t1 c1 r1 b1 t2 c2 r2 b2)) ∧ Fr n0 L ∧ h = h0
set_option maxRecDepth 65536 in
set_option maxHeartbeats 40000000 in
theorem rm_9y (l : Launch) (Z : State) (a0 : Array Value) (hw : ∀ d ∈ tables_1, d.before a0 Z = true) (ws : List Jvm.Cond) (d : Addr) (e2 : Addr) (h0 : Heap) (n0 : Nat) (Z0 : n0 ≤ h0.size) (t1 c1 r1 b1 t2 c2 r2 b2 : Int64) (D0 : Dg Z h0 d t1 c1 r1 b1) (D2 : Dg Z h0 e2 t2 c2 r2 b2) :
    MetFree l (⟨"com/example/motley/motley/bench/Digest", "equals", "(Ljava/lang/Object;)Z"⟩ : MethodName) (head1 (Jvm.Cond.code (⟨"com/example/motley/motley/bench/Digest", "equals", "(Ljava/lang/Object;)Z"⟩ : MethodName) prog_20_method_6_code 3 (some .boolean) :: ws) ({ frames := 0, cells := 0, slots := 0, locals := 0 } : Room)) (fun aa U => aa = #[(.ref d), (.ref e2)] ∧ Z.Warmed39 U.vm ∧ U.heap = h0) (fun _ _ _ _ _ => True) (fun _ U o U' => ∃ v L, o = .returned v ∧ Q_9y Z t1 c1 r1 b1 t2 c2 r2 b2 h0 n0 v U'.heap L ∧ FrameEnd U o U' L ({ frames := 0, cells := 0, slots := 0, locals := 0 } : Room).cells ({ frames := 0, cells := 0, slots := 0, locals := 0 } : Room).slots) := by
  refine MetFree.of_bodySF (plainFor_of_name pn_9y) hisR ?_
  intro p e s m args below meth c s₁ Bd hml0 hP hK
  obtain ⟨rfl, hZ, hh⟩ := hP
  have hx := Bd.exec
  have hby := Bd.bytes
  have hml : c.maxLocals = 3 := hml0
  have hown : s.vm.findClass "com/example/motley/motley/bench/Digest" = some m.cls := findClass_of_methodNamed Bd.named
  have hnm := (name_of_methodNamed Bd.named Bd.method).1
  have X0 : Stand p l e ({ frames := 0, cells := 0, slots := 0, locals := 0 } : Room) s m #[(.ref d), (.ref e2)] below meth c s₁ [] 0 0 := Stand.of_body Bd
  have e0 : s₁.heap = h0 := by rw [← hh, Bd.state]; rfl
  have N0 := Fr.nil n0
  have H0 := Own.hr X0 hx hby
  have pre0 : ∀ t, Steps p.tables e below (s₁.setTop (mkF m 0 #[.val (.ref d), .val (.ref e2), .unset] [])) t → Steps p.tables e below (s₁.setTop (entryFrame m #[(.ref d), (.ref e2)] 3)) t := fun t k => castTop (ef_9y m d e2) k
  obtain ⟨T56, X56, e56, st56⟩ := instY X0 hx hZ hown (hw _ (List.mem_of_getElem? (i := 46) rfl)) e0 (Ins.self D2.1) (g := (mkF m 1 #[.val (.ref d), .val (.ref e2), .unset] [(.ref e2)])) rfl rfl (hb hby own_d9y_1)
  have P1 : ∀ t, Steps p.tables e below (T56.setTop (mkF m 4 #[.val (.ref d), .val (.ref e2), .unset] [(.int 1)])) t → Steps p.tables e below (s₁.setTop (entryFrame m #[(.ref d), (.ref e2)] 3)) t := fun t k => pre0 t (by
      refine Own.w_aloadN H0 own_d9y_0 1 rfl rfl rfl ?_
      exact st56 t k)
  have H56 := Own.hr X56 hx hby
  obtain ⟨T57, X57, e57, st57⟩ := castY X56 hx hZ hown (hw _ (List.mem_of_getElem? (i := 46) rfl)) e56 (Ins.self D2.1) (g := (mkF m 8 #[.val (.ref d), .val (.ref e2), .unset] [(.ref e2)])) rfl rfl (hb hby own_d9y_8)
  have P2 : ∀ t, Steps p.tables e below (T57.setTop (mkF m 11 #[.val (.ref d), .val (.ref e2), .unset] [(.ref e2)])) t → Steps p.tables e below (s₁.setTop (entryFrame m #[(.ref d), (.ref e2)] 3)) t := fun t k => P1 t (by
      refine Own.w_ifCondNo H56 own_d9y_4 (rfl) 7 rfl ?_
      refine Own.w_aloadN H56 own_d9y_7 8 rfl rfl rfl ?_
      exact st57 t k)
  have H57 := Own.hr X57 hx hby
  obtain ⟨T58, X58, e58, st58⟩ := getF X57 hx hZ hown (host := "") (Or.inl (hw _ (List.mem_of_getElem? (i := 48) rfl))) Via.refl e57 D0.2.1 (g := (mkF m 13 #[.val (.ref d), .val (.ref e2), .val (.ref e2)] [(.ref d)])) rfl rfl (hb hby own_d9y_13)
  have P3 : ∀ t, Steps p.tables e below (T58.setTop (mkF m 16 #[.val (.ref d), .val (.ref e2), .val (.ref e2)] [(.long t1)])) t → Steps p.tables e below (s₁.setTop (entryFrame m #[(.ref d), (.ref e2)] 3)) t := fun t k => P2 t (by
      refine Own.w_astoreN H57 own_d9y_11 12 rfl rfl (l' := #[.val (.ref d), .val (.ref e2), .val (.ref e2)]) rfl ?_
      refine Own.w_aloadN H57 own_d9y_12 13 rfl rfl rfl ?_
      exact st58 t k)
  have H58 := Own.hr X58 hx hby
  obtain ⟨T59, X59, e59, st59⟩ := getF X58 hx hZ hown (host := "") (Or.inl (hw _ (List.mem_of_getElem? (i := 48) rfl))) Via.refl e58 D2.2.1 (g := (mkF m 17 #[.val (.ref d), .val (.ref e2), .val (.ref e2)] [(.ref e2), (.long t1)])) rfl rfl (hb hby own_d9y_17)
  have P4 : ∀ t, Steps p.tables e below (T59.setTop (mkF m 20 #[.val (.ref d), .val (.ref e2), .val (.ref e2)] [(.long t2), (.long t1)])) t → Steps p.tables e below (s₁.setTop (entryFrame m #[(.ref d), (.ref e2)] 3)) t := fun t k => P3 t (by
      refine Own.w_aloadN H58 own_d9y_16 17 rfl rfl rfl ?_
      exact st59 t k)
  have H59 := Own.hr X59 hx hby
  have P5 : ∀ t, Steps p.tables e below (T59.setTop (mkF m 21 #[.val (.ref d), .val (.ref e2), .val (.ref e2)] [(.int (Own.lcmpV t1 t2))])) t → Steps p.tables e below (s₁.setTop (entryFrame m #[(.ref d), (.ref e2)] 3)) t := fun t k => P4 t (by
      refine Own.w_lcmp H59 own_d9y_20 21 rfl ?_
      exact k)
  cases q0 : ifCond.holds .ne (Own.lcmpV t1 t2)
  · obtain ⟨T60, X60, e60, st60⟩ := getF X59 hx hZ hown (host := "") (Or.inl (hw _ (List.mem_of_getElem? (i := 50) rfl))) Via.refl e59 D0.2.2.1 (g := (mkF m 25 #[.val (.ref d), .val (.ref e2), .val (.ref e2)] [(.ref d)])) rfl rfl (hb hby own_d9y_25)
    have P6 : ∀ t, Steps p.tables e below (T60.setTop (mkF m 28 #[.val (.ref d), .val (.ref e2), .val (.ref e2)] [(.long c1)])) t → Steps p.tables e below (s₁.setTop (entryFrame m #[(.ref d), (.ref e2)] 3)) t := fun t k => P5 t (by
        refine Own.w_ifCondNo H59 own_d9y_21 (q0) 24 rfl ?_
        refine Own.w_aloadN H59 own_d9y_24 25 rfl rfl rfl ?_
        exact st60 t k)
    have H60 := Own.hr X60 hx hby
    obtain ⟨T61, X61, e61, st61⟩ := getF X60 hx hZ hown (host := "") (Or.inl (hw _ (List.mem_of_getElem? (i := 50) rfl))) Via.refl e60 D2.2.2.1 (g := (mkF m 29 #[.val (.ref d), .val (.ref e2), .val (.ref e2)] [(.ref e2), (.long c1)])) rfl rfl (hb hby own_d9y_29)
    have P7 : ∀ t, Steps p.tables e below (T61.setTop (mkF m 32 #[.val (.ref d), .val (.ref e2), .val (.ref e2)] [(.long c2), (.long c1)])) t → Steps p.tables e below (s₁.setTop (entryFrame m #[(.ref d), (.ref e2)] 3)) t := fun t k => P6 t (by
        refine Own.w_aloadN H60 own_d9y_28 29 rfl rfl rfl ?_
        exact st61 t k)
    have H61 := Own.hr X61 hx hby
    have P8 : ∀ t, Steps p.tables e below (T61.setTop (mkF m 33 #[.val (.ref d), .val (.ref e2), .val (.ref e2)] [(.int (Own.lcmpV c1 c2))])) t → Steps p.tables e below (s₁.setTop (entryFrame m #[(.ref d), (.ref e2)] 3)) t := fun t k => P7 t (by
        refine Own.w_lcmp H61 own_d9y_32 33 rfl ?_
        exact k)
    cases q1 : ifCond.holds .ne (Own.lcmpV c1 c2)
    · obtain ⟨T62, X62, e62, st62⟩ := getF X61 hx hZ hown (host := "") (Or.inl (hw _ (List.mem_of_getElem? (i := 52) rfl))) Via.refl e61 D0.2.2.2.1 (g := (mkF m 37 #[.val (.ref d), .val (.ref e2), .val (.ref e2)] [(.ref d)])) rfl rfl (hb hby own_d9y_37)
      have P9 : ∀ t, Steps p.tables e below (T62.setTop (mkF m 40 #[.val (.ref d), .val (.ref e2), .val (.ref e2)] [(.long r1)])) t → Steps p.tables e below (s₁.setTop (entryFrame m #[(.ref d), (.ref e2)] 3)) t := fun t k => P8 t (by
          refine Own.w_ifCondNo H61 own_d9y_33 (q1) 36 rfl ?_
          refine Own.w_aloadN H61 own_d9y_36 37 rfl rfl rfl ?_
          exact st62 t k)
      have H62 := Own.hr X62 hx hby
      obtain ⟨T63, X63, e63, st63⟩ := getF X62 hx hZ hown (host := "") (Or.inl (hw _ (List.mem_of_getElem? (i := 52) rfl))) Via.refl e62 D2.2.2.2.1 (g := (mkF m 41 #[.val (.ref d), .val (.ref e2), .val (.ref e2)] [(.ref e2), (.long r1)])) rfl rfl (hb hby own_d9y_41)
      have P10 : ∀ t, Steps p.tables e below (T63.setTop (mkF m 44 #[.val (.ref d), .val (.ref e2), .val (.ref e2)] [(.long r2), (.long r1)])) t → Steps p.tables e below (s₁.setTop (entryFrame m #[(.ref d), (.ref e2)] 3)) t := fun t k => P9 t (by
          refine Own.w_aloadN H62 own_d9y_40 41 rfl rfl rfl ?_
          exact st63 t k)
      have H63 := Own.hr X63 hx hby
      have P11 : ∀ t, Steps p.tables e below (T63.setTop (mkF m 45 #[.val (.ref d), .val (.ref e2), .val (.ref e2)] [(.int (Own.lcmpV r1 r2))])) t → Steps p.tables e below (s₁.setTop (entryFrame m #[(.ref d), (.ref e2)] 3)) t := fun t k => P10 t (by
          refine Own.w_lcmp H63 own_d9y_44 45 rfl ?_
          exact k)
      cases q2 : ifCond.holds .ne (Own.lcmpV r1 r2)
      · obtain ⟨T64, X64, e64, st64⟩ := getF X63 hx hZ hown (host := "") (Or.inl (hw _ (List.mem_of_getElem? (i := 54) rfl))) Via.refl e63 D0.2.2.2.2 (g := (mkF m 49 #[.val (.ref d), .val (.ref e2), .val (.ref e2)] [(.ref d)])) rfl rfl (hb hby own_d9y_49)
        have P12 : ∀ t, Steps p.tables e below (T64.setTop (mkF m 52 #[.val (.ref d), .val (.ref e2), .val (.ref e2)] [(.long b1)])) t → Steps p.tables e below (s₁.setTop (entryFrame m #[(.ref d), (.ref e2)] 3)) t := fun t k => P11 t (by
            refine Own.w_ifCondNo H63 own_d9y_45 (q2) 48 rfl ?_
            refine Own.w_aloadN H63 own_d9y_48 49 rfl rfl rfl ?_
            exact st64 t k)
        have H64 := Own.hr X64 hx hby
        obtain ⟨T65, X65, e65, st65⟩ := getF X64 hx hZ hown (host := "") (Or.inl (hw _ (List.mem_of_getElem? (i := 54) rfl))) Via.refl e64 D2.2.2.2.2 (g := (mkF m 53 #[.val (.ref d), .val (.ref e2), .val (.ref e2)] [(.ref e2), (.long b1)])) rfl rfl (hb hby own_d9y_53)
        have P13 : ∀ t, Steps p.tables e below (T65.setTop (mkF m 56 #[.val (.ref d), .val (.ref e2), .val (.ref e2)] [(.long b2), (.long b1)])) t → Steps p.tables e below (s₁.setTop (entryFrame m #[(.ref d), (.ref e2)] 3)) t := fun t k => P12 t (by
            refine Own.w_aloadN H64 own_d9y_52 53 rfl rfl rfl ?_
            exact st65 t k)
        have H65 := Own.hr X65 hx hby
        have P14 : ∀ t, Steps p.tables e below (T65.setTop (mkF m 57 #[.val (.ref d), .val (.ref e2), .val (.ref e2)] [(.int (Own.lcmpV b1 b2))])) t → Steps p.tables e below (s₁.setTop (entryFrame m #[(.ref d), (.ref e2)] 3)) t := fun t k => P13 t (by
            refine Own.w_lcmp H65 own_d9y_56 57 rfl ?_
            exact k)
        cases q3 : ifCond.holds .ne (Own.lcmpV b1 b2)
        · have hv : (eqv t1 c1 r1 b1 t2 c2 r2 b2) = 1 := if_pos ⟨lc_eq q0, lc_eq q1, lc_eq q2, lc_eq q3⟩
          obtain ⟨fs, hr, hrun, hended, hW, hsame⟩ := X65.leave (v := some (.int (1 : Int32))) (fun h => by rw [Bd.returns] at h; cases h)
          refine ⟨_, _, P14 _ ?_, hrun, hended, _, _, rfl, ?_, ⟨_, rfl⟩, hW, hsame.mono (by decide : 0 ≤ _) (by decide : 0 ≤ _)⟩
          · refine Own.w_ifCondNo H65 own_d9y_57 (q3) 60 rfl ?_
            refine Own.w_iconst H65 own_d9y_60 61 rfl (z := (1 : Int32)) rfl ?_
            refine Own.w_goto H65 own_d9y_61 65 (by decide) (by decide) ?_
            exact retN X65 hx (t := .boolean) Bd.returns (by simp) (hb hby own_d9y_65) hr
          · exact ⟨by rw [hv], N0, e65⟩
        · have hv : (eqv t1 c1 r1 b1 t2 c2 r2 b2) = 0 := if_neg (fun r => lc_ne q3 r.2.2.2)
          obtain ⟨fs, hr, hrun, hended, hW, hsame⟩ := X65.leave (v := some (.int (0 : Int32))) (fun h => by rw [Bd.returns] at h; cases h)
          refine ⟨_, _, P14 _ ?_, hrun, hended, _, _, rfl, ?_, ⟨_, rfl⟩, hW, hsame.mono (by decide : 0 ≤ _) (by decide : 0 ≤ _)⟩
          · refine Own.w_ifCondYes H65 own_d9y_57 (q3) 64 (by decide) (by decide) ?_
            refine Own.w_iconst H65 own_d9y_64 65 rfl (z := (0 : Int32)) rfl ?_
            exact retN X65 hx (t := .boolean) Bd.returns (by simp) (hb hby own_d9y_65) hr
          · exact ⟨by rw [hv], N0, e65⟩
      · have hv : (eqv t1 c1 r1 b1 t2 c2 r2 b2) = 0 := if_neg (fun r => lc_ne q2 r.2.2.1)
        obtain ⟨fs, hr, hrun, hended, hW, hsame⟩ := X63.leave (v := some (.int (0 : Int32))) (fun h => by rw [Bd.returns] at h; cases h)
        refine ⟨_, _, P11 _ ?_, hrun, hended, _, _, rfl, ?_, ⟨_, rfl⟩, hW, hsame.mono (by decide : 0 ≤ _) (by decide : 0 ≤ _)⟩
        · refine Own.w_ifCondYes H63 own_d9y_45 (q2) 64 (by decide) (by decide) ?_
          refine Own.w_iconst H63 own_d9y_64 65 rfl (z := (0 : Int32)) rfl ?_
          exact retN X63 hx (t := .boolean) Bd.returns (by simp) (hb hby own_d9y_65) hr
        · exact ⟨by rw [hv], N0, e63⟩
    · have hv : (eqv t1 c1 r1 b1 t2 c2 r2 b2) = 0 := if_neg (fun r => lc_ne q1 r.2.1)
      obtain ⟨fs, hr, hrun, hended, hW, hsame⟩ := X61.leave (v := some (.int (0 : Int32))) (fun h => by rw [Bd.returns] at h; cases h)
      refine ⟨_, _, P8 _ ?_, hrun, hended, _, _, rfl, ?_, ⟨_, rfl⟩, hW, hsame.mono (by decide : 0 ≤ _) (by decide : 0 ≤ _)⟩
      · refine Own.w_ifCondYes H61 own_d9y_33 (q1) 64 (by decide) (by decide) ?_
        refine Own.w_iconst H61 own_d9y_64 65 rfl (z := (0 : Int32)) rfl ?_
        exact retN X61 hx (t := .boolean) Bd.returns (by simp) (hb hby own_d9y_65) hr
      · exact ⟨by rw [hv], N0, e61⟩
  · have hv : (eqv t1 c1 r1 b1 t2 c2 r2 b2) = 0 := if_neg (fun r => lc_ne q0 r.1)
    obtain ⟨fs, hr, hrun, hended, hW, hsame⟩ := X59.leave (v := some (.int (0 : Int32))) (fun h => by rw [Bd.returns] at h; cases h)
    refine ⟨_, _, P5 _ ?_, hrun, hended, _, _, rfl, ?_, ⟨_, rfl⟩, hW, hsame.mono (by decide : 0 ≤ _) (by decide : 0 ≤ _)⟩
    · refine Own.w_ifCondYes H59 own_d9y_21 (q0) 64 (by decide) (by decide) ?_
      refine Own.w_iconst H59 own_d9y_64 65 rfl (z := (0 : Int32)) rfl ?_
      exact retN X59 hx (t := .boolean) Bd.returns (by simp) (hb hby own_d9y_65) hr
    · exact ⟨by rw [hv], N0, e59⟩
theorem own_d9n_0 : decode prog_20_method_6_code 0 = .ok (.aload_n 1, 1) := by decide +kernel
theorem own_d9n_1 : decode prog_20_method_6_code 1 = .ok (.instanceof 8, 3) := by decide +kernel
theorem own_d9n_4 : decode prog_20_method_6_code 4 = .ok (.ifCond .eq 60, 3) := by decide +kernel
theorem own_d9n_64 : decode prog_20_method_6_code 64 = .ok (.iconst 0, 1) := by decide +kernel
theorem own_d9n_65 : decode prog_20_method_6_code 65 = .ok (.ireturn, 1) := by decide +kernel
theorem ef_9n (m : MethodId) (d : Addr) : entryFrame m #[(.ref d), .null] 3 = mkF m 0 #[.val (.ref d), .val .null, .unset] [] := by first | (simp [entryFrame, mkF, argsToLocals, Value.category, maxLocals]; done) | rfl
def Q_9n (Z : State)  (h0 : Heap) (n0 : Nat) (v : Option Value) (h : Heap) (L : List Loc) : Prop := v = some (.int (0 : Int32)) ∧ Fr n0 L ∧ h = h0
set_option maxRecDepth 65536 in
set_option maxHeartbeats 40000000 in
theorem rm_9n (l : Launch) (Z : State) (a0 : Array Value) (hw : ∀ d ∈ tables_1, d.before a0 Z = true) (ws : List Jvm.Cond) (d : Addr) (h0 : Heap) (n0 : Nat) (Z0 : n0 ≤ h0.size)  :
    MetFree l (⟨"com/example/motley/motley/bench/Digest", "equals", "(Ljava/lang/Object;)Z"⟩ : MethodName) (head1 (Jvm.Cond.code (⟨"com/example/motley/motley/bench/Digest", "equals", "(Ljava/lang/Object;)Z"⟩ : MethodName) prog_20_method_6_code 3 (some .boolean) :: ws) ({ frames := 0, cells := 0, slots := 0, locals := 0 } : Room)) (fun aa U => aa = #[(.ref d), .null] ∧ Z.Warmed39 U.vm ∧ U.heap = h0) (fun _ _ _ _ _ => True) (fun _ U o U' => ∃ v L, o = .returned v ∧ Q_9n Z  h0 n0 v U'.heap L ∧ FrameEnd U o U' L ({ frames := 0, cells := 0, slots := 0, locals := 0 } : Room).cells ({ frames := 0, cells := 0, slots := 0, locals := 0 } : Room).slots) := by
  refine MetFree.of_bodySF (plainFor_of_name pn_9n) hisR ?_
  intro p e s m args below meth c s₁ Bd hml0 hP hK
  obtain ⟨rfl, hZ, hh⟩ := hP
  have hx := Bd.exec
  have hby := Bd.bytes
  have hml : c.maxLocals = 3 := hml0
  have hown : s.vm.findClass "com/example/motley/motley/bench/Digest" = some m.cls := findClass_of_methodNamed Bd.named
  have hnm := (name_of_methodNamed Bd.named Bd.method).1
  have X0 : Stand p l e ({ frames := 0, cells := 0, slots := 0, locals := 0 } : Room) s m #[(.ref d), .null] below meth c s₁ [] 0 0 := Stand.of_body Bd
  have e0 : s₁.heap = h0 := by rw [← hh, Bd.state]; rfl
  have N0 := Fr.nil n0
  have H0 := Own.hr X0 hx hby
  have pre0 : ∀ t, Steps p.tables e below (s₁.setTop (mkF m 0 #[.val (.ref d), .val .null, .unset] [])) t → Steps p.tables e below (s₁.setTop (entryFrame m #[(.ref d), .null] 3)) t := fun t k => castTop (ef_9n m d ) k
  obtain ⟨fs, hr, hrun, hended, hW, hsame⟩ := X0.leave (v := some (.int (0 : Int32))) (fun h => by rw [Bd.returns] at h; cases h)
  refine ⟨_, _, pre0 _ ?_, hrun, hended, _, _, rfl, ?_, ⟨_, rfl⟩, hW, hsame.mono (by decide : 0 ≤ _) (by decide : 0 ≤ _)⟩
  · refine Own.w_aloadN H0 own_d9n_0 1 rfl rfl rfl ?_
    refine Stand.instanceofNull X0 hx (g := (mkF m 1 #[.val (.ref d), .val .null, .unset] [.null])) rfl rfl (hb hby own_d9n_1) _ ?_
    show Steps p.tables e below (s₁.setTop (mkF m 4 #[.val (.ref d), .val .null, .unset] [(.int (0 : Int32))])) _
    refine Own.w_ifCondYes H0 own_d9n_4 (rfl) 64 (by decide) (by decide) ?_
    refine Own.w_iconst H0 own_d9n_64 65 rfl (z := (0 : Int32)) rfl ?_
    exact retN X0 hx (t := .boolean) Bd.returns (by simp) (hb hby own_d9n_65) hr
  · exact ⟨rfl, N0, e0⟩
theorem own_d9s_0 : decode prog_20_method_6_code 0 = .ok (.aload_n 1, 1) := by decide +kernel
theorem own_d9s_1 : decode prog_20_method_6_code 1 = .ok (.instanceof 8, 3) := by decide +kernel
theorem own_d9s_4 : decode prog_20_method_6_code 4 = .ok (.ifCond .eq 60, 3) := by decide +kernel
theorem own_d9s_64 : decode prog_20_method_6_code 64 = .ok (.iconst 0, 1) := by decide +kernel
theorem own_d9s_65 : decode prog_20_method_6_code 65 = .ok (.ireturn, 1) := by decide +kernel
theorem ef_9s (m : MethodId) (d : Addr) (e2 : Addr) : entryFrame m #[(.ref d), (.ref e2)] 3 = mkF m 0 #[.val (.ref d), .val (.ref e2), .unset] [] := by first | (simp [entryFrame, mkF, argsToLocals, Value.category, maxLocals]; done) | rfl
def Q_9s (Z : State)  (h0 : Heap) (n0 : Nat) (v : Option Value) (h : Heap) (L : List Loc) : Prop := v = some (.int (0 : Int32)) ∧ Fr n0 L ∧ h = h0
set_option maxRecDepth 65536 in
set_option maxHeartbeats 40000000 in
theorem rm_9s (l : Launch) (Z : State) (a0 : Array Value) (hw : ∀ d ∈ tables_1, d.before a0 Z = true) (ws : List Jvm.Cond) (d : Addr) (e2 : Addr) (h0 : Heap) (n0 : Nat) (Z0 : n0 ≤ h0.size) (E2 : Exa Z h0 e2 "java/lang/String") :
    MetFree l (⟨"com/example/motley/motley/bench/Digest", "equals", "(Ljava/lang/Object;)Z"⟩ : MethodName) (head1 (Jvm.Cond.code (⟨"com/example/motley/motley/bench/Digest", "equals", "(Ljava/lang/Object;)Z"⟩ : MethodName) prog_20_method_6_code 3 (some .boolean) :: ws) ({ frames := 0, cells := 0, slots := 0, locals := 0 } : Room)) (fun aa U => aa = #[(.ref d), (.ref e2)] ∧ Z.Warmed39 U.vm ∧ U.heap = h0) (fun _ _ _ _ _ => True) (fun _ U o U' => ∃ v L, o = .returned v ∧ Q_9s Z  h0 n0 v U'.heap L ∧ FrameEnd U o U' L ({ frames := 0, cells := 0, slots := 0, locals := 0 } : Room).cells ({ frames := 0, cells := 0, slots := 0, locals := 0 } : Room).slots) := by
  refine MetFree.of_bodySF (plainFor_of_name pn_9s) hisR ?_
  intro p e s m args below meth c s₁ Bd hml0 hP hK
  obtain ⟨rfl, hZ, hh⟩ := hP
  have hx := Bd.exec
  have hby := Bd.bytes
  have hml : c.maxLocals = 3 := hml0
  have hown : s.vm.findClass "com/example/motley/motley/bench/Digest" = some m.cls := findClass_of_methodNamed Bd.named
  have hnm := (name_of_methodNamed Bd.named Bd.method).1
  have X0 : Stand p l e ({ frames := 0, cells := 0, slots := 0, locals := 0 } : Room) s m #[(.ref d), (.ref e2)] below meth c s₁ [] 0 0 := Stand.of_body Bd
  have e0 : s₁.heap = h0 := by rw [← hh, Bd.state]; rfl
  have N0 := Fr.nil n0
  have H0 := Own.hr X0 hx hby
  have pre0 : ∀ t, Steps p.tables e below (s₁.setTop (mkF m 0 #[.val (.ref d), .val (.ref e2), .unset] [])) t → Steps p.tables e below (s₁.setTop (entryFrame m #[(.ref d), (.ref e2)] 3)) t := fun t k => castTop (ef_9s m d e2) k
  obtain ⟨T66, X66, e66, st66⟩ := instNo X0 hx hZ hown (hw _ (List.mem_of_getElem? (i := 46) rfl)) e0 E2 (own_no hw) (g := (mkF m 1 #[.val (.ref d), .val (.ref e2), .unset] [(.ref e2)])) rfl rfl (hb hby own_d9s_1)
  have P1 : ∀ t, Steps p.tables e below (T66.setTop (mkF m 4 #[.val (.ref d), .val (.ref e2), .unset] [(.int (0 : Int32))])) t → Steps p.tables e below (s₁.setTop (entryFrame m #[(.ref d), (.ref e2)] 3)) t := fun t k => pre0 t (by
      refine Own.w_aloadN H0 own_d9s_0 1 rfl rfl rfl ?_
      exact st66 t k)
  have H66 := Own.hr X66 hx hby
  obtain ⟨fs, hr, hrun, hended, hW, hsame⟩ := X66.leave (v := some (.int (0 : Int32))) (fun h => by rw [Bd.returns] at h; cases h)
  refine ⟨_, _, P1 _ ?_, hrun, hended, _, _, rfl, ?_, ⟨_, rfl⟩, hW, hsame.mono (by decide : 0 ≤ _) (by decide : 0 ≤ _)⟩
  · refine Own.w_ifCondYes H66 own_d9s_4 (rfl) 64 (by decide) (by decide) ?_
    refine Own.w_iconst H66 own_d9s_64 65 rfl (z := (0 : Int32)) rfl ?_
    exact retN X66 hx (t := .boolean) Bd.returns (by simp) (hb hby own_d9s_65) hr
  · exact ⟨rfl, N0, e66⟩
theorem and3 (x : Int32) : 0 ≤ (x &&& (3 : Int32)).toInt ∧ (x &&& (3 : Int32)).toInt ≤ 3 := by
  have hu : (x &&& (3 : Int32)).toBitVec.toNat ≤ 3 := by
    show (x.toBitVec &&& (3 : Int32).toBitVec).toNat ≤ 3
    rw [BitVec.toNat_and]
    exact Nat.and_le_right
  rw [← Int32.toInt_toBitVec, BitVec.toInt_eq_toNat_cond, if_pos (by omega)]
  omega
theorem long_inj {x y : Int32} : Int32.toInt64 x = Int32.toInt64 y ↔ x = y := by
  constructor
  · intro h
    have q := congrArg Int64.toInt h
    rw [Int32.toInt_toInt64, Int32.toInt_toInt64] at q
    exact Int32.toInt_inj.mp q
  · intro h; rw [h]
theorem bits_inj {x y : Int32} : UInt64.toInt64 (FP.i2d x) = UInt64.toInt64 (FP.i2d y) ↔ x = y := by
  constructor
  · intro h
    have q : FP.i2d x = FP.i2d y := by
      have r := congrArg Int64.toUInt64 h
      simpa using r
    have q2 := congrArg FP.d2i q
    rw [show FP.d2i (FP.i2d x) = x from FP.Core.d2i_i2d x, show FP.d2i (FP.i2d y) = y from FP.Core.d2i_i2d y] at q2
    exact q2
  · intro h; rw [h]
theorem law_logic {ta tb xa xb na nb ia ib te ca cb ce re be ex : Int32} {tA cA rA bA tB cB rB bB : Int64}
    (fa : (ta = 1 ∧ tA = 0 + 1 ∧ cA = 0 + Int32.toInt64 na) ∨ (ta = 0 ∧ tA = 0 ∧ cA = 0)) (fb : (tb = 1 ∧ tB = 0 + 1 ∧ cB = 0 + Int32.toInt64 nb) ∨ (tb = 0 ∧ tB = 0 ∧ cB = 0))
    (ga : (xa = 1 ∧ rA = 0 + 1 ∧ bA = 0 + UInt64.toInt64 (FP.i2d ia)) ∨ (xa = 0 ∧ rA = 0 ∧ bA = 0)) (gb : (xb = 1 ∧ rB = 0 + 1 ∧ bB = 0 + UInt64.toInt64 (FP.i2d ib)) ∨ (xb = 0 ∧ rB = 0 ∧ bB = 0))
    (hte : (te = 1 ∧ ta = tb) ∨ (te = 0 ∧ ta ≠ tb)) (hca : (ta ≠ 0 ∧ ca = na) ∨ (ta = 0 ∧ ca = 0)) (hcb : (tb ≠ 0 ∧ cb = nb) ∨ (tb = 0 ∧ cb = 0)) (hce : (ce = 1 ∧ ca = cb) ∨ (ce = 0 ∧ ca ≠ cb)) (hre : (re = 1 ∧ xa = xb) ∨ (re = 0 ∧ xa ≠ xb))
    (hbe : (be = 1 ∧ (xa = 0 ∨ xb = 0 ∨ ia = ib)) ∨ (be = 0 ∧ xa ≠ 0 ∧ xb ≠ 0 ∧ ia ≠ ib)) (hex : (ex = 1 ∧ te ≠ 0 ∧ ce ≠ 0 ∧ re ≠ 0 ∧ be ≠ 0) ∨ (ex = 0 ∧ (te = 0 ∨ ce = 0 ∨ re = 0 ∨ be = 0))) :
    eqv tA cA rA bA tB cB rB bB = ex ∧ eqv tB cB rB bB tA cA rA bA = ex ∧ eqv tA cA rA bA tA cA rA bA = 1 := by
  have n10 : ((0 : Int64) + 1 = 0) = False := by simp
  have n01 : ((0 : Int64) = 0 + 1) = False := by simp
  have i10 : ((1 : Int32) = 0) = False := by simp
  have i01 : ((0 : Int32) = 1) = False := by simp
  have eT : tA = tB ↔ te ≠ 0 := by
    rcases fa with ⟨rfl, rfl, -⟩ | ⟨rfl, rfl, -⟩ <;> rcases fb with ⟨rfl, rfl, -⟩ | ⟨rfl, rfl, -⟩ <;> rcases hte with ⟨rfl, h⟩ | ⟨rfl, h⟩ <;> simp_all
  have cAe : cA = Int32.toInt64 ca := by
    rcases fa with ⟨rfl, -, rfl⟩ | ⟨rfl, -, rfl⟩ <;> rcases hca with ⟨h, rfl⟩ | ⟨h, rfl⟩ <;> simp_all
  have cBe : cB = Int32.toInt64 cb := by
    rcases fb with ⟨rfl, -, rfl⟩ | ⟨rfl, -, rfl⟩ <;> rcases hcb with ⟨h, rfl⟩ | ⟨h, rfl⟩ <;> simp_all
  have eC : cA = cB ↔ ce ≠ 0 := by
    rw [cAe, cBe, long_inj]
    rcases hce with ⟨rfl, h⟩ | ⟨rfl, h⟩ <;> simp_all
  have eR : rA = rB ↔ re ≠ 0 := by
    rcases ga with ⟨rfl, rfl, -⟩ | ⟨rfl, rfl, -⟩ <;> rcases gb with ⟨rfl, rfl, -⟩ | ⟨rfl, rfl, -⟩ <;> rcases hre with ⟨rfl, h⟩ | ⟨rfl, h⟩ <;> simp_all
  have eB : rA = rB → (bA = bB ↔ be ≠ 0) := by
    intro hr
    rcases ga with ⟨rfl, rfl, rfl⟩ | ⟨rfl, rfl, rfl⟩ <;> rcases gb with ⟨rfl, rfl, rfl⟩ | ⟨rfl, rfl, rfl⟩
    · rw [Int64.zero_add, Int64.zero_add, bits_inj]
      rcases hbe with ⟨rfl, h⟩ | ⟨rfl, h⟩ <;> simp_all
    · exact absurd hr (by simp)
    · exact absurd hr (by simp)
    · rcases hbe with ⟨rfl, h⟩ | ⟨rfl, h⟩ <;> simp_all
  have key : (tA = tB ∧ cA = cB ∧ rA = rB ∧ bA = bB) ↔ ex = 1 := by
    constructor
    · rintro ⟨h1, h2, h3, h4⟩
      have g4 := (eB h3).mp h4
      rw [eT] at h1; rw [eC] at h2; rw [eR] at h3
      rcases hex with ⟨h, -⟩ | ⟨-, h⟩
      · exact h
      · rcases h with h | h | h | h
        · exact absurd h h1
        · exact absurd h h2
        · exact absurd h h3
        · exact absurd h g4
    · intro h
      rcases hex with ⟨-, h1, h2, h3, h4⟩ | ⟨g, -⟩
      · exact ⟨eT.mpr h1, eC.mpr h2, eR.mpr h3, (eB (eR.mpr h3)).mpr h4⟩
      · rw [h] at g; exact absurd g (by decide)
  have hx01 : ex = 1 ∨ ex = 0 := hex.imp (·.1) (·.1)
  refine ⟨?_, ?_, if_pos ⟨rfl, rfl, rfl, rfl⟩⟩
  · unfold eqv
    by_cases h : tA = tB ∧ cA = cB ∧ rA = rB ∧ bA = bB
    · rw [if_pos h]; exact (key.mp h).symm
    · rw [if_neg h]; rcases hx01 with q | q
      · exact absurd (key.mpr q) h
      · exact q.symm
  · unfold eqv
    by_cases h : tB = tA ∧ cB = cA ∧ rB = rA ∧ bB = bA
    · rw [if_pos h]; exact (key.mp ⟨h.1.symm, h.2.1.symm, h.2.2.1.symm, h.2.2.2.symm⟩).symm
    · rw [if_neg h]; rcases hx01 with q | q
      · have r := key.mpr q
        exact absurd ⟨r.1.symm, r.2.1.symm, r.2.2.1.symm, r.2.2.2.symm⟩ h
      · exact q.symm

theorem ef_0 (m : MethodId) (pv : Int32) (la : Int32) (lb : Int32) (ra : Int32) (rb : Int32) : entryFrame m #[(.int pv), (.int la), (.int lb), (.int ra), (.int rb)] maxLocals = mkF m 0 #[.val (.int pv), .val (.int la), .val (.int lb), .val (.int ra), .val (.int rb), .unset, .unset, .unset, .unset, .unset, .unset, .unset, .unset, .unset, .unset, .unset, .unset, .unset, .unset, .unset, .unset, .unset, .unset, .unset, .unset] [] := by first | (simp [entryFrame, mkF, argsToLocals, Value.category, maxLocals]; done) | rfl
def Q_0 (Z : State)  (h0 : Heap) (n0 : Nat) (v : Option Value) (h : Heap) (L : List Loc) : Prop := v = some (.int 1) ∧ Fr n0 L
set_option maxRecDepth 65536 in
set_option maxHeartbeats 40000000 in
theorem rm_0 (l : Launch) (Z : State) (a0 : Array Value) (hw : ∀ d ∈ tables_1, d.before a0 Z = true) (ws : List Jvm.Cond) (pv : Int32) (la : Int32) (lb : Int32) (ra : Int32) (rb : Int32) (h0 : Heap) (n0 : Nat) (Z0 : n0 ≤ h0.size) (z : Int32) (OL : Old Z n0 h0) (S0 : Sta Z Z.heap "java/lang/String" "COMPACT_STRINGS" "Z" (.int z)) (hz : ¬ z = 0) :
    MetFree l x (head1 (Jvm.Cond.code x code maxLocals ret :: ws) room_1) (fun aa U => aa = #[(.int pv), (.int la), (.int lb), (.int ra), (.int rb)] ∧ Z.Warmed39 U.vm ∧ U.heap = h0 ∧ CHv Z EL U.vm h0) (fun _ _ _ _ _ => True) (fun _ U o U' => ∃ v L, o = .returned v ∧ Q_0 Z  h0 n0 v U'.heap L ∧ ReturnedEndW U o U' L 32 1152) := by
  refine MetFree.of_bodySF (plainFor_of_name pn_0) hisR ?_
  intro p e s m args below meth c s₁ Bd hml0 hP hK
  obtain ⟨rfl, hZ, hh, HC0⟩ := hP
  have hx := Bd.exec
  have hby := Bd.bytes
  have hml : c.maxLocals = 25 := hml0
  have hown : s.vm.findClass "com/example/motley/motley/bench/DigestEqualsPinLaw" = some m.cls := findClass_of_methodNamed Bd.named
  have hnm := (name_of_methodNamed Bd.named Bd.method).1
  have X0 : Stand p l e room_1 s m #[(.int pv), (.int la), (.int lb), (.int ra), (.int rb)] below meth c s₁ [] 0 0 := Stand.of_body Bd
  have e0 : s₁.heap = h0 := by rw [← hh, Bd.state]; rfl
  have N0 := Fr.nil n0
  have H0 := Own.hr X0 hx hby
  have pre0 : ∀ t, Steps p.tables e below (s₁.setTop (mkF m 0 #[.val (.int pv), .val (.int la), .val (.int lb), .val (.int ra), .val (.int rb), .unset, .unset, .unset, .unset, .unset, .unset, .unset, .unset, .unset, .unset, .unset, .unset, .unset, .unset, .unset, .unset, .unset, .unset, .unset, .unset] [])) t → Steps p.tables e below (s₁.setTop (entryFrame m #[(.int pv), (.int la), (.int lb), (.int ra), (.int rb)] maxLocals)) t := fun t k => castTop (ef_0 m pv la lb ra rb) k
  have SB0 : s.Since s.vm h0.size := (State.WarmedH.refl s).since _
  obtain ⟨ta, hta, Ps1⟩ : ∃ ta : Int32, (ta = 0 ∨ ta = 1) ∧ ∀ t, Steps p.tables e below (s₁.setTop (mkF m 13 #[.val (.int pv), .val (.int la), .val (.int lb), .val (.int ra), .val (.int rb), .val (.int ta), .unset, .unset, .unset, .unset, .unset, .unset, .unset, .unset, .unset, .unset, .unset, .unset, .unset, .unset, .unset, .unset, .unset, .unset, .unset] [])) t → Steps p.tables e below (s₁.setTop (entryFrame m #[(.int pv), (.int la), (.int lb), (.int ra), (.int rb)] maxLocals)) t := by
    cases hb2 : ifCond.holds .eq (pv &&& (1 : Int32))
    · refine ⟨(1 : Int32), Or.inr rfl, fun t k => pre0 t ?_⟩
      refine Own.w_iloadN H0 at_0 1 rfl rfl ?_
      refine Own.w_iconst H0 at_1 2 rfl (z := (1 : Int32)) rfl ?_
      refine Own.w_iand H0 at_2 3 rfl ?_
      refine Own.w_ifCondNo H0 at_3 (hb2) 6 rfl ?_
      refine Own.w_iconst H0 at_6 7 rfl (z := (1 : Int32)) rfl ?_
      refine Own.w_goto H0 at_7 11 (by decide) (by decide) ?_
      refine Own.w_istore H0 at_11 13 rfl (l' := #[.val (.int pv), .val (.int la), .val (.int lb), .val (.int ra), .val (.int rb), .val (.int (1 : Int32)), .unset, .unset, .unset, .unset, .unset, .unset, .unset, .unset, .unset, .unset, .unset, .unset, .unset, .unset, .unset, .unset, .unset, .unset, .unset]) rfl ?_
      exact k
    · refine ⟨(0 : Int32), Or.inl rfl, fun t k => pre0 t ?_⟩
      refine Own.w_iloadN H0 at_0 1 rfl rfl ?_
      refine Own.w_iconst H0 at_1 2 rfl (z := (1 : Int32)) rfl ?_
      refine Own.w_iand H0 at_2 3 rfl ?_
      refine Own.w_ifCondYes H0 at_3 (hb2) 10 (by decide) (by decide) ?_
      refine Own.w_iconst H0 at_10 11 rfl (z := (0 : Int32)) rfl ?_
      refine Own.w_istore H0 at_11 13 rfl (l' := #[.val (.int pv), .val (.int la), .val (.int lb), .val (.int ra), .val (.int rb), .val (.int (0 : Int32)), .unset, .unset, .unset, .unset, .unset, .unset, .unset, .unset, .unset, .unset, .unset, .unset, .unset, .unset, .unset, .unset, .unset, .unset, .unset]) rfl ?_
      exact k
  obtain ⟨tb, htb, Ps3⟩ : ∃ tb : Int32, (tb = 0 ∨ tb = 1) ∧ ∀ t, Steps p.tables e below (s₁.setTop (mkF m 26 #[.val (.int pv), .val (.int la), .val (.int lb), .val (.int ra), .val (.int rb), .val (.int ta), .val (.int tb), .unset, .unset, .unset, .unset, .unset, .unset, .unset, .unset, .unset, .unset, .unset, .unset, .unset, .unset, .unset, .unset, .unset, .unset] [])) t → Steps p.tables e below (s₁.setTop (entryFrame m #[(.int pv), (.int la), (.int lb), (.int ra), (.int rb)] maxLocals)) t := by
    cases hb4 : ifCond.holds .eq (pv &&& (2 : Int32))
    · refine ⟨(1 : Int32), Or.inr rfl, fun t k => Ps1 t ?_⟩
      refine Own.w_iloadN H0 at_13 14 rfl rfl ?_
      refine Own.w_iconst H0 at_14 15 rfl (z := (2 : Int32)) rfl ?_
      refine Own.w_iand H0 at_15 16 rfl ?_
      refine Own.w_ifCondNo H0 at_16 (hb4) 19 rfl ?_
      refine Own.w_iconst H0 at_19 20 rfl (z := (1 : Int32)) rfl ?_
      refine Own.w_goto H0 at_20 24 (by decide) (by decide) ?_
      refine Own.w_istore H0 at_24 26 rfl (l' := #[.val (.int pv), .val (.int la), .val (.int lb), .val (.int ra), .val (.int rb), .val (.int ta), .val (.int (1 : Int32)), .unset, .unset, .unset, .unset, .unset, .unset, .unset, .unset, .unset, .unset, .unset, .unset, .unset, .unset, .unset, .unset, .unset, .unset]) rfl ?_
      exact k
    · refine ⟨(0 : Int32), Or.inl rfl, fun t k => Ps1 t ?_⟩
      refine Own.w_iloadN H0 at_13 14 rfl rfl ?_
      refine Own.w_iconst H0 at_14 15 rfl (z := (2 : Int32)) rfl ?_
      refine Own.w_iand H0 at_15 16 rfl ?_
      refine Own.w_ifCondYes H0 at_16 (hb4) 23 (by decide) (by decide) ?_
      refine Own.w_iconst H0 at_23 24 rfl (z := (0 : Int32)) rfl ?_
      refine Own.w_istore H0 at_24 26 rfl (l' := #[.val (.int pv), .val (.int la), .val (.int lb), .val (.int ra), .val (.int rb), .val (.int ta), .val (.int (0 : Int32)), .unset, .unset, .unset, .unset, .unset, .unset, .unset, .unset, .unset, .unset, .unset, .unset, .unset, .unset, .unset, .unset, .unset, .unset]) rfl ?_
      exact k
  obtain ⟨xa, hxa, Ps5⟩ : ∃ xa : Int32, (xa = 0 ∨ xa = 1) ∧ ∀ t, Steps p.tables e below (s₁.setTop (mkF m 39 #[.val (.int pv), .val (.int la), .val (.int lb), .val (.int ra), .val (.int rb), .val (.int ta), .val (.int tb), .val (.int xa), .unset, .unset, .unset, .unset, .unset, .unset, .unset, .unset, .unset, .unset, .unset, .unset, .unset, .unset, .unset, .unset, .unset] [])) t → Steps p.tables e below (s₁.setTop (entryFrame m #[(.int pv), (.int la), (.int lb), (.int ra), (.int rb)] maxLocals)) t := by
    cases hb6 : ifCond.holds .eq (pv &&& (4 : Int32))
    · refine ⟨(1 : Int32), Or.inr rfl, fun t k => Ps3 t ?_⟩
      refine Own.w_iloadN H0 at_26 27 rfl rfl ?_
      refine Own.w_iconst H0 at_27 28 rfl (z := (4 : Int32)) rfl ?_
      refine Own.w_iand H0 at_28 29 rfl ?_
      refine Own.w_ifCondNo H0 at_29 (hb6) 32 rfl ?_
      refine Own.w_iconst H0 at_32 33 rfl (z := (1 : Int32)) rfl ?_
      refine Own.w_goto H0 at_33 37 (by decide) (by decide) ?_
      refine Own.w_istore H0 at_37 39 rfl (l' := #[.val (.int pv), .val (.int la), .val (.int lb), .val (.int ra), .val (.int rb), .val (.int ta), .val (.int tb), .val (.int (1 : Int32)), .unset, .unset, .unset, .unset, .unset, .unset, .unset, .unset, .unset, .unset, .unset, .unset, .unset, .unset, .unset, .unset, .unset]) rfl ?_
      exact k
    · refine ⟨(0 : Int32), Or.inl rfl, fun t k => Ps3 t ?_⟩
      refine Own.w_iloadN H0 at_26 27 rfl rfl ?_
      refine Own.w_iconst H0 at_27 28 rfl (z := (4 : Int32)) rfl ?_
      refine Own.w_iand H0 at_28 29 rfl ?_
      refine Own.w_ifCondYes H0 at_29 (hb6) 36 (by decide) (by decide) ?_
      refine Own.w_iconst H0 at_36 37 rfl (z := (0 : Int32)) rfl ?_
      refine Own.w_istore H0 at_37 39 rfl (l' := #[.val (.int pv), .val (.int la), .val (.int lb), .val (.int ra), .val (.int rb), .val (.int ta), .val (.int tb), .val (.int (0 : Int32)), .unset, .unset, .unset, .unset, .unset, .unset, .unset, .unset, .unset, .unset, .unset, .unset, .unset, .unset, .unset, .unset, .unset]) rfl ?_
      exact k
  obtain ⟨xb, hxb, Ps7⟩ : ∃ xb : Int32, (xb = 0 ∨ xb = 1) ∧ ∀ t, Steps p.tables e below (s₁.setTop (mkF m 53 #[.val (.int pv), .val (.int la), .val (.int lb), .val (.int ra), .val (.int rb), .val (.int ta), .val (.int tb), .val (.int xa), .val (.int xb), .unset, .unset, .unset, .unset, .unset, .unset, .unset, .unset, .unset, .unset, .unset, .unset, .unset, .unset, .unset, .unset] [])) t → Steps p.tables e below (s₁.setTop (entryFrame m #[(.int pv), (.int la), (.int lb), (.int ra), (.int rb)] maxLocals)) t := by
    cases hb8 : ifCond.holds .eq (pv &&& (8 : Int32))
    · refine ⟨(1 : Int32), Or.inr rfl, fun t k => Ps5 t ?_⟩
      refine Own.w_iloadN H0 at_39 40 rfl rfl ?_
      refine Own.w_bipush H0 at_40 42 rfl (z := (8 : Int32)) rfl ?_
      refine Own.w_iand H0 at_42 43 rfl ?_
      refine Own.w_ifCondNo H0 at_43 (hb8) 46 rfl ?_
      refine Own.w_iconst H0 at_46 47 rfl (z := (1 : Int32)) rfl ?_
      refine Own.w_goto H0 at_47 51 (by decide) (by decide) ?_
      refine Own.w_istore H0 at_51 53 rfl (l' := #[.val (.int pv), .val (.int la), .val (.int lb), .val (.int ra), .val (.int rb), .val (.int ta), .val (.int tb), .val (.int xa), .val (.int (1 : Int32)), .unset, .unset, .unset, .unset, .unset, .unset, .unset, .unset, .unset, .unset, .unset, .unset, .unset, .unset, .unset, .unset]) rfl ?_
      exact k
    · refine ⟨(0 : Int32), Or.inl rfl, fun t k => Ps5 t ?_⟩
      refine Own.w_iloadN H0 at_39 40 rfl rfl ?_
      refine Own.w_bipush H0 at_40 42 rfl (z := (8 : Int32)) rfl ?_
      refine Own.w_iand H0 at_42 43 rfl ?_
      refine Own.w_ifCondYes H0 at_43 (hb8) 50 (by decide) (by decide) ?_
      refine Own.w_iconst H0 at_50 51 rfl (z := (0 : Int32)) rfl ?_
      refine Own.w_istore H0 at_51 53 rfl (l' := #[.val (.int pv), .val (.int la), .val (.int lb), .val (.int ra), .val (.int rb), .val (.int ta), .val (.int tb), .val (.int xa), .val (.int (0 : Int32)), .unset, .unset, .unset, .unset, .unset, .unset, .unset, .unset, .unset, .unset, .unset, .unset, .unset, .unset, .unset, .unset]) rfl ?_
      exact k
  have P1 : ∀ t, Steps p.tables e below (s₁.setTop (mkF m 63 #[.val (.int pv), .val (.int la), .val (.int lb), .val (.int ra), .val (.int rb), .val (.int ta), .val (.int tb), .val (.int xa), .val (.int xb), .val (.int (la &&& (3 : Int32))), .val (.int (lb &&& (3 : Int32))), .unset, .unset, .unset, .unset, .unset, .unset, .unset, .unset, .unset, .unset, .unset, .unset, .unset, .unset] [])) t → Steps p.tables e below (s₁.setTop (entryFrame m #[(.int pv), (.int la), (.int lb), (.int ra), (.int rb)] maxLocals)) t := fun t k => Ps7 t (by
      refine Own.w_iloadN H0 at_53 54 rfl rfl ?_
      refine Own.w_iconst H0 at_54 55 rfl (z := (3 : Int32)) rfl ?_
      refine Own.w_iand H0 at_55 56 rfl ?_
      refine Own.w_istore H0 at_56 58 rfl (l' := #[.val (.int pv), .val (.int la), .val (.int lb), .val (.int ra), .val (.int rb), .val (.int ta), .val (.int tb), .val (.int xa), .val (.int xb), .val (.int (la &&& (3 : Int32))), .unset, .unset, .unset, .unset, .unset, .unset, .unset, .unset, .unset, .unset, .unset, .unset, .unset, .unset, .unset]) rfl ?_
      refine Own.w_iloadN H0 at_58 59 rfl rfl ?_
      refine Own.w_iconst H0 at_59 60 rfl (z := (3 : Int32)) rfl ?_
      refine Own.w_iand H0 at_60 61 rfl ?_
      refine Own.w_istore H0 at_61 63 rfl (l' := #[.val (.int pv), .val (.int la), .val (.int lb), .val (.int ra), .val (.int rb), .val (.int ta), .val (.int tb), .val (.int xa), .val (.int xb), .val (.int (la &&& (3 : Int32))), .val (.int (lb &&& (3 : Int32))), .unset, .unset, .unset, .unset, .unset, .unset, .unset, .unset, .unset, .unset, .unset, .unset, .unset, .unset]) rfl ?_
      exact k)
  obtain ⟨na, nb, hna, hnb, Pn⟩ : ∃ na nb : Int32, (0 ≤ na.toInt ∧ na.toInt ≤ 3) ∧ (0 ≤ nb.toInt ∧ nb.toInt ≤ 3) ∧ ∀ t, Steps p.tables e below (s₁.setTop (mkF m 63 #[.val (.int pv), .val (.int la), .val (.int lb), .val (.int ra), .val (.int rb), .val (.int ta), .val (.int tb), .val (.int xa), .val (.int xb), .val (.int na), .val (.int nb), .unset, .unset, .unset, .unset, .unset, .unset, .unset, .unset, .unset, .unset, .unset, .unset, .unset, .unset] [])) t → Steps p.tables e below (s₁.setTop (entryFrame m #[(.int pv), (.int la), (.int lb), (.int ra), (.int rb)] maxLocals)) t := ⟨_, _, and3 la, and3 lb, P1⟩
  have P2 : ∀ t, Steps p.tables e below (s₁.setTop (mkF m 68 #[.val (.int pv), .val (.int la), .val (.int lb), .val (.int ra), .val (.int rb), .val (.int ta), .val (.int tb), .val (.int xa), .val (.int xb), .val (.int na), .val (.int nb), .unset, .unset, .unset, .unset, .unset, .unset, .unset, .unset, .unset, .unset, .unset, .unset, .unset, .unset] [(.int (Own.ushr la (2 : Int32))), (.int na)])) t → Steps p.tables e below (s₁.setTop (entryFrame m #[(.int pv), (.int la), (.int lb), (.int ra), (.int rb)] maxLocals)) t := fun t k => Pn t (by
      refine Own.w_iload H0 at_63 65 rfl rfl ?_
      refine Own.w_iloadN H0 at_65 66 rfl rfl ?_
      refine Own.w_iconst H0 at_66 67 rfl (z := (2 : Int32)) rfl ?_
      refine Own.w_iushr H0 at_67 68 rfl ?_
      exact k)
  obtain ⟨_, _, ⟨T67, L67, k67, n67⟩, -, Xr67, hS67, hg67, ⟨Lc67, hQ67, l67, y67, z67, HR67⟩, st67⟩ := callSS (s := s.setVm s.vm) X0 hx (y := (⟨"com/example/motley/motley/bench/DigestEqualsPinLaw", "str", "(II)Ljava/lang/String;"⟩ : MethodName)) hown (mvT hZ (hw _ (List.mem_of_getElem? (i := 0) rfl))) (mvT hZ (hw _ (List.mem_of_getElem? (i := 1) rfl))) (mvT hZ (hw _ (List.mem_of_getElem? (i := 2) rfl))) (mvT hZ (hw _ (List.mem_of_getElem? (i := 3) rfl))) (by decide) (backOfSH (s := s) (vm0 := s.vm) (W := 0) (rm_1 l Z a0 hw [] na (Own.ushr la (2 : Int32)) h0 n0 Z0 z OL S0 hz hna) hZ (hw _ (List.mem_of_getElem? (i := 3) rfl)) (hw _ (List.mem_of_getElem? (i := 2) rfl)) (by decide) (by decide) (hEL hw) HC0) (g := (mkF m 68 #[.val (.int pv), .val (.int la), .val (.int lb), .val (.int ra), .val (.int rb), .val (.int ta), .val (.int tb), .val (.int xa), .val (.int xb), .val (.int na), .val (.int nb), .unset, .unset, .unset, .unset, .unset, .unset, .unset, .unset, .unset, .unset, .unset, .unset, .unset, .unset] [(.int (Own.ushr la (2 : Int32))), (.int na)])) rfl (by rw [hml]; rfl) (argsL := [(.int na), (.int (Own.ushr la (2 : Int32)))]) (rest := []) (lenOf pd_1 rfl) rfl (by show 2 * 0 + _ ≤ _; exact Nat.le_of_ble_eq_true rfl) (hb hby at_68) (fun _ _ => ⟨rfl, e0, (by decide : 0 + 6 ≤ _), (by decide : 0 + 16 ≤ _)⟩)
  dsimp only [Pt.U, Pt.locs, Pt.cells, Pt.slots] at Xr67 hS67 hg67 l67 y67 z67 HR67 st67 hQ67
  subst l67 y67 z67
  obtain ⟨X67, SB67, hZ67, hown67⟩ := rebS (vm0 := s.vm) SB0 (n1 := s₁.heap.size) (Nat.le_of_eq (congrArg Array.size e0.symm)) Xr67 hS67 hg67 hZ hown
  have hZ := hZ67
  have hown := hown67
  obtain ⟨sA, rfl, NcA, KcA, StA⟩ := hQ67
  have P3 : ∀ t, Steps p.tables e below (T67.setTop (mkF m 71 #[.val (.int pv), .val (.int la), .val (.int lb), .val (.int ra), .val (.int rb), .val (.int ta), .val (.int tb), .val (.int xa), .val (.int xb), .val (.int na), .val (.int nb), .unset, .unset, .unset, .unset, .unset, .unset, .unset, .unset, .unset, .unset, .unset, .unset, .unset, .unset] [(.ref sA)])) t → Steps p.tables e below (s₁.setTop (entryFrame m #[(.int pv), (.int la), (.int lb), (.int ra), (.int rb)] maxLocals)) t := fun t k => P2 t (by
      exact st67.trans k)
  have H67 := Own.hr X67 hx hby
  have N68 := Fr.app N0 NcA
  have Z1 := Nat.le_trans Z0 KcA.1
  have OL1 := OL.keep KcA all0
  have P4 : ∀ t, Steps p.tables e below (T67.setTop (mkF m 78 #[.val (.int pv), .val (.int la), .val (.int lb), .val (.int ra), .val (.int rb), .val (.int ta), .val (.int tb), .val (.int xa), .val (.int xb), .val (.int na), .val (.int nb), .val (.ref sA), .unset, .unset, .unset, .unset, .unset, .unset, .unset, .unset, .unset, .unset, .unset, .unset, .unset] [(.int (Own.ushr lb (2 : Int32))), (.int nb)])) t → Steps p.tables e below (s₁.setTop (entryFrame m #[(.int pv), (.int la), (.int lb), (.int ra), (.int rb)] maxLocals)) t := fun t k => P3 t (by
      refine Own.w_astore H67 at_71 73 rfl rfl (l' := #[.val (.int pv), .val (.int la), .val (.int lb), .val (.int ra), .val (.int rb), .val (.int ta), .val (.int tb), .val (.int xa), .val (.int xb), .val (.int na), .val (.int nb), .val (.ref sA), .unset, .unset, .unset, .unset, .unset, .unset, .unset, .unset, .unset, .unset, .unset, .unset, .unset]) rfl ?_
      refine Own.w_iload H67 at_73 75 rfl rfl ?_
      refine Own.w_iloadN H67 at_75 76 rfl rfl ?_
      refine Own.w_iconst H67 at_76 77 rfl (z := (2 : Int32)) rfl ?_
      refine Own.w_iushr H67 at_77 78 rfl ?_
      exact k)
  obtain ⟨_, _, ⟨T69, L69, k69, n69⟩, -, Xr69, hS69, hg69, ⟨Lc69, hQ69, l69, y69, z69, HR69⟩, st69⟩ := callSS (s := s.setVm T67.vm) X67 hx (y := (⟨"com/example/motley/motley/bench/DigestEqualsPinLaw", "str", "(II)Ljava/lang/String;"⟩ : MethodName)) hown (mvT hZ (hw _ (List.mem_of_getElem? (i := 0) rfl))) (mvT hZ (hw _ (List.mem_of_getElem? (i := 1) rfl))) (mvT hZ (hw _ (List.mem_of_getElem? (i := 2) rfl))) (mvT hZ (hw _ (List.mem_of_getElem? (i := 3) rfl))) (by decide) (backOfSH (s := s) (vm0 := T67.vm) (W := 0) (rm_1 l Z a0 hw [] nb (Own.ushr lb (2 : Int32)) T67.heap n0 Z1 z OL1 S0 hz hnb) hZ (hw _ (List.mem_of_getElem? (i := 3) rfl)) (hw _ (List.mem_of_getElem? (i := 2) rfl)) (by decide) (by decide) (hEL hw) HR67.1) (g := (mkF m 78 #[.val (.int pv), .val (.int la), .val (.int lb), .val (.int ra), .val (.int rb), .val (.int ta), .val (.int tb), .val (.int xa), .val (.int xb), .val (.int na), .val (.int nb), .val (.ref sA), .unset, .unset, .unset, .unset, .unset, .unset, .unset, .unset, .unset, .unset, .unset, .unset, .unset] [(.int (Own.ushr lb (2 : Int32))), (.int nb)])) rfl (by rw [hml]; rfl) (argsL := [(.int nb), (.int (Own.ushr lb (2 : Int32)))]) (rest := []) (lenOf pd_1 rfl) rfl (by show 2 * 0 + _ ≤ _; exact Nat.le_of_ble_eq_true rfl) (hb hby at_78) (fun _ _ => ⟨rfl, rfl, (by decide : 6 + 6 ≤ _), (by decide : 16 + 16 ≤ _)⟩)
  dsimp only [Pt.U, Pt.locs, Pt.cells, Pt.slots] at Xr69 hS69 hg69 l69 y69 z69 HR69 st69 hQ69
  subst l69 y69 z69
  obtain ⟨X69, SB69, hZ69, hown69⟩ := rebS (vm0 := T67.vm) SB67 (n1 := T67.heap.size) (Nat.le_refl _) Xr69 hS69 hg69 hZ hown
  have hZ := hZ69
  have hown := hown69
  obtain ⟨sB, rfl, NcB, KcB, StB⟩ := hQ69
  have P5 : ∀ t, Steps p.tables e below (T69.setTop (mkF m 81 #[.val (.int pv), .val (.int la), .val (.int lb), .val (.int ra), .val (.int rb), .val (.int ta), .val (.int tb), .val (.int xa), .val (.int xb), .val (.int na), .val (.int nb), .val (.ref sA), .unset, .unset, .unset, .unset, .unset, .unset, .unset, .unset, .unset, .unset, .unset, .unset, .unset] [(.ref sB)])) t → Steps p.tables e below (s₁.setTop (entryFrame m #[(.int pv), (.int la), (.int lb), (.int ra), (.int rb)] maxLocals)) t := fun t k => P4 t (by
      exact st69.trans k)
  have H69 := Own.hr X69 hx hby
  have N70 := Fr.app N68 NcB
  have Z2 := Nat.le_trans Z1 KcB.1
  have OL2 := OL1.keep KcB all0
  have StA := StA.keep0 KcB
  have P6 : ∀ t, Steps p.tables e below (T69.setTop (mkF m 98 #[.val (.int pv), .val (.int la), .val (.int lb), .val (.int ra), .val (.int rb), .val (.int ta), .val (.int tb), .val (.int xa), .val (.int xb), .val (.int na), .val (.int nb), .val (.ref sA), .val (.ref sB), .val (.int (ra % (1000 : Int32))), .val (.int (rb % (1000 : Int32))), .unset, .unset, .unset, .unset, .unset, .unset, .unset, .unset, .unset, .unset] [])) t → Steps p.tables e below (s₁.setTop (entryFrame m #[(.int pv), (.int la), (.int lb), (.int ra), (.int rb)] maxLocals)) t := fun t k => P5 t (by
      refine Own.w_astore H69 at_81 83 rfl rfl (l' := #[.val (.int pv), .val (.int la), .val (.int lb), .val (.int ra), .val (.int rb), .val (.int ta), .val (.int tb), .val (.int xa), .val (.int xb), .val (.int na), .val (.int nb), .val (.ref sA), .val (.ref sB), .unset, .unset, .unset, .unset, .unset, .unset, .unset, .unset, .unset, .unset, .unset, .unset]) rfl ?_
      refine Own.w_iloadN H69 at_83 84 rfl rfl ?_
      refine Own.w_sipush H69 at_84 87 rfl (z := (1000 : Int32)) rfl ?_
      refine Own.w_irem H69 at_87 88 rfl (by decide) ?_
      refine Own.w_istore H69 at_88 90 rfl (l' := #[.val (.int pv), .val (.int la), .val (.int lb), .val (.int ra), .val (.int rb), .val (.int ta), .val (.int tb), .val (.int xa), .val (.int xb), .val (.int na), .val (.int nb), .val (.ref sA), .val (.ref sB), .val (.int (ra % (1000 : Int32))), .unset, .unset, .unset, .unset, .unset, .unset, .unset, .unset, .unset, .unset, .unset]) rfl ?_
      refine Own.w_iload H69 at_90 92 rfl rfl ?_
      refine Own.w_sipush H69 at_92 95 rfl (z := (1000 : Int32)) rfl ?_
      refine Own.w_irem H69 at_95 96 rfl (by decide) ?_
      refine Own.w_istore H69 at_96 98 rfl (l' := #[.val (.int pv), .val (.int la), .val (.int lb), .val (.int ra), .val (.int rb), .val (.int ta), .val (.int tb), .val (.int xa), .val (.int xb), .val (.int na), .val (.int nb), .val (.ref sA), .val (.ref sB), .val (.int (ra % (1000 : Int32))), .val (.int (rb % (1000 : Int32))), .unset, .unset, .unset, .unset, .unset, .unset, .unset, .unset, .unset, .unset]) rfl ?_
      exact k)
  obtain ⟨ia, ib, Pi⟩ : ∃ ia ib : Int32, ∀ t, Steps p.tables e below (T69.setTop (mkF m 98 #[.val (.int pv), .val (.int la), .val (.int lb), .val (.int ra), .val (.int rb), .val (.int ta), .val (.int tb), .val (.int xa), .val (.int xb), .val (.int na), .val (.int nb), .val (.ref sA), .val (.ref sB), .val (.int ia), .val (.int ib), .unset, .unset, .unset, .unset, .unset, .unset, .unset, .unset, .unset, .unset] [])) t → Steps p.tables e below (s₁.setTop (entryFrame m #[(.int pv), (.int la), (.int lb), (.int ra), (.int rb)] maxLocals)) t := ⟨_, _, P6⟩
  obtain ⟨T71, h71, X71, e71, E71, A71, D71, -, st71⟩ := newO X69 hx hZ hown (hw _ (List.mem_of_getElem? (i := 34) rfl)) (hw _ (List.mem_of_getElem? (i := 35) rfl)) (hw _ (List.mem_of_getElem? (i := 36) rfl)) rfl (g := (mkF m 98 #[.val (.int pv), .val (.int la), .val (.int lb), .val (.int ra), .val (.int rb), .val (.int ta), .val (.int tb), .val (.int xa), .val (.int xb), .val (.int na), .val (.int nb), .val (.ref sA), .val (.ref sB), .val (.int ia), .val (.int ib), .unset, .unset, .unset, .unset, .unset, .unset, .unset, .unset, .unset, .unset] [])) rfl (hb hby at_98) (by decide : 12 + 1 ≤ _) (by decide : 32 + 4 ≤ _)
  obtain ⟨a71, g71⟩ : ∃ z, z = (T69.heap).size := ⟨_, rfl⟩
  rw [← g71] at A71 D71 st71
  have P7 : ∀ t, Steps p.tables e below (T71.setTop (mkF m 101 #[.val (.int pv), .val (.int la), .val (.int lb), .val (.int ra), .val (.int rb), .val (.int ta), .val (.int tb), .val (.int xa), .val (.int xb), .val (.int na), .val (.int nb), .val (.ref sA), .val (.ref sB), .val (.int ia), .val (.int ib), .unset, .unset, .unset, .unset, .unset, .unset, .unset, .unset, .unset, .unset] [(.ref a71)])) t → Steps p.tables e below (s₁.setTop (entryFrame m #[(.int pv), (.int la), (.int lb), (.int ra), (.int rb)] maxLocals)) t := fun t k => Pi t (by
      exact st71 t k)
  have H71 := Own.hr X71 hx hby
  have Z3A := Nat.le_trans Z2 E71.1
  have OL3A := OL2.ext E71
  have gAd : n0 ≤ a71 := by rw [g71]; exact Z2
  have StA := StA.ext E71
  have StB := StB.ext E71
  have DgA : Dg Z h71 a71 0 0 0 0 := ⟨A71, D71 (Or.inl (hw _ (List.mem_of_getElem? (i := 49) rfl))) (ty := .long) (by decide), D71 (Or.inl (hw _ (List.mem_of_getElem? (i := 51) rfl))) (ty := .long) (by decide), D71 (Or.inl (hw _ (List.mem_of_getElem? (i := 53) rfl))) (ty := .long) (by decide), D71 (Or.inl (hw _ (List.mem_of_getElem? (i := 55) rfl))) (ty := .long) (by decide)⟩
  obtain ⟨_, _, ⟨T72, L72, k72, n72⟩, -, X72, ⟨Lc72, hQ72, l72, y72, z72⟩, st72⟩ := X71.specialBack hx (y := (⟨"com/example/motley/motley/bench/Digest", "<init>", "()V"⟩ : MethodName)) rfl hown (mvT hZ (hw _ (List.mem_of_getElem? (i := 37) rfl))) (mvT hZ (hw _ (List.mem_of_getElem? (i := 38) rfl))) (mvT hZ (hw _ (List.mem_of_getElem? (i := 39) rfl))) (by decide) (backOf (W := 1) (rm_8 l Z a0 hw [] a71 h71 n0 Z3A) hZ (hw _ (List.mem_of_getElem? (i := 39) rfl)) (hw _ (List.mem_of_getElem? (i := 36) rfl)) (by decide) (by decide)) (g := (mkF m 102 #[.val (.int pv), .val (.int la), .val (.int lb), .val (.int ra), .val (.int rb), .val (.int ta), .val (.int tb), .val (.int xa), .val (.int xb), .val (.int na), .val (.int nb), .val (.ref sA), .val (.ref sB), .val (.int ia), .val (.int ib), .unset, .unset, .unset, .unset, .unset, .unset, .unset, .unset, .unset, .unset] [(.ref a71), (.ref a71)])) rfl (by rw [hml]; rfl) (Steps.refl _) (a := a71) (argsL := []) (rest := [(.ref a71)]) (lenOf pd_v rfl) rfl (by show 2 * 0 + _ ≤ _; exact Nat.le_of_ble_eq_true rfl) (hb hby at_102) (fun _ _ => ⟨rfl, e71, (by decide : 13 + 0 ≤ _), (by decide : 36 + 0 ≤ _)⟩)
  dsimp only [Pt.U, Pt.locs, Pt.cells, Pt.slots] at X72 l72 y72 z72 st72 hQ72
  subst l72 y72 z72
  obtain ⟨rfl, NdA, edA⟩ := hQ72
  have P8 : ∀ t, Steps p.tables e below (T72.setTop (mkF m 105 #[.val (.int pv), .val (.int la), .val (.int lb), .val (.int ra), .val (.int rb), .val (.int ta), .val (.int tb), .val (.int xa), .val (.int xb), .val (.int na), .val (.int nb), .val (.ref sA), .val (.ref sB), .val (.int ia), .val (.int ib), .unset, .unset, .unset, .unset, .unset, .unset, .unset, .unset, .unset, .unset] [(.ref a71)])) t → Steps p.tables e below (s₁.setTop (entryFrame m #[(.int pv), (.int la), (.int lb), (.int ra), (.int rb)] maxLocals)) t := fun t k => P7 t (by
      refine Own.w_dup H71 at_101 102 rfl rfl ?_
      exact st72.trans k)
  have H72 := Own.hr X72 hx hby
  have N73 := Fr.app N70 NdA
  obtain ⟨T74, h74, X74, e74, E74, A74, D74, -, st74⟩ := newO X72 hx hZ hown (hw _ (List.mem_of_getElem? (i := 34) rfl)) (hw _ (List.mem_of_getElem? (i := 35) rfl)) (hw _ (List.mem_of_getElem? (i := 36) rfl)) edA (g := (mkF m 107 #[.val (.int pv), .val (.int la), .val (.int lb), .val (.int ra), .val (.int rb), .val (.int ta), .val (.int tb), .val (.int xa), .val (.int xb), .val (.int na), .val (.int nb), .val (.ref sA), .val (.ref sB), .val (.int ia), .val (.int ib), .val (.ref a71), .unset, .unset, .unset, .unset, .unset, .unset, .unset, .unset, .unset] [])) rfl (hb hby at_107) (by decide : 13 + 1 ≤ _) (by decide : 36 + 4 ≤ _)
  obtain ⟨a74, g74⟩ : ∃ z, z = (h71).size := ⟨_, rfl⟩
  rw [← g74] at A74 D74 st74
  have P9 : ∀ t, Steps p.tables e below (T74.setTop (mkF m 110 #[.val (.int pv), .val (.int la), .val (.int lb), .val (.int ra), .val (.int rb), .val (.int ta), .val (.int tb), .val (.int xa), .val (.int xb), .val (.int na), .val (.int nb), .val (.ref sA), .val (.ref sB), .val (.int ia), .val (.int ib), .val (.ref a71), .unset, .unset, .unset, .unset, .unset, .unset, .unset, .unset, .unset] [(.ref a74)])) t → Steps p.tables e below (s₁.setTop (entryFrame m #[(.int pv), (.int la), (.int lb), (.int ra), (.int rb)] maxLocals)) t := fun t k => P8 t (by
      refine Own.w_astore H72 at_105 107 rfl rfl (l' := #[.val (.int pv), .val (.int la), .val (.int lb), .val (.int ra), .val (.int rb), .val (.int ta), .val (.int tb), .val (.int xa), .val (.int xb), .val (.int na), .val (.int nb), .val (.ref sA), .val (.ref sB), .val (.int ia), .val (.int ib), .val (.ref a71), .unset, .unset, .unset, .unset, .unset, .unset, .unset, .unset, .unset]) rfl ?_
      exact st74 t k)
  have H74 := Own.hr X74 hx hby
  have Z3B := Nat.le_trans Z3A E74.1
  have OL3B := OL3A.ext E74
  have gBd : n0 ≤ a74 := by rw [g74]; exact Z3A
  have StA := StA.ext E74
  have StB := StB.ext E74
  have ltAB : a71 < a74 := by rw [g74]; exact DgA.1.lt
  have DgA := DgA.ext E74
  have DgB : Dg Z h74 a74 0 0 0 0 := ⟨A74, D74 (Or.inl (hw _ (List.mem_of_getElem? (i := 49) rfl))) (ty := .long) (by decide), D74 (Or.inl (hw _ (List.mem_of_getElem? (i := 51) rfl))) (ty := .long) (by decide), D74 (Or.inl (hw _ (List.mem_of_getElem? (i := 53) rfl))) (ty := .long) (by decide), D74 (Or.inl (hw _ (List.mem_of_getElem? (i := 55) rfl))) (ty := .long) (by decide)⟩
  obtain ⟨_, _, ⟨T75, L75, k75, n75⟩, -, X75, ⟨Lc75, hQ75, l75, y75, z75⟩, st75⟩ := X74.specialBack hx (y := (⟨"com/example/motley/motley/bench/Digest", "<init>", "()V"⟩ : MethodName)) rfl hown (mvT hZ (hw _ (List.mem_of_getElem? (i := 37) rfl))) (mvT hZ (hw _ (List.mem_of_getElem? (i := 38) rfl))) (mvT hZ (hw _ (List.mem_of_getElem? (i := 39) rfl))) (by decide) (backOf (W := 1) (rm_8 l Z a0 hw [] a74 h74 n0 Z3B) hZ (hw _ (List.mem_of_getElem? (i := 39) rfl)) (hw _ (List.mem_of_getElem? (i := 36) rfl)) (by decide) (by decide)) (g := (mkF m 111 #[.val (.int pv), .val (.int la), .val (.int lb), .val (.int ra), .val (.int rb), .val (.int ta), .val (.int tb), .val (.int xa), .val (.int xb), .val (.int na), .val (.int nb), .val (.ref sA), .val (.ref sB), .val (.int ia), .val (.int ib), .val (.ref a71), .unset, .unset, .unset, .unset, .unset, .unset, .unset, .unset, .unset] [(.ref a74), (.ref a74)])) rfl (by rw [hml]; rfl) (Steps.refl _) (a := a74) (argsL := []) (rest := [(.ref a74)]) (lenOf pd_v rfl) rfl (by show 2 * 0 + _ ≤ _; exact Nat.le_of_ble_eq_true rfl) (hb hby at_111) (fun _ _ => ⟨rfl, e74, (by decide : 14 + 0 ≤ _), (by decide : 40 + 0 ≤ _)⟩)
  dsimp only [Pt.U, Pt.locs, Pt.cells, Pt.slots] at X75 l75 y75 z75 st75 hQ75
  subst l75 y75 z75
  obtain ⟨rfl, NdB, edB⟩ := hQ75
  have P10 : ∀ t, Steps p.tables e below (T75.setTop (mkF m 114 #[.val (.int pv), .val (.int la), .val (.int lb), .val (.int ra), .val (.int rb), .val (.int ta), .val (.int tb), .val (.int xa), .val (.int xb), .val (.int na), .val (.int nb), .val (.ref sA), .val (.ref sB), .val (.int ia), .val (.int ib), .val (.ref a71), .unset, .unset, .unset, .unset, .unset, .unset, .unset, .unset, .unset] [(.ref a74)])) t → Steps p.tables e below (s₁.setTop (entryFrame m #[(.int pv), (.int la), (.int lb), (.int ra), (.int rb)] maxLocals)) t := fun t k => P9 t (by
      refine Own.w_dup H74 at_110 111 rfl rfl ?_
      exact st75.trans k)
  have H75 := Own.hr X75 hx hby
  have N76 := Fr.app N73 NdB
  have P11 : ∀ t, Steps p.tables e below (T75.setTop (mkF m 116 #[.val (.int pv), .val (.int la), .val (.int lb), .val (.int ra), .val (.int rb), .val (.int ta), .val (.int tb), .val (.int xa), .val (.int xb), .val (.int na), .val (.int nb), .val (.ref sA), .val (.ref sB), .val (.int ia), .val (.int ib), .val (.ref a71), .val (.ref a74), .unset, .unset, .unset, .unset, .unset, .unset, .unset, .unset] [])) t → Steps p.tables e below (s₁.setTop (entryFrame m #[(.int pv), (.int la), (.int lb), (.int ra), (.int rb)] maxLocals)) t := fun t k => P10 t (by
      refine Own.w_astore H75 at_114 116 rfl rfl (l' := #[.val (.int pv), .val (.int la), .val (.int lb), .val (.int ra), .val (.int rb), .val (.int ta), .val (.int tb), .val (.int xa), .val (.int xb), .val (.int na), .val (.int nb), .val (.ref sA), .val (.ref sB), .val (.int ia), .val (.int ib), .val (.ref a71), .val (.ref a74), .unset, .unset, .unset, .unset, .unset, .unset, .unset, .unset]) rfl ?_
      exact k)
  have szB : T69.heap.size ≤ h74.size := Nat.le_trans E71.1 E74.1
  have nAB : a71 ∉ [a74] := ninS (by omega : a71 ≠ a74) nin0
  have nBA : a74 ∉ [a71] := ninS (by omega : a74 ≠ a71) nin0
  obtain ⟨TmA0, LmA0, tA, cA, XmA0, NmA0, DgA, DgB, StA, StB, OmA0, ZmA0, SmA0, fcA0, PmA0⟩ : ∃ (TmA0 : State) (LmA0 : List Loc) (tA cA : Int64), Stand p l e room_1 (s.setVm T69.vm) m #[(.int pv), (.int la), (.int lb), (.int ra), (.int rb)] below meth c TmA0 LmA0 14 40 ∧ Fr n0 LmA0 ∧ Dg Z TmA0.heap a71 tA cA (0 : Int64) (0 : Int64) ∧ Dg Z TmA0.heap a74 (0 : Int64) (0 : Int64) (0 : Int64) (0 : Int64) ∧ Str Z TmA0.heap sA na ∧ Str Z TmA0.heap sB nb ∧ Old Z n0 TmA0.heap ∧ n0 ≤ TmA0.heap.size ∧ T69.heap.size ≤ TmA0.heap.size ∧ ((ta = 1 ∧ tA = 0 + 1 ∧ cA = 0 + Int32.toInt64 na) ∨ (ta = 0 ∧ tA = 0 ∧ cA = 0)) ∧ ∀ t, Steps p.tables e below (TmA0.setTop (mkF m 128 #[.val (.int pv), .val (.int la), .val (.int lb), .val (.int ra), .val (.int rb), .val (.int ta), .val (.int tb), .val (.int xa), .val (.int xb), .val (.int na), .val (.int nb), .val (.ref sA), .val (.ref sB), .val (.int ia), .val (.int ib), .val (.ref a71), .val (.ref a74), .unset, .unset, .unset, .unset, .unset, .unset, .unset, .unset] [])) t → Steps p.tables e below (s₁.setTop (entryFrame m #[(.int pv), (.int la), (.int lb), (.int ra), (.int rb)] maxLocals)) t := by
    rw [← edB] at DgA DgB StA StB OL3B Z3B szB
    cases hq : ifCond.holds .eq ta
    · obtain ⟨cq77, kq77, qa77, qb77, qc77⟩ := isOf hZ rfl DgA.1
      obtain ⟨_, _, ⟨T77, L77, k77, n77⟩, -, X77, ⟨Lc77, hQ77, l77, y77, z77⟩, st77⟩ := X75.virtualBack hx (y := (⟨"com/example/motley/motley/bench/Digest", "text", "(Ljava/lang/String;)V"⟩ : MethodName)) (z := (⟨"com/example/motley/motley/bench/Digest", "text", "(Ljava/lang/String;)V"⟩ : MethodName)) hown (mvT hZ (hw _ (List.mem_of_getElem? (i := 61) rfl))) (mvT hZ (hw _ (List.mem_of_getElem? (i := 62) rfl))) (notFace_of_selects (args := #[]) (mvT hZ (hw _ (List.mem_of_getElem? (i := 64) rfl)))) (mvT hZ (hw _ (List.mem_of_getElem? (i := 64) rfl))) (mvT hZ (hw _ (List.mem_of_getElem? (i := 63) rfl))) (by decide) (backOf (W := 0) (rm_10 l Z a0 hw [] a71 sA T75.heap n0 Z3B (0 : Int64) (0 : Int64) (0 : Int64) (0 : Int64) DgA gAd na StA z OL3B S0 hz) hZ (hw _ (List.mem_of_getElem? (i := 65) rfl)) (hw _ (List.mem_of_getElem? (i := 36) rfl)) (by decide) (by decide)) qa77 qc77 (g := (mkF m 125 #[.val (.int pv), .val (.int la), .val (.int lb), .val (.int ra), .val (.int rb), .val (.int ta), .val (.int tb), .val (.int xa), .val (.int xb), .val (.int na), .val (.int nb), .val (.ref sA), .val (.ref sB), .val (.int ia), .val (.int ib), .val (.ref a71), .val (.ref a74), .unset, .unset, .unset, .unset, .unset, .unset, .unset, .unset] [(.ref sA), (.ref a71)])) rfl (by rw [hml]; rfl) (Steps.refl _) (argsL := [(.ref sA)]) (rest := []) (lenOf pd_10 rfl) rfl (by show 2 * 0 + _ ≤ _; exact Nat.le_of_ble_eq_true rfl) (hb hby at_125) (fun _ _ => ⟨rfl, rfl, (by decide : 14 + 0 ≤ _), (by decide : 40 + 0 ≤ _)⟩)
      dsimp only [Pt.U, Pt.locs, Pt.cells, Pt.slots] at X77 l77 y77 z77 st77 hQ77
      subst l77 y77 z77
      obtain ⟨rfl, NqA0, KqA0, DqA0⟩ := hQ77
      have P12 : ∀ t, Steps p.tables e below (T77.setTop (mkF m 128 #[.val (.int pv), .val (.int la), .val (.int lb), .val (.int ra), .val (.int rb), .val (.int ta), .val (.int tb), .val (.int xa), .val (.int xb), .val (.int na), .val (.int nb), .val (.ref sA), .val (.ref sB), .val (.int ia), .val (.int ib), .val (.ref a71), .val (.ref a74), .unset, .unset, .unset, .unset, .unset, .unset, .unset, .unset] [])) t → Steps p.tables e below (s₁.setTop (entryFrame m #[(.int pv), (.int la), (.int lb), (.int ra), (.int rb)] maxLocals)) t := fun t k => P11 t (by
          refine Own.w_iload H75 at_116 118 rfl rfl ?_
          refine Own.w_ifCondNo H75 at_118 (hq) 121 rfl ?_
          refine Own.w_aload H75 at_121 123 rfl rfl rfl ?_
          refine Own.w_aload H75 at_123 125 rfl rfl rfl ?_
          exact st77.trans k)
      have H77 := Own.hr X77 hx hby
      have N78 := Fr.app N76 NqA0
      have q1 : ta = 1 := by
        have q : ¬ ta = 0 := by simpa [ifCond.holds] using hq
        rcases hta with r | r
        · exact absurd r q
        · exact r
      exact ⟨_, _, _, _, X77, N78, DqA0, DgB.keep KqA0 nBA, StA.keepD hw DgA.1 KqA0, StB.keepD hw DgA.1 KqA0, OL3B.keep KqA0 (allS gAd all0), Nat.le_trans Z3B KqA0.1, Nat.le_trans szB KqA0.1, Or.inl ⟨q1, rfl, rfl⟩, P12⟩
    · have P12 : ∀ t, Steps p.tables e below (T75.setTop (mkF m 128 #[.val (.int pv), .val (.int la), .val (.int lb), .val (.int ra), .val (.int rb), .val (.int ta), .val (.int tb), .val (.int xa), .val (.int xb), .val (.int na), .val (.int nb), .val (.ref sA), .val (.ref sB), .val (.int ia), .val (.int ib), .val (.ref a71), .val (.ref a74), .unset, .unset, .unset, .unset, .unset, .unset, .unset, .unset] [])) t → Steps p.tables e below (s₁.setTop (entryFrame m #[(.int pv), (.int la), (.int lb), (.int ra), (.int rb)] maxLocals)) t := fun t k => P11 t (by
          refine Own.w_iload H75 at_116 118 rfl rfl ?_
          refine Own.w_ifCondYes H75 at_118 (hq) 128 (by decide) (by decide) ?_
          exact k)
      exact ⟨_, _, _, _, X75, N76, DgA, DgB, StA, StB, OL3B, Z3B, szB, Or.inr ⟨by simpa [ifCond.holds] using hq, rfl, rfl⟩, P12⟩
  have HmA0 := Own.hr XmA0 hx hby
  obtain ⟨TmB0, LmB0, tB, cB, XmB0, NmB0, DgA, DgB, StA, StB, OmB0, ZmB0, SmB0, fcB0, PmB0⟩ : ∃ (TmB0 : State) (LmB0 : List Loc) (tB cB : Int64), Stand p l e room_1 (s.setVm T69.vm) m #[(.int pv), (.int la), (.int lb), (.int ra), (.int rb)] below meth c TmB0 LmB0 14 40 ∧ Fr n0 LmB0 ∧ Dg Z TmB0.heap a71 tA cA (0 : Int64) (0 : Int64) ∧ Dg Z TmB0.heap a74 tB cB (0 : Int64) (0 : Int64) ∧ Str Z TmB0.heap sA na ∧ Str Z TmB0.heap sB nb ∧ Old Z n0 TmB0.heap ∧ n0 ≤ TmB0.heap.size ∧ T69.heap.size ≤ TmB0.heap.size ∧ ((tb = 1 ∧ tB = 0 + 1 ∧ cB = 0 + Int32.toInt64 nb) ∨ (tb = 0 ∧ tB = 0 ∧ cB = 0)) ∧ ∀ t, Steps p.tables e below (TmB0.setTop (mkF m 140 #[.val (.int pv), .val (.int la), .val (.int lb), .val (.int ra), .val (.int rb), .val (.int ta), .val (.int tb), .val (.int xa), .val (.int xb), .val (.int na), .val (.int nb), .val (.ref sA), .val (.ref sB), .val (.int ia), .val (.int ib), .val (.ref a71), .val (.ref a74), .unset, .unset, .unset, .unset, .unset, .unset, .unset, .unset] [])) t → Steps p.tables e below (s₁.setTop (entryFrame m #[(.int pv), (.int la), (.int lb), (.int ra), (.int rb)] maxLocals)) t := by
    cases hq : ifCond.holds .eq tb
    · obtain ⟨cq79, kq79, qa79, qb79, qc79⟩ := isOf hZ rfl DgB.1
      obtain ⟨_, _, ⟨T79, L79, k79, n79⟩, -, X79, ⟨Lc79, hQ79, l79, y79, z79⟩, st79⟩ := XmA0.virtualBack hx (y := (⟨"com/example/motley/motley/bench/Digest", "text", "(Ljava/lang/String;)V"⟩ : MethodName)) (z := (⟨"com/example/motley/motley/bench/Digest", "text", "(Ljava/lang/String;)V"⟩ : MethodName)) hown (mvT hZ (hw _ (List.mem_of_getElem? (i := 61) rfl))) (mvT hZ (hw _ (List.mem_of_getElem? (i := 62) rfl))) (notFace_of_selects (args := #[]) (mvT hZ (hw _ (List.mem_of_getElem? (i := 64) rfl)))) (mvT hZ (hw _ (List.mem_of_getElem? (i := 64) rfl))) (mvT hZ (hw _ (List.mem_of_getElem? (i := 63) rfl))) (by decide) (backOf (W := 0) (rm_10 l Z a0 hw [] a74 sB TmA0.heap n0 ZmA0 (0 : Int64) (0 : Int64) (0 : Int64) (0 : Int64) DgB gBd nb StB z OmA0 S0 hz) hZ (hw _ (List.mem_of_getElem? (i := 65) rfl)) (hw _ (List.mem_of_getElem? (i := 36) rfl)) (by decide) (by decide)) qa79 qc79 (g := (mkF m 137 #[.val (.int pv), .val (.int la), .val (.int lb), .val (.int ra), .val (.int rb), .val (.int ta), .val (.int tb), .val (.int xa), .val (.int xb), .val (.int na), .val (.int nb), .val (.ref sA), .val (.ref sB), .val (.int ia), .val (.int ib), .val (.ref a71), .val (.ref a74), .unset, .unset, .unset, .unset, .unset, .unset, .unset, .unset] [(.ref sB), (.ref a74)])) rfl (by rw [hml]; rfl) (Steps.refl _) (argsL := [(.ref sB)]) (rest := []) (lenOf pd_10 rfl) rfl (by show 2 * 0 + _ ≤ _; exact Nat.le_of_ble_eq_true rfl) (hb hby at_137) (fun _ _ => ⟨rfl, rfl, (by decide : 14 + 0 ≤ _), (by decide : 40 + 0 ≤ _)⟩)
      dsimp only [Pt.U, Pt.locs, Pt.cells, Pt.slots] at X79 l79 y79 z79 st79 hQ79
      subst l79 y79 z79
      obtain ⟨rfl, NqB0, KqB0, DqB0⟩ := hQ79
      have P12 : ∀ t, Steps p.tables e below (T79.setTop (mkF m 140 #[.val (.int pv), .val (.int la), .val (.int lb), .val (.int ra), .val (.int rb), .val (.int ta), .val (.int tb), .val (.int xa), .val (.int xb), .val (.int na), .val (.int nb), .val (.ref sA), .val (.ref sB), .val (.int ia), .val (.int ib), .val (.ref a71), .val (.ref a74), .unset, .unset, .unset, .unset, .unset, .unset, .unset, .unset] [])) t → Steps p.tables e below (s₁.setTop (entryFrame m #[(.int pv), (.int la), (.int lb), (.int ra), (.int rb)] maxLocals)) t := fun t k => PmA0 t (by
          refine Own.w_iload HmA0 at_128 130 rfl rfl ?_
          refine Own.w_ifCondNo HmA0 at_130 (hq) 133 rfl ?_
          refine Own.w_aload HmA0 at_133 135 rfl rfl rfl ?_
          refine Own.w_aload HmA0 at_135 137 rfl rfl rfl ?_
          exact st79.trans k)
      have H79 := Own.hr X79 hx hby
      have N80 := Fr.app NmA0 NqB0
      have q1 : tb = 1 := by
        have q : ¬ tb = 0 := by simpa [ifCond.holds] using hq
        rcases htb with r | r
        · exact absurd r q
        · exact r
      exact ⟨_, _, _, _, X79, N80, DgA.keep KqB0 nAB, DqB0, StA.keepD hw DgB.1 KqB0, StB.keepD hw DgB.1 KqB0, OmA0.keep KqB0 (allS gBd all0), Nat.le_trans ZmA0 KqB0.1, Nat.le_trans SmA0 KqB0.1, Or.inl ⟨q1, rfl, rfl⟩, P12⟩
    · have P12 : ∀ t, Steps p.tables e below (TmA0.setTop (mkF m 140 #[.val (.int pv), .val (.int la), .val (.int lb), .val (.int ra), .val (.int rb), .val (.int ta), .val (.int tb), .val (.int xa), .val (.int xb), .val (.int na), .val (.int nb), .val (.ref sA), .val (.ref sB), .val (.int ia), .val (.int ib), .val (.ref a71), .val (.ref a74), .unset, .unset, .unset, .unset, .unset, .unset, .unset, .unset] [])) t → Steps p.tables e below (s₁.setTop (entryFrame m #[(.int pv), (.int la), (.int lb), (.int ra), (.int rb)] maxLocals)) t := fun t k => PmA0 t (by
          refine Own.w_iload HmA0 at_128 130 rfl rfl ?_
          refine Own.w_ifCondYes HmA0 at_130 (hq) 140 (by decide) (by decide) ?_
          exact k)
      exact ⟨_, _, _, _, XmA0, NmA0, DgA, DgB, StA, StB, OmA0, ZmA0, SmA0, Or.inr ⟨by simpa [ifCond.holds] using hq, rfl, rfl⟩, P12⟩
  have HmB0 := Own.hr XmB0 hx hby
  obtain ⟨TmA2, LmA2, rA, bA, XmA2, NmA2, DgA, DgB, StA, StB, OmA2, ZmA2, SmA2, fcA2, PmA2⟩ : ∃ (TmA2 : State) (LmA2 : List Loc) (rA bA : Int64), Stand p l e room_1 (s.setVm T69.vm) m #[(.int pv), (.int la), (.int lb), (.int ra), (.int rb)] below meth c TmA2 LmA2 14 40 ∧ Fr n0 LmA2 ∧ Dg Z TmA2.heap a71 tA cA rA bA ∧ Dg Z TmA2.heap a74 tB cB (0 : Int64) (0 : Int64) ∧ Str Z TmA2.heap sA na ∧ Str Z TmA2.heap sB nb ∧ Old Z n0 TmA2.heap ∧ n0 ≤ TmA2.heap.size ∧ T69.heap.size ≤ TmA2.heap.size ∧ ((xa = 1 ∧ rA = 0 + 1 ∧ bA = 0 + UInt64.toInt64 (FP.i2d ia)) ∨ (xa = 0 ∧ rA = 0 ∧ bA = 0)) ∧ ∀ t, Steps p.tables e below (TmA2.setTop (mkF m 153 #[.val (.int pv), .val (.int la), .val (.int lb), .val (.int ra), .val (.int rb), .val (.int ta), .val (.int tb), .val (.int xa), .val (.int xb), .val (.int na), .val (.int nb), .val (.ref sA), .val (.ref sB), .val (.int ia), .val (.int ib), .val (.ref a71), .val (.ref a74), .unset, .unset, .unset, .unset, .unset, .unset, .unset, .unset] [])) t → Steps p.tables e below (s₁.setTop (entryFrame m #[(.int pv), (.int la), (.int lb), (.int ra), (.int rb)] maxLocals)) t := by
    cases hq : ifCond.holds .eq xa
    · obtain ⟨cq81, kq81, qa81, qb81, qc81⟩ := isOf hZ rfl DgA.1
      obtain ⟨_, _, ⟨T81, L81, k81, n81⟩, -, X81, ⟨Lc81, hQ81, l81, y81, z81⟩, st81⟩ := XmB0.virtualBack hx (y := (⟨"com/example/motley/motley/bench/Digest", "real", "(D)V"⟩ : MethodName)) (z := (⟨"com/example/motley/motley/bench/Digest", "real", "(D)V"⟩ : MethodName)) hown (mvT hZ (hw _ (List.mem_of_getElem? (i := 76) rfl))) (mvT hZ (hw _ (List.mem_of_getElem? (i := 77) rfl))) (notFace_of_selects (args := #[]) (mvT hZ (hw _ (List.mem_of_getElem? (i := 79) rfl)))) (mvT hZ (hw _ (List.mem_of_getElem? (i := 79) rfl))) (mvT hZ (hw _ (List.mem_of_getElem? (i := 78) rfl))) (by decide) (backOf (W := 0) (rm_13 l Z a0 hw [] a71 (FP.i2d ia) TmB0.heap n0 ZmB0 tA cA (0 : Int64) (0 : Int64) DgA gAd) hZ (hw _ (List.mem_of_getElem? (i := 80) rfl)) (hw _ (List.mem_of_getElem? (i := 36) rfl)) (by decide) (by decide)) qa81 qc81 (g := (mkF m 150 #[.val (.int pv), .val (.int la), .val (.int lb), .val (.int ra), .val (.int rb), .val (.int ta), .val (.int tb), .val (.int xa), .val (.int xb), .val (.int na), .val (.int nb), .val (.ref sA), .val (.ref sB), .val (.int ia), .val (.int ib), .val (.ref a71), .val (.ref a74), .unset, .unset, .unset, .unset, .unset, .unset, .unset, .unset] [(.double (FP.i2d ia)), (.ref a71)])) rfl (by rw [hml]; rfl) (Steps.refl _) (argsL := [(.double (FP.i2d ia))]) (rest := []) (lenOf pd_13 rfl) rfl (by show 2 * 0 + _ ≤ _; exact Nat.le_of_ble_eq_true rfl) (hb hby at_150) (fun _ _ => ⟨rfl, rfl, (by decide : 14 + 0 ≤ _), (by decide : 40 + 0 ≤ _)⟩)
      dsimp only [Pt.U, Pt.locs, Pt.cells, Pt.slots] at X81 l81 y81 z81 st81 hQ81
      subst l81 y81 z81
      obtain ⟨rfl, NqA2, KqA2, DqA2⟩ := hQ81
      have P12 : ∀ t, Steps p.tables e below (T81.setTop (mkF m 153 #[.val (.int pv), .val (.int la), .val (.int lb), .val (.int ra), .val (.int rb), .val (.int ta), .val (.int tb), .val (.int xa), .val (.int xb), .val (.int na), .val (.int nb), .val (.ref sA), .val (.ref sB), .val (.int ia), .val (.int ib), .val (.ref a71), .val (.ref a74), .unset, .unset, .unset, .unset, .unset, .unset, .unset, .unset] [])) t → Steps p.tables e below (s₁.setTop (entryFrame m #[(.int pv), (.int la), (.int lb), (.int ra), (.int rb)] maxLocals)) t := fun t k => PmB0 t (by
          refine Own.w_iload HmB0 at_140 142 rfl rfl ?_
          refine Own.w_ifCondNo HmB0 at_142 (hq) 145 rfl ?_
          refine Own.w_aload HmB0 at_145 147 rfl rfl rfl ?_
          refine Own.w_iload HmB0 at_147 149 rfl rfl ?_
          refine Own.w_i2d HmB0 at_149 150 rfl ?_
          exact st81.trans k)
      have H81 := Own.hr X81 hx hby
      have N82 := Fr.app NmB0 NqA2
      have q1 : xa = 1 := by
        have q : ¬ xa = 0 := by simpa [ifCond.holds] using hq
        rcases hxa with r | r
        · exact absurd r q
        · exact r
      exact ⟨_, _, _, _, X81, N82, DqA2, DgB.keep KqA2 nBA, StA.keepD hw DgA.1 KqA2, StB.keepD hw DgA.1 KqA2, OmB0.keep KqA2 (allS gAd all0), Nat.le_trans ZmB0 KqA2.1, Nat.le_trans SmB0 KqA2.1, Or.inl ⟨q1, rfl, rfl⟩, P12⟩
    · have P12 : ∀ t, Steps p.tables e below (TmB0.setTop (mkF m 153 #[.val (.int pv), .val (.int la), .val (.int lb), .val (.int ra), .val (.int rb), .val (.int ta), .val (.int tb), .val (.int xa), .val (.int xb), .val (.int na), .val (.int nb), .val (.ref sA), .val (.ref sB), .val (.int ia), .val (.int ib), .val (.ref a71), .val (.ref a74), .unset, .unset, .unset, .unset, .unset, .unset, .unset, .unset] [])) t → Steps p.tables e below (s₁.setTop (entryFrame m #[(.int pv), (.int la), (.int lb), (.int ra), (.int rb)] maxLocals)) t := fun t k => PmB0 t (by
          refine Own.w_iload HmB0 at_140 142 rfl rfl ?_
          refine Own.w_ifCondYes HmB0 at_142 (hq) 153 (by decide) (by decide) ?_
          exact k)
      exact ⟨_, _, _, _, XmB0, NmB0, DgA, DgB, StA, StB, OmB0, ZmB0, SmB0, Or.inr ⟨by simpa [ifCond.holds] using hq, rfl, rfl⟩, P12⟩
  have HmA2 := Own.hr XmA2 hx hby
  obtain ⟨TmB2, LmB2, rB, bB, XmB2, NmB2, DgA, DgB, StA, StB, OmB2, ZmB2, SmB2, fcB2, PmB2⟩ : ∃ (TmB2 : State) (LmB2 : List Loc) (rB bB : Int64), Stand p l e room_1 (s.setVm T69.vm) m #[(.int pv), (.int la), (.int lb), (.int ra), (.int rb)] below meth c TmB2 LmB2 14 40 ∧ Fr n0 LmB2 ∧ Dg Z TmB2.heap a71 tA cA rA bA ∧ Dg Z TmB2.heap a74 tB cB rB bB ∧ Str Z TmB2.heap sA na ∧ Str Z TmB2.heap sB nb ∧ Old Z n0 TmB2.heap ∧ n0 ≤ TmB2.heap.size ∧ T69.heap.size ≤ TmB2.heap.size ∧ ((xb = 1 ∧ rB = 0 + 1 ∧ bB = 0 + UInt64.toInt64 (FP.i2d ib)) ∨ (xb = 0 ∧ rB = 0 ∧ bB = 0)) ∧ ∀ t, Steps p.tables e below (TmB2.setTop (mkF m 166 #[.val (.int pv), .val (.int la), .val (.int lb), .val (.int ra), .val (.int rb), .val (.int ta), .val (.int tb), .val (.int xa), .val (.int xb), .val (.int na), .val (.int nb), .val (.ref sA), .val (.ref sB), .val (.int ia), .val (.int ib), .val (.ref a71), .val (.ref a74), .unset, .unset, .unset, .unset, .unset, .unset, .unset, .unset] [])) t → Steps p.tables e below (s₁.setTop (entryFrame m #[(.int pv), (.int la), (.int lb), (.int ra), (.int rb)] maxLocals)) t := by
    cases hq : ifCond.holds .eq xb
    · obtain ⟨cq83, kq83, qa83, qb83, qc83⟩ := isOf hZ rfl DgB.1
      obtain ⟨_, _, ⟨T83, L83, k83, n83⟩, -, X83, ⟨Lc83, hQ83, l83, y83, z83⟩, st83⟩ := XmA2.virtualBack hx (y := (⟨"com/example/motley/motley/bench/Digest", "real", "(D)V"⟩ : MethodName)) (z := (⟨"com/example/motley/motley/bench/Digest", "real", "(D)V"⟩ : MethodName)) hown (mvT hZ (hw _ (List.mem_of_getElem? (i := 76) rfl))) (mvT hZ (hw _ (List.mem_of_getElem? (i := 77) rfl))) (notFace_of_selects (args := #[]) (mvT hZ (hw _ (List.mem_of_getElem? (i := 79) rfl)))) (mvT hZ (hw _ (List.mem_of_getElem? (i := 79) rfl))) (mvT hZ (hw _ (List.mem_of_getElem? (i := 78) rfl))) (by decide) (backOf (W := 0) (rm_13 l Z a0 hw [] a74 (FP.i2d ib) TmA2.heap n0 ZmA2 tB cB (0 : Int64) (0 : Int64) DgB gBd) hZ (hw _ (List.mem_of_getElem? (i := 80) rfl)) (hw _ (List.mem_of_getElem? (i := 36) rfl)) (by decide) (by decide)) qa83 qc83 (g := (mkF m 163 #[.val (.int pv), .val (.int la), .val (.int lb), .val (.int ra), .val (.int rb), .val (.int ta), .val (.int tb), .val (.int xa), .val (.int xb), .val (.int na), .val (.int nb), .val (.ref sA), .val (.ref sB), .val (.int ia), .val (.int ib), .val (.ref a71), .val (.ref a74), .unset, .unset, .unset, .unset, .unset, .unset, .unset, .unset] [(.double (FP.i2d ib)), (.ref a74)])) rfl (by rw [hml]; rfl) (Steps.refl _) (argsL := [(.double (FP.i2d ib))]) (rest := []) (lenOf pd_13 rfl) rfl (by show 2 * 0 + _ ≤ _; exact Nat.le_of_ble_eq_true rfl) (hb hby at_163) (fun _ _ => ⟨rfl, rfl, (by decide : 14 + 0 ≤ _), (by decide : 40 + 0 ≤ _)⟩)
      dsimp only [Pt.U, Pt.locs, Pt.cells, Pt.slots] at X83 l83 y83 z83 st83 hQ83
      subst l83 y83 z83
      obtain ⟨rfl, NqB2, KqB2, DqB2⟩ := hQ83
      have P12 : ∀ t, Steps p.tables e below (T83.setTop (mkF m 166 #[.val (.int pv), .val (.int la), .val (.int lb), .val (.int ra), .val (.int rb), .val (.int ta), .val (.int tb), .val (.int xa), .val (.int xb), .val (.int na), .val (.int nb), .val (.ref sA), .val (.ref sB), .val (.int ia), .val (.int ib), .val (.ref a71), .val (.ref a74), .unset, .unset, .unset, .unset, .unset, .unset, .unset, .unset] [])) t → Steps p.tables e below (s₁.setTop (entryFrame m #[(.int pv), (.int la), (.int lb), (.int ra), (.int rb)] maxLocals)) t := fun t k => PmA2 t (by
          refine Own.w_iload HmA2 at_153 155 rfl rfl ?_
          refine Own.w_ifCondNo HmA2 at_155 (hq) 158 rfl ?_
          refine Own.w_aload HmA2 at_158 160 rfl rfl rfl ?_
          refine Own.w_iload HmA2 at_160 162 rfl rfl ?_
          refine Own.w_i2d HmA2 at_162 163 rfl ?_
          exact st83.trans k)
      have H83 := Own.hr X83 hx hby
      have N84 := Fr.app NmA2 NqB2
      have q1 : xb = 1 := by
        have q : ¬ xb = 0 := by simpa [ifCond.holds] using hq
        rcases hxb with r | r
        · exact absurd r q
        · exact r
      exact ⟨_, _, _, _, X83, N84, DgA.keep KqB2 nAB, DqB2, StA.keepD hw DgB.1 KqB2, StB.keepD hw DgB.1 KqB2, OmA2.keep KqB2 (allS gBd all0), Nat.le_trans ZmA2 KqB2.1, Nat.le_trans SmA2 KqB2.1, Or.inl ⟨q1, rfl, rfl⟩, P12⟩
    · have P12 : ∀ t, Steps p.tables e below (TmA2.setTop (mkF m 166 #[.val (.int pv), .val (.int la), .val (.int lb), .val (.int ra), .val (.int rb), .val (.int ta), .val (.int tb), .val (.int xa), .val (.int xb), .val (.int na), .val (.int nb), .val (.ref sA), .val (.ref sB), .val (.int ia), .val (.int ib), .val (.ref a71), .val (.ref a74), .unset, .unset, .unset, .unset, .unset, .unset, .unset, .unset] [])) t → Steps p.tables e below (s₁.setTop (entryFrame m #[(.int pv), (.int la), (.int lb), (.int ra), (.int rb)] maxLocals)) t := fun t k => PmA2 t (by
          refine Own.w_iload HmA2 at_153 155 rfl rfl ?_
          refine Own.w_ifCondYes HmA2 at_155 (hq) 166 (by decide) (by decide) ?_
          exact k)
      exact ⟨_, _, _, _, XmA2, NmA2, DgA, DgB, StA, StB, OmA2, ZmA2, SmA2, Or.inr ⟨by simpa [ifCond.holds] using hq, rfl, rfl⟩, P12⟩
  have HmB2 := Own.hr XmB2 hx hby
  obtain ⟨te, hte, Ps9⟩ : ∃ te : Int32, ((te = 1 ∧ ta = tb) ∨ (te = 0 ∧ ta ≠ tb)) ∧ ∀ t, Steps p.tables e below (TmB2.setTop (mkF m 180 #[.val (.int pv), .val (.int la), .val (.int lb), .val (.int ra), .val (.int rb), .val (.int ta), .val (.int tb), .val (.int xa), .val (.int xb), .val (.int na), .val (.int nb), .val (.ref sA), .val (.ref sB), .val (.int ia), .val (.int ib), .val (.ref a71), .val (.ref a74), .val (.int te), .unset, .unset, .unset, .unset, .unset, .unset, .unset] [])) t → Steps p.tables e below (s₁.setTop (entryFrame m #[(.int pv), (.int la), (.int lb), (.int ra), (.int rb)] maxLocals)) t := by
    cases hb10 : if_icmp.holds .ne ta tb
    · refine ⟨(1 : Int32), Or.inl ⟨rfl, (by simpa [if_icmp.holds] using hb10)⟩, fun t k => PmB2 t ?_⟩
      refine Own.w_iload HmB2 at_166 168 rfl rfl ?_
      refine Own.w_iload HmB2 at_168 170 rfl rfl ?_
      refine Own.w_icmpNo HmB2 at_170 (hb10) 173 rfl ?_
      refine Own.w_iconst HmB2 at_173 174 rfl (z := (1 : Int32)) rfl ?_
      refine Own.w_goto HmB2 at_174 178 (by decide) (by decide) ?_
      refine Own.w_istore HmB2 at_178 180 rfl (l' := #[.val (.int pv), .val (.int la), .val (.int lb), .val (.int ra), .val (.int rb), .val (.int ta), .val (.int tb), .val (.int xa), .val (.int xb), .val (.int na), .val (.int nb), .val (.ref sA), .val (.ref sB), .val (.int ia), .val (.int ib), .val (.ref a71), .val (.ref a74), .val (.int (1 : Int32)), .unset, .unset, .unset, .unset, .unset, .unset, .unset]) rfl ?_
      exact k
    · refine ⟨(0 : Int32), Or.inr ⟨rfl, (by simpa [if_icmp.holds] using hb10)⟩, fun t k => PmB2 t ?_⟩
      refine Own.w_iload HmB2 at_166 168 rfl rfl ?_
      refine Own.w_iload HmB2 at_168 170 rfl rfl ?_
      refine Own.w_icmpYes HmB2 at_170 (hb10) 177 (by decide) (by decide) ?_
      refine Own.w_iconst HmB2 at_177 178 rfl (z := (0 : Int32)) rfl ?_
      refine Own.w_istore HmB2 at_178 180 rfl (l' := #[.val (.int pv), .val (.int la), .val (.int lb), .val (.int ra), .val (.int rb), .val (.int ta), .val (.int tb), .val (.int xa), .val (.int xb), .val (.int na), .val (.int nb), .val (.ref sA), .val (.ref sB), .val (.int ia), .val (.int ib), .val (.ref a71), .val (.ref a74), .val (.int (0 : Int32)), .unset, .unset, .unset, .unset, .unset, .unset, .unset]) rfl ?_
      exact k
  obtain ⟨ca, hca, Ps11⟩ : ∃ ca : Int32, ((ta ≠ 0 ∧ ca = na) ∨ (ta = 0 ∧ ca = 0)) ∧ ∀ t, Steps p.tables e below (TmB2.setTop (mkF m 193 #[.val (.int pv), .val (.int la), .val (.int lb), .val (.int ra), .val (.int rb), .val (.int ta), .val (.int tb), .val (.int xa), .val (.int xb), .val (.int na), .val (.int nb), .val (.ref sA), .val (.ref sB), .val (.int ia), .val (.int ib), .val (.ref a71), .val (.ref a74), .val (.int te), .val (.int ca), .unset, .unset, .unset, .unset, .unset, .unset] [])) t → Steps p.tables e below (s₁.setTop (entryFrame m #[(.int pv), (.int la), (.int lb), (.int ra), (.int rb)] maxLocals)) t := by
    cases hb12 : ifCond.holds .eq ta
    · refine ⟨na, Or.inl ⟨(by simpa [ifCond.holds] using hb12), rfl⟩, fun t k => Ps9 t ?_⟩
      refine Own.w_iload HmB2 at_180 182 rfl rfl ?_
      refine Own.w_ifCondNo HmB2 at_182 (hb12) 185 rfl ?_
      refine Own.w_iload HmB2 at_185 187 rfl rfl ?_
      refine Own.w_goto HmB2 at_187 191 (by decide) (by decide) ?_
      refine Own.w_istore HmB2 at_191 193 rfl (l' := #[.val (.int pv), .val (.int la), .val (.int lb), .val (.int ra), .val (.int rb), .val (.int ta), .val (.int tb), .val (.int xa), .val (.int xb), .val (.int na), .val (.int nb), .val (.ref sA), .val (.ref sB), .val (.int ia), .val (.int ib), .val (.ref a71), .val (.ref a74), .val (.int te), .val (.int na), .unset, .unset, .unset, .unset, .unset, .unset]) rfl ?_
      exact k
    · refine ⟨(0 : Int32), Or.inr ⟨(by simpa [ifCond.holds] using hb12), rfl⟩, fun t k => Ps9 t ?_⟩
      refine Own.w_iload HmB2 at_180 182 rfl rfl ?_
      refine Own.w_ifCondYes HmB2 at_182 (hb12) 190 (by decide) (by decide) ?_
      refine Own.w_iconst HmB2 at_190 191 rfl (z := (0 : Int32)) rfl ?_
      refine Own.w_istore HmB2 at_191 193 rfl (l' := #[.val (.int pv), .val (.int la), .val (.int lb), .val (.int ra), .val (.int rb), .val (.int ta), .val (.int tb), .val (.int xa), .val (.int xb), .val (.int na), .val (.int nb), .val (.ref sA), .val (.ref sB), .val (.int ia), .val (.int ib), .val (.ref a71), .val (.ref a74), .val (.int te), .val (.int (0 : Int32)), .unset, .unset, .unset, .unset, .unset, .unset]) rfl ?_
      exact k
  obtain ⟨cb, hcb, Ps13⟩ : ∃ cb : Int32, ((tb ≠ 0 ∧ cb = nb) ∨ (tb = 0 ∧ cb = 0)) ∧ ∀ t, Steps p.tables e below (TmB2.setTop (mkF m 206 #[.val (.int pv), .val (.int la), .val (.int lb), .val (.int ra), .val (.int rb), .val (.int ta), .val (.int tb), .val (.int xa), .val (.int xb), .val (.int na), .val (.int nb), .val (.ref sA), .val (.ref sB), .val (.int ia), .val (.int ib), .val (.ref a71), .val (.ref a74), .val (.int te), .val (.int ca), .val (.int cb), .unset, .unset, .unset, .unset, .unset] [])) t → Steps p.tables e below (s₁.setTop (entryFrame m #[(.int pv), (.int la), (.int lb), (.int ra), (.int rb)] maxLocals)) t := by
    cases hb14 : ifCond.holds .eq tb
    · refine ⟨nb, Or.inl ⟨(by simpa [ifCond.holds] using hb14), rfl⟩, fun t k => Ps11 t ?_⟩
      refine Own.w_iload HmB2 at_193 195 rfl rfl ?_
      refine Own.w_ifCondNo HmB2 at_195 (hb14) 198 rfl ?_
      refine Own.w_iload HmB2 at_198 200 rfl rfl ?_
      refine Own.w_goto HmB2 at_200 204 (by decide) (by decide) ?_
      refine Own.w_istore HmB2 at_204 206 rfl (l' := #[.val (.int pv), .val (.int la), .val (.int lb), .val (.int ra), .val (.int rb), .val (.int ta), .val (.int tb), .val (.int xa), .val (.int xb), .val (.int na), .val (.int nb), .val (.ref sA), .val (.ref sB), .val (.int ia), .val (.int ib), .val (.ref a71), .val (.ref a74), .val (.int te), .val (.int ca), .val (.int nb), .unset, .unset, .unset, .unset, .unset]) rfl ?_
      exact k
    · refine ⟨(0 : Int32), Or.inr ⟨(by simpa [ifCond.holds] using hb14), rfl⟩, fun t k => Ps11 t ?_⟩
      refine Own.w_iload HmB2 at_193 195 rfl rfl ?_
      refine Own.w_ifCondYes HmB2 at_195 (hb14) 203 (by decide) (by decide) ?_
      refine Own.w_iconst HmB2 at_203 204 rfl (z := (0 : Int32)) rfl ?_
      refine Own.w_istore HmB2 at_204 206 rfl (l' := #[.val (.int pv), .val (.int la), .val (.int lb), .val (.int ra), .val (.int rb), .val (.int ta), .val (.int tb), .val (.int xa), .val (.int xb), .val (.int na), .val (.int nb), .val (.ref sA), .val (.ref sB), .val (.int ia), .val (.int ib), .val (.ref a71), .val (.ref a74), .val (.int te), .val (.int ca), .val (.int (0 : Int32)), .unset, .unset, .unset, .unset, .unset]) rfl ?_
      exact k
  obtain ⟨ce, hce, Ps15⟩ : ∃ ce : Int32, ((ce = 1 ∧ ca = cb) ∨ (ce = 0 ∧ ca ≠ cb)) ∧ ∀ t, Steps p.tables e below (TmB2.setTop (mkF m 220 #[.val (.int pv), .val (.int la), .val (.int lb), .val (.int ra), .val (.int rb), .val (.int ta), .val (.int tb), .val (.int xa), .val (.int xb), .val (.int na), .val (.int nb), .val (.ref sA), .val (.ref sB), .val (.int ia), .val (.int ib), .val (.ref a71), .val (.ref a74), .val (.int te), .val (.int ca), .val (.int cb), .val (.int ce), .unset, .unset, .unset, .unset] [])) t → Steps p.tables e below (s₁.setTop (entryFrame m #[(.int pv), (.int la), (.int lb), (.int ra), (.int rb)] maxLocals)) t := by
    cases hb16 : if_icmp.holds .ne ca cb
    · refine ⟨(1 : Int32), Or.inl ⟨rfl, (by simpa [if_icmp.holds] using hb16)⟩, fun t k => Ps13 t ?_⟩
      refine Own.w_iload HmB2 at_206 208 rfl rfl ?_
      refine Own.w_iload HmB2 at_208 210 rfl rfl ?_
      refine Own.w_icmpNo HmB2 at_210 (hb16) 213 rfl ?_
      refine Own.w_iconst HmB2 at_213 214 rfl (z := (1 : Int32)) rfl ?_
      refine Own.w_goto HmB2 at_214 218 (by decide) (by decide) ?_
      refine Own.w_istore HmB2 at_218 220 rfl (l' := #[.val (.int pv), .val (.int la), .val (.int lb), .val (.int ra), .val (.int rb), .val (.int ta), .val (.int tb), .val (.int xa), .val (.int xb), .val (.int na), .val (.int nb), .val (.ref sA), .val (.ref sB), .val (.int ia), .val (.int ib), .val (.ref a71), .val (.ref a74), .val (.int te), .val (.int ca), .val (.int cb), .val (.int (1 : Int32)), .unset, .unset, .unset, .unset]) rfl ?_
      exact k
    · refine ⟨(0 : Int32), Or.inr ⟨rfl, (by simpa [if_icmp.holds] using hb16)⟩, fun t k => Ps13 t ?_⟩
      refine Own.w_iload HmB2 at_206 208 rfl rfl ?_
      refine Own.w_iload HmB2 at_208 210 rfl rfl ?_
      refine Own.w_icmpYes HmB2 at_210 (hb16) 217 (by decide) (by decide) ?_
      refine Own.w_iconst HmB2 at_217 218 rfl (z := (0 : Int32)) rfl ?_
      refine Own.w_istore HmB2 at_218 220 rfl (l' := #[.val (.int pv), .val (.int la), .val (.int lb), .val (.int ra), .val (.int rb), .val (.int ta), .val (.int tb), .val (.int xa), .val (.int xb), .val (.int na), .val (.int nb), .val (.ref sA), .val (.ref sB), .val (.int ia), .val (.int ib), .val (.ref a71), .val (.ref a74), .val (.int te), .val (.int ca), .val (.int cb), .val (.int (0 : Int32)), .unset, .unset, .unset, .unset]) rfl ?_
      exact k
  obtain ⟨re, hre, Ps17⟩ : ∃ re : Int32, ((re = 1 ∧ xa = xb) ∨ (re = 0 ∧ xa ≠ xb)) ∧ ∀ t, Steps p.tables e below (TmB2.setTop (mkF m 234 #[.val (.int pv), .val (.int la), .val (.int lb), .val (.int ra), .val (.int rb), .val (.int ta), .val (.int tb), .val (.int xa), .val (.int xb), .val (.int na), .val (.int nb), .val (.ref sA), .val (.ref sB), .val (.int ia), .val (.int ib), .val (.ref a71), .val (.ref a74), .val (.int te), .val (.int ca), .val (.int cb), .val (.int ce), .val (.int re), .unset, .unset, .unset] [])) t → Steps p.tables e below (s₁.setTop (entryFrame m #[(.int pv), (.int la), (.int lb), (.int ra), (.int rb)] maxLocals)) t := by
    cases hb18 : if_icmp.holds .ne xa xb
    · refine ⟨(1 : Int32), Or.inl ⟨rfl, (by simpa [if_icmp.holds] using hb18)⟩, fun t k => Ps15 t ?_⟩
      refine Own.w_iload HmB2 at_220 222 rfl rfl ?_
      refine Own.w_iload HmB2 at_222 224 rfl rfl ?_
      refine Own.w_icmpNo HmB2 at_224 (hb18) 227 rfl ?_
      refine Own.w_iconst HmB2 at_227 228 rfl (z := (1 : Int32)) rfl ?_
      refine Own.w_goto HmB2 at_228 232 (by decide) (by decide) ?_
      refine Own.w_istore HmB2 at_232 234 rfl (l' := #[.val (.int pv), .val (.int la), .val (.int lb), .val (.int ra), .val (.int rb), .val (.int ta), .val (.int tb), .val (.int xa), .val (.int xb), .val (.int na), .val (.int nb), .val (.ref sA), .val (.ref sB), .val (.int ia), .val (.int ib), .val (.ref a71), .val (.ref a74), .val (.int te), .val (.int ca), .val (.int cb), .val (.int ce), .val (.int (1 : Int32)), .unset, .unset, .unset]) rfl ?_
      exact k
    · refine ⟨(0 : Int32), Or.inr ⟨rfl, (by simpa [if_icmp.holds] using hb18)⟩, fun t k => Ps15 t ?_⟩
      refine Own.w_iload HmB2 at_220 222 rfl rfl ?_
      refine Own.w_iload HmB2 at_222 224 rfl rfl ?_
      refine Own.w_icmpYes HmB2 at_224 (hb18) 231 (by decide) (by decide) ?_
      refine Own.w_iconst HmB2 at_231 232 rfl (z := (0 : Int32)) rfl ?_
      refine Own.w_istore HmB2 at_232 234 rfl (l' := #[.val (.int pv), .val (.int la), .val (.int lb), .val (.int ra), .val (.int rb), .val (.int ta), .val (.int tb), .val (.int xa), .val (.int xb), .val (.int na), .val (.int nb), .val (.ref sA), .val (.ref sB), .val (.int ia), .val (.int ib), .val (.ref a71), .val (.ref a74), .val (.int te), .val (.int ca), .val (.int cb), .val (.int ce), .val (.int (0 : Int32)), .unset, .unset, .unset]) rfl ?_
      exact k
  obtain ⟨be, hbe, Ps19⟩ : ∃ be : Int32, ((be = 1 ∧ (xa = 0 ∨ xb = 0 ∨ ia = ib)) ∨ (be = 0 ∧ xa ≠ 0 ∧ xb ≠ 0 ∧ ia ≠ ib)) ∧ ∀ t, Steps p.tables e below (TmB2.setTop (mkF m 258 #[.val (.int pv), .val (.int la), .val (.int lb), .val (.int ra), .val (.int rb), .val (.int ta), .val (.int tb), .val (.int xa), .val (.int xb), .val (.int na), .val (.int nb), .val (.ref sA), .val (.ref sB), .val (.int ia), .val (.int ib), .val (.ref a71), .val (.ref a74), .val (.int te), .val (.int ca), .val (.int cb), .val (.int ce), .val (.int re), .val (.int be), .unset, .unset] [])) t → Steps p.tables e below (s₁.setTop (entryFrame m #[(.int pv), (.int la), (.int lb), (.int ra), (.int rb)] maxLocals)) t := by
    cases hb20 : ifCond.holds .eq xa
    · cases hb21 : ifCond.holds .eq xb
      · cases hb22 : if_icmp.holds .ne ia ib
        · refine ⟨(1 : Int32), Or.inl ⟨rfl, Or.inr (Or.inr (by simpa [if_icmp.holds] using hb22))⟩, fun t k => Ps17 t ?_⟩
          refine Own.w_iload HmB2 at_234 236 rfl rfl ?_
          refine Own.w_ifCondNo HmB2 at_236 (hb20) 239 rfl ?_
          refine Own.w_iload HmB2 at_239 241 rfl rfl ?_
          refine Own.w_ifCondNo HmB2 at_241 (hb21) 244 rfl ?_
          refine Own.w_iload HmB2 at_244 246 rfl rfl ?_
          refine Own.w_iload HmB2 at_246 248 rfl rfl ?_
          refine Own.w_icmpNo HmB2 at_248 (hb22) 251 rfl ?_
          refine Own.w_iconst HmB2 at_251 252 rfl (z := (1 : Int32)) rfl ?_
          refine Own.w_goto HmB2 at_252 256 (by decide) (by decide) ?_
          refine Own.w_istore HmB2 at_256 258 rfl (l' := #[.val (.int pv), .val (.int la), .val (.int lb), .val (.int ra), .val (.int rb), .val (.int ta), .val (.int tb), .val (.int xa), .val (.int xb), .val (.int na), .val (.int nb), .val (.ref sA), .val (.ref sB), .val (.int ia), .val (.int ib), .val (.ref a71), .val (.ref a74), .val (.int te), .val (.int ca), .val (.int cb), .val (.int ce), .val (.int re), .val (.int (1 : Int32)), .unset, .unset]) rfl ?_
          exact k
        · refine ⟨(0 : Int32), Or.inr ⟨rfl, (by simpa [ifCond.holds] using hb20), (by simpa [ifCond.holds] using hb21), (by simpa [if_icmp.holds] using hb22)⟩, fun t k => Ps17 t ?_⟩
          refine Own.w_iload HmB2 at_234 236 rfl rfl ?_
          refine Own.w_ifCondNo HmB2 at_236 (hb20) 239 rfl ?_
          refine Own.w_iload HmB2 at_239 241 rfl rfl ?_
          refine Own.w_ifCondNo HmB2 at_241 (hb21) 244 rfl ?_
          refine Own.w_iload HmB2 at_244 246 rfl rfl ?_
          refine Own.w_iload HmB2 at_246 248 rfl rfl ?_
          refine Own.w_icmpYes HmB2 at_248 (hb22) 255 (by decide) (by decide) ?_
          refine Own.w_iconst HmB2 at_255 256 rfl (z := (0 : Int32)) rfl ?_
          refine Own.w_istore HmB2 at_256 258 rfl (l' := #[.val (.int pv), .val (.int la), .val (.int lb), .val (.int ra), .val (.int rb), .val (.int ta), .val (.int tb), .val (.int xa), .val (.int xb), .val (.int na), .val (.int nb), .val (.ref sA), .val (.ref sB), .val (.int ia), .val (.int ib), .val (.ref a71), .val (.ref a74), .val (.int te), .val (.int ca), .val (.int cb), .val (.int ce), .val (.int re), .val (.int (0 : Int32)), .unset, .unset]) rfl ?_
          exact k
      · refine ⟨(1 : Int32), Or.inl ⟨rfl, Or.inr (Or.inl (by simpa [ifCond.holds] using hb21))⟩, fun t k => Ps17 t ?_⟩
        refine Own.w_iload HmB2 at_234 236 rfl rfl ?_
        refine Own.w_ifCondNo HmB2 at_236 (hb20) 239 rfl ?_
        refine Own.w_iload HmB2 at_239 241 rfl rfl ?_
        refine Own.w_ifCondYes HmB2 at_241 (hb21) 251 (by decide) (by decide) ?_
        refine Own.w_iconst HmB2 at_251 252 rfl (z := (1 : Int32)) rfl ?_
        refine Own.w_goto HmB2 at_252 256 (by decide) (by decide) ?_
        refine Own.w_istore HmB2 at_256 258 rfl (l' := #[.val (.int pv), .val (.int la), .val (.int lb), .val (.int ra), .val (.int rb), .val (.int ta), .val (.int tb), .val (.int xa), .val (.int xb), .val (.int na), .val (.int nb), .val (.ref sA), .val (.ref sB), .val (.int ia), .val (.int ib), .val (.ref a71), .val (.ref a74), .val (.int te), .val (.int ca), .val (.int cb), .val (.int ce), .val (.int re), .val (.int (1 : Int32)), .unset, .unset]) rfl ?_
        exact k
    · refine ⟨(1 : Int32), Or.inl ⟨rfl, Or.inl (by simpa [ifCond.holds] using hb20)⟩, fun t k => Ps17 t ?_⟩
      refine Own.w_iload HmB2 at_234 236 rfl rfl ?_
      refine Own.w_ifCondYes HmB2 at_236 (hb20) 251 (by decide) (by decide) ?_
      refine Own.w_iconst HmB2 at_251 252 rfl (z := (1 : Int32)) rfl ?_
      refine Own.w_goto HmB2 at_252 256 (by decide) (by decide) ?_
      refine Own.w_istore HmB2 at_256 258 rfl (l' := #[.val (.int pv), .val (.int la), .val (.int lb), .val (.int ra), .val (.int rb), .val (.int ta), .val (.int tb), .val (.int xa), .val (.int xb), .val (.int na), .val (.int nb), .val (.ref sA), .val (.ref sB), .val (.int ia), .val (.int ib), .val (.ref a71), .val (.ref a74), .val (.int te), .val (.int ca), .val (.int cb), .val (.int ce), .val (.int re), .val (.int (1 : Int32)), .unset, .unset]) rfl ?_
      exact k
  obtain ⟨ex, hex, Ps23⟩ : ∃ ex : Int32, ((ex = 1 ∧ te ≠ 0 ∧ ce ≠ 0 ∧ re ≠ 0 ∧ be ≠ 0) ∨ (ex = 0 ∧ (te = 0 ∨ ce = 0 ∨ re = 0 ∨ be = 0))) ∧ ∀ t, Steps p.tables e below (TmB2.setTop (mkF m 285 #[.val (.int pv), .val (.int la), .val (.int lb), .val (.int ra), .val (.int rb), .val (.int ta), .val (.int tb), .val (.int xa), .val (.int xb), .val (.int na), .val (.int nb), .val (.ref sA), .val (.ref sB), .val (.int ia), .val (.int ib), .val (.ref a71), .val (.ref a74), .val (.int te), .val (.int ca), .val (.int cb), .val (.int ce), .val (.int re), .val (.int be), .val (.int ex), .unset] [])) t → Steps p.tables e below (s₁.setTop (entryFrame m #[(.int pv), (.int la), (.int lb), (.int ra), (.int rb)] maxLocals)) t := by
    cases hb24 : ifCond.holds .eq te
    · cases hb25 : ifCond.holds .eq ce
      · cases hb26 : ifCond.holds .eq re
        · cases hb27 : ifCond.holds .eq be
          · refine ⟨(1 : Int32), Or.inl ⟨rfl, (by simpa [ifCond.holds] using hb24), (by simpa [ifCond.holds] using hb25), (by simpa [ifCond.holds] using hb26), (by simpa [ifCond.holds] using hb27)⟩, fun t k => Ps19 t ?_⟩
            refine Own.w_iload HmB2 at_258 260 rfl rfl ?_
            refine Own.w_ifCondNo HmB2 at_260 (hb24) 263 rfl ?_
            refine Own.w_iload HmB2 at_263 265 rfl rfl ?_
            refine Own.w_ifCondNo HmB2 at_265 (hb25) 268 rfl ?_
            refine Own.w_iload HmB2 at_268 270 rfl rfl ?_
            refine Own.w_ifCondNo HmB2 at_270 (hb26) 273 rfl ?_
            refine Own.w_iload HmB2 at_273 275 rfl rfl ?_
            refine Own.w_ifCondNo HmB2 at_275 (hb27) 278 rfl ?_
            refine Own.w_iconst HmB2 at_278 279 rfl (z := (1 : Int32)) rfl ?_
            refine Own.w_goto HmB2 at_279 283 (by decide) (by decide) ?_
            refine Own.w_istore HmB2 at_283 285 rfl (l' := #[.val (.int pv), .val (.int la), .val (.int lb), .val (.int ra), .val (.int rb), .val (.int ta), .val (.int tb), .val (.int xa), .val (.int xb), .val (.int na), .val (.int nb), .val (.ref sA), .val (.ref sB), .val (.int ia), .val (.int ib), .val (.ref a71), .val (.ref a74), .val (.int te), .val (.int ca), .val (.int cb), .val (.int ce), .val (.int re), .val (.int be), .val (.int (1 : Int32)), .unset]) rfl ?_
            exact k
          · refine ⟨(0 : Int32), Or.inr ⟨rfl, (Or.inr (Or.inr (Or.inr (by simpa [ifCond.holds] using hb27))))⟩, fun t k => Ps19 t ?_⟩
            refine Own.w_iload HmB2 at_258 260 rfl rfl ?_
            refine Own.w_ifCondNo HmB2 at_260 (hb24) 263 rfl ?_
            refine Own.w_iload HmB2 at_263 265 rfl rfl ?_
            refine Own.w_ifCondNo HmB2 at_265 (hb25) 268 rfl ?_
            refine Own.w_iload HmB2 at_268 270 rfl rfl ?_
            refine Own.w_ifCondNo HmB2 at_270 (hb26) 273 rfl ?_
            refine Own.w_iload HmB2 at_273 275 rfl rfl ?_
            refine Own.w_ifCondYes HmB2 at_275 (hb27) 282 (by decide) (by decide) ?_
            refine Own.w_iconst HmB2 at_282 283 rfl (z := (0 : Int32)) rfl ?_
            refine Own.w_istore HmB2 at_283 285 rfl (l' := #[.val (.int pv), .val (.int la), .val (.int lb), .val (.int ra), .val (.int rb), .val (.int ta), .val (.int tb), .val (.int xa), .val (.int xb), .val (.int na), .val (.int nb), .val (.ref sA), .val (.ref sB), .val (.int ia), .val (.int ib), .val (.ref a71), .val (.ref a74), .val (.int te), .val (.int ca), .val (.int cb), .val (.int ce), .val (.int re), .val (.int be), .val (.int (0 : Int32)), .unset]) rfl ?_
            exact k
        · refine ⟨(0 : Int32), Or.inr ⟨rfl, (Or.inr (Or.inr (Or.inl (by simpa [ifCond.holds] using hb26))))⟩, fun t k => Ps19 t ?_⟩
          refine Own.w_iload HmB2 at_258 260 rfl rfl ?_
          refine Own.w_ifCondNo HmB2 at_260 (hb24) 263 rfl ?_
          refine Own.w_iload HmB2 at_263 265 rfl rfl ?_
          refine Own.w_ifCondNo HmB2 at_265 (hb25) 268 rfl ?_
          refine Own.w_iload HmB2 at_268 270 rfl rfl ?_
          refine Own.w_ifCondYes HmB2 at_270 (hb26) 282 (by decide) (by decide) ?_
          refine Own.w_iconst HmB2 at_282 283 rfl (z := (0 : Int32)) rfl ?_
          refine Own.w_istore HmB2 at_283 285 rfl (l' := #[.val (.int pv), .val (.int la), .val (.int lb), .val (.int ra), .val (.int rb), .val (.int ta), .val (.int tb), .val (.int xa), .val (.int xb), .val (.int na), .val (.int nb), .val (.ref sA), .val (.ref sB), .val (.int ia), .val (.int ib), .val (.ref a71), .val (.ref a74), .val (.int te), .val (.int ca), .val (.int cb), .val (.int ce), .val (.int re), .val (.int be), .val (.int (0 : Int32)), .unset]) rfl ?_
          exact k
      · refine ⟨(0 : Int32), Or.inr ⟨rfl, (Or.inr (Or.inl (by simpa [ifCond.holds] using hb25)))⟩, fun t k => Ps19 t ?_⟩
        refine Own.w_iload HmB2 at_258 260 rfl rfl ?_
        refine Own.w_ifCondNo HmB2 at_260 (hb24) 263 rfl ?_
        refine Own.w_iload HmB2 at_263 265 rfl rfl ?_
        refine Own.w_ifCondYes HmB2 at_265 (hb25) 282 (by decide) (by decide) ?_
        refine Own.w_iconst HmB2 at_282 283 rfl (z := (0 : Int32)) rfl ?_
        refine Own.w_istore HmB2 at_283 285 rfl (l' := #[.val (.int pv), .val (.int la), .val (.int lb), .val (.int ra), .val (.int rb), .val (.int ta), .val (.int tb), .val (.int xa), .val (.int xb), .val (.int na), .val (.int nb), .val (.ref sA), .val (.ref sB), .val (.int ia), .val (.int ib), .val (.ref a71), .val (.ref a74), .val (.int te), .val (.int ca), .val (.int cb), .val (.int ce), .val (.int re), .val (.int be), .val (.int (0 : Int32)), .unset]) rfl ?_
        exact k
    · refine ⟨(0 : Int32), Or.inr ⟨rfl, (Or.inl (by simpa [ifCond.holds] using hb24))⟩, fun t k => Ps19 t ?_⟩
      refine Own.w_iload HmB2 at_258 260 rfl rfl ?_
      refine Own.w_ifCondYes HmB2 at_260 (hb24) 282 (by decide) (by decide) ?_
      refine Own.w_iconst HmB2 at_282 283 rfl (z := (0 : Int32)) rfl ?_
      refine Own.w_istore HmB2 at_283 285 rfl (l' := #[.val (.int pv), .val (.int la), .val (.int lb), .val (.int ra), .val (.int rb), .val (.int ta), .val (.int tb), .val (.int xa), .val (.int xb), .val (.int na), .val (.int nb), .val (.ref sA), .val (.ref sB), .val (.int ia), .val (.int ib), .val (.ref a71), .val (.ref a74), .val (.int te), .val (.int ca), .val (.int cb), .val (.int ce), .val (.int re), .val (.int be), .val (.int (0 : Int32)), .unset]) rfl ?_
      exact k
  obtain ⟨k1, k2, k3⟩ := law_logic fcA0 fcB0 fcA2 fcB2 hte hca hcb hce hre hbe hex
  obtain ⟨cq85, kq85, qa85, qb85, qc85⟩ := isOf hZ rfl DgA.1
  obtain ⟨_, _, ⟨T85, L85, k85, n85⟩, -, X85, ⟨Lc85, hQ85, l85, y85, z85⟩, st85⟩ := XmB2.virtualBack hx (y := (⟨"com/example/motley/motley/bench/Digest", "equals", "(Ljava/lang/Object;)Z"⟩ : MethodName)) (z := (⟨"com/example/motley/motley/bench/Digest", "equals", "(Ljava/lang/Object;)Z"⟩ : MethodName)) hown (mvT hZ (hw _ (List.mem_of_getElem? (i := 41) rfl))) (mvT hZ (hw _ (List.mem_of_getElem? (i := 42) rfl))) (notFace_of_selects (args := #[]) (mvT hZ (hw _ (List.mem_of_getElem? (i := 44) rfl)))) (mvT hZ (hw _ (List.mem_of_getElem? (i := 44) rfl))) (mvT hZ (hw _ (List.mem_of_getElem? (i := 43) rfl))) (by decide) (backOf (W := 0) (rm_9y l Z a0 hw [] a71 a74 TmB2.heap n0 ZmB2 tA cA rA bA tB cB rB bB DgA DgB) hZ (hw _ (List.mem_of_getElem? (i := 45) rfl)) (hw _ (List.mem_of_getElem? (i := 36) rfl)) (by decide) (by decide)) qa85 qc85 (g := (mkF m 293 #[.val (.int pv), .val (.int la), .val (.int lb), .val (.int ra), .val (.int rb), .val (.int ta), .val (.int tb), .val (.int xa), .val (.int xb), .val (.int na), .val (.int nb), .val (.ref sA), .val (.ref sB), .val (.int ia), .val (.int ib), .val (.ref a71), .val (.ref a74), .val (.int te), .val (.int ca), .val (.int cb), .val (.int ce), .val (.int re), .val (.int be), .val (.int ex), .val (.ref sA)] [(.ref a74), (.ref a71)])) rfl (by rw [hml]; rfl) (Steps.refl _) (argsL := [(.ref a74)]) (rest := []) (lenOf pd_9 rfl) rfl (by show 2 * 0 + _ ≤ _; exact Nat.le_of_ble_eq_true rfl) (hb hby at_293) (fun _ _ => ⟨rfl, rfl, (by decide : 14 + 0 ≤ _), (by decide : 40 + 0 ≤ _)⟩)
  dsimp only [Pt.U, Pt.locs, Pt.cells, Pt.slots] at X85 l85 y85 z85 st85 hQ85
  subst l85 y85 z85
  obtain ⟨rfl, Nv85, ev85⟩ := hQ85
  have P12 : ∀ t, Steps p.tables e below (T85.setTop (mkF m 296 #[.val (.int pv), .val (.int la), .val (.int lb), .val (.int ra), .val (.int rb), .val (.int ta), .val (.int tb), .val (.int xa), .val (.int xb), .val (.int na), .val (.int nb), .val (.ref sA), .val (.ref sB), .val (.int ia), .val (.int ib), .val (.ref a71), .val (.ref a74), .val (.int te), .val (.int ca), .val (.int cb), .val (.int ce), .val (.int re), .val (.int be), .val (.int ex), .val (.ref sA)] [(.int (eqv tA cA rA bA tB cB rB bB))])) t → Steps p.tables e below (s₁.setTop (entryFrame m #[(.int pv), (.int la), (.int lb), (.int ra), (.int rb)] maxLocals)) t := fun t k => Ps23 t (by
      refine Own.w_aload HmB2 at_285 287 rfl rfl rfl ?_
      refine Own.w_astore HmB2 at_287 289 rfl rfl (l' := #[.val (.int pv), .val (.int la), .val (.int lb), .val (.int ra), .val (.int rb), .val (.int ta), .val (.int tb), .val (.int xa), .val (.int xb), .val (.int na), .val (.int nb), .val (.ref sA), .val (.ref sB), .val (.int ia), .val (.int ib), .val (.ref a71), .val (.ref a74), .val (.int te), .val (.int ca), .val (.int cb), .val (.int ce), .val (.int re), .val (.int be), .val (.int ex), .val (.ref sA)]) rfl ?_
      refine Own.w_aload HmB2 at_289 291 rfl rfl rfl ?_
      refine Own.w_aload HmB2 at_291 293 rfl rfl rfl ?_
      exact st85.trans k)
  have H85 := Own.hr X85 hx hby
  have N86 := Fr.app NmB2 Nv85
  obtain ⟨cq87, kq87, qa87, qb87, qc87⟩ := isOf hZ ev85 DgB.1
  obtain ⟨_, _, ⟨T87, L87, k87, n87⟩, -, X87, ⟨Lc87, hQ87, l87, y87, z87⟩, st87⟩ := X85.virtualBack hx (y := (⟨"com/example/motley/motley/bench/Digest", "equals", "(Ljava/lang/Object;)Z"⟩ : MethodName)) (z := (⟨"com/example/motley/motley/bench/Digest", "equals", "(Ljava/lang/Object;)Z"⟩ : MethodName)) hown (mvT hZ (hw _ (List.mem_of_getElem? (i := 41) rfl))) (mvT hZ (hw _ (List.mem_of_getElem? (i := 42) rfl))) (notFace_of_selects (args := #[]) (mvT hZ (hw _ (List.mem_of_getElem? (i := 44) rfl)))) (mvT hZ (hw _ (List.mem_of_getElem? (i := 44) rfl))) (mvT hZ (hw _ (List.mem_of_getElem? (i := 43) rfl))) (by decide) (backOf (W := 0) (rm_9y l Z a0 hw [] a74 a71 TmB2.heap n0 ZmB2 tB cB rB bB tA cA rA bA DgB DgA) hZ (hw _ (List.mem_of_getElem? (i := 45) rfl)) (hw _ (List.mem_of_getElem? (i := 36) rfl)) (by decide) (by decide)) qa87 qc87 (g := (mkF m 305 #[.val (.int pv), .val (.int la), .val (.int lb), .val (.int ra), .val (.int rb), .val (.int ta), .val (.int tb), .val (.int xa), .val (.int xb), .val (.int na), .val (.int nb), .val (.ref sA), .val (.ref sB), .val (.int ia), .val (.int ib), .val (.ref a71), .val (.ref a74), .val (.int te), .val (.int ca), .val (.int cb), .val (.int ce), .val (.int re), .val (.int be), .val (.int ex), .val (.ref sA)] [(.ref a71), (.ref a74)])) rfl (by rw [hml]; rfl) (Steps.refl _) (argsL := [(.ref a71)]) (rest := []) (lenOf pd_9 rfl) rfl (by show 2 * 0 + _ ≤ _; exact Nat.le_of_ble_eq_true rfl) (hb hby at_305) (fun _ _ => ⟨rfl, ev85, (by decide : 14 + 0 ≤ _), (by decide : 40 + 0 ≤ _)⟩)
  dsimp only [Pt.U, Pt.locs, Pt.cells, Pt.slots] at X87 l87 y87 z87 st87 hQ87
  subst l87 y87 z87
  obtain ⟨rfl, Nv87, ev87⟩ := hQ87
  have P13 : ∀ t, Steps p.tables e below (T87.setTop (mkF m 308 #[.val (.int pv), .val (.int la), .val (.int lb), .val (.int ra), .val (.int rb), .val (.int ta), .val (.int tb), .val (.int xa), .val (.int xb), .val (.int na), .val (.int nb), .val (.ref sA), .val (.ref sB), .val (.int ia), .val (.int ib), .val (.ref a71), .val (.ref a74), .val (.int te), .val (.int ca), .val (.int cb), .val (.int ce), .val (.int re), .val (.int be), .val (.int ex), .val (.ref sA)] [(.int (eqv tB cB rB bB tA cA rA bA))])) t → Steps p.tables e below (s₁.setTop (entryFrame m #[(.int pv), (.int la), (.int lb), (.int ra), (.int rb)] maxLocals)) t := fun t k => P12 t (by
      refine Own.w_iload H85 at_296 298 rfl rfl ?_
      refine Own.w_icmpNo H85 at_298 (by rw [k1]; simp [if_icmp.holds]) 301 rfl ?_
      refine Own.w_aload H85 at_301 303 rfl rfl rfl ?_
      refine Own.w_aload H85 at_303 305 rfl rfl rfl ?_
      exact st87.trans k)
  have H87 := Own.hr X87 hx hby
  have N88 := Fr.app N86 Nv87
  obtain ⟨cq89, kq89, qa89, qb89, qc89⟩ := isOf hZ ev87 DgA.1
  obtain ⟨_, _, ⟨T89, L89, k89, n89⟩, -, X89, ⟨Lc89, hQ89, l89, y89, z89⟩, st89⟩ := X87.virtualBack hx (y := (⟨"com/example/motley/motley/bench/Digest", "equals", "(Ljava/lang/Object;)Z"⟩ : MethodName)) (z := (⟨"com/example/motley/motley/bench/Digest", "equals", "(Ljava/lang/Object;)Z"⟩ : MethodName)) hown (mvT hZ (hw _ (List.mem_of_getElem? (i := 41) rfl))) (mvT hZ (hw _ (List.mem_of_getElem? (i := 42) rfl))) (notFace_of_selects (args := #[]) (mvT hZ (hw _ (List.mem_of_getElem? (i := 44) rfl)))) (mvT hZ (hw _ (List.mem_of_getElem? (i := 44) rfl))) (mvT hZ (hw _ (List.mem_of_getElem? (i := 43) rfl))) (by decide) (backOf (W := 0) (rm_9y l Z a0 hw [] a71 a71 TmB2.heap n0 ZmB2 tA cA rA bA tA cA rA bA DgA DgA) hZ (hw _ (List.mem_of_getElem? (i := 45) rfl)) (hw _ (List.mem_of_getElem? (i := 36) rfl)) (by decide) (by decide)) qa89 qc89 (g := (mkF m 317 #[.val (.int pv), .val (.int la), .val (.int lb), .val (.int ra), .val (.int rb), .val (.int ta), .val (.int tb), .val (.int xa), .val (.int xb), .val (.int na), .val (.int nb), .val (.ref sA), .val (.ref sB), .val (.int ia), .val (.int ib), .val (.ref a71), .val (.ref a74), .val (.int te), .val (.int ca), .val (.int cb), .val (.int ce), .val (.int re), .val (.int be), .val (.int ex), .val (.ref sA)] [(.ref a71), (.ref a71)])) rfl (by rw [hml]; rfl) (Steps.refl _) (argsL := [(.ref a71)]) (rest := []) (lenOf pd_9 rfl) rfl (by show 2 * 0 + _ ≤ _; exact Nat.le_of_ble_eq_true rfl) (hb hby at_317) (fun _ _ => ⟨rfl, ev87, (by decide : 14 + 0 ≤ _), (by decide : 40 + 0 ≤ _)⟩)
  dsimp only [Pt.U, Pt.locs, Pt.cells, Pt.slots] at X89 l89 y89 z89 st89 hQ89
  subst l89 y89 z89
  obtain ⟨rfl, Nv89, ev89⟩ := hQ89
  have P14 : ∀ t, Steps p.tables e below (T89.setTop (mkF m 320 #[.val (.int pv), .val (.int la), .val (.int lb), .val (.int ra), .val (.int rb), .val (.int ta), .val (.int tb), .val (.int xa), .val (.int xb), .val (.int na), .val (.int nb), .val (.ref sA), .val (.ref sB), .val (.int ia), .val (.int ib), .val (.ref a71), .val (.ref a74), .val (.int te), .val (.int ca), .val (.int cb), .val (.int ce), .val (.int re), .val (.int be), .val (.int ex), .val (.ref sA)] [(.int (eqv tA cA rA bA tA cA rA bA))])) t → Steps p.tables e below (s₁.setTop (entryFrame m #[(.int pv), (.int la), (.int lb), (.int ra), (.int rb)] maxLocals)) t := fun t k => P13 t (by
      refine Own.w_iload H87 at_308 310 rfl rfl ?_
      refine Own.w_icmpNo H87 at_310 (by rw [k2]; simp [if_icmp.holds]) 313 rfl ?_
      refine Own.w_aload H87 at_313 315 rfl rfl rfl ?_
      refine Own.w_aload H87 at_315 317 rfl rfl rfl ?_
      exact st89.trans k)
  have H89 := Own.hr X89 hx hby
  have N90 := Fr.app N88 Nv89
  obtain ⟨cq91, kq91, qa91, qb91, qc91⟩ := isOf hZ ev89 DgA.1
  obtain ⟨_, _, ⟨T91, L91, k91, n91⟩, -, X91, ⟨Lc91, hQ91, l91, y91, z91⟩, st91⟩ := X89.virtualBack hx (y := (⟨"com/example/motley/motley/bench/Digest", "equals", "(Ljava/lang/Object;)Z"⟩ : MethodName)) (z := (⟨"com/example/motley/motley/bench/Digest", "equals", "(Ljava/lang/Object;)Z"⟩ : MethodName)) hown (mvT hZ (hw _ (List.mem_of_getElem? (i := 41) rfl))) (mvT hZ (hw _ (List.mem_of_getElem? (i := 42) rfl))) (notFace_of_selects (args := #[]) (mvT hZ (hw _ (List.mem_of_getElem? (i := 44) rfl)))) (mvT hZ (hw _ (List.mem_of_getElem? (i := 44) rfl))) (mvT hZ (hw _ (List.mem_of_getElem? (i := 43) rfl))) (by decide) (backOf (W := 0) (rm_9n l Z a0 hw [] a71 TmB2.heap n0 ZmB2) hZ (hw _ (List.mem_of_getElem? (i := 45) rfl)) (hw _ (List.mem_of_getElem? (i := 36) rfl)) (by decide) (by decide)) qa91 qc91 (g := (mkF m 326 #[.val (.int pv), .val (.int la), .val (.int lb), .val (.int ra), .val (.int rb), .val (.int ta), .val (.int tb), .val (.int xa), .val (.int xb), .val (.int na), .val (.int nb), .val (.ref sA), .val (.ref sB), .val (.int ia), .val (.int ib), .val (.ref a71), .val (.ref a74), .val (.int te), .val (.int ca), .val (.int cb), .val (.int ce), .val (.int re), .val (.int be), .val (.int ex), .val (.ref sA)] [.null, (.ref a71)])) rfl (by rw [hml]; rfl) (Steps.refl _) (argsL := [.null]) (rest := []) (lenOf pd_9 rfl) rfl (by show 2 * 0 + _ ≤ _; exact Nat.le_of_ble_eq_true rfl) (hb hby at_326) (fun _ _ => ⟨rfl, ev89, (by decide : 14 + 0 ≤ _), (by decide : 40 + 0 ≤ _)⟩)
  dsimp only [Pt.U, Pt.locs, Pt.cells, Pt.slots] at X91 l91 y91 z91 st91 hQ91
  subst l91 y91 z91
  obtain ⟨rfl, Nv91, ev91⟩ := hQ91
  have P15 : ∀ t, Steps p.tables e below (T91.setTop (mkF m 329 #[.val (.int pv), .val (.int la), .val (.int lb), .val (.int ra), .val (.int rb), .val (.int ta), .val (.int tb), .val (.int xa), .val (.int xb), .val (.int na), .val (.int nb), .val (.ref sA), .val (.ref sB), .val (.int ia), .val (.int ib), .val (.ref a71), .val (.ref a74), .val (.int te), .val (.int ca), .val (.int cb), .val (.int ce), .val (.int re), .val (.int be), .val (.int ex), .val (.ref sA)] [(.int (0 : Int32))])) t → Steps p.tables e below (s₁.setTop (entryFrame m #[(.int pv), (.int la), (.int lb), (.int ra), (.int rb)] maxLocals)) t := fun t k => P14 t (by
      refine Own.w_ifCondNo H89 at_320 (by rw [k3]; rfl) 323 rfl ?_
      refine Own.w_aload H89 at_323 325 rfl rfl rfl ?_
      refine Own.w_aconstNull H89 at_325 326 rfl ?_
      exact st91.trans k)
  have H91 := Own.hr X91 hx hby
  have N92 := Fr.app N90 Nv91
  obtain ⟨cq93, kq93, qa93, qb93, qc93⟩ := isOf hZ ev91 DgA.1
  obtain ⟨_, _, ⟨T93, L93, k93, n93⟩, -, X93, ⟨Lc93, hQ93, l93, y93, z93⟩, st93⟩ := X91.virtualBack hx (y := (⟨"com/example/motley/motley/bench/Digest", "equals", "(Ljava/lang/Object;)Z"⟩ : MethodName)) (z := (⟨"com/example/motley/motley/bench/Digest", "equals", "(Ljava/lang/Object;)Z"⟩ : MethodName)) hown (mvT hZ (hw _ (List.mem_of_getElem? (i := 41) rfl))) (mvT hZ (hw _ (List.mem_of_getElem? (i := 42) rfl))) (notFace_of_selects (args := #[]) (mvT hZ (hw _ (List.mem_of_getElem? (i := 44) rfl)))) (mvT hZ (hw _ (List.mem_of_getElem? (i := 44) rfl))) (mvT hZ (hw _ (List.mem_of_getElem? (i := 43) rfl))) (by decide) (backOf (W := 0) (rm_9s l Z a0 hw [] a71 sA TmB2.heap n0 ZmB2 StA.exa) hZ (hw _ (List.mem_of_getElem? (i := 45) rfl)) (hw _ (List.mem_of_getElem? (i := 36) rfl)) (by decide) (by decide)) qa93 qc93 (g := (mkF m 336 #[.val (.int pv), .val (.int la), .val (.int lb), .val (.int ra), .val (.int rb), .val (.int ta), .val (.int tb), .val (.int xa), .val (.int xb), .val (.int na), .val (.int nb), .val (.ref sA), .val (.ref sB), .val (.int ia), .val (.int ib), .val (.ref a71), .val (.ref a74), .val (.int te), .val (.int ca), .val (.int cb), .val (.int ce), .val (.int re), .val (.int be), .val (.int ex), .val (.ref sA)] [(.ref sA), (.ref a71)])) rfl (by rw [hml]; rfl) (Steps.refl _) (argsL := [(.ref sA)]) (rest := []) (lenOf pd_9 rfl) rfl (by show 2 * 0 + _ ≤ _; exact Nat.le_of_ble_eq_true rfl) (hb hby at_336) (fun _ _ => ⟨rfl, ev91, (by decide : 14 + 0 ≤ _), (by decide : 40 + 0 ≤ _)⟩)
  dsimp only [Pt.U, Pt.locs, Pt.cells, Pt.slots] at X93 l93 y93 z93 st93 hQ93
  subst l93 y93 z93
  obtain ⟨rfl, Nv93, ev93⟩ := hQ93
  have P16 : ∀ t, Steps p.tables e below (T93.setTop (mkF m 339 #[.val (.int pv), .val (.int la), .val (.int lb), .val (.int ra), .val (.int rb), .val (.int ta), .val (.int tb), .val (.int xa), .val (.int xb), .val (.int na), .val (.int nb), .val (.ref sA), .val (.ref sB), .val (.int ia), .val (.int ib), .val (.ref a71), .val (.ref a74), .val (.int te), .val (.int ca), .val (.int cb), .val (.int ce), .val (.int re), .val (.int be), .val (.int ex), .val (.ref sA)] [(.int (0 : Int32))])) t → Steps p.tables e below (s₁.setTop (entryFrame m #[(.int pv), (.int la), (.int lb), (.int ra), (.int rb)] maxLocals)) t := fun t k => P15 t (by
      refine Own.w_ifCondNo H91 at_329 (rfl) 332 rfl ?_
      refine Own.w_aload H91 at_332 334 rfl rfl rfl ?_
      refine Own.w_aload H91 at_334 336 rfl rfl rfl ?_
      exact st93.trans k)
  have H93 := Own.hr X93 hx hby
  have N94 := Fr.app N92 Nv93
  obtain ⟨fs, hr, hrun, hended, hW, hsame⟩ := X93.leave (v := some (.int (1 : Int32))) (fun h => by rw [Bd.returns] at h; cases h)
  obtain ⟨hW1, hW2, hW3⟩ := SB69.ended hW ((Nat.le_trans SmB2 (Nat.le_of_eq (congrArg Array.size ev93.symm)))) hsame
  refine ⟨_, _, P16 _ ?_, hrun, hended, _, _, rfl, ?_, ⟨_, rfl⟩, hW1, hW2, hW3.mono (by decide : 14 ≤ _) (by decide : 40 ≤ _)⟩
  · refine Own.w_ifCondNo H93 at_339 (rfl) 342 rfl ?_
    refine Own.w_iconst H93 at_342 343 rfl (z := (1 : Int32)) rfl ?_
    refine Own.w_goto H93 at_343 347 (by decide) (by decide) ?_
    exact retN X93 hx (t := .boolean) Bd.returns (by simp) (hb hby at_347) hr
  · exact ⟨rfl, N94⟩
set_option maxRecDepth 65536 in
set_option maxHeartbeats 40000000 in
theorem comes_1 {Post : Tables → Env → Array Value → State → Outcome → State → Prop} (hpost : ∀ tb e args s v u, (limb_1_1.after args s (.returned v) u = true ∧ limb_1_2.after args s (.returned v) u = true ∧ True) → FramedW s (.returned v) u (Jvm.fieldLocs frame_1_writes args s ++ Jvm.arrayLocs frame_1_arrays args s ++ Jvm.staticLocs frame_1_statics s) 32 1152 → Post tb e args s (.returned v) u) :
    ArmFor flags0 classFile x code maxLocals ret World_1 tables_1 room_1 Calls_1 rest_1 Pre_1 Post := by
  intro l hfl _ _ p e ha hc hk s m args below hf hA hF happ hP
  obtain ⟨hcalls, hrest, hpre⟩ := hP
  obtain ⟨-, -, -, hnamed, -, -, -, hat⟩ := (Spec.applies_iff hf).mp happ
  obtain ⟨hg, hn⟩ := and_e (Cond.before_iff.mp (show (Jvm.Cond.and given_1 narrow_1).before args s = true from hpre))
  obtain ⟨h1, g0⟩ := and_e hg
  obtain ⟨v0, g1⟩ := and_e g0
  obtain ⟨v1, g2⟩ := and_e g1
  obtain ⟨v2, g3⟩ := and_e g2
  obtain ⟨v3, g4⟩ := and_e g3
  obtain ⟨w0, w1, w2, w3, w4, rfl⟩ : ∃ w0 w1 w2 w3 w4 : Value, args = #[w0, w1, w2, w3, w4] := by
    have hs : args.size = 5 := by simpa [Cond.value, given_1] using h1
    obtain ⟨L⟩ := args
    match L, hs with
    | [w0, w1, w2, w3, w4], _ => exact ⟨w0, w1, w2, w3, w4, rfl⟩
  have hw := fun d (hd : d ∈ tables_1) => atoms_spec (ws := Jvm.Cond.code x code maxLocals ret :: tables_1) hat d (List.mem_cons_of_mem _ hd)
  obtain ⟨i0, q0⟩ := is_v v0
  obtain rfl : w0 = (.int i0) := Option.some.inj q0
  obtain ⟨i1, q1⟩ := is_v v1
  obtain rfl : w1 = (.int i1) := Option.some.inj q1
  obtain ⟨i2, q2⟩ := is_v v2
  obtain rfl : w2 = (.int i2) := Option.some.inj q2
  obtain ⟨i3, q3⟩ := is_v v3
  obtain rfl : w3 = (.int i3) := Option.some.inj q3
  obtain ⟨i4, q4⟩ := is_v g4
  obtain rfl : w4 = (.int i4) := Option.some.inj q4
  obtain ⟨hsets, hown0⟩ := atoms_of _ (rest_1_c_eq ▸ (show rest_1_c.before _ s = true from hrest))
  have n5 := not_v (Cond.before_iff.mp (hsets _ (List.mem_of_getElem? (i := 2) rfl)))
  obtain ⟨z, ez⟩ := is_v (Cond.before_iff.mp (hsets _ (List.mem_of_getElem? (i := 1) rfl)))
  have S0 : Sta s s.heap "java/lang/String" "COMPACT_STRINGS" "Z" (.int z) := Sta.start ez (Or.inl (hsets _ (List.mem_of_getElem? (i := 0) rfl)))
  have hz : ¬ (z = (0 : Int32)) := gotF (Cond.eq_ints ez (Term.int_eval (0))) n5
  have hh : ∀ p ∈ EL, Jvm.Lit.constHeld s p.1 p.2 := hcalls.1
  have HC := CHv.start (hEL hw) hh (hsets _ (List.mem_of_getElem? (i := 2) rfl)) (hw _ (List.mem_of_getElem? (i := 23) rfl)) (hw _ (List.mem_of_getElem? (i := 5) rfl))
  obtain ⟨n, o, h1, h2, h3, _, L, rfl, ⟨rfl, N⟩, hq⟩ := rm_0 l s _ hw tables_1 i0 i1 i2 i3 i4 s.heap s.heap.size (Nat.le_refl _) z (Old.start s) S0 hz p e ha hc hk s m _ below hf ((Spec.applies_iff_loose hf).mp happ).1 ⟨rfl, State.Warmed39.refl s, rfl, HC⟩ trivial
  refine ⟨n, _, h1, h2, h3, hpost _ _ _ _ _ _ ⟨Cond.after_iff.mpr rfl, Cond.after_iff.mpr (eq_i res_at (Term.int_eval (1)) rfl), trivial⟩ ⟨hq.1, hq.2.1, hq.2.2.1, (hq.2.2.2.sift fun y hy => Or.inr (N y hy)).mono (by decide) (by decide)⟩⟩
theorem main_1_1 : Claimed_1_1 := comes_1 fun _ _ _ _ _ _ h hF => ⟨h.1, hF⟩
theorem main_1_2 : Claimed_1_2 := comes_1 fun _ _ _ _ _ _ h hF => ⟨h.2.1, hF⟩
end Jvm.Pilot.@@N@@
namespace Jvm.Pilot.@@N@@
open Jvm Jvm.ClassFile Sem Op Lib Jvm.Free Jvm.Stand Jvm.Pilot.@@N@@.Jvm.D
/-! MADE BY PROGRAM (witnessworld.py) out of the Statement's table words and the real class files: 22 classes; the members and pool entries that the words name. The judged class is class 1, her method 2. -/
namespace start1
open Jvm.ClassFile
def u (s : String) : CpInfo := .utf8 (stringToUtf16 s)
/-- a pool by its gaps: so many unusable entries, then the entry; so many at the end -/
def gap : Nat → List CpInfo → List CpInfo
  | 0, r => r
  | n + 1, r => .unusable :: gap n r
def poolList (es : List (Nat × CpInfo)) (last : Nat) : List CpInfo := es.foldr (fun e r => gap e.1 (e.2 :: r)) (gap last [])
def pool (es : List (Nat × CpInfo)) (last : Nat) : Array CpInfo := ⟨poolList es last⟩
def fileOf (pool : Array CpInfo) (this : Nat) (attrs : Array Attribute := #[]) (ms : Array MethodInfo := #[]) (fl : Nat := 33) (sup : Nat := 0) (ifs : Array Nat := #[]) (fds : Array FieldInfo := #[]) : ClassFile where
  minorVersion := 0
  majorVersion := 65
  constantPool := pool
  accessFlags := fl
  thisClass := this
  superClass := sup
  interfaces := ifs
  fields := fds
  methods := ms
  attributes := attrs
def plain (name : String) (sup : Option ClassId) : Class where
  name := name
  kind := .ordinary
  loader := none
  accessFlags := 33
  super := sup
  interfaces := #[]
  cf := none
  fields := #[]
  methods := #[]
  instanceTypes := #[]
  staticTypes := #[]
  resolved := #[]
  callSites := []
  init := .initialized
  statics := none
  mirror := none

def pool0 : Array CpInfo := pool [(5, u "<init>"), (0, u "()V"), (1, .class_ 10), (1, u "java/lang/Object")] 113

def k0c0 : Code := { maxStack := 0, maxLocals := 1, code := object_method_1_code, exceptionTable := #[], attributes := #[] }
def k0m0 : Method := { name := "<init>", desc := "()V", sig := { parameters := [], returnType := none }, accessFlags := 1, code := some k0c0 }
/-- java/lang/Object -/
def k0 : Class := { plain "java/lang/Object" none with
  accessFlags := 33
  interfaces := #[]
  cf := some (fileOf pool0 8 #[] #[{ accessFlags := 1, nameIndex := 5, descriptorIndex := 6, attributes := #[] }] 33 0 #[] #[])
  fields := #[]
  methods := #[k0m0]
  instanceTypes := #[]
  staticTypes := #[]
  resolved := Array.replicate 124 none
  statics := none }

def pool1 : Array CpInfo := pool [(2, .class_ 4), (0, .nameAndType 5 6), (0, u "java/lang/Object"), (0, u "<init>"), (0, u "()V"), (0, .class_ 8), (0, u "java/lang/String"), (0, .methodref 7 10), (0, .nameAndType 5 11), (0, u "([C)V"), (0, .methodref 13 14), (0, .class_ 15), (0, .nameAndType 16 17), (0, u "com/example/motley/motley/bench/DigestEqualsPinLaw"), (0, u "str"), (0, u "(II)Ljava/lang/String;"), (0, .class_ 19), (0, u "com/example/motley/motley/bench/Digest"), (0, .methodref 18 3), (0, .methodref 18 22), (0, .nameAndType 23 24), (0, u "text"), (0, u "(Ljava/lang/String;)V"), (0, .methodref 18 26), (0, .nameAndType 27 28), (0, u "real"), (0, u "(D)V"), (0, .methodref 18 30), (0, .nameAndType 31 32), (0, u "equals"), (0, u "(Ljava/lang/Object;)Z"), (3, u "law"), (0, u "(IIIII)Z")] 2

def k1m0 : Method := { name := "<init>", desc := "()V", sig := { parameters := [], returnType := none }, accessFlags := 1, code := none }
def k1c1 : Code := { maxStack := 6, maxLocals := 5, code := method_2_code, exceptionTable := #[], attributes := #[] }
def k1m1 : Method := { name := "str", desc := "(II)Ljava/lang/String;", sig := { parameters := [.int, .int], returnType := some (.object "java/lang/String") }, accessFlags := 10, code := some k1c1 }
def k1c2 : Code := { maxStack := 3, maxLocals := 25, code := code, exceptionTable := #[], attributes := #[] }
def k1m2 : Method := { name := "law", desc := "(IIIII)Z", sig := { parameters := [.int, .int, .int, .int, .int], returnType := some .boolean }, accessFlags := 9, code := some k1c2 }
/-- com/example/motley/motley/bench/DigestEqualsPinLaw -/
def k1 : Class := { plain "com/example/motley/motley/bench/DigestEqualsPinLaw" (some 0) with
  accessFlags := 49
  interfaces := #[]
  cf := some (fileOf pool1 13 #[] #[{ accessFlags := 1, nameIndex := 5, descriptorIndex := 6, attributes := #[] }, { accessFlags := 10, nameIndex := 16, descriptorIndex := 17, attributes := #[] }, { accessFlags := 9, nameIndex := 36, descriptorIndex := 37, attributes := #[] }] 49 2 #[] #[])
  fields := #[]
  methods := #[k1m0, k1m1, k1m2]
  instanceTypes := #[]
  staticTypes := #[]
  resolved := Array.replicate 40 none
  statics := none }

def pool2 : Array CpInfo := pool [(1, .class_ 2), (0, u "java/io/Serializable"), (0, .class_ 4), (0, u "java/lang/Object")] 2

/-- java/io/Serializable -/
def k2 : Class := { plain "java/io/Serializable" (some 0) with
  accessFlags := 1537
  interfaces := #[]
  cf := some (fileOf pool2 1 #[] #[] 1537 3 #[] #[])
  fields := #[]
  methods := #[]
  instanceTypes := #[]
  staticTypes := #[]
  resolved := Array.replicate 7 none
  statics := none }

def pool3 : Array CpInfo := pool [(1, .class_ 2), (0, u "java/lang/Comparable"), (0, .class_ 4), (0, u "java/lang/Object")] 7

/-- java/lang/Comparable -/
def k3 : Class := { plain "java/lang/Comparable" (some 0) with
  accessFlags := 1537
  interfaces := #[]
  cf := some (fileOf pool3 1 #[] #[] 1537 3 #[] #[])
  fields := #[]
  methods := #[]
  instanceTypes := #[]
  staticTypes := #[]
  resolved := Array.replicate 12 none
  statics := none }

def pool4 : Array CpInfo := pool [(2, .class_ 4), (1, u "java/lang/CharSequence"), (42, .class_ 48), (0, u "java/lang/CharSequence$1CodePointIterator"), (10, .class_ 60), (0, u "java/lang/CharSequence$1CharIterator"), (5, .class_ 67), (0, u "java/lang/Object")] 63

/-- java/lang/CharSequence -/
def k4 : Class := { plain "java/lang/CharSequence" (some 0) with
  accessFlags := 1537
  interfaces := #[]
  cf := some (fileOf pool4 2 #[.nestMembers #[47, 59]] #[] 1537 66 #[] #[])
  fields := #[]
  methods := #[]
  instanceTypes := #[]
  staticTypes := #[]
  resolved := Array.replicate 131 none
  statics := none }

def pool5 : Array CpInfo := pool [(1, .class_ 2), (0, u "java/lang/constant/Constable"), (0, .class_ 4), (0, u "java/lang/Object")] 6

/-- java/lang/constant/Constable -/
def k5 : Class := { plain "java/lang/constant/Constable" (some 0) with
  accessFlags := 1537
  interfaces := #[]
  cf := some (fileOf pool5 1 #[] #[] 1537 3 #[] #[])
  fields := #[]
  methods := #[]
  instanceTypes := #[]
  staticTypes := #[]
  resolved := Array.replicate 11 none
  statics := none }

def pool6 : Array CpInfo := pool [(1, .class_ 2), (0, u "java/lang/constant/ConstantDesc"), (0, .class_ 4), (0, u "java/lang/Object")] 32

/-- java/lang/constant/ConstantDesc -/
def k6 : Class := { plain "java/lang/constant/ConstantDesc" (some 0) with
  accessFlags := 1537
  interfaces := #[]
  cf := some (fileOf pool6 1 #[] #[] 1537 3 #[] #[])
  fields := #[]
  methods := #[]
  instanceTypes := #[]
  staticTypes := #[]
  resolved := Array.replicate 37 none
  statics := none }

def pool7 : Array CpInfo := pool [(1, .methodref 2 3), (0, .class_ 4), (0, .nameAndType 5 6), (0, u "java/lang/Object"), (0, u "<init>"), (0, u "()V"), (0, .string 8), (0, u ""), (0, .fieldref 10 11), (0, .class_ 12), (0, .nameAndType 13 14), (0, u "java/lang/String"), (0, u "value"), (0, u "[B"), (0, .fieldref 10 16), (0, .nameAndType 17 18), (0, u "coder"), (0, u "B"), (2, u "hash"), (0, u "I"), (2, u "hashIsZero"), (0, u "Z"), (0, .methodref 10 28), (0, .nameAndType 5 29), (0, u "([CIILjava/lang/Void;)V"), (8, .fieldref 10 39), (0, .nameAndType 40 26), (0, u "COMPACT_STRINGS"), (1, .class_ 44), (1, u "java/lang/StringUTF16"), (0, u "compress"), (1, .methodref 42 48), (0, .nameAndType 49 50), (0, u "coderFromArrayLen"), (0, u "([BI)B"), (126, .methodref 42 178), (0, .nameAndType 45 179), (0, u "([CII)[B"), (154, u "()I"), (0, .methodref 10 336), (0, .nameAndType 17 337), (0, u "()B"), (169, u "length"), (67, .class_ 576), (0, u "java/lang/CharSequence"), (22, u "CASE_INSENSITIVE_ORDER"), (0, u "Ljava/util/Comparator;"), (409, u "([C)V"), (90, u "serialPersistentFields"), (0, u "[Ljava/io/ObjectStreamField;"), (0, .class_ 1104), (0, u "java/lang/String$CaseInsensitiveComparator"), (1, .class_ 1107), (0, u "java/io/Serializable"), (0, .class_ 1109), (0, u "java/lang/Comparable"), (0, .class_ 1111), (0, u "java/lang/constant/Constable"), (0, .class_ 1113), (0, u "java/lang/constant/ConstantDesc"), (2, u "serialVersionUID"), (0, u "J"), (3, u "REPL"), (0, u "C"), (2, u "LATIN1"), (1, u "UTF16")] 323

def k7m0 : Method := { name := "<init>", desc := "()V", sig := { parameters := [], returnType := none }, accessFlags := 1, code := none }
def k7c1 : Code := { maxStack := 5, maxLocals := 2, code := jdk_42_method_3_code, exceptionTable := #[], attributes := #[] }
def k7m1 : Method := { name := "<init>", desc := "([C)V", sig := { parameters := [(.array .char)], returnType := none }, accessFlags := 1, code := some k7c1 }
def k7c2 : Code := { maxStack := 2, maxLocals := 1, code := jdk_42_method_54_code, exceptionTable := #[], attributes := #[] }
def k7m2 : Method := { name := "length", desc := "()I", sig := { parameters := [], returnType := some .int }, accessFlags := 1, code := some k7c2 }
def k7c3 : Code := { maxStack := 4, maxLocals := 6, code := jdk_42_method_149_code, exceptionTable := #[], attributes := #[] }
def k7m3 : Method := { name := "<init>", desc := "([CIILjava/lang/Void;)V", sig := { parameters := [(.array .char), .int, .int, (.object "java/lang/Void")], returnType := none }, accessFlags := 2, code := some k7c3 }
def k7c4 : Code := { maxStack := 1, maxLocals := 1, code := jdk_42_method_152_code, exceptionTable := #[], attributes := #[] }
def k7m4 : Method := { name := "coder", desc := "()B", sig := { parameters := [], returnType := some .byte }, accessFlags := 0, code := some k7c4 }
/-- java/lang/String -/
def k7 : Class := { plain "java/lang/String" (some 0) with
  accessFlags := 49
  interfaces := #[2, 3, 4, 5, 6]
  cf := some (fileOf pool7 10 #[.nestMembers #[1103]] #[{ accessFlags := 1, nameIndex := 5, descriptorIndex := 6, attributes := #[] }, { accessFlags := 1, nameIndex := 5, descriptorIndex := 1010, attributes := #[] }, { accessFlags := 1, nameIndex := 507, descriptorIndex := 334, attributes := #[] }, { accessFlags := 2, nameIndex := 5, descriptorIndex := 29, attributes := #[] }, { accessFlags := 0, nameIndex := 17, descriptorIndex := 337, attributes := #[] }] 49 2 #[1106, 1108, 575, 1110, 1112] #[{ accessFlags := 18, nameIndex := 13, descriptorIndex := 14, attributes := #[] }, { accessFlags := 18, nameIndex := 17, descriptorIndex := 18, attributes := #[] }, { accessFlags := 2, nameIndex := 21, descriptorIndex := 22, attributes := #[] }, { accessFlags := 2, nameIndex := 25, descriptorIndex := 26, attributes := #[] }, { accessFlags := 26, nameIndex := 1116, descriptorIndex := 1117, attributes := #[] }, { accessFlags := 24, nameIndex := 40, descriptorIndex := 26, attributes := #[] }, { accessFlags := 26, nameIndex := 1101, descriptorIndex := 1102, attributes := #[] }, { accessFlags := 26, nameIndex := 1121, descriptorIndex := 1122, attributes := #[] }, { accessFlags := 25, nameIndex := 599, descriptorIndex := 600, attributes := #[] }, { accessFlags := 24, nameIndex := 1125, descriptorIndex := 18, attributes := #[] }, { accessFlags := 24, nameIndex := 1127, descriptorIndex := 18, attributes := #[] }])
  fields := #[{ name := "value", type := (.array .byte), accessFlags := 18, slot := 0, constantValue := 0 }, { name := "coder", type := .byte, accessFlags := 18, slot := 1, constantValue := 0 }, { name := "hash", type := .int, accessFlags := 2, slot := 2, constantValue := 0 }, { name := "hashIsZero", type := .boolean, accessFlags := 2, slot := 3, constantValue := 0 }, { name := "serialVersionUID", type := .long, accessFlags := 26, slot := 0, constantValue := 0 }, { name := "COMPACT_STRINGS", type := .boolean, accessFlags := 24, slot := 1, constantValue := 0 }, { name := "serialPersistentFields", type := (.array (.object "java/io/ObjectStreamField")), accessFlags := 26, slot := 2, constantValue := 0 }, { name := "REPL", type := .char, accessFlags := 26, slot := 3, constantValue := 0 }, { name := "CASE_INSENSITIVE_ORDER", type := (.object "java/util/Comparator"), accessFlags := 25, slot := 4, constantValue := 0 }, { name := "LATIN1", type := .byte, accessFlags := 24, slot := 5, constantValue := 0 }, { name := "UTF16", type := .byte, accessFlags := 24, slot := 6, constantValue := 0 }]
  methods := #[k7m0, k7m1, k7m2, k7m3, k7m4]
  instanceTypes := #[(.array .byte), .byte, .int, .boolean]
  staticTypes := #[.long, .boolean, (.array (.object "java/io/ObjectStreamField")), .char, (.object "java/util/Comparator"), .byte, .byte]
  resolved := Array.replicate 1451 none
  statics := some 0 }

def pool8 : Array CpInfo := pool [(6, .class_ 8), (1, u "java/lang/Object"), (0, u "<init>"), (0, u "()V"), (1, .class_ 14), (1, u "java/lang/StringUTF16"), (31, u "$assertionsDisabled"), (0, u "Z"), (13, u "HI_BYTE_SHIFT"), (0, u "I"), (2, u "LO_BYTE_SHIFT"), (49, .methodref 12 116), (0, .nameAndType 117 118), (0, u "compress"), (0, u "([CI[BII)I"), (3, u "([CII)[B"), (138, u "coderFromArrayLen"), (0, u "([BI)B"), (106, .class_ 371), (1, u "java/lang/StringUTF16$LinesSpliterator"), (58, u "MAX_LENGTH"), (196, .class_ 628), (0, u "java/lang/StringUTF16$CodePointsSpliterator"), (0, .class_ 630), (0, u "java/lang/StringUTF16$CharsSpliterator")] 4

def k8m0 : Method := { name := "<init>", desc := "()V", sig := { parameters := [], returnType := none }, accessFlags := 0, code := none }
def k8c1 : Code := { maxStack := 2, maxLocals := 2, code := jdk_52_method_15_code, exceptionTable := #[], attributes := #[] }
def k8m1 : Method := { name := "coderFromArrayLen", desc := "([BI)B", sig := { parameters := [(.array .byte), .int], returnType := some .byte }, accessFlags := 8, code := some k8c1 }
def k8c2 : Code := { maxStack := 5, maxLocals := 6, code := jdk_52_method_16_code, exceptionTable := #[], attributes := #[] }
def k8m2 : Method := { name := "compress", desc := "([CII)[B", sig := { parameters := [(.array .char), .int, .int], returnType := some (.array .byte) }, accessFlags := 9, code := some k8c2 }
def k8c3 : Code := { maxStack := 3, maxLocals := 7, code := jdk_52_method_21_code, exceptionTable := #[], attributes := #[] }
def k8m3 : Method := { name := "compress", desc := "([CI[BII)I", sig := { parameters := [(.array .char), .int, (.array .byte), .int, .int], returnType := some .int }, accessFlags := 9, code := some k8c3 }
/-- java/lang/StringUTF16 -/
def k8 : Class := { plain "java/lang/StringUTF16" (some 0) with
  accessFlags := 48
  interfaces := #[]
  cf := some (fileOf pool8 12 #[.nestMembers #[627, 629, 369]] #[{ accessFlags := 0, nameIndex := 9, descriptorIndex := 10, attributes := #[] }, { accessFlags := 8, nameIndex := 261, descriptorIndex := 262, attributes := #[] }, { accessFlags := 9, nameIndex := 117, descriptorIndex := 122, attributes := #[] }, { accessFlags := 9, nameIndex := 117, descriptorIndex := 118, attributes := #[] }] 48 6 #[] #[{ accessFlags := 26, nameIndex := 61, descriptorIndex := 62, attributes := #[] }, { accessFlags := 26, nameIndex := 65, descriptorIndex := 62, attributes := #[] }, { accessFlags := 24, nameIndex := 430, descriptorIndex := 62, attributes := #[] }, { accessFlags := 4120, nameIndex := 46, descriptorIndex := 47, attributes := #[] }])
  fields := #[{ name := "HI_BYTE_SHIFT", type := .int, accessFlags := 26, slot := 0, constantValue := 0 }, { name := "LO_BYTE_SHIFT", type := .int, accessFlags := 26, slot := 1, constantValue := 0 }, { name := "MAX_LENGTH", type := .int, accessFlags := 24, slot := 2, constantValue := 0 }, { name := "$assertionsDisabled", type := .boolean, accessFlags := 4120, slot := 3, constantValue := 0 }]
  methods := #[k8m0, k8m1, k8m2, k8m3]
  instanceTypes := #[]
  staticTypes := #[.int, .int, .int, .boolean]
  resolved := Array.replicate 635 none
  statics := none }

def pool9 : Array CpInfo := pool [(1, .methodref 2 3), (0, .class_ 4), (0, .nameAndType 5 6), (0, u "java/lang/Object"), (0, u "<init>"), (0, u "()V"), (0, .fieldref 8 9), (0, .class_ 10), (0, .nameAndType 11 12), (0, u "com/example/motley/motley/bench/Digest"), (0, u "texts"), (0, u "J"), (0, .fieldref 8 14), (0, .nameAndType 15 12), (0, u "textChars"), (0, .methodref 17 18), (0, .class_ 19), (0, .nameAndType 20 21), (0, u "java/lang/String"), (0, u "length"), (0, u "()I"), (0, .fieldref 8 23), (0, .nameAndType 24 12), (0, u "reals"), (0, .fieldref 8 26), (0, .nameAndType 27 12), (0, u "realBits"), (0, .methodref 29 30), (0, .class_ 31), (0, .nameAndType 32 33), (0, u "java/lang/Double"), (0, u "doubleToRawLongBits"), (0, u "(D)J"), (18, u "text"), (0, u "(Ljava/lang/String;)V"), (0, u "real"), (0, u "(D)V"), (1, u "equals"), (0, u "(Ljava/lang/Object;)Z")] 21

def k9c0 : Code := { maxStack := 1, maxLocals := 1, code := prog_20_method_1_code, exceptionTable := #[], attributes := #[] }
def k9m0 : Method := { name := "<init>", desc := "()V", sig := { parameters := [], returnType := none }, accessFlags := 0, code := some k9c0 }
def k9c1 : Code := { maxStack := 5, maxLocals := 2, code := prog_20_method_2_code, exceptionTable := #[], attributes := #[] }
def k9m1 : Method := { name := "text", desc := "(Ljava/lang/String;)V", sig := { parameters := [(.object "java/lang/String")], returnType := none }, accessFlags := 0, code := some k9c1 }
def k9c2 : Code := { maxStack := 5, maxLocals := 3, code := prog_20_method_3_code, exceptionTable := #[], attributes := #[] }
def k9m2 : Method := { name := "real", desc := "(D)V", sig := { parameters := [.double], returnType := none }, accessFlags := 0, code := some k9c2 }
def k9c3 : Code := { maxStack := 4, maxLocals := 3, code := prog_20_method_6_code, exceptionTable := #[], attributes := #[] }
def k9m3 : Method := { name := "equals", desc := "(Ljava/lang/Object;)Z", sig := { parameters := [(.object "java/lang/Object")], returnType := some .boolean }, accessFlags := 1, code := some k9c3 }
/-- com/example/motley/motley/bench/Digest -/
def k9 : Class := { plain "com/example/motley/motley/bench/Digest" (some 0) with
  accessFlags := 48
  interfaces := #[]
  cf := some (fileOf pool9 8 #[] #[{ accessFlags := 0, nameIndex := 5, descriptorIndex := 6, attributes := #[] }, { accessFlags := 0, nameIndex := 52, descriptorIndex := 53, attributes := #[] }, { accessFlags := 0, nameIndex := 54, descriptorIndex := 55, attributes := #[] }, { accessFlags := 1, nameIndex := 57, descriptorIndex := 58, attributes := #[] }] 48 2 #[] #[{ accessFlags := 2, nameIndex := 11, descriptorIndex := 12, attributes := #[] }, { accessFlags := 2, nameIndex := 15, descriptorIndex := 12, attributes := #[] }, { accessFlags := 2, nameIndex := 24, descriptorIndex := 12, attributes := #[] }, { accessFlags := 2, nameIndex := 27, descriptorIndex := 12, attributes := #[] }])
  fields := #[{ name := "texts", type := .long, accessFlags := 2, slot := 0, constantValue := 0 }, { name := "textChars", type := .long, accessFlags := 2, slot := 1, constantValue := 0 }, { name := "reals", type := .long, accessFlags := 2, slot := 2, constantValue := 0 }, { name := "realBits", type := .long, accessFlags := 2, slot := 3, constantValue := 0 }]
  methods := #[k9m0, k9m1, k9m2, k9m3]
  instanceTypes := #[.long, .long, .long, .long]
  staticTypes := #[]
  resolved := Array.replicate 80 none
  statics := none }

def pool10 : Array CpInfo := pool [(2, .class_ 4), (1, u "java/lang/Object"), (0, u "<init>"), (0, u "()V"), (1, .class_ 10), (1, u "java/lang/Number"), (2, .class_ 14), (0, u "java/io/Serializable"), (0, u "serialVersionUID"), (0, u "J")] 20

def k10m0 : Method := { name := "<init>", desc := "()V", sig := { parameters := [], returnType := none }, accessFlags := 1, code := none }
/-- java/lang/Number -/
def k10 : Class := { plain "java/lang/Number" (some 0) with
  accessFlags := 1057
  interfaces := #[2]
  cf := some (fileOf pool10 8 #[] #[{ accessFlags := 1, nameIndex := 5, descriptorIndex := 6, attributes := #[] }] 1057 2 #[13] #[{ accessFlags := 26, nameIndex := 15, descriptorIndex := 16, attributes := #[] }])
  fields := #[{ name := "serialVersionUID", type := .long, accessFlags := 26, slot := 0, constantValue := 0 }]
  methods := #[k10m0]
  instanceTypes := #[]
  staticTypes := #[.long]
  resolved := Array.replicate 37 none
  statics := none }

def pool11 : Array CpInfo := pool [(1, .class_ 2), (0, u "java/lang/Double"), (46, u "(D)J"), (64, .class_ 116), (1, u "java/lang/Number"), (3, u "value"), (0, u "D"), (14, u "doubleToRawLongBits"), (36, u "TYPE"), (0, u "Ljava/lang/Class;"), (0, .class_ 176), (0, u "java/lang/Comparable"), (0, .class_ 178), (0, u "java/lang/constant/Constable"), (0, .class_ 180), (0, u "java/lang/constant/ConstantDesc"), (0, u "POSITIVE_INFINITY"), (3, u "NEGATIVE_INFINITY"), (2, u "NaN"), (2, u "MAX_VALUE"), (0, u "MIN_NORMAL"), (0, u "MIN_VALUE"), (2, u "SIZE"), (0, u "I"), (1, u "PRECISION"), (1, u "MAX_EXPONENT"), (1, u "MIN_EXPONENT"), (1, u "BYTES"), (3, u "serialVersionUID"), (0, u "J")] 79

def k11m0 : Method := { name := "doubleToRawLongBits", desc := "(D)J", sig := { parameters := [.double], returnType := some .long }, accessFlags := 265, code := none }
/-- java/lang/Double -/
def k11 : Class := { plain "java/lang/Double" (some 10) with
  accessFlags := 49
  interfaces := #[3, 5, 6]
  cf := some (fileOf pool11 1 #[] #[{ accessFlags := 265, nameIndex := 136, descriptorIndex := 49, attributes := #[] }] 49 114 #[175, 177, 179] #[{ accessFlags := 25, nameIndex := 181, descriptorIndex := 121, attributes := #[] }, { accessFlags := 25, nameIndex := 185, descriptorIndex := 121, attributes := #[] }, { accessFlags := 25, nameIndex := 188, descriptorIndex := 121, attributes := #[] }, { accessFlags := 25, nameIndex := 191, descriptorIndex := 121, attributes := #[] }, { accessFlags := 25, nameIndex := 192, descriptorIndex := 121, attributes := #[] }, { accessFlags := 25, nameIndex := 193, descriptorIndex := 121, attributes := #[] }, { accessFlags := 25, nameIndex := 196, descriptorIndex := 197, attributes := #[] }, { accessFlags := 25, nameIndex := 199, descriptorIndex := 197, attributes := #[] }, { accessFlags := 25, nameIndex := 201, descriptorIndex := 197, attributes := #[] }, { accessFlags := 25, nameIndex := 203, descriptorIndex := 197, attributes := #[] }, { accessFlags := 25, nameIndex := 205, descriptorIndex := 197, attributes := #[] }, { accessFlags := 25, nameIndex := 173, descriptorIndex := 174, attributes := #[] }, { accessFlags := 18, nameIndex := 120, descriptorIndex := 121, attributes := #[] }, { accessFlags := 26, nameIndex := 209, descriptorIndex := 210, attributes := #[] }])
  fields := #[{ name := "POSITIVE_INFINITY", type := .double, accessFlags := 25, slot := 0, constantValue := 0 }, { name := "NEGATIVE_INFINITY", type := .double, accessFlags := 25, slot := 1, constantValue := 0 }, { name := "NaN", type := .double, accessFlags := 25, slot := 2, constantValue := 0 }, { name := "MAX_VALUE", type := .double, accessFlags := 25, slot := 3, constantValue := 0 }, { name := "MIN_NORMAL", type := .double, accessFlags := 25, slot := 4, constantValue := 0 }, { name := "MIN_VALUE", type := .double, accessFlags := 25, slot := 5, constantValue := 0 }, { name := "SIZE", type := .int, accessFlags := 25, slot := 6, constantValue := 0 }, { name := "PRECISION", type := .int, accessFlags := 25, slot := 7, constantValue := 0 }, { name := "MAX_EXPONENT", type := .int, accessFlags := 25, slot := 8, constantValue := 0 }, { name := "MIN_EXPONENT", type := .int, accessFlags := 25, slot := 9, constantValue := 0 }, { name := "BYTES", type := .int, accessFlags := 25, slot := 10, constantValue := 0 }, { name := "TYPE", type := (.object "java/lang/Class"), accessFlags := 25, slot := 11, constantValue := 0 }, { name := "value", type := .double, accessFlags := 18, slot := 0, constantValue := 0 }, { name := "serialVersionUID", type := .long, accessFlags := 26, slot := 12, constantValue := 0 }]
  methods := #[k11m0]
  instanceTypes := #[.double]
  staticTypes := #[.double, .double, .double, .double, .double, .double, .int, .int, .int, .int, .int, (.object "java/lang/Class"), .long]
  resolved := Array.replicate 290 none
  statics := none }

def pool12 : Array CpInfo := pool [(4, .class_ 6), (1, u "java/lang/Object"), (0, u "<init>"), (0, u "()V"), (5, .class_ 16), (1, u "java/lang/StringLatin1"), (104, u "$assertionsDisabled"), (0, u "Z"), (98, .class_ 223), (1, u "java/lang/StringLatin1$LinesSpliterator"), (166, .class_ 391), (0, u "java/lang/StringLatin1$CharsSpliterator")] 3

def k12m0 : Method := { name := "<init>", desc := "()V", sig := { parameters := [], returnType := none }, accessFlags := 0, code := none }
/-- java/lang/StringLatin1 -/
def k12 : Class := { plain "java/lang/StringLatin1" (some 0) with
  accessFlags := 48
  interfaces := #[]
  cf := some (fileOf pool12 14 #[.nestMembers #[390, 221]] #[{ accessFlags := 0, nameIndex := 7, descriptorIndex := 8, attributes := #[] }] 48 4 #[] #[{ accessFlags := 4120, nameIndex := 121, descriptorIndex := 122, attributes := #[] }])
  fields := #[{ name := "$assertionsDisabled", type := .boolean, accessFlags := 4120, slot := 0, constantValue := 0 }]
  methods := #[k12m0]
  instanceTypes := #[]
  staticTypes := #[.boolean]
  resolved := Array.replicate 395 none
  statics := none }

def pool13 : Array CpInfo := pool [(2, .class_ 4), (1, u "java/lang/Object"), (0, u "<init>"), (0, u "()V"), (17, .class_ 26), (1, u "jdk/internal/util/Preconditions"), (28, .class_ 56), (0, u "jdk/internal/util/Preconditions$4"), (57, .class_ 115), (0, u "jdk/internal/util/Preconditions$1"), (7, u "SIOOBE_FORMATTER"), (0, u "Ljava/util/function/BiFunction;"), (0, .class_ 126), (0, u "jdk/internal/util/Preconditions$2"), (3, u "AIOOBE_FORMATTER"), (0, .class_ 132), (0, u "jdk/internal/util/Preconditions$3"), (3, u "IOOBE_FORMATTER")] 57

def k13m0 : Method := { name := "<init>", desc := "()V", sig := { parameters := [], returnType := none }, accessFlags := 1, code := none }
/-- jdk/internal/util/Preconditions -/
def k13 : Class := { plain "jdk/internal/util/Preconditions" (some 0) with
  accessFlags := 33
  interfaces := #[]
  cf := some (fileOf pool13 24 #[.nestMembers #[55, 131, 125, 114]] #[{ accessFlags := 1, nameIndex := 5, descriptorIndex := 6, attributes := #[] }] 33 2 #[] #[{ accessFlags := 25, nameIndex := 123, descriptorIndex := 124, attributes := #[] }, { accessFlags := 25, nameIndex := 130, descriptorIndex := 124, attributes := #[] }, { accessFlags := 25, nameIndex := 136, descriptorIndex := 124, attributes := #[] }])
  fields := #[{ name := "SIOOBE_FORMATTER", type := (.object "java/util/function/BiFunction"), accessFlags := 25, slot := 0, constantValue := 0 }, { name := "AIOOBE_FORMATTER", type := (.object "java/util/function/BiFunction"), accessFlags := 25, slot := 1, constantValue := 0 }, { name := "IOOBE_FORMATTER", type := (.object "java/util/function/BiFunction"), accessFlags := 25, slot := 2, constantValue := 0 }]
  methods := #[k13m0]
  instanceTypes := #[]
  staticTypes := #[(.object "java/util/function/BiFunction"), (.object "java/util/function/BiFunction"), (.object "java/util/function/BiFunction")]
  resolved := Array.replicate 194 none
  statics := some 1 }

def pool14 : Array CpInfo := pool [(9, u "<init>"), (6, .class_ 18), (1, u "java/lang/Object"), (0, u "()V"), (1, .class_ 23), (1, u "jdk/internal/util/ArraysSupport"), (0, u "LOG2_ARRAY_LONG_INDEX_SCALE"), (0, u "I"), (2, u "U"), (0, u "Ljdk/internal/misc/Unsafe;"), (8, u "BIG_ENDIAN"), (0, u "Z"), (8, u "LOG2_BYTE_BIT_SIZE"), (4, u "LOG2_ARRAY_INT_INDEX_SCALE"), (54, u "JLA"), (0, u "Ljdk/internal/access/JavaLangAccess;"), (11, u "LOG2_ARRAY_BOOLEAN_INDEX_SCALE"), (9, u "LOG2_ARRAY_BYTE_INDEX_SCALE"), (5, u "LOG2_ARRAY_CHAR_INDEX_SCALE"), (5, u "LOG2_ARRAY_SHORT_INDEX_SCALE"), (18, u "LOG2_ARRAY_FLOAT_INDEX_SCALE"), (24, u "LOG2_ARRAY_DOUBLE_INDEX_SCALE"), (89, u "T_BOOLEAN"), (2, u "T_CHAR"), (1, u "T_FLOAT"), (1, u "T_DOUBLE"), (1, u "T_BYTE"), (1, u "T_SHORT"), (1, u "T_INT"), (1, u "T_LONG"), (1, u "SOFT_MAX_ARRAY_LENGTH")] 83

def k14m0 : Method := { name := "<init>", desc := "()V", sig := { parameters := [], returnType := none }, accessFlags := 2, code := none }
/-- jdk/internal/util/ArraysSupport -/
def k14 : Class := { plain "jdk/internal/util/ArraysSupport" (some 0) with
  accessFlags := 33
  interfaces := #[]
  cf := some (fileOf pool14 21 #[] #[{ accessFlags := 2, nameIndex := 9, descriptorIndex := 19, attributes := #[] }] 33 16 #[] #[{ accessFlags := 24, nameIndex := 28, descriptorIndex := 29, attributes := #[] }, { accessFlags := 26, nameIndex := 38, descriptorIndex := 39, attributes := #[] }, { accessFlags := 25, nameIndex := 121, descriptorIndex := 25, attributes := #[] }, { accessFlags := 25, nameIndex := 131, descriptorIndex := 25, attributes := #[] }, { accessFlags := 25, nameIndex := 137, descriptorIndex := 25, attributes := #[] }, { accessFlags := 25, nameIndex := 143, descriptorIndex := 25, attributes := #[] }, { accessFlags := 25, nameIndex := 53, descriptorIndex := 25, attributes := #[] }, { accessFlags := 25, nameIndex := 24, descriptorIndex := 25, attributes := #[] }, { accessFlags := 25, nameIndex := 162, descriptorIndex := 25, attributes := #[] }, { accessFlags := 25, nameIndex := 187, descriptorIndex := 25, attributes := #[] }, { accessFlags := 26, nameIndex := 48, descriptorIndex := 25, attributes := #[] }, { accessFlags := 25, nameIndex := 277, descriptorIndex := 25, attributes := #[] }, { accessFlags := 25, nameIndex := 280, descriptorIndex := 25, attributes := #[] }, { accessFlags := 25, nameIndex := 282, descriptorIndex := 25, attributes := #[] }, { accessFlags := 25, nameIndex := 284, descriptorIndex := 25, attributes := #[] }, { accessFlags := 25, nameIndex := 286, descriptorIndex := 25, attributes := #[] }, { accessFlags := 25, nameIndex := 288, descriptorIndex := 25, attributes := #[] }, { accessFlags := 25, nameIndex := 290, descriptorIndex := 25, attributes := #[] }, { accessFlags := 25, nameIndex := 292, descriptorIndex := 25, attributes := #[] }, { accessFlags := 26, nameIndex := 108, descriptorIndex := 109, attributes := #[] }, { accessFlags := 25, nameIndex := 294, descriptorIndex := 25, attributes := #[] }])
  fields := #[{ name := "U", type := (.object "jdk/internal/misc/Unsafe"), accessFlags := 24, slot := 0, constantValue := 0 }, { name := "BIG_ENDIAN", type := .boolean, accessFlags := 26, slot := 1, constantValue := 0 }, { name := "LOG2_ARRAY_BOOLEAN_INDEX_SCALE", type := .int, accessFlags := 25, slot := 2, constantValue := 0 }, { name := "LOG2_ARRAY_BYTE_INDEX_SCALE", type := .int, accessFlags := 25, slot := 3, constantValue := 0 }, { name := "LOG2_ARRAY_CHAR_INDEX_SCALE", type := .int, accessFlags := 25, slot := 4, constantValue := 0 }, { name := "LOG2_ARRAY_SHORT_INDEX_SCALE", type := .int, accessFlags := 25, slot := 5, constantValue := 0 }, { name := "LOG2_ARRAY_INT_INDEX_SCALE", type := .int, accessFlags := 25, slot := 6, constantValue := 0 }, { name := "LOG2_ARRAY_LONG_INDEX_SCALE", type := .int, accessFlags := 25, slot := 7, constantValue := 0 }, { name := "LOG2_ARRAY_FLOAT_INDEX_SCALE", type := .int, accessFlags := 25, slot := 8, constantValue := 0 }, { name := "LOG2_ARRAY_DOUBLE_INDEX_SCALE", type := .int, accessFlags := 25, slot := 9, constantValue := 0 }, { name := "LOG2_BYTE_BIT_SIZE", type := .int, accessFlags := 26, slot := 10, constantValue := 0 }, { name := "T_BOOLEAN", type := .int, accessFlags := 25, slot := 11, constantValue := 0 }, { name := "T_CHAR", type := .int, accessFlags := 25, slot := 12, constantValue := 0 }, { name := "T_FLOAT", type := .int, accessFlags := 25, slot := 13, constantValue := 0 }, { name := "T_DOUBLE", type := .int, accessFlags := 25, slot := 14, constantValue := 0 }, { name := "T_BYTE", type := .int, accessFlags := 25, slot := 15, constantValue := 0 }, { name := "T_SHORT", type := .int, accessFlags := 25, slot := 16, constantValue := 0 }, { name := "T_INT", type := .int, accessFlags := 25, slot := 17, constantValue := 0 }, { name := "T_LONG", type := .int, accessFlags := 25, slot := 18, constantValue := 0 }, { name := "JLA", type := (.object "jdk/internal/access/JavaLangAccess"), accessFlags := 26, slot := 19, constantValue := 0 }, { name := "SOFT_MAX_ARRAY_LENGTH", type := .int, accessFlags := 25, slot := 20, constantValue := 0 }]
  methods := #[k14m0]
  instanceTypes := #[]
  staticTypes := #[(.object "jdk/internal/misc/Unsafe"), .boolean, .int, .int, .int, .int, .int, .int, .int, .int, .int, .int, .int, .int, .int, .int, .int, .int, .int, (.object "jdk/internal/access/JavaLangAccess"), .int]
  resolved := Array.replicate 378 none
  statics := none }

def pool15 : Array CpInfo := pool [(1, u "java/lang/Cloneable"), (0, .class_ 1), (0, u "java/lang/Object"), (0, .class_ 3)] 3

/-- java/lang/Cloneable -/
def k15 : Class := { plain "java/lang/Cloneable" (some 0) with
  accessFlags := 1537
  interfaces := #[]
  cf := some (fileOf pool15 2 #[] #[] 1537 4 #[] #[])
  fields := #[]
  methods := #[]
  instanceTypes := #[]
  staticTypes := #[]
  resolved := Array.replicate 8 none
  statics := none }

/-- the primitive byte -/
def k16 : Class := { plain "byte" none with kind := .primitive 'B', accessFlags := 0x411 }
/-- [B -/
def k17 : Class := { plain "[B" (some 0) with kind := .array 16 .byte, interfaces := #[15, 2], accessFlags := 1041 }

/-- the primitive char -/
def k18 : Class := { plain "char" none with kind := .primitive 'C', accessFlags := 0x411 }
/-- [C -/
def k19 : Class := { plain "[C" (some 0) with kind := .array 18 .char, interfaces := #[15, 2], accessFlags := 1041 }

/-- the primitive int -/
def k20 : Class := { plain "int" none with kind := .primitive 'I', accessFlags := 0x411 }
/-- [I -/
def k21 : Class := { plain "[I" (some 0) with kind := .array 20 .int, interfaces := #[15, 2], accessFlags := 1041 }

def heap : Heap := #[{ cls := 7, slots := #[.long 0, .int 1, .null, .int 0, .null, .int 0, .int 0], vm := .statics 7 },
  { cls := 13, slots := #[.null, .null, .null], vm := .statics 13 }]
def classes : Array Class := #[k0, k1, k2, k3, k4, k5, k6, k7, k8, k9, k10, k11, k12, k13, k14, k15, k16, k17, k18, k19, k20, k21]
def interned : List (Array UInt16 × Addr) := []
def slotsUsed : Nat := 10
def theMethod : MethodId := ⟨1, 2⟩
def args0 : Array Value := #[.int 15, .int 7, .int 6, .int 5, .int 5]
def aboutOver (below : List Frame) : State where
  vm := { classes := classes, interned := interned.toArray }
  heap := heap
  slotsUsed := slotsUsed
  threads := #[{ frames := .invoking theMethod args0 :: below }]
def below0 : List Frame := [.native { method := ⟨0, 0⟩, args := #[] }]
def about1 : State := aboutOver below0
def p0 : Program := .bare "" "" ""
def e0 : Env := launch0.env 0 0 0
theorem w_frames : about1.frames = Frame.invoking theMethod args0 :: below0 := rfl
set_option maxRecDepth 65536 in
theorem w_args : argsFit about1.vm theMethod args0 = true := by decide +kernel
set_option maxRecDepth 65536 in
theorem w_heap : heapFits about1 = true := by decide +kernel
set_option maxRecDepth 65536 in
theorem w_runnable : about1.curStatus? = some .runnable := by decide +kernel
set_option maxRecDepth 65536 in
theorem w_alone : about1.alone = true := by decide +kernel
set_option maxRecDepth 65536 in
theorem w_named : about1.methodNamed? x = some theMethod := by decide +kernel
set_option maxRecDepth 65536 in
theorem w_hears : about1.hears theMethod below0 = true := by decide +kernel
set_option maxRecDepth 65536 in
theorem w_ripe : about1.ripe theMethod args0 below0 = true := by decide +kernel
theorem w_running : about1.status = .running := rfl
set_option maxRecDepth 65536 in
theorem w_room : about1.hasRoom e0.platform room_1 = true :=
  launch0.hasRoom_least _ room_1 (by decide +kernel) (by decide +kernel) (by decide +kernel) (by decide +kernel) (by decide +kernel) (by decide +kernel)
theorem allAtoms_all (ts : List Jvm.Cond) (a : Array Jvm.Value) (st : Jvm.State) : (allAtoms ts).before a st = ts.all (fun c => c.before a st) := by
  induction ts with
  | nil => rfl
  | cons c t ih =>
    show (Jvm.Cond.and c (allAtoms t)).before a st = _
    rw [Jvm.Cond.before_and, ih, List.all_cons]
def words1 : List Jvm.Cond := Jvm.Cond.code x code maxLocals ret :: tables_1
/-- a 'code' word, met by the world's own term for the bytes: nothing is compared byte by byte -/
theorem code_word {y : MethodName} {bytes : ByteArray} {mx : Nat} {rt : Option FieldType} {a : Array Value} {s : State} {m : MethodId} {meth : Method} {c : Code} (h1 : s.methodNamed? y = some m) (h2 : s.vm.method? m = some meth) (h3 : meth.code = some c) (h4 : c.code = bytes)
    (h5 : (c.maxLocals == mx && c.exceptionTable.isEmpty && decide (c.maxStack ≤ mostOperands) && decide (meth.sig.returnType = rt) && !meth.locks && decide (parseMethodDescriptor y.desc = some meth.sig)) = true) : (Jvm.Cond.code y bytes mx rt).before a s = true := by
  simp only [Bool.and_eq_true, beq_iff_eq, Bool.not_eq_true', decide_eq_true_eq] at h5
  obtain ⟨⟨⟨⟨⟨g1, g2⟩, g3⟩, g4⟩, g5⟩, g6⟩ := h5
  simp [Cond.before, Cond.holds, Cond.value, h1, h2, h3, h4, g1, g2, g3, g4, g5, g6]
def isCode : Jvm.Cond → Bool
  | .code _ _ _ _ => true
  | _ => false
theorem all_split {L : List Jvm.Cond} {P : Jvm.Cond → Bool} (h1 : L.all (fun c => isCode c || P c) = true) (h2 : ∀ c ∈ L.filter isCode, P c = true) : L.all P = true := by
  refine List.all_eq_true.mpr fun c hc => ?_
  have h := List.all_eq_true.mp h1 c hc
  rcases Bool.eq_false_or_eq_true (isCode c) with hi | hi
  · exact h2 c (List.mem_filter.mpr ⟨hc, hi⟩)
  · simpa [hi] using h
set_option maxRecDepth 65536 in
theorem w_c0 : (Jvm.Cond.code x code maxLocals ret).before args0 about1 = true := code_word (m := ⟨1, 2⟩) (meth := k1m2) (c := k1c2) (by decide +kernel) rfl rfl rfl (by decide +kernel)
set_option maxRecDepth 65536 in
theorem w_c1 : (Jvm.Cond.code ({ cls := "com/example/motley/motley/bench/DigestEqualsPinLaw", name := "str", desc := "(II)Ljava/lang/String;" } : Jvm.MethodName) method_2_code (5 : Nat) (Option.some (Jvm.ClassFile.FieldType.object "java/lang/String"))).before args0 about1 = true := code_word (m := ⟨1, 1⟩) (meth := k1m1) (c := k1c1) (by decide +kernel) rfl rfl rfl (by decide +kernel)
set_option maxRecDepth 65536 in
theorem w_c2 : (Jvm.Cond.code ({ cls := "java/lang/String", name := "<init>", desc := "([C)V" } : Jvm.MethodName) jdk_42_method_3_code (2 : Nat) (Option.none : Option Jvm.ClassFile.FieldType)).before args0 about1 = true := code_word (m := ⟨7, 1⟩) (meth := k7m1) (c := k7c1) (by decide +kernel) rfl rfl rfl (by decide +kernel)
set_option maxRecDepth 65536 in
theorem w_c3 : (Jvm.Cond.code ({ cls := "java/lang/String", name := "<init>", desc := "([CIILjava/lang/Void;)V" } : Jvm.MethodName) jdk_42_method_149_code (6 : Nat) (Option.none : Option Jvm.ClassFile.FieldType)).before args0 about1 = true := code_word (m := ⟨7, 3⟩) (meth := k7m3) (c := k7c3) (by decide +kernel) rfl rfl rfl (by decide +kernel)
set_option maxRecDepth 65536 in
theorem w_c4 : (Jvm.Cond.code ({ cls := "java/lang/Object", name := "<init>", desc := "()V" } : Jvm.MethodName) object_method_1_code (1 : Nat) (Option.none : Option Jvm.ClassFile.FieldType)).before args0 about1 = true := code_word (m := ⟨0, 0⟩) (meth := k0m0) (c := k0c0) (by decide +kernel) rfl rfl rfl (by decide +kernel)
set_option maxRecDepth 65536 in
theorem w_c5 : (Jvm.Cond.code ({ cls := "java/lang/StringUTF16", name := "compress", desc := "([CII)[B" } : Jvm.MethodName) jdk_52_method_16_code (6 : Nat) (Option.some (Jvm.ClassFile.FieldType.array Jvm.ClassFile.FieldType.byte))).before args0 about1 = true := code_word (m := ⟨8, 2⟩) (meth := k8m2) (c := k8c2) (by decide +kernel) rfl rfl rfl (by decide +kernel)
set_option maxRecDepth 65536 in
theorem w_c6 : (Jvm.Cond.code ({ cls := "java/lang/StringUTF16", name := "compress", desc := "([CI[BII)I" } : Jvm.MethodName) jdk_52_method_21_code (7 : Nat) (Option.some Jvm.ClassFile.FieldType.int)).before args0 about1 = true := code_word (m := ⟨8, 3⟩) (meth := k8m3) (c := k8c3) (by decide +kernel) rfl rfl rfl (by decide +kernel)
set_option maxRecDepth 65536 in
theorem w_c7 : (Jvm.Cond.code ({ cls := "java/lang/StringUTF16", name := "coderFromArrayLen", desc := "([BI)B" } : Jvm.MethodName) jdk_52_method_15_code (2 : Nat) (Option.some Jvm.ClassFile.FieldType.byte)).before args0 about1 = true := code_word (m := ⟨8, 1⟩) (meth := k8m1) (c := k8c1) (by decide +kernel) rfl rfl rfl (by decide +kernel)
set_option maxRecDepth 65536 in
theorem w_c8 : (Jvm.Cond.code ({ cls := "com/example/motley/motley/bench/Digest", name := "<init>", desc := "()V" } : Jvm.MethodName) prog_20_method_1_code (1 : Nat) (Option.none : Option Jvm.ClassFile.FieldType)).before args0 about1 = true := code_word (m := ⟨9, 0⟩) (meth := k9m0) (c := k9c0) (by decide +kernel) rfl rfl rfl (by decide +kernel)
set_option maxRecDepth 65536 in
theorem w_c9 : (Jvm.Cond.code ({ cls := "com/example/motley/motley/bench/Digest", name := "equals", desc := "(Ljava/lang/Object;)Z" } : Jvm.MethodName) prog_20_method_6_code (3 : Nat) (Option.some Jvm.ClassFile.FieldType.boolean)).before args0 about1 = true := code_word (m := ⟨9, 3⟩) (meth := k9m3) (c := k9c3) (by decide +kernel) rfl rfl rfl (by decide +kernel)
set_option maxRecDepth 65536 in
theorem w_c10 : (Jvm.Cond.code ({ cls := "com/example/motley/motley/bench/Digest", name := "text", desc := "(Ljava/lang/String;)V" } : Jvm.MethodName) prog_20_method_2_code (2 : Nat) (Option.none : Option Jvm.ClassFile.FieldType)).before args0 about1 = true := code_word (m := ⟨9, 1⟩) (meth := k9m1) (c := k9c1) (by decide +kernel) rfl rfl rfl (by decide +kernel)
set_option maxRecDepth 65536 in
theorem w_c11 : (Jvm.Cond.code ({ cls := "java/lang/String", name := "length", desc := "()I" } : Jvm.MethodName) jdk_42_method_54_code (1 : Nat) (Option.some Jvm.ClassFile.FieldType.int)).before args0 about1 = true := code_word (m := ⟨7, 2⟩) (meth := k7m2) (c := k7c2) (by decide +kernel) rfl rfl rfl (by decide +kernel)
set_option maxRecDepth 65536 in
theorem w_c12 : (Jvm.Cond.code ({ cls := "java/lang/String", name := "coder", desc := "()B" } : Jvm.MethodName) jdk_42_method_152_code (1 : Nat) (Option.some Jvm.ClassFile.FieldType.byte)).before args0 about1 = true := code_word (m := ⟨7, 4⟩) (meth := k7m4) (c := k7c4) (by decide +kernel) rfl rfl rfl (by decide +kernel)
set_option maxRecDepth 65536 in
theorem w_c13 : (Jvm.Cond.code ({ cls := "com/example/motley/motley/bench/Digest", name := "real", desc := "(D)V" } : Jvm.MethodName) prog_20_method_3_code (3 : Nat) (Option.none : Option Jvm.ClassFile.FieldType)).before args0 about1 = true := code_word (m := ⟨9, 2⟩) (meth := k9m2) (c := k9c2) (by decide +kernel) rfl rfl rfl (by decide +kernel)
def codes1 : List Jvm.Cond := [Jvm.Cond.code x code maxLocals ret, Jvm.Cond.code ({ cls := "com/example/motley/motley/bench/DigestEqualsPinLaw", name := "str", desc := "(II)Ljava/lang/String;" } : Jvm.MethodName) method_2_code (5 : Nat) (Option.some (Jvm.ClassFile.FieldType.object "java/lang/String")), Jvm.Cond.code ({ cls := "java/lang/String", name := "<init>", desc := "([C)V" } : Jvm.MethodName) jdk_42_method_3_code (2 : Nat) (Option.none : Option Jvm.ClassFile.FieldType), Jvm.Cond.code ({ cls := "java/lang/String", name := "<init>", desc := "([CIILjava/lang/Void;)V" } : Jvm.MethodName) jdk_42_method_149_code (6 : Nat) (Option.none : Option Jvm.ClassFile.FieldType), Jvm.Cond.code ({ cls := "java/lang/Object", name := "<init>", desc := "()V" } : Jvm.MethodName) object_method_1_code (1 : Nat) (Option.none : Option Jvm.ClassFile.FieldType), Jvm.Cond.code ({ cls := "java/lang/StringUTF16", name := "compress", desc := "([CII)[B" } : Jvm.MethodName) jdk_52_method_16_code (6 : Nat) (Option.some (Jvm.ClassFile.FieldType.array Jvm.ClassFile.FieldType.byte)), Jvm.Cond.code ({ cls := "java/lang/StringUTF16", name := "compress", desc := "([CI[BII)I" } : Jvm.MethodName) jdk_52_method_21_code (7 : Nat) (Option.some Jvm.ClassFile.FieldType.int), Jvm.Cond.code ({ cls := "java/lang/StringUTF16", name := "coderFromArrayLen", desc := "([BI)B" } : Jvm.MethodName) jdk_52_method_15_code (2 : Nat) (Option.some Jvm.ClassFile.FieldType.byte), Jvm.Cond.code ({ cls := "com/example/motley/motley/bench/Digest", name := "<init>", desc := "()V" } : Jvm.MethodName) prog_20_method_1_code (1 : Nat) (Option.none : Option Jvm.ClassFile.FieldType), Jvm.Cond.code ({ cls := "com/example/motley/motley/bench/Digest", name := "equals", desc := "(Ljava/lang/Object;)Z" } : Jvm.MethodName) prog_20_method_6_code (3 : Nat) (Option.some Jvm.ClassFile.FieldType.boolean), Jvm.Cond.code ({ cls := "com/example/motley/motley/bench/Digest", name := "text", desc := "(Ljava/lang/String;)V" } : Jvm.MethodName) prog_20_method_2_code (2 : Nat) (Option.none : Option Jvm.ClassFile.FieldType), Jvm.Cond.code ({ cls := "java/lang/String", name := "length", desc := "()I" } : Jvm.MethodName) jdk_42_method_54_code (1 : Nat) (Option.some Jvm.ClassFile.FieldType.int), Jvm.Cond.code ({ cls := "java/lang/String", name := "coder", desc := "()B" } : Jvm.MethodName) jdk_42_method_152_code (1 : Nat) (Option.some Jvm.ClassFile.FieldType.byte), Jvm.Cond.code ({ cls := "com/example/motley/motley/bench/Digest", name := "real", desc := "(D)V" } : Jvm.MethodName) prog_20_method_3_code (3 : Nat) (Option.none : Option Jvm.ClassFile.FieldType)]
set_option maxRecDepth 65536 in
theorem codes_eq : words1.filter isCode = codes1 := rfl
theorem w_codes : ∀ c ∈ words1.filter isCode, c.before args0 about1 = true := by
  rw [codes_eq]
  intro c hc
  simp only [codes1, List.mem_cons, List.not_mem_nil, or_false] at hc
  rcases hc with rfl | rfl | rfl | rfl | rfl | rfl | rfl | rfl | rfl | rfl | rfl | rfl | rfl | rfl
  · exact w_c0
  · exact w_c1
  · exact w_c2
  · exact w_c3
  · exact w_c4
  · exact w_c5
  · exact w_c6
  · exact w_c7
  · exact w_c8
  · exact w_c9
  · exact w_c10
  · exact w_c11
  · exact w_c12
  · exact w_c13
set_option maxRecDepth 65536 in
theorem w_t1 : (words1.take 24).all (fun c => isCode c || c.before args0 about1) = true := by decide +kernel
set_option maxRecDepth 65536 in
theorem w_t2 : ((words1.drop 24).take 24).all (fun c => isCode c || c.before args0 about1) = true := by decide +kernel
set_option maxRecDepth 65536 in
theorem w_t3 : (((words1.drop 24).drop 24).take 24).all (fun c => isCode c || c.before args0 about1) = true := by decide +kernel
set_option maxRecDepth 65536 in
theorem w_t4 : (((words1.drop 24).drop 24).drop 24).all (fun c => isCode c || c.before args0 about1) = true := by decide +kernel
theorem w_tables : (allAtoms (Jvm.Cond.code x code maxLocals ret :: tables_1)).before args0 about1 = true := by
  rw [allAtoms_all]
  show words1.all (fun c => c.before args0 about1) = true
  refine all_split ?_ w_codes
  rw [← List.take_append_drop 24 words1, List.all_append, w_t1, ← List.take_append_drop 24 (words1.drop 24), List.all_append, w_t2, ← List.take_append_drop 24 ((words1.drop 24).drop 24), List.all_append, w_t3, w_t4]
  rfl
set_option maxRecDepth 65536 in
theorem w_rest : rest_1_c.before args0 about1 = true := by decide +kernel
set_option maxRecDepth 65536 in
theorem w_case : (Jvm.Cond.and given_1 narrow_1).before args0 about1 = true := by decide +kernel
set_option maxRecDepth 65536 in
theorem w_consts : constsHeld consts_1 about1 := Jvm.Lit.constsHeldB_iff.mp (by decide +kernel)
theorem w_applies : (headSpec (Jvm.Cond.code x code maxLocals ret :: tables_1) room_1).applies x e0.platform about1 = true :=
  (Spec.applies_iff w_frames).mpr ⟨w_running, w_runnable, w_alone, w_named, w_hears, w_ripe, w_room, w_tables⟩
theorem atStart : AtStart classFile x code maxLocals ret World_1 tables_1 room_1 Calls_1 rest_1 Pre_1 launch0 p0 e0 about1 theMethod args0 below0 :=
  ⟨lists_1, trivial, launch0.admits_env _ _ _, launch0.least_env, fairChoices_fair.cas, fairChoices_fair.clock, w_frames, w_args, w_heap, w_applies, ⟨w_consts, trivial⟩, w_rest, w_case⟩
end start1
theorem witness_1 : WitnessClaimed_1 := ⟨start1.p0, start1.e0, start1.about1, start1.theMethod, start1.args0, start1.below0, start1.atStart⟩
end Jvm.Pilot.@@N@@
