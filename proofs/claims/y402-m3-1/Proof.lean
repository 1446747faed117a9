import JvmDerived
import JvmDerived.Pilot.@@N@@Statement
import JvmDerived.Pilot.@@N@@Code
set_option linter.unusedVariables false
set_option linter.unusedSimpArgs false

namespace Jvm.Own
open Sem ClassFile Op Lib Jvm.Stand Jvm.Free Jvm.LawKit Jvm.RoadKit
/-- the walk stands in a method whose bytes are 'code' -/
def Hr (tb : Tables) (below : List Frame) (T : State) (m : MethodId) (c : Code) (code : ByteArray) : Prop := At T m c below ∧ tb.exec = Jvm.exec ∧ c.code = code
def ushr (x y : Int32) : Int32 := (x.toUInt32 >>> (y &&& 31).toUInt32).toInt32
def ushrL (x : Int64) (y : Int32) : Int64 := (x.toUInt64 >>> (y &&& 0x3f).toInt64.toUInt64).toInt64
def shlL (x : Int64) (y : Int32) : Int64 := x <<< (y &&& 0x3f).toInt64
def shrL (x : Int64) (y : Int32) : Int64 := x >>> (y &&& 0x3f).toInt64
def toC (x : Int32) : Int32 := x.toUInt32.toUInt16.toUInt32.toInt32
def lcmpV (x y : Int64) : Int32 := if x > y then 1 else if x = y then 0 else -1
def dcmpV (x y : UInt64) (o : CmpOp) : Int32 := cmpValue (FP.dcmp x y) o
theorem lrem_mod (x y : Int64) : x - (x / y) * y = x % y := by
  apply Int64.toInt_inj.mp
  have h1 := Int64.le_toInt (x % y)
  have h2 := Int64.toInt_lt (x % y)
  rw [Int64.toInt_sub, Int64.toInt_mul, Int64.toInt_div, Int.bmod_mul_bmod, Int.sub_bmod_bmod, Int.mul_comm (x.toInt.tdiv y.toInt), ← Int.tmod_def, ← Int64.toInt_mod]
  exact Int.bmod_eq_of_le_mul_two (by omega) (by omega)
section Steps
variable {tb : Tables} [Ours tb] {e : Env} {below : List Frame} {T t : State} {m : MethodId} {c : Code} {code : ByteArray} {pc : Nat} {ls : Array Slot} {st : List Value}
theorem w_iload (H : Hr tb below T m c code) {k : Nat} {v : Int32} (hd : decode code pc = .ok (.iload k, 2)) (pc' : Nat) (hp : pc + 2 = pc') (hl : ls[k]? = some (.val (.int v))) (K : Steps tb e below (T.setTop (mkF m pc' ls (.int v :: st))) t) : Steps tb e below (T.setTop (mkF m pc ls (st))) t := by
  subst hp; obtain ⟨h, hx, rfl⟩ := H
  exact XS.iload h hx rfl hd hl K
theorem w_iloadN (H : Hr tb below T m c code) {k : Fin 4} {v : Int32} (hd : decode code pc = .ok (.iload_n k, 1)) (pc' : Nat) (hp : pc + 1 = pc') (hl : ls[k.val]? = some (.val (.int v))) (K : Steps tb e below (T.setTop (mkF m pc' ls (.int v :: st))) t) : Steps tb e below (T.setTop (mkF m pc ls (st))) t := by
  subst hp; obtain ⟨h, hx, rfl⟩ := H
  exact XS.iloadN h hx rfl hd hl K
theorem w_istore (H : Hr tb below T m c code) {k : Nat} {x : Int32} {l' : Array Slot} (hd : decode code pc = .ok (.istore k, 2)) (pc' : Nat) (hp : pc + 2 = pc') (hl : storeLocals ls k (.int x) = some l') (K : Steps tb e below (T.setTop (mkF m pc' l' (st))) t) : Steps tb e below (T.setTop (mkF m pc ls (.int x :: st))) t := by
  subst hp; obtain ⟨h, hx, rfl⟩ := H
  exact XS.istore h hx rfl hd rfl hl K
theorem w_istoreN (H : Hr tb below T m c code) {k : Fin 4} {x : Int32} {l' : Array Slot} (hd : decode code pc = .ok (.istore_n k, 1)) (pc' : Nat) (hp : pc + 1 = pc') (hl : storeLocals ls k.val (.int x) = some l') (K : Steps tb e below (T.setTop (mkF m pc' l' (st))) t) : Steps tb e below (T.setTop (mkF m pc ls (.int x :: st))) t := by
  subst hp; obtain ⟨h, hx, rfl⟩ := H
  exact XS.istoreN h hx rfl hd rfl hl K
theorem w_lload (H : Hr tb below T m c code) {k : Nat} {v : Int64} (hd : decode code pc = .ok (.lload k, 2)) (pc' : Nat) (hp : pc + 2 = pc') (hl : ls[k]? = some (.val (.long v))) (K : Steps tb e below (T.setTop (mkF m pc' ls (.long v :: st))) t) : Steps tb e below (T.setTop (mkF m pc ls (st))) t := by
  subst hp; obtain ⟨h, hx, rfl⟩ := H
  exact XS.lload h hx rfl hd hl K
theorem w_lloadN (H : Hr tb below T m c code) {k : Fin 4} {v : Int64} (hd : decode code pc = .ok (.lload_n k, 1)) (pc' : Nat) (hp : pc + 1 = pc') (hl : ls[k.val]? = some (.val (.long v))) (K : Steps tb e below (T.setTop (mkF m pc' ls (.long v :: st))) t) : Steps tb e below (T.setTop (mkF m pc ls (st))) t := by
  subst hp; obtain ⟨h, hx, rfl⟩ := H
  exact XS.lloadN h hx rfl hd hl K
theorem w_lstore (H : Hr tb below T m c code) {k : Nat} {x : Int64} {l' : Array Slot} (hd : decode code pc = .ok (.lstore k, 2)) (pc' : Nat) (hp : pc + 2 = pc') (hl : storeLocals ls k (.long x) = some l') (K : Steps tb e below (T.setTop (mkF m pc' l' (st))) t) : Steps tb e below (T.setTop (mkF m pc ls (.long x :: st))) t := by
  subst hp; obtain ⟨h, hx, rfl⟩ := H
  exact XS.lstore h hx rfl hd rfl hl K
theorem w_lstoreN (H : Hr tb below T m c code) {k : Fin 4} {x : Int64} {l' : Array Slot} (hd : decode code pc = .ok (.lstore_n k, 1)) (pc' : Nat) (hp : pc + 1 = pc') (hl : storeLocals ls k.val (.long x) = some l') (K : Steps tb e below (T.setTop (mkF m pc' l' (st))) t) : Steps tb e below (T.setTop (mkF m pc ls (.long x :: st))) t := by
  subst hp; obtain ⟨h, hx, rfl⟩ := H
  exact XS.lstoreN h hx rfl hd rfl hl K
theorem w_dload (H : Hr tb below T m c code) {k : Nat} {v : UInt64} (hd : decode code pc = .ok (.dload k, 2)) (pc' : Nat) (hp : pc + 2 = pc') (hl : ls[k]? = some (.val (.double v))) (K : Steps tb e below (T.setTop (mkF m pc' ls (.double v :: st))) t) : Steps tb e below (T.setTop (mkF m pc ls (st))) t := by
  subst hp; obtain ⟨h, hx, rfl⟩ := H
  show Steps tb e below (T.setTop { method := m, pc := pc, locals := ls, stack := st, locked := none }) _
  jvm_step h [h.top, hx, hd, hl]
  exact K
theorem w_dloadN (H : Hr tb below T m c code) {k : Fin 4} {v : UInt64} (hd : decode code pc = .ok (.dload_n k, 1)) (pc' : Nat) (hp : pc + 1 = pc') (hl : ls[k.val]? = some (.val (.double v))) (K : Steps tb e below (T.setTop (mkF m pc' ls (.double v :: st))) t) : Steps tb e below (T.setTop (mkF m pc ls (st))) t := by
  subst hp; obtain ⟨h, hx, rfl⟩ := H
  show Steps tb e below (T.setTop { method := m, pc := pc, locals := ls, stack := st, locked := none }) _
  jvm_step h [h.top, hx, hd, hl]
  exact K
theorem w_dstore (H : Hr tb below T m c code) {k : Nat} {x : UInt64} {l' : Array Slot} (hd : decode code pc = .ok (.dstore k, 2)) (pc' : Nat) (hp : pc + 2 = pc') (hl : storeLocals ls k (.double x) = some l') (K : Steps tb e below (T.setTop (mkF m pc' l' (st))) t) : Steps tb e below (T.setTop (mkF m pc ls (.double x :: st))) t := by
  subst hp; obtain ⟨h, hx, rfl⟩ := H
  show Steps tb e below (T.setTop { method := m, pc := pc, locals := ls, stack := .double x :: st, locked := none }) _
  jvm_step h [h.top, hx, hd, hl]
  exact K
theorem w_dstoreN (H : Hr tb below T m c code) {k : Fin 4} {x : UInt64} {l' : Array Slot} (hd : decode code pc = .ok (.dstore_n k, 1)) (pc' : Nat) (hp : pc + 1 = pc') (hl : storeLocals ls k.val (.double x) = some l') (K : Steps tb e below (T.setTop (mkF m pc' l' (st))) t) : Steps tb e below (T.setTop (mkF m pc ls (.double x :: st))) t := by
  subst hp; obtain ⟨h, hx, rfl⟩ := H
  show Steps tb e below (T.setTop { method := m, pc := pc, locals := ls, stack := .double x :: st, locked := none }) _
  jvm_step h [h.top, hx, hd, hl]
  exact K
theorem w_aload (H : Hr tb below T m c code) {k : Nat} {v : Value} (hd : decode code pc = .ok (.aload k, 2)) (pc' : Nat) (hp : pc + 2 = pc') (hl : ls[k]? = some (.val v)) (hv : v.isRef = true) (K : Steps tb e below (T.setTop (mkF m pc' ls (v :: st))) t) : Steps tb e below (T.setTop (mkF m pc ls (st))) t := by
  subst hp; obtain ⟨h, hx, rfl⟩ := H
  exact XS.aload h hx rfl hd hl hv K
theorem w_aloadN (H : Hr tb below T m c code) {k : Fin 4} {v : Value} (hd : decode code pc = .ok (.aload_n k, 1)) (pc' : Nat) (hp : pc + 1 = pc') (hl : ls[k.val]? = some (.val v)) (hv : v.isRef = true) (K : Steps tb e below (T.setTop (mkF m pc' ls (v :: st))) t) : Steps tb e below (T.setTop (mkF m pc ls (st))) t := by
  subst hp; obtain ⟨h, hx, rfl⟩ := H
  exact XS.aloadN h hx rfl hd hl hv K
theorem w_astore (H : Hr tb below T m c code) {k : Nat} {x : Value} {l' : Array Slot} (hd : decode code pc = .ok (.astore k, 2)) (pc' : Nat) (hp : pc + 2 = pc') (hv : x.isRef = true) (hl : storeLocals ls k x = some l') (K : Steps tb e below (T.setTop (mkF m pc' l' (st))) t) : Steps tb e below (T.setTop (mkF m pc ls (x :: st))) t := by
  subst hp; obtain ⟨h, hx, rfl⟩ := H
  exact XS.astore h hx rfl hd rfl hv hl K
theorem w_astoreN (H : Hr tb below T m c code) {k : Fin 4} {x : Value} {l' : Array Slot} (hd : decode code pc = .ok (.astore_n k, 1)) (pc' : Nat) (hp : pc + 1 = pc') (hv : x.isRef = true) (hl : storeLocals ls k.val x = some l') (K : Steps tb e below (T.setTop (mkF m pc' l' (st))) t) : Steps tb e below (T.setTop (mkF m pc ls (x :: st))) t := by
  subst hp; obtain ⟨h, hx, rfl⟩ := H
  exact XS.astoreN h hx rfl hd rfl hv hl K
theorem w_iinc (H : Hr tb below T m c code) {k : Nat} {cst : Int} {x z : Int32} {l' : Array Slot} (hd : decode code pc = .ok (.iinc k cst, 3)) (pc' : Nat) (hp : pc + 3 = pc') (hl : ls[k]? = some (.val (.int x))) (hz : x + Int32.ofInt cst = z) (hl' : storeLocals ls k (.int z) = some l') (K : Steps tb e below (T.setTop (mkF m pc' l' (st))) t) : Steps tb e below (T.setTop (mkF m pc ls (st))) t := by
  subst hp; obtain ⟨h, hx, rfl⟩ := H
  subst hz; exact XS.iinc h hx rfl hd hl hl' K
theorem w_iconst (H : Hr tb below T m c code) {i : Int} {z : Int32} (hd : decode code pc = .ok (.iconst i, 1)) (pc' : Nat) (hp : pc + 1 = pc') (hz : Int32.ofInt i = z) (K : Steps tb e below (T.setTop (mkF m pc' ls (.int z :: st))) t) : Steps tb e below (T.setTop (mkF m pc ls (st))) t := by
  subst hp; obtain ⟨h, hx, rfl⟩ := H
  subst hz; exact XS.iconst h hx rfl hd K
theorem w_bipush (H : Hr tb below T m c code) {i : Int} {z : Int32} (hd : decode code pc = .ok (.bipush i, 2)) (pc' : Nat) (hp : pc + 2 = pc') (hz : (Int8.ofInt i).toInt32 = z) (K : Steps tb e below (T.setTop (mkF m pc' ls (.int z :: st))) t) : Steps tb e below (T.setTop (mkF m pc ls (st))) t := by
  subst hp; obtain ⟨h, hx, rfl⟩ := H
  subst hz; exact XS.bipush h hx rfl hd K
theorem w_sipush (H : Hr tb below T m c code) {i : Int} {z : Int32} (hd : decode code pc = .ok (.sipush i, 3)) (pc' : Nat) (hp : pc + 3 = pc') (hz : (Int16.ofInt i).toInt32 = z) (K : Steps tb e below (T.setTop (mkF m pc' ls (.int z :: st))) t) : Steps tb e below (T.setTop (mkF m pc ls (st))) t := by
  subst hp; obtain ⟨h, hx, rfl⟩ := H
  subst hz; exact XS.sipush h hx rfl hd K
theorem w_lconst (H : Hr tb below T m c code) {k : Fin 2} {z : Int64} (hd : decode code pc = .ok (.lconst k, 1)) (pc' : Nat) (hp : pc + 1 = pc') (hz : Int64.ofNat k = z) (K : Steps tb e below (T.setTop (mkF m pc' ls (.long z :: st))) t) : Steps tb e below (T.setTop (mkF m pc ls (st))) t := by
  subst hp; obtain ⟨h, hx, rfl⟩ := H
  subst hz; exact XS.lconst h hx rfl hd K
theorem w_dconst0 (H : Hr tb below T m c code) (hd : decode code pc = .ok (.dconst 0, 1)) (pc' : Nat) (hp : pc + 1 = pc') (K : Steps tb e below (T.setTop (mkF m pc' ls (.double FP.dconst0 :: st))) t) : Steps tb e below (T.setTop (mkF m pc ls (st))) t := by
  subst hp; obtain ⟨h, hx, rfl⟩ := H
  show Steps tb e below (T.setTop { method := m, pc := pc, locals := ls, stack := st, locked := none }) _
  jvm_step h [h.top, hx, hd]
  exact K
theorem w_dconst1 (H : Hr tb below T m c code) (hd : decode code pc = .ok (.dconst 1, 1)) (pc' : Nat) (hp : pc + 1 = pc') (K : Steps tb e below (T.setTop (mkF m pc' ls (.double FP.dconst1 :: st))) t) : Steps tb e below (T.setTop (mkF m pc ls (st))) t := by
  subst hp; obtain ⟨h, hx, rfl⟩ := H
  show Steps tb e below (T.setTop { method := m, pc := pc, locals := ls, stack := st, locked := none }) _
  jvm_step h [h.top, hx, hd]
  exact K
theorem w_aconstNull (H : Hr tb below T m c code) (hd : decode code pc = .ok (.aconst_null, 1)) (pc' : Nat) (hp : pc + 1 = pc') (K : Steps tb e below (T.setTop (mkF m pc' ls (.null :: st))) t) : Steps tb e below (T.setTop (mkF m pc ls (st))) t := by
  subst hp; obtain ⟨h, hx, rfl⟩ := H
  exact XS.aconstNull h hx rfl hd K
theorem w_dup (H : Hr tb below T m c code) {x : Value} (hd : decode code pc = .ok (.dup, 1)) (pc' : Nat) (hp : pc + 1 = pc') (hc : x.category = 1) (K : Steps tb e below (T.setTop (mkF m pc' ls (x :: x :: st))) t) : Steps tb e below (T.setTop (mkF m pc ls (x :: st))) t := by
  subst hp; obtain ⟨h, hx, rfl⟩ := H
  exact XS.dup h hx rfl hd rfl hc K
theorem w_iadd (H : Hr tb below T m c code) {x y : Int32} (hd : decode code pc = .ok (.iadd, 1)) (pc' : Nat) (hp : pc + 1 = pc') (K : Steps tb e below (T.setTop (mkF m pc' ls (.int (x + y) :: st))) t) : Steps tb e below (T.setTop (mkF m pc ls (.int y :: .int x :: st))) t := by
  subst hp; obtain ⟨h, hx, rfl⟩ := H
  exact XS.iadd h hx rfl hd rfl K
theorem w_isub (H : Hr tb below T m c code) {x y : Int32} (hd : decode code pc = .ok (.isub, 1)) (pc' : Nat) (hp : pc + 1 = pc') (K : Steps tb e below (T.setTop (mkF m pc' ls (.int (x - y) :: st))) t) : Steps tb e below (T.setTop (mkF m pc ls (.int y :: .int x :: st))) t := by
  subst hp; obtain ⟨h, hx, rfl⟩ := H
  exact XS.isub h hx rfl hd rfl K
theorem w_imul (H : Hr tb below T m c code) {x y : Int32} (hd : decode code pc = .ok (.imul, 1)) (pc' : Nat) (hp : pc + 1 = pc') (K : Steps tb e below (T.setTop (mkF m pc' ls (.int (x * y) :: st))) t) : Steps tb e below (T.setTop (mkF m pc ls (.int y :: .int x :: st))) t := by
  subst hp; obtain ⟨h, hx, rfl⟩ := H
  exact XS.imul h hx rfl hd rfl K
theorem w_iand (H : Hr tb below T m c code) {x y : Int32} (hd : decode code pc = .ok (.iand, 1)) (pc' : Nat) (hp : pc + 1 = pc') (K : Steps tb e below (T.setTop (mkF m pc' ls (.int (x &&& y) :: st))) t) : Steps tb e below (T.setTop (mkF m pc ls (.int y :: .int x :: st))) t := by
  subst hp; obtain ⟨h, hx, rfl⟩ := H
  exact XS.iand h hx rfl hd rfl K
theorem w_ladd (H : Hr tb below T m c code) {x y : Int64} (hd : decode code pc = .ok (.ladd, 1)) (pc' : Nat) (hp : pc + 1 = pc') (K : Steps tb e below (T.setTop (mkF m pc' ls (.long (x + y) :: st))) t) : Steps tb e below (T.setTop (mkF m pc ls (.long y :: .long x :: st))) t := by
  subst hp; obtain ⟨h, hx, rfl⟩ := H
  exact XS.ladd h hx rfl hd rfl K
theorem w_lsub (H : Hr tb below T m c code) {x y : Int64} (hd : decode code pc = .ok (.lsub, 1)) (pc' : Nat) (hp : pc + 1 = pc') (K : Steps tb e below (T.setTop (mkF m pc' ls (.long (x - y) :: st))) t) : Steps tb e below (T.setTop (mkF m pc ls (.long y :: .long x :: st))) t := by
  subst hp; obtain ⟨h, hx, rfl⟩ := H
  exact XS.lsub h hx rfl hd rfl K
theorem w_lmul (H : Hr tb below T m c code) {x y : Int64} (hd : decode code pc = .ok (.lmul, 1)) (pc' : Nat) (hp : pc + 1 = pc') (K : Steps tb e below (T.setTop (mkF m pc' ls (.long (x * y) :: st))) t) : Steps tb e below (T.setTop (mkF m pc ls (.long y :: .long x :: st))) t := by
  subst hp; obtain ⟨h, hx, rfl⟩ := H
  exact XS.lmul h hx rfl hd rfl K
theorem w_land (H : Hr tb below T m c code) {x y : Int64} (hd : decode code pc = .ok (.land, 1)) (pc' : Nat) (hp : pc + 1 = pc') (K : Steps tb e below (T.setTop (mkF m pc' ls (.long (x &&& y) :: st))) t) : Steps tb e below (T.setTop (mkF m pc ls (.long y :: .long x :: st))) t := by
  subst hp; obtain ⟨h, hx, rfl⟩ := H
  exact XS.land h hx rfl hd rfl K
theorem w_lor (H : Hr tb below T m c code) {x y : Int64} (hd : decode code pc = .ok (.lor, 1)) (pc' : Nat) (hp : pc + 1 = pc') (K : Steps tb e below (T.setTop (mkF m pc' ls (.long (x ||| y) :: st))) t) : Steps tb e below (T.setTop (mkF m pc ls (.long y :: .long x :: st))) t := by
  subst hp; obtain ⟨h, hx, rfl⟩ := H
  exact XS.lor h hx rfl hd rfl K
theorem w_irem (H : Hr tb below T m c code) {x y : Int32} (hd : decode code pc = .ok (.irem, 1)) (pc' : Nat) (hp : pc + 1 = pc') (hy : y ≠ 0) (K : Steps tb e below (T.setTop (mkF m pc' ls (.int (x % y) :: st))) t) : Steps tb e below (T.setTop (mkF m pc ls (.int y :: .int x :: st))) t := by
  subst hp; obtain ⟨h, hx, rfl⟩ := H
  exact XS.irem h hx rfl hd rfl hy (by rw [irem_eq_mod]; exact K)
theorem w_lrem (H : Hr tb below T m c code) {x y : Int64} (hd : decode code pc = .ok (.lrem, 1)) (pc' : Nat) (hp : pc + 1 = pc') (hy : y ≠ 0) (K : Steps tb e below (T.setTop (mkF m pc' ls (.long (x % y) :: st))) t) : Steps tb e below (T.setTop (mkF m pc ls (.long y :: .long x :: st))) t := by
  subst hp; obtain ⟨h, hx, rfl⟩ := H
  exact XS.lrem h hx rfl hd rfl hy (by rw [lrem_mod]; exact K)
theorem w_iushr (H : Hr tb below T m c code) {x y : Int32} (hd : decode code pc = .ok (.iushr, 1)) (pc' : Nat) (hp : pc + 1 = pc') (K : Steps tb e below (T.setTop (mkF m pc' ls (.int (ushr x y) :: st))) t) : Steps tb e below (T.setTop (mkF m pc ls (.int y :: .int x :: st))) t := by
  subst hp; obtain ⟨h, hx, rfl⟩ := H
  exact XS.iushr h hx rfl hd rfl K
theorem w_lushr (H : Hr tb below T m c code) {x : Int64} {y : Int32} (hd : decode code pc = .ok (.lushr, 1)) (pc' : Nat) (hp : pc + 1 = pc') (K : Steps tb e below (T.setTop (mkF m pc' ls (.long (ushrL x y) :: st))) t) : Steps tb e below (T.setTop (mkF m pc ls (.int y :: .long x :: st))) t := by
  subst hp; obtain ⟨h, hx, rfl⟩ := H
  exact XS.lushr h hx rfl hd rfl K
theorem w_lshl (H : Hr tb below T m c code) {x : Int64} {y : Int32} (hd : decode code pc = .ok (.lshl, 1)) (pc' : Nat) (hp : pc + 1 = pc') (K : Steps tb e below (T.setTop (mkF m pc' ls (.long (shlL x y) :: st))) t) : Steps tb e below (T.setTop (mkF m pc ls (.int y :: .long x :: st))) t := by
  subst hp; obtain ⟨h, hx, rfl⟩ := H
  exact XS.lshl h hx rfl hd rfl K
theorem w_lshr (H : Hr tb below T m c code) {x : Int64} {y : Int32} (hd : decode code pc = .ok (.lshr, 1)) (pc' : Nat) (hp : pc + 1 = pc') (K : Steps tb e below (T.setTop (mkF m pc' ls (.long (shrL x y) :: st))) t) : Steps tb e below (T.setTop (mkF m pc ls (.int y :: .long x :: st))) t := by
  subst hp; obtain ⟨h, hx, rfl⟩ := H
  exact XS.lshr h hx rfl hd rfl K
theorem w_lcmp (H : Hr tb below T m c code) {x y : Int64} (hd : decode code pc = .ok (.lcmp, 1)) (pc' : Nat) (hp : pc + 1 = pc') (K : Steps tb e below (T.setTop (mkF m pc' ls (.int (lcmpV x y) :: st))) t) : Steps tb e below (T.setTop (mkF m pc ls (.long y :: .long x :: st))) t := by
  subst hp; obtain ⟨h, hx, rfl⟩ := H
  exact XS.lcmp h hx rfl hd rfl K
theorem w_dcmp (H : Hr tb below T m c code) {x y : UInt64} {o : CmpOp} (hd : decode code pc = .ok (.dcmp o, 1)) (pc' : Nat) (hp : pc + 1 = pc') (K : Steps tb e below (T.setTop (mkF m pc' ls (.int (dcmpV x y o) :: st))) t) : Steps tb e below (T.setTop (mkF m pc ls (.double y :: .double x :: st))) t := by
  subst hp; obtain ⟨h, hx, rfl⟩ := H
  show Steps tb e below (T.setTop { method := m, pc := pc, locals := ls, stack := .double y :: .double x :: st, locked := none }) _
  jvm_step h [h.top, hx, hd]
  exact K
theorem w_ddiv (H : Hr tb below T m c code) {x y : UInt64} (hd : decode code pc = .ok (.ddiv, 1)) (pc' : Nat) (hp : pc + 1 = pc') (hr : Jvm.Free.Fl.NoNaN64 (FP.ddiv x y)) (K : Steps tb e below (T.setTop (mkF m pc' ls (.double (FP.ddiv x y) :: st))) t) : Steps tb e below (T.setTop (mkF m pc ls (.double y :: .double x :: st))) t := by
  subst hp; obtain ⟨h, hx, rfl⟩ := H
  show Steps tb e below (T.setTop { method := m, pc := pc, locals := ls, stack := .double y :: .double x :: st, locked := none }) _
  jvm_step h [h.top, hx, hd, Op.ddiv.at_number h.top hr]
  exact K
theorem w_i2d (H : Hr tb below T m c code) {x : Int32} (hd : decode code pc = .ok (.i2d, 1)) (pc' : Nat) (hp : pc + 1 = pc') (K : Steps tb e below (T.setTop (mkF m pc' ls (.double (FP.i2d x) :: st))) t) : Steps tb e below (T.setTop (mkF m pc ls (.int x :: st))) t := by
  subst hp; obtain ⟨h, hx, rfl⟩ := H
  show Steps tb e below (T.setTop { method := m, pc := pc, locals := ls, stack := .int x :: st, locked := none }) _
  jvm_step h [h.top, hx, hd]
  exact K
theorem w_l2d (H : Hr tb below T m c code) {x : Int64} (hd : decode code pc = .ok (.l2d, 1)) (pc' : Nat) (hp : pc + 1 = pc') (K : Steps tb e below (T.setTop (mkF m pc' ls (.double (FP.l2d x) :: st))) t) : Steps tb e below (T.setTop (mkF m pc ls (.long x :: st))) t := by
  subst hp; obtain ⟨h, hx, rfl⟩ := H
  show Steps tb e below (T.setTop { method := m, pc := pc, locals := ls, stack := .long x :: st, locked := none }) _
  jvm_step h [h.top, hx, hd]
  exact K
theorem w_i2l (H : Hr tb below T m c code) {x : Int32} (hd : decode code pc = .ok (.i2l, 1)) (pc' : Nat) (hp : pc + 1 = pc') (K : Steps tb e below (T.setTop (mkF m pc' ls (.long (Int32.toInt64 x) :: st))) t) : Steps tb e below (T.setTop (mkF m pc ls (.int x :: st))) t := by
  subst hp; obtain ⟨h, hx, rfl⟩ := H
  exact XS.i2l h hx rfl hd rfl K
theorem w_l2i (H : Hr tb below T m c code) {x : Int64} (hd : decode code pc = .ok (.l2i, 1)) (pc' : Nat) (hp : pc + 1 = pc') (K : Steps tb e below (T.setTop (mkF m pc' ls (.int (Int64.toInt32 x) :: st))) t) : Steps tb e below (T.setTop (mkF m pc ls (.long x :: st))) t := by
  subst hp; obtain ⟨h, hx, rfl⟩ := H
  exact XS.l2i h hx rfl hd rfl K
theorem w_i2c (H : Hr tb below T m c code) {x : Int32} (hd : decode code pc = .ok (.i2c, 1)) (pc' : Nat) (hp : pc + 1 = pc') (K : Steps tb e below (T.setTop (mkF m pc' ls (.int (toC x) :: st))) t) : Steps tb e below (T.setTop (mkF m pc ls (.int x :: st))) t := by
  subst hp; obtain ⟨h, hx, rfl⟩ := H
  exact XS.i2c h hx rfl hd rfl K
theorem w_goto (H : Hr tb below T m c code) {o : Int} (hd : decode code pc = .ok (.goto o, 3)) (pc' : Nat) (ho : 0 ≤ (pc : Int) + o) (hp : ((pc : Int) + o).toNat = pc') (K : Steps tb e below (T.setTop (mkF m pc' ls st)) t) : Steps tb e below (T.setTop (mkF m pc ls (st))) t := by
  obtain ⟨h, hx, rfl⟩ := H
  exact XS.goto h hx rfl rfl hd ho hp K
theorem w_ifCondYes (H : Hr tb below T m c code) {cd : ClassFile.Cond} {x : Int32} {o : Int} (hd : decode code pc = .ok (.ifCond cd o, 3)) (hc : ifCond.holds cd x = true) (pc' : Nat) (ho : 0 ≤ (pc : Int) + o) (hp : ((pc : Int) + o).toNat = pc') (K : Steps tb e below (T.setTop (mkF m pc' ls st)) t) : Steps tb e below (T.setTop (mkF m pc ls (.int x :: st))) t := by
  obtain ⟨h, hx, rfl⟩ := H
  exact XS.ifYes h hx rfl rfl hd rfl hc ho hp K
theorem w_ifCondNo (H : Hr tb below T m c code) {cd : ClassFile.Cond} {x : Int32} {o : Int} (hd : decode code pc = .ok (.ifCond cd o, 3)) (hc : ifCond.holds cd x = false) (pc' : Nat) (hp : pc + 3 = pc') (K : Steps tb e below (T.setTop (mkF m pc' ls st)) t) : Steps tb e below (T.setTop (mkF m pc ls (.int x :: st))) t := by
  subst hp; obtain ⟨h, hx, rfl⟩ := H
  exact XS.ifNo h hx rfl hd rfl hc K
theorem w_icmpYes (H : Hr tb below T m c code) {cd : ClassFile.Cond} {x y : Int32} {o : Int} (hd : decode code pc = .ok (.if_icmp cd o, 3)) (hc : if_icmp.holds cd x y = true) (pc' : Nat) (ho : 0 ≤ (pc : Int) + o) (hp : ((pc : Int) + o).toNat = pc') (K : Steps tb e below (T.setTop (mkF m pc' ls st)) t) : Steps tb e below (T.setTop (mkF m pc ls (.int y :: .int x :: st))) t := by
  obtain ⟨h, hx, rfl⟩ := H
  exact XS.icmpYes h hx rfl rfl hd rfl hc ho hp K
theorem w_icmpNo (H : Hr tb below T m c code) {cd : ClassFile.Cond} {x y : Int32} {o : Int} (hd : decode code pc = .ok (.if_icmp cd o, 3)) (hc : if_icmp.holds cd x y = false) (pc' : Nat) (hp : pc + 3 = pc') (K : Steps tb e below (T.setTop (mkF m pc' ls st)) t) : Steps tb e below (T.setTop (mkF m pc ls (.int y :: .int x :: st))) t := by
  subst hp; obtain ⟨h, hx, rfl⟩ := H
  exact XS.icmpNo h hx rfl hd rfl hc K
theorem w_acmpYes (H : Hr tb below T m c code) {cd : ClassFile.ACond} {x y : Value} {o : Int} (hd : decode code pc = .ok (.if_acmp cd o, 3)) (hx' : x.isRef = true) (hy' : y.isRef = true) (hc : XT.acmp cd x y = true) (pc' : Nat) (ho : 0 ≤ (pc : Int) + o) (hp : ((pc : Int) + o).toNat = pc') (K : Steps tb e below (T.setTop (mkF m pc' ls st)) t) : Steps tb e below (T.setTop (mkF m pc ls (y :: x :: st))) t := by
  obtain ⟨h, hx, rfl⟩ := H
  exact XT.acmpYes h hx rfl rfl hd rfl hx' hy' hc ho hp K
theorem w_acmpNo (H : Hr tb below T m c code) {cd : ClassFile.ACond} {x y : Value} {o : Int} (hd : decode code pc = .ok (.if_acmp cd o, 3)) (hx' : x.isRef = true) (hy' : y.isRef = true) (hc : XT.acmp cd x y = false) (pc' : Nat) (hp : pc + 3 = pc') (K : Steps tb e below (T.setTop (mkF m pc' ls st)) t) : Steps tb e below (T.setTop (mkF m pc ls (y :: x :: st))) t := by
  subst hp; obtain ⟨h, hx, rfl⟩ := H
  exact XT.acmpNo h hx rfl hd rfl hx' hy' hc K
theorem w_ifnullYes (H : Hr tb below T m c code) {o : Int} (hd : decode code pc = .ok (.ifnull o, 3)) (pc' : Nat) (ho : 0 ≤ (pc : Int) + o) (hp : ((pc : Int) + o).toNat = pc') (K : Steps tb e below (T.setTop (mkF m pc' ls st)) t) : Steps tb e below (T.setTop (mkF m pc ls (.null :: st))) t := by
  obtain ⟨h, hx, rfl⟩ := H
  exact XS.ifnullYes h hx rfl rfl hd rfl ho hp K
theorem w_ifnullNo (H : Hr tb below T m c code) {b : Addr} {o : Int} (hd : decode code pc = .ok (.ifnull o, 3)) (pc' : Nat) (hp : pc + 3 = pc') (K : Steps tb e below (T.setTop (mkF m pc' ls st)) t) : Steps tb e below (T.setTop (mkF m pc ls (.ref b :: st))) t := by
  subst hp; obtain ⟨h, hx, rfl⟩ := H
  exact XS.ifnullNo h hx rfl hd rfl K
theorem w_ifnonnullYes (H : Hr tb below T m c code) {b : Addr} {o : Int} (hd : decode code pc = .ok (.ifnonnull o, 3)) (pc' : Nat) (ho : 0 ≤ (pc : Int) + o) (hp : ((pc : Int) + o).toNat = pc') (K : Steps tb e below (T.setTop (mkF m pc' ls st)) t) : Steps tb e below (T.setTop (mkF m pc ls (.ref b :: st))) t := by
  obtain ⟨h, hx, rfl⟩ := H
  exact XS.ifnonnullYes h hx rfl rfl hd rfl ho hp K
theorem w_ifnonnullNo (H : Hr tb below T m c code) {o : Int} (hd : decode code pc = .ok (.ifnonnull o, 3)) (pc' : Nat) (hp : pc + 3 = pc') (K : Steps tb e below (T.setTop (mkF m pc' ls st)) t) : Steps tb e below (T.setTop (mkF m pc ls (.null :: st))) t := by
  subst hp; obtain ⟨h, hx, rfl⟩ := H
  exact XS.ifnonnullNo h hx rfl hd rfl K
end Steps
section Rets
variable {p : Program} {l : Launch} {e : Env} {R : Room} {s : State} {m : MethodId} {args : Array Value} {below : List Frame} {meth : Method} {c : Code} {T : State} {locs : List Loc} {cells slots : Nat} {code : ByteArray} {pc : Nat} {ls : Array Slot} {st : List Value} {t : State}
theorem hr (X : Stand p l e R s m args below meth c T locs cells slots) (hx : p.tables.exec = Jvm.exec) (hby : c.code = code) : Hr p.tables below T m c code := ⟨X.here, hx, hby⟩
theorem w_ldc2Long (X : Stand p l e R s m args below meth c T locs cells slots) (hx : p.tables.exec = Jvm.exec) {own : String} {index : Nat} {v : Int64} (hown : s.vm.findClass own = some m.cls) (hc : (Cond.constantLong own index v).before args s = true) (hd : decode c.code pc = .ok (.ldc2_w index, 3)) (pc' : Nat) (hp : pc + 3 = pc') (K : Steps p.tables e below (T.setTop (mkF m pc' ls (.long v :: st))) t) : Steps p.tables e below (T.setTop (mkF m pc ls st)) t := by
  subst hp; exact X.ldc2Long hx hown hc (g := mkF m pc ls st) rfl hd _ K
theorem w_ldc2Double (X : Stand p l e R s m args below meth c T locs cells slots) (hx : p.tables.exec = Jvm.exec) {own : String} {index : Nat} {v : UInt64} (hown : s.vm.findClass own = some m.cls) (hc : (Cond.constantDouble own index v).before args s = true) (hd : decode c.code pc = .ok (.ldc2_w index, 3)) (pc' : Nat) (hp : pc + 3 = pc') (K : Steps p.tables e below (T.setTop (mkF m pc' ls (.double v :: st))) t) : Steps p.tables e below (T.setTop (mkF m pc ls st)) t := by
  subst hp; exact X.ldc2DoubleC hx hown hc (g := mkF m pc ls st) rfl hd _ K
end Rets
end Jvm.Own

namespace Jvm.Pilot.@@N@@
open Jvm Jvm.ClassFile Sem Op Lib Jvm.Free Jvm.Stand Jvm.LawKit Jvm.RoadKit Bundle Jvm.Pilot.@@N@@.Jvm.D

theorem pd_1 : parseMethodDescriptor "(DD)V" = some ⟨[.double, .double], none⟩ := by decide +kernel
theorem pd_3 : parseMethodDescriptor "()Ljava/util/Optional;" = some ⟨[], some (.object "java/util/Optional")⟩ := by decide +kernel
theorem pd_4 : parseMethodDescriptor "(Ljava/util/Optional;I)Lcom/example/latfix/latfix/model/Estimate;" = some ⟨[.object "java/util/Optional", .int], some (.object "com/example/latfix/latfix/model/Estimate")⟩ := by decide +kernel
theorem pd_5 : parseMethodDescriptor "(Ljava/util/Optional;Ljava/util/Optional;I)V" = some ⟨[.object "java/util/Optional", .object "java/util/Optional", .int], none⟩ := by decide +kernel
theorem pd_8 : parseMethodDescriptor "()Z" = some ⟨[], some .boolean⟩ := by decide +kernel
theorem pd_9 : parseMethodDescriptor "()I" = some ⟨[], some .int⟩ := by decide +kernel
theorem pd_10 : parseMethodDescriptor "(Ljava/lang/Object;)Ljava/util/Optional;" = some ⟨[.object "java/lang/Object"], some (.object "java/util/Optional")⟩ := by decide +kernel
theorem pd_11 : parseMethodDescriptor "(Ljava/lang/Object;)Ljava/lang/Object;" = some ⟨[.object "java/lang/Object"], some (.object "java/lang/Object")⟩ := by decide +kernel
theorem pd_12 : parseMethodDescriptor "(Ljava/lang/Object;)V" = some ⟨[.object "java/lang/Object"], none⟩ := by decide +kernel
theorem pd_13 : parseMethodDescriptor "()Ljava/lang/Object;" = some ⟨[], some (.object "java/lang/Object")⟩ := by decide +kernel
theorem pd_14 : parseMethodDescriptor "()D" = some ⟨[], some .double⟩ := by decide +kernel
theorem pn_1 : plainName "com/example/latfix/latfix/model/Position" = true := by first | (simp [plainName, overriddenIn]; done) | decide +kernel
theorem pn_3 : plainName "java/util/Optional" = true := by first | (simp [plainName, overriddenIn]; done) | decide +kernel
theorem pn_4 : plainName "com/example/latfix/latfix/model/Estimate" = true := by first | (simp [plainName, overriddenIn]; done) | decide +kernel
theorem pn_5 : plainName "com/example/latfix/latfix/model/Estimate" = true := by first | (simp [plainName, overriddenIn]; done) | decide +kernel
theorem pn_6 : plainName "com/example/latfix/latfix/model/Estimate" = true := by first | (simp [plainName, overriddenIn]; done) | decide +kernel
theorem pn_7 : plainName "com/example/latfix/latfix/model/Estimate" = true := by first | (simp [plainName, overriddenIn]; done) | decide +kernel
theorem pn_8n : plainName "java/util/Optional" = true := by first | (simp [plainName, overriddenIn]; done) | decide +kernel
theorem pn_8y : plainName "java/util/Optional" = true := by first | (simp [plainName, overriddenIn]; done) | decide +kernel
theorem pn_9 : plainName "com/example/latfix/latfix/model/Estimate" = true := by first | (simp [plainName, overriddenIn]; done) | decide +kernel
theorem pn_10 : plainName "java/util/Optional" = true := by first | (simp [plainName, overriddenIn]; done) | decide +kernel
theorem pn_11 : plainName "java/util/Objects" = true := by first | (simp [plainName, overriddenIn]; done) | decide +kernel
theorem pn_12 : plainName "java/util/Optional" = true := by first | (simp [plainName, overriddenIn]; done) | decide +kernel
theorem pn_13 : plainName "java/util/Optional" = true := by first | (simp [plainName, overriddenIn]; done) | decide +kernel
theorem pn_14 : plainName "com/example/latfix/latfix/model/Position" = true := by first | (simp [plainName, overriddenIn]; done) | decide +kernel
theorem pn_15 : plainName "com/example/latfix/latfix/model/Position" = true := by first | (simp [plainName, overriddenIn]; done) | decide +kernel
theorem pn_0a : plainName "com/example/latfix/latfix/model/EstimateAtPointPinLaw" = true := by first | (simp [plainName, overriddenIn]; done) | decide +kernel
theorem pn_0b : plainName "com/example/latfix/latfix/model/EstimateAtPointPinLaw" = true := by first | (simp [plainName, overriddenIn]; done) | decide +kernel
theorem own_d1_0 : decode prog_39_method_1_code 0 = .ok (.aload_n 0, 1) := by decide +kernel
theorem own_d1_1 : decode prog_39_method_1_code 1 = .ok (.invokespecial 1, 3) := by decide +kernel
theorem own_d1_4 : decode prog_39_method_1_code 4 = .ok (.aload_n 0, 1) := by decide +kernel
theorem own_d1_5 : decode prog_39_method_1_code 5 = .ok (.dload_n 1, 1) := by decide +kernel
theorem own_d1_6 : decode prog_39_method_1_code 6 = .ok (.putfield 7, 3) := by decide +kernel
theorem own_d1_9 : decode prog_39_method_1_code 9 = .ok (.aload_n 0, 1) := by decide +kernel
theorem own_d1_10 : decode prog_39_method_1_code 10 = .ok (.dload_n 3, 1) := by decide +kernel
theorem own_d1_11 : decode prog_39_method_1_code 11 = .ok (.putfield 13, 3) := by decide +kernel
theorem own_d1_14 : decode prog_39_method_1_code 14 = .ok (.return_, 1) := by decide +kernel
theorem ef_1 (m : MethodId) (a : Addr) (d1 : UInt64) (d2 : UInt64) : entryFrame m #[(.ref a), (.double d1), (.double d2)] 5 = mkF m 0 #[.val (.ref a), .val (.double d1), .second, .val (.double d2), .second] [] := by first | (simp [entryFrame, mkF, argsToLocals, Value.category, maxLocals]; done) | rfl
def Q_1 (Z : State) (a : Addr) (d1 d2 : UInt64) (h0 : Heap) (n0 : Nat) (v : Option Value) (h : Heap) (L : List Loc) : Prop := v = none ∧ Fr n0 L ∧ Keep h0 h [a] ∧ Exa Z h a "com/example/latfix/latfix/model/Position" ∧ Fld Z h a "com/example/latfix/latfix/model/Position" "lat" "D" (.double d1) ∧ Fld Z h a "com/example/latfix/latfix/model/Position" "lon" "D" (.double d2)
set_option maxRecDepth 65536 in
set_option maxHeartbeats 40000000 in
theorem rm_1 (l : Launch) (Z : State) (a0 : Array Value) (hw : ∀ d ∈ tables_1, d.before a0 Z = true) (ws : List Jvm.Cond) (a : Addr) (d1 : UInt64) (d2 : UInt64) (h0 : Heap) (n0 : Nat) (Z0 : n0 ≤ h0.size) (o1 o2 : Value) (F1 : Fld Z h0 a "com/example/latfix/latfix/model/Position" "lat" "D" o1) (F2 : Fld Z h0 a "com/example/latfix/latfix/model/Position" "lon" "D" o2) (E0 : Exa Z h0 a "com/example/latfix/latfix/model/Position") (ga : n0 ≤ a) :
    MetFree l (⟨"com/example/latfix/latfix/model/Position", "<init>", "(DD)V"⟩ : MethodName) (head1 (Jvm.Cond.code (⟨"com/example/latfix/latfix/model/Position", "<init>", "(DD)V"⟩ : MethodName) prog_39_method_1_code 5 none :: ws) ({ frames := 1, cells := 0, slots := 0, locals := 12 } : Room)) (fun aa U => aa = #[(.ref a), (.double d1), (.double d2)] ∧ Z.Warmed39 U.vm ∧ U.heap = h0) (fun _ _ _ _ _ => True) (fun _ U o U' => ∃ v L, o = .returned v ∧ Q_1 Z a d1 d2 h0 n0 v U'.heap L ∧ FrameEnd U o U' L ({ frames := 1, cells := 0, slots := 0, locals := 12 } : Room).cells ({ frames := 1, cells := 0, slots := 0, locals := 12 } : Room).slots) := by
  refine MetFree.of_bodySF (plainFor_of_name pn_1) hisR ?_
  intro p e s m args below meth c s₁ Bd hml0 hP hK
  obtain ⟨rfl, hZ, hh⟩ := hP
  have hx := Bd.exec
  have hby := Bd.bytes
  have hml : c.maxLocals = 5 := hml0
  have hown : s.vm.findClass "com/example/latfix/latfix/model/Position" = some m.cls := findClass_of_methodNamed Bd.named
  have hnm := (name_of_methodNamed Bd.named Bd.method).1
  have X0 : Stand p l e ({ frames := 1, cells := 0, slots := 0, locals := 12 } : Room) s m #[(.ref a), (.double d1), (.double d2)] below meth c s₁ [] 0 0 := Stand.of_body Bd
  have e0 : s₁.heap = h0 := by rw [← hh, Bd.state]; rfl
  have N0 := Fr.nil n0
  have H0 := Own.hr X0 hx hby
  have pre0 : ∀ t, Steps p.tables e below (s₁.setTop (mkF m 0 #[.val (.ref a), .val (.double d1), .second, .val (.double d2), .second] [])) t → Steps p.tables e below (s₁.setTop (entryFrame m #[(.ref a), (.double d1), (.double d2)] 5)) t := fun t k => castTop (ef_1 m a d1 d2) k
  obtain ⟨T1, X1, e1, st1⟩ := initO X0 hx hZ hown (hw _ (List.mem_of_getElem? (i := 6) rfl)) (hw _ (List.mem_of_getElem? (i := 7) rfl)) (hw _ (List.mem_of_getElem? (i := 8) rfl)) e0 (g := (mkF m 1 #[.val (.ref a), .val (.double d1), .second, .val (.double d2), .second] [(.ref a)])) rfl (by rw [hml]; rfl) rfl (hb hby own_d1_1) (by decide) (W := 0) (by show 2 * 0 + _ ≤ _; exact Nat.le_of_ble_eq_true rfl) (by decide)
  have P1 : ∀ t, Steps p.tables e below (T1.setTop (mkF m 4 #[.val (.ref a), .val (.double d1), .second, .val (.double d2), .second] [])) t → Steps p.tables e below (s₁.setTop (entryFrame m #[(.ref a), (.double d1), (.double d2)] 5)) t := fun t k => pre0 t (by
      refine Own.w_aloadN H0 own_d1_0 1 rfl rfl rfl ?_
      exact st1 t k)
  have H1 := Own.hr X1 hx hby
  obtain ⟨T2, h2, X2, e2, W2, st2⟩ := putF X1 hx hZ hown (host := "") (Or.inl (hw _ (List.mem_of_getElem? (i := 9) rfl))) Via.refl e1 F1 E0 (Or.inr ⟨hw _ (List.mem_of_getElem? (i := 10) rfl), rfl, hnm⟩) (hw _ (List.mem_of_getElem? (i := 1) rfl)) (ty := .double) (by decide) rfl rfl (g := (mkF m 6 #[.val (.ref a), .val (.double d1), .second, .val (.double d2), .second] [(.double d1), (.ref a)])) rfl rfl (hb hby own_d1_6)
  have P2 : ∀ t, Steps p.tables e below (T2.setTop (mkF m 9 #[.val (.ref a), .val (.double d1), .second, .val (.double d2), .second] [])) t → Steps p.tables e below (s₁.setTop (entryFrame m #[(.ref a), (.double d1), (.double d2)] 5)) t := fun t k => P1 t (by
      refine Own.w_aloadN H1 own_d1_4 5 rfl rfl rfl ?_
      refine Own.w_dloadN H1 own_d1_5 6 rfl rfl ?_
      exact st2 t k)
  have H2 := Own.hr X2 hx hby
  have N3 := Fr.snoc X2 N0 ga
  have E1 := E0.wr W2
  have F1' := F1.same W2
  have F2' := F2.other W2 (Or.inr (slot_ne (C := "com/example/latfix/latfix/model/Position") (Or.inr (hw _ (List.mem_of_getElem? (i := 12) rfl))) (Or.inr (hw _ (List.mem_of_getElem? (i := 10) rfl))) (by decide) (t := .double) (t' := .double) (by decide) (by decide)))
  obtain ⟨T4, h4, X4, e4, W4, st4⟩ := putF X2 hx hZ hown (host := "") (Or.inl (hw _ (List.mem_of_getElem? (i := 11) rfl))) Via.refl e2 F2' E1 (Or.inr ⟨hw _ (List.mem_of_getElem? (i := 12) rfl), rfl, hnm⟩) (hw _ (List.mem_of_getElem? (i := 1) rfl)) (ty := .double) (by decide) rfl rfl (g := (mkF m 11 #[.val (.ref a), .val (.double d1), .second, .val (.double d2), .second] [(.double d2), (.ref a)])) rfl rfl (hb hby own_d1_11)
  have P3 : ∀ t, Steps p.tables e below (T4.setTop (mkF m 14 #[.val (.ref a), .val (.double d1), .second, .val (.double d2), .second] [])) t → Steps p.tables e below (s₁.setTop (entryFrame m #[(.ref a), (.double d1), (.double d2)] 5)) t := fun t k => P2 t (by
      refine Own.w_aloadN H2 own_d1_9 10 rfl rfl rfl ?_
      refine Own.w_dloadN H2 own_d1_10 11 rfl rfl ?_
      exact st4 t k)
  have H4 := Own.hr X4 hx hby
  have N5 := Fr.snoc X4 N3 ga
  have E2 := E1.wr W4
  have F2'' := F2'.same W4
  have F1'' := F1'.other W4 (Or.inr (slot_ne (C := "com/example/latfix/latfix/model/Position") (Or.inr (hw _ (List.mem_of_getElem? (i := 10) rfl))) (Or.inr (hw _ (List.mem_of_getElem? (i := 12) rfl))) (by decide) (t := .double) (t' := .double) (by decide) (by decide)))
  have K1 := ((Keep.refl h0 [a]).wr W2 (Or.inl (List.mem_of_getElem? (i := 0) rfl))).wr W4 (Or.inl (List.mem_of_getElem? (i := 0) rfl))
  obtain ⟨fs, hr, hrun, hended, hW, hsame⟩ := X4.leave (v := none) (fun _ => rfl)
  refine ⟨_, _, P3 _ ?_, hrun, hended, _, _, rfl, ?_, ⟨_, rfl⟩, hW, hsame.mono (by decide : 0 ≤ _) (by decide : 0 ≤ _)⟩
  · exact X4.returnOut hx Bd.returns (hb hby own_d1_14) hr
  · subst e4; exact ⟨rfl, N5, K1, E2, F1'', F2''⟩
theorem own_d3_0 : decode jdk_32_method_1_code 0 = .ok (.getstatic 1, 3) := by decide +kernel
theorem own_d3_3 : decode jdk_32_method_1_code 3 = .ok (.astore_n 0, 1) := by decide +kernel
theorem own_d3_4 : decode jdk_32_method_1_code 4 = .ok (.aload_n 0, 1) := by decide +kernel
theorem own_d3_5 : decode jdk_32_method_1_code 5 = .ok (.areturn, 1) := by decide +kernel
theorem ef_3 (m : MethodId)  : entryFrame m #[] 1 = mkF m 0 #[.unset] [] := by first | (simp [entryFrame, mkF, argsToLocals, Value.category, maxLocals]; done) | rfl
def Q_3 (Z : State) (aE : Addr) (h0 : Heap) (n0 : Nat) (v : Option Value) (h : Heap) (L : List Loc) : Prop := v = some (.ref aE) ∧ Fr n0 L ∧ h = h0
set_option maxRecDepth 65536 in
set_option maxHeartbeats 40000000 in
theorem rm_3 (l : Launch) (Z : State) (a0 : Array Value) (hw : ∀ d ∈ tables_1, d.before a0 Z = true) (ws : List Jvm.Cond)  (h0 : Heap) (n0 : Nat) (Z0 : n0 ≤ h0.size) (aE : Addr) (S0 : Sta Z h0 "java/util/Optional" "EMPTY" "Ljava/util/Optional;" (.ref aE)) :
    MetFree l (⟨"java/util/Optional", "empty", "()Ljava/util/Optional;"⟩ : MethodName) (head1 (Jvm.Cond.code (⟨"java/util/Optional", "empty", "()Ljava/util/Optional;"⟩ : MethodName) jdk_32_method_1_code 1 (some (.object "java/util/Optional")) :: ws) ({ frames := 0, cells := 0, slots := 0, locals := 0 } : Room)) (fun aa U => aa = #[] ∧ Z.Warmed39 U.vm ∧ U.heap = h0) (fun _ _ _ _ _ => True) (fun _ U o U' => ∃ v L, o = .returned v ∧ Q_3 Z aE h0 n0 v U'.heap L ∧ FrameEnd U o U' L ({ frames := 0, cells := 0, slots := 0, locals := 0 } : Room).cells ({ frames := 0, cells := 0, slots := 0, locals := 0 } : Room).slots) := by
  refine MetFree.of_bodySF (plainFor_of_name pn_3) hisR ?_
  intro p e s m args below meth c s₁ Bd hml0 hP hK
  obtain ⟨rfl, hZ, hh⟩ := hP
  have hx := Bd.exec
  have hby := Bd.bytes
  have hml : c.maxLocals = 1 := hml0
  have hown : s.vm.findClass "java/util/Optional" = some m.cls := findClass_of_methodNamed Bd.named
  have hnm := (name_of_methodNamed Bd.named Bd.method).1
  have X0 : Stand p l e ({ frames := 0, cells := 0, slots := 0, locals := 0 } : Room) s m #[] below meth c s₁ [] 0 0 := Stand.of_body Bd
  have e0 : s₁.heap = h0 := by rw [← hh, Bd.state]; rfl
  have N0 := Fr.nil n0
  have H0 := Own.hr X0 hx hby
  have pre0 : ∀ t, Steps p.tables e below (s₁.setTop (mkF m 0 #[.unset] [])) t → Steps p.tables e below (s₁.setTop (entryFrame m #[] 1)) t := fun t k => castTop (ef_3 m ) k
  obtain ⟨T6, X6, e6, st6⟩ := getS X0 hx hZ hown (hw _ (List.mem_of_getElem? (i := 17) rfl)) Via.refl e0 S0 (host := "") (g := (mkF m 0 #[.unset] [])) rfl (hb hby own_d3_0)
  have P1 : ∀ t, Steps p.tables e below (T6.setTop (mkF m 3 #[.unset] [(.ref aE)])) t → Steps p.tables e below (s₁.setTop (entryFrame m #[] 1)) t := fun t k => pre0 t (by
      exact st6 t k)
  have H6 := Own.hr X6 hx hby
  obtain ⟨fs, hr, hrun, hended, hW, hsame⟩ := X6.leave (v := some (.ref aE)) (fun h => by rw [Bd.returns] at h; cases h)
  refine ⟨_, _, P1 _ ?_, hrun, hended, _, _, rfl, ?_, ⟨_, rfl⟩, hW, hsame.mono (by decide : 0 ≤ _) (by decide : 0 ≤ _)⟩
  · refine Own.w_astoreN H6 own_d3_3 4 rfl rfl (l' := #[.val (.ref aE)]) rfl ?_
    refine Own.w_aloadN H6 own_d3_4 5 rfl rfl rfl ?_
    exact retOut X6 hx Bd.returns rfl (Or.inr (Or.inr (Or.inr (Or.inr ⟨rfl, rfl, rfl⟩)))) (hb hby own_d3_5) hr
  · exact ⟨rfl, N0, e6⟩
theorem own_d11_0 : decode jdk_31_method_10_code 0 = .ok (.aload_n 0, 1) := by decide +kernel
theorem own_d11_1 : decode jdk_31_method_10_code 1 = .ok (.ifnonnull 11, 3) := by decide +kernel
theorem own_d11_12 : decode jdk_31_method_10_code 12 = .ok (.aload_n 0, 1) := by decide +kernel
theorem own_d11_13 : decode jdk_31_method_10_code 13 = .ok (.areturn, 1) := by decide +kernel
theorem ef_11 (m : MethodId) (b : Addr) : entryFrame m #[(.ref b)] 1 = mkF m 0 #[.val (.ref b)] [] := by first | (simp [entryFrame, mkF, argsToLocals, Value.category, maxLocals]; done) | rfl
def Q_11 (Z : State) (b : Addr) (h0 : Heap) (n0 : Nat) (v : Option Value) (h : Heap) (L : List Loc) : Prop := v = some (.ref b) ∧ Fr n0 L ∧ h = h0
set_option maxRecDepth 65536 in
set_option maxHeartbeats 40000000 in
theorem rm_11 (l : Launch) (Z : State) (a0 : Array Value) (hw : ∀ d ∈ tables_1, d.before a0 Z = true) (ws : List Jvm.Cond) (b : Addr) (h0 : Heap) (n0 : Nat) (Z0 : n0 ≤ h0.size)  :
    MetFree l (⟨"java/util/Objects", "requireNonNull", "(Ljava/lang/Object;)Ljava/lang/Object;"⟩ : MethodName) (head1 (Jvm.Cond.code (⟨"java/util/Objects", "requireNonNull", "(Ljava/lang/Object;)Ljava/lang/Object;"⟩ : MethodName) jdk_31_method_10_code 1 (some (.object "java/lang/Object")) :: ws) ({ frames := 0, cells := 0, slots := 0, locals := 0 } : Room)) (fun aa U => aa = #[(.ref b)] ∧ Z.Warmed39 U.vm ∧ U.heap = h0) (fun _ _ _ _ _ => True) (fun _ U o U' => ∃ v L, o = .returned v ∧ Q_11 Z b h0 n0 v U'.heap L ∧ FrameEnd U o U' L ({ frames := 0, cells := 0, slots := 0, locals := 0 } : Room).cells ({ frames := 0, cells := 0, slots := 0, locals := 0 } : Room).slots) := by
  refine MetFree.of_bodySF (plainFor_of_name pn_11) hisR ?_
  intro p e s m args below meth c s₁ Bd hml0 hP hK
  obtain ⟨rfl, hZ, hh⟩ := hP
  have hx := Bd.exec
  have hby := Bd.bytes
  have hml : c.maxLocals = 1 := hml0
  have hown : s.vm.findClass "java/util/Objects" = some m.cls := findClass_of_methodNamed Bd.named
  have hnm := (name_of_methodNamed Bd.named Bd.method).1
  have X0 : Stand p l e ({ frames := 0, cells := 0, slots := 0, locals := 0 } : Room) s m #[(.ref b)] below meth c s₁ [] 0 0 := Stand.of_body Bd
  have e0 : s₁.heap = h0 := by rw [← hh, Bd.state]; rfl
  have N0 := Fr.nil n0
  have H0 := Own.hr X0 hx hby
  have pre0 : ∀ t, Steps p.tables e below (s₁.setTop (mkF m 0 #[.val (.ref b)] [])) t → Steps p.tables e below (s₁.setTop (entryFrame m #[(.ref b)] 1)) t := fun t k => castTop (ef_11 m b) k
  obtain ⟨fs, hr, hrun, hended, hW, hsame⟩ := X0.leave (v := some (.ref b)) (fun h => by rw [Bd.returns] at h; cases h)
  refine ⟨_, _, pre0 _ ?_, hrun, hended, _, _, rfl, ?_, ⟨_, rfl⟩, hW, hsame.mono (by decide : 0 ≤ _) (by decide : 0 ≤ _)⟩
  · refine Own.w_aloadN H0 own_d11_0 1 rfl rfl rfl ?_
    refine Own.w_ifnonnullYes H0 own_d11_1 12 (by decide) (by decide) ?_
    refine Own.w_aloadN H0 own_d11_12 13 rfl rfl rfl ?_
    exact retOut X0 hx Bd.returns rfl (Or.inr (Or.inr (Or.inr (Or.inr ⟨rfl, rfl, rfl⟩)))) (hb hby own_d11_13) hr
  · exact ⟨rfl, N0, e0⟩
theorem own_d12_0 : decode jdk_32_method_2_code 0 = .ok (.aload_n 0, 1) := by decide +kernel
theorem own_d12_1 : decode jdk_32_method_2_code 1 = .ok (.invokespecial 7, 3) := by decide +kernel
theorem own_d12_4 : decode jdk_32_method_2_code 4 = .ok (.aload_n 0, 1) := by decide +kernel
theorem own_d12_5 : decode jdk_32_method_2_code 5 = .ok (.aload_n 1, 1) := by decide +kernel
theorem own_d12_6 : decode jdk_32_method_2_code 6 = .ok (.putfield 13, 3) := by decide +kernel
theorem own_d12_9 : decode jdk_32_method_2_code 9 = .ok (.return_, 1) := by decide +kernel
theorem ef_12 (m : MethodId) (a : Addr) (b : Addr) : entryFrame m #[(.ref a), (.ref b)] 2 = mkF m 0 #[.val (.ref a), .val (.ref b)] [] := by first | (simp [entryFrame, mkF, argsToLocals, Value.category, maxLocals]; done) | rfl
def Q_12 (Z : State) (a b : Addr) (h0 : Heap) (n0 : Nat) (v : Option Value) (h : Heap) (L : List Loc) : Prop := v = none ∧ Fr n0 L ∧ Keep h0 h [a] ∧ Exa Z h a "java/util/Optional" ∧ Fld Z h a "java/util/Optional" "value" "Ljava/lang/Object;" (.ref b)
set_option maxRecDepth 65536 in
set_option maxHeartbeats 40000000 in
theorem rm_12 (l : Launch) (Z : State) (a0 : Array Value) (hw : ∀ d ∈ tables_1, d.before a0 Z = true) (ws : List Jvm.Cond) (a : Addr) (b : Addr) (h0 : Heap) (n0 : Nat) (Z0 : n0 ≤ h0.size) (o1 : Value) (F1 : Fld Z h0 a "java/util/Optional" "value" "Ljava/lang/Object;" o1) (E0 : Exa Z h0 a "java/util/Optional") (ga : n0 ≤ a) :
    MetFree l (⟨"java/util/Optional", "<init>", "(Ljava/lang/Object;)V"⟩ : MethodName) (head1 (Jvm.Cond.code (⟨"java/util/Optional", "<init>", "(Ljava/lang/Object;)V"⟩ : MethodName) jdk_32_method_2_code 2 none :: ws) ({ frames := 1, cells := 0, slots := 0, locals := 12 } : Room)) (fun aa U => aa = #[(.ref a), (.ref b)] ∧ Z.Warmed39 U.vm ∧ U.heap = h0) (fun _ _ _ _ _ => True) (fun _ U o U' => ∃ v L, o = .returned v ∧ Q_12 Z a b h0 n0 v U'.heap L ∧ FrameEnd U o U' L ({ frames := 1, cells := 0, slots := 0, locals := 12 } : Room).cells ({ frames := 1, cells := 0, slots := 0, locals := 12 } : Room).slots) := by
  refine MetFree.of_bodySF (plainFor_of_name pn_12) hisR ?_
  intro p e s m args below meth c s₁ Bd hml0 hP hK
  obtain ⟨rfl, hZ, hh⟩ := hP
  have hx := Bd.exec
  have hby := Bd.bytes
  have hml : c.maxLocals = 2 := hml0
  have hown : s.vm.findClass "java/util/Optional" = some m.cls := findClass_of_methodNamed Bd.named
  have hnm := (name_of_methodNamed Bd.named Bd.method).1
  have X0 : Stand p l e ({ frames := 1, cells := 0, slots := 0, locals := 12 } : Room) s m #[(.ref a), (.ref b)] below meth c s₁ [] 0 0 := Stand.of_body Bd
  have e0 : s₁.heap = h0 := by rw [← hh, Bd.state]; rfl
  have N0 := Fr.nil n0
  have H0 := Own.hr X0 hx hby
  have pre0 : ∀ t, Steps p.tables e below (s₁.setTop (mkF m 0 #[.val (.ref a), .val (.ref b)] [])) t → Steps p.tables e below (s₁.setTop (entryFrame m #[(.ref a), (.ref b)] 2)) t := fun t k => castTop (ef_12 m a b) k
  obtain ⟨T7, X7, e7, st7⟩ := initO X0 hx hZ hown (hw _ (List.mem_of_getElem? (i := 70) rfl)) (hw _ (List.mem_of_getElem? (i := 7) rfl)) (hw _ (List.mem_of_getElem? (i := 8) rfl)) e0 (g := (mkF m 1 #[.val (.ref a), .val (.ref b)] [(.ref a)])) rfl (by rw [hml]; rfl) rfl (hb hby own_d12_1) (by decide) (W := 0) (by show 2 * 0 + _ ≤ _; exact Nat.le_of_ble_eq_true rfl) (by decide)
  have P1 : ∀ t, Steps p.tables e below (T7.setTop (mkF m 4 #[.val (.ref a), .val (.ref b)] [])) t → Steps p.tables e below (s₁.setTop (entryFrame m #[(.ref a), (.ref b)] 2)) t := fun t k => pre0 t (by
      refine Own.w_aloadN H0 own_d12_0 1 rfl rfl rfl ?_
      exact st7 t k)
  have H7 := Own.hr X7 hx hby
  obtain ⟨T8, h8, X8, e8, W8, st8⟩ := putF X7 hx hZ hown (host := "") (Or.inl (hw _ (List.mem_of_getElem? (i := 50) rfl))) Via.refl e7 F1 E0 (Or.inr ⟨hw _ (List.mem_of_getElem? (i := 51) rfl), rfl, hnm⟩) (hw _ (List.mem_of_getElem? (i := 61) rfl)) (ty := (.object "java/lang/Object")) (by decide) rfl rfl (g := (mkF m 6 #[.val (.ref a), .val (.ref b)] [(.ref b), (.ref a)])) rfl rfl (hb hby own_d12_6)
  have P2 : ∀ t, Steps p.tables e below (T8.setTop (mkF m 9 #[.val (.ref a), .val (.ref b)] [])) t → Steps p.tables e below (s₁.setTop (entryFrame m #[(.ref a), (.ref b)] 2)) t := fun t k => P1 t (by
      refine Own.w_aloadN H7 own_d12_4 5 rfl rfl rfl ?_
      refine Own.w_aloadN H7 own_d12_5 6 rfl rfl rfl ?_
      exact st8 t k)
  have H8 := Own.hr X8 hx hby
  have N9 := Fr.snoc X8 N0 ga
  obtain ⟨fs, hr, hrun, hended, hW, hsame⟩ := X8.leave (v := none) (fun _ => rfl)
  refine ⟨_, _, P2 _ ?_, hrun, hended, _, _, rfl, ?_, ⟨_, rfl⟩, hW, hsame.mono (by decide : 0 ≤ _) (by decide : 0 ≤ _)⟩
  · exact X8.returnOut hx Bd.returns (hb hby own_d12_9) hr
  · subst e8; exact ⟨rfl, N9, (Keep.refl h0 [a]).wr W8 (Or.inl (List.mem_of_getElem? (i := 0) rfl)), E0.wr W8, F1.same W8⟩
theorem own_d10_0 : decode jdk_32_method_3_code 0 = .ok (.new 2, 3) := by decide +kernel
theorem own_d10_3 : decode jdk_32_method_3_code 3 = .ok (.dup, 1) := by decide +kernel
theorem own_d10_4 : decode jdk_32_method_3_code 4 = .ok (.aload_n 0, 1) := by decide +kernel
theorem own_d10_5 : decode jdk_32_method_3_code 5 = .ok (.invokestatic 17, 3) := by decide +kernel
theorem own_d10_8 : decode jdk_32_method_3_code 8 = .ok (.invokespecial 23, 3) := by decide +kernel
theorem own_d10_11 : decode jdk_32_method_3_code 11 = .ok (.areturn, 1) := by decide +kernel
theorem ef_10 (m : MethodId) (b : Addr) : entryFrame m #[(.ref b)] 1 = mkF m 0 #[.val (.ref b)] [] := by first | (simp [entryFrame, mkF, argsToLocals, Value.category, maxLocals]; done) | rfl
def Q_10 (Z : State) (b : Addr) (h0 : Heap) (n0 : Nat) (v : Option Value) (h : Heap) (L : List Loc) : Prop := ∃ aN, v = some (.ref aN) ∧ aN = h0.size ∧ Fr n0 L ∧ Keep h0 h [] ∧ Exa Z h aN "java/util/Optional" ∧ Fld Z h aN "java/util/Optional" "value" "Ljava/lang/Object;" (.ref b)
set_option maxRecDepth 65536 in
set_option maxHeartbeats 40000000 in
theorem rm_10 (l : Launch) (Z : State) (a0 : Array Value) (hw : ∀ d ∈ tables_1, d.before a0 Z = true) (ws : List Jvm.Cond) (b : Addr) (h0 : Heap) (n0 : Nat) (Z0 : n0 ≤ h0.size)  :
    MetFree l (⟨"java/util/Optional", "of", "(Ljava/lang/Object;)Ljava/util/Optional;"⟩ : MethodName) (head1 (Jvm.Cond.code (⟨"java/util/Optional", "of", "(Ljava/lang/Object;)Ljava/util/Optional;"⟩ : MethodName) jdk_32_method_3_code 1 (some (.object "java/util/Optional")) :: ws) ({ frames := 2, cells := 1, slots := 1, locals := 26 } : Room)) (fun aa U => aa = #[(.ref b)] ∧ Z.Warmed39 U.vm ∧ U.heap = h0) (fun _ _ _ _ _ => True) (fun _ U o U' => ∃ v L, o = .returned v ∧ Q_10 Z b h0 n0 v U'.heap L ∧ FrameEnd U o U' L ({ frames := 2, cells := 1, slots := 1, locals := 26 } : Room).cells ({ frames := 2, cells := 1, slots := 1, locals := 26 } : Room).slots) := by
  refine MetFree.of_bodySF (plainFor_of_name pn_10) hisR ?_
  intro p e s m args below meth c s₁ Bd hml0 hP hK
  obtain ⟨rfl, hZ, hh⟩ := hP
  have hx := Bd.exec
  have hby := Bd.bytes
  have hml : c.maxLocals = 1 := hml0
  have hown : s.vm.findClass "java/util/Optional" = some m.cls := findClass_of_methodNamed Bd.named
  have hnm := (name_of_methodNamed Bd.named Bd.method).1
  have X0 : Stand p l e ({ frames := 2, cells := 1, slots := 1, locals := 26 } : Room) s m #[(.ref b)] below meth c s₁ [] 0 0 := Stand.of_body Bd
  have e0 : s₁.heap = h0 := by rw [← hh, Bd.state]; rfl
  have N0 := Fr.nil n0
  have H0 := Own.hr X0 hx hby
  have pre0 : ∀ t, Steps p.tables e below (s₁.setTop (mkF m 0 #[.val (.ref b)] [])) t → Steps p.tables e below (s₁.setTop (entryFrame m #[(.ref b)] 1)) t := fun t k => castTop (ef_10 m b) k
  obtain ⟨T10, h10, X10, e10, E10, A10, D10, -, st10⟩ := newO X0 hx hZ hown (hw _ (List.mem_of_getElem? (i := 60) rfl)) (hw _ (List.mem_of_getElem? (i := 61) rfl)) (hw _ (List.mem_of_getElem? (i := 15) rfl)) e0 (g := (mkF m 0 #[.val (.ref b)] [])) rfl (hb hby own_d10_0) (by decide : 0 + 1 ≤ _) (by decide : 0 + 1 ≤ _)
  obtain ⟨a10, g10⟩ : ∃ z, z = (h0).size := ⟨_, rfl⟩
  rw [← g10] at A10 D10 st10
  have P1 : ∀ t, Steps p.tables e below (T10.setTop (mkF m 3 #[.val (.ref b)] [(.ref a10)])) t → Steps p.tables e below (s₁.setTop (entryFrame m #[(.ref b)] 1)) t := fun t k => pre0 t (by
      exact st10 t k)
  have H10 := Own.hr X10 hx hby
  have Za := Nat.le_trans Z0 E10.1
  have Fv := D10 (Or.inr (hw _ (List.mem_of_getElem? (i := 51) rfl))) (ty := (.object "java/lang/Object")) (by decide)
  obtain ⟨_, _, ⟨T11, L11, k11, n11⟩, -, X11, ⟨Lc11, hQ11, l11, y11, z11⟩, st11⟩ := Jvm.LawKit.callS X10 hx (y := (⟨"java/util/Objects", "requireNonNull", "(Ljava/lang/Object;)Ljava/lang/Object;"⟩ : MethodName)) hown (mvT hZ (hw _ (List.mem_of_getElem? (i := 62) rfl))) (mvT hZ (hw _ (List.mem_of_getElem? (i := 63) rfl))) (mvT hZ (hw _ (List.mem_of_getElem? (i := 64) rfl))) (mvT hZ (hw _ (List.mem_of_getElem? (i := 65) rfl))) (by decide) (backOf (W := 2) (rm_11 l Z a0 hw [] b h10 n0 Za) hZ (hw _ (List.mem_of_getElem? (i := 65) rfl)) (hw _ (List.mem_of_getElem? (i := 64) rfl)) (by decide) (by decide)) (g := (mkF m 5 #[.val (.ref b)] [(.ref b), (.ref a10), (.ref a10)])) rfl (by rw [hml]; rfl) (argsL := [(.ref b)]) (rest := [(.ref a10), (.ref a10)]) (lenOf pd_11 rfl) rfl (by show 2 * 0 + _ ≤ _; exact Nat.le_of_ble_eq_true rfl) (hb hby own_d10_5) (fun _ _ => ⟨rfl, e10, (by decide : 1 + 0 ≤ _), (by decide : 1 + 0 ≤ _)⟩)
  dsimp only [Pt.U, Pt.locs, Pt.cells, Pt.slots] at X11 l11 y11 z11 st11 hQ11
  subst l11 y11 z11
  obtain ⟨rfl, Nc1, ec1⟩ := hQ11
  have P2 : ∀ t, Steps p.tables e below (T11.setTop (mkF m 8 #[.val (.ref b)] [(.ref b), (.ref a10), (.ref a10)])) t → Steps p.tables e below (s₁.setTop (entryFrame m #[(.ref b)] 1)) t := fun t k => P1 t (by
      refine Own.w_dup H10 own_d10_3 4 rfl rfl ?_
      refine Own.w_aloadN H10 own_d10_4 5 rfl rfl rfl ?_
      exact st11 t k)
  have H11 := Own.hr X11 hx hby
  have N12 := Fr.app N0 Nc1
  obtain ⟨_, _, ⟨T13, L13, k13, n13⟩, -, X13, ⟨Lc13, hQ13, l13, y13, z13⟩, st13⟩ := X11.specialBack hx (y := (⟨"java/util/Optional", "<init>", "(Ljava/lang/Object;)V"⟩ : MethodName)) rfl hown (mvT hZ (hw _ (List.mem_of_getElem? (i := 66) rfl))) (mvT hZ (hw _ (List.mem_of_getElem? (i := 67) rfl))) (mvT hZ (hw _ (List.mem_of_getElem? (i := 69) rfl))) (by decide) (backOf (W := 1) (rm_12 l Z a0 hw [] a10 b h10 n0 Za _ Fv A10 (Nat.le_trans Z0 (Nat.le_of_eq g10.symm))) hZ (hw _ (List.mem_of_getElem? (i := 69) rfl)) (hw _ (List.mem_of_getElem? (i := 15) rfl)) (by decide) (by decide)) (g := (mkF m 8 #[.val (.ref b)] [(.ref b), (.ref a10), (.ref a10)])) rfl (by rw [hml]; rfl) (Steps.refl _) (a := a10) (argsL := [(.ref b)]) (rest := [(.ref a10)]) (lenOf pd_12 rfl) rfl (by show 2 * 0 + _ ≤ _; exact Nat.le_of_ble_eq_true rfl) (hb hby own_d10_8) (fun _ _ => ⟨rfl, ec1, (by decide : 1 + 0 ≤ _), (by decide : 1 + 0 ≤ _)⟩)
  dsimp only [Pt.U, Pt.locs, Pt.cells, Pt.slots] at X13 l13 y13 z13 st13 hQ13
  subst l13 y13 z13
  obtain ⟨rfl, Nc2, Kc2, Ec2, Fc2⟩ := hQ13
  have P3 : ∀ t, Steps p.tables e below (T13.setTop (mkF m 11 #[.val (.ref b)] [(.ref a10)])) t → Steps p.tables e below (s₁.setTop (entryFrame m #[(.ref b)] 1)) t := fun t k => P2 t (by
      exact st13.trans k)
  have H13 := Own.hr X13 hx hby
  have N14 := Fr.app N12 Nc2
  have Kf := ((Keep.refl h0 []).ext E10).trans Kc2 (allS (Or.inr (Nat.le_of_eq g10.symm)) all0)
  obtain ⟨fs, hr, hrun, hended, hW, hsame⟩ := X13.leave (v := some (.ref a10)) (fun h => by rw [Bd.returns] at h; cases h)
  refine ⟨_, _, P3 _ ?_, hrun, hended, _, _, rfl, ?_, ⟨_, rfl⟩, hW, hsame.mono (by decide : 1 ≤ _) (by decide : 1 ≤ _)⟩
  · exact retOut X13 hx Bd.returns rfl (Or.inr (Or.inr (Or.inr (Or.inr ⟨rfl, rfl, rfl⟩)))) (hb hby own_d10_11) hr
  · exact ⟨_, rfl, g10, N14, Kf, Ec2, Fc2⟩
theorem own_d5_0 : decode prog_28_method_2_code 0 = .ok (.aload_n 0, 1) := by decide +kernel
theorem own_d5_1 : decode prog_28_method_2_code 1 = .ok (.invokespecial 17, 3) := by decide +kernel
theorem own_d5_4 : decode prog_28_method_2_code 4 = .ok (.aload_n 0, 1) := by decide +kernel
theorem own_d5_5 : decode prog_28_method_2_code 5 = .ok (.aload_n 1, 1) := by decide +kernel
theorem own_d5_6 : decode prog_28_method_2_code 6 = .ok (.putfield 22, 3) := by decide +kernel
theorem own_d5_9 : decode prog_28_method_2_code 9 = .ok (.aload_n 0, 1) := by decide +kernel
theorem own_d5_10 : decode prog_28_method_2_code 10 = .ok (.aload_n 2, 1) := by decide +kernel
theorem own_d5_11 : decode prog_28_method_2_code 11 = .ok (.putfield 26, 3) := by decide +kernel
theorem own_d5_14 : decode prog_28_method_2_code 14 = .ok (.aload_n 0, 1) := by decide +kernel
theorem own_d5_15 : decode prog_28_method_2_code 15 = .ok (.iload_n 3, 1) := by decide +kernel
theorem own_d5_16 : decode prog_28_method_2_code 16 = .ok (.putfield 29, 3) := by decide +kernel
theorem own_d5_19 : decode prog_28_method_2_code 19 = .ok (.return_, 1) := by decide +kernel
theorem ef_5 (m : MethodId) (a : Addr) (p1 : Addr) (p2 : Addr) (n : Int32) : entryFrame m #[(.ref a), (.ref p1), (.ref p2), (.int n)] 4 = mkF m 0 #[.val (.ref a), .val (.ref p1), .val (.ref p2), .val (.int n)] [] := by first | (simp [entryFrame, mkF, argsToLocals, Value.category, maxLocals]; done) | rfl
def Q_5 (Z : State) (a p1 p2 : Addr) (n : Int32) (h0 : Heap) (n0 : Nat) (v : Option Value) (h : Heap) (L : List Loc) : Prop := v = none ∧ Fr n0 L ∧ Keep h0 h [a] ∧ Exa Z h a "com/example/latfix/latfix/model/Estimate" ∧ Fld Z h a "com/example/latfix/latfix/model/Estimate" "position" "Ljava/util/Optional;" (.ref p1) ∧ Fld Z h a "com/example/latfix/latfix/model/Estimate" "region" "Ljava/util/Optional;" (.ref p2) ∧ Fld Z h a "com/example/latfix/latfix/model/Estimate" "landmarksUsed" "I" (.int n)
set_option maxRecDepth 65536 in
set_option maxHeartbeats 40000000 in
theorem rm_5 (l : Launch) (Z : State) (a0 : Array Value) (hw : ∀ d ∈ tables_1, d.before a0 Z = true) (ws : List Jvm.Cond) (a : Addr) (p1 : Addr) (p2 : Addr) (n : Int32) (h0 : Heap) (n0 : Nat) (Z0 : n0 ≤ h0.size) (o1 o2 o3 : Value) (F1 : Fld Z h0 a "com/example/latfix/latfix/model/Estimate" "position" "Ljava/util/Optional;" o1) (F2 : Fld Z h0 a "com/example/latfix/latfix/model/Estimate" "region" "Ljava/util/Optional;" o2) (F3 : Fld Z h0 a "com/example/latfix/latfix/model/Estimate" "landmarksUsed" "I" o3) (E0 : Exa Z h0 a "com/example/latfix/latfix/model/Estimate") (ga : n0 ≤ a) :
    MetFree l (⟨"com/example/latfix/latfix/model/Estimate", "<init>", "(Ljava/util/Optional;Ljava/util/Optional;I)V"⟩ : MethodName) (head1 (Jvm.Cond.code (⟨"com/example/latfix/latfix/model/Estimate", "<init>", "(Ljava/util/Optional;Ljava/util/Optional;I)V"⟩ : MethodName) prog_28_method_2_code 4 none :: ws) ({ frames := 1, cells := 0, slots := 0, locals := 12 } : Room)) (fun aa U => aa = #[(.ref a), (.ref p1), (.ref p2), (.int n)] ∧ Z.Warmed39 U.vm ∧ U.heap = h0) (fun _ _ _ _ _ => True) (fun _ U o U' => ∃ v L, o = .returned v ∧ Q_5 Z a p1 p2 n h0 n0 v U'.heap L ∧ FrameEnd U o U' L ({ frames := 1, cells := 0, slots := 0, locals := 12 } : Room).cells ({ frames := 1, cells := 0, slots := 0, locals := 12 } : Room).slots) := by
  refine MetFree.of_bodySF (plainFor_of_name pn_5) hisR ?_
  intro p e s m args below meth c s₁ Bd hml0 hP hK
  obtain ⟨rfl, hZ, hh⟩ := hP
  have hx := Bd.exec
  have hby := Bd.bytes
  have hml : c.maxLocals = 4 := hml0
  have hown : s.vm.findClass "com/example/latfix/latfix/model/Estimate" = some m.cls := findClass_of_methodNamed Bd.named
  have hnm := (name_of_methodNamed Bd.named Bd.method).1
  have X0 : Stand p l e ({ frames := 1, cells := 0, slots := 0, locals := 12 } : Room) s m #[(.ref a), (.ref p1), (.ref p2), (.int n)] below meth c s₁ [] 0 0 := Stand.of_body Bd
  have e0 : s₁.heap = h0 := by rw [← hh, Bd.state]; rfl
  have N0 := Fr.nil n0
  have H0 := Own.hr X0 hx hby
  have pre0 : ∀ t, Steps p.tables e below (s₁.setTop (mkF m 0 #[.val (.ref a), .val (.ref p1), .val (.ref p2), .val (.int n)] [])) t → Steps p.tables e below (s₁.setTop (entryFrame m #[(.ref a), (.ref p1), (.ref p2), (.int n)] 4)) t := fun t k => castTop (ef_5 m a p1 p2 n) k
  obtain ⟨T15, X15, e15, st15⟩ := initO X0 hx hZ hown (hw _ (List.mem_of_getElem? (i := 28) rfl)) (hw _ (List.mem_of_getElem? (i := 7) rfl)) (hw _ (List.mem_of_getElem? (i := 8) rfl)) e0 (g := (mkF m 1 #[.val (.ref a), .val (.ref p1), .val (.ref p2), .val (.int n)] [(.ref a)])) rfl (by rw [hml]; rfl) rfl (hb hby own_d5_1) (by decide) (W := 0) (by show 2 * 0 + _ ≤ _; exact Nat.le_of_ble_eq_true rfl) (by decide)
  have P1 : ∀ t, Steps p.tables e below (T15.setTop (mkF m 4 #[.val (.ref a), .val (.ref p1), .val (.ref p2), .val (.int n)] [])) t → Steps p.tables e below (s₁.setTop (entryFrame m #[(.ref a), (.ref p1), (.ref p2), (.int n)] 4)) t := fun t k => pre0 t (by
      refine Own.w_aloadN H0 own_d5_0 1 rfl rfl rfl ?_
      exact st15 t k)
  have H15 := Own.hr X15 hx hby
  obtain ⟨T16, h16, X16, e16, W16, st16⟩ := putF X15 hx hZ hown (host := "") (Or.inl (hw _ (List.mem_of_getElem? (i := 29) rfl))) Via.refl e15 F1 E0 (Or.inr ⟨hw _ (List.mem_of_getElem? (i := 30) rfl), rfl, hnm⟩) (hw _ (List.mem_of_getElem? (i := 23) rfl)) (ty := (.object "java/util/Optional")) (by decide) rfl rfl (g := (mkF m 6 #[.val (.ref a), .val (.ref p1), .val (.ref p2), .val (.int n)] [(.ref p1), (.ref a)])) rfl rfl (hb hby own_d5_6)
  have P2 : ∀ t, Steps p.tables e below (T16.setTop (mkF m 9 #[.val (.ref a), .val (.ref p1), .val (.ref p2), .val (.int n)] [])) t → Steps p.tables e below (s₁.setTop (entryFrame m #[(.ref a), (.ref p1), (.ref p2), (.int n)] 4)) t := fun t k => P1 t (by
      refine Own.w_aloadN H15 own_d5_4 5 rfl rfl rfl ?_
      refine Own.w_aloadN H15 own_d5_5 6 rfl rfl rfl ?_
      exact st16 t k)
  have H16 := Own.hr X16 hx hby
  have N17 := Fr.snoc X16 N0 ga
  have E1 := E0.wr W16
  have G1 := F1.same W16
  have G2 := F2.other W16 (Or.inr (slot_ne (C := "com/example/latfix/latfix/model/Estimate") (Or.inr (hw _ (List.mem_of_getElem? (i := 32) rfl))) (Or.inr (hw _ (List.mem_of_getElem? (i := 30) rfl))) (by decide) (t := (.object "java/util/Optional")) (t' := (.object "java/util/Optional")) (by decide) (by decide)))
  have G3 := F3.other W16 (Or.inr (slot_ne (C := "com/example/latfix/latfix/model/Estimate") (Or.inr (hw _ (List.mem_of_getElem? (i := 34) rfl))) (Or.inr (hw _ (List.mem_of_getElem? (i := 30) rfl))) (by decide) (t := .int) (t' := (.object "java/util/Optional")) (by decide) (by decide)))
  obtain ⟨T18, h18, X18, e18, W18, st18⟩ := putF X16 hx hZ hown (host := "") (Or.inl (hw _ (List.mem_of_getElem? (i := 31) rfl))) Via.refl e16 G2 E1 (Or.inr ⟨hw _ (List.mem_of_getElem? (i := 32) rfl), rfl, hnm⟩) (hw _ (List.mem_of_getElem? (i := 23) rfl)) (ty := (.object "java/util/Optional")) (by decide) rfl rfl (g := (mkF m 11 #[.val (.ref a), .val (.ref p1), .val (.ref p2), .val (.int n)] [(.ref p2), (.ref a)])) rfl rfl (hb hby own_d5_11)
  have P3 : ∀ t, Steps p.tables e below (T18.setTop (mkF m 14 #[.val (.ref a), .val (.ref p1), .val (.ref p2), .val (.int n)] [])) t → Steps p.tables e below (s₁.setTop (entryFrame m #[(.ref a), (.ref p1), (.ref p2), (.int n)] 4)) t := fun t k => P2 t (by
      refine Own.w_aloadN H16 own_d5_9 10 rfl rfl rfl ?_
      refine Own.w_aloadN H16 own_d5_10 11 rfl rfl rfl ?_
      exact st18 t k)
  have H18 := Own.hr X18 hx hby
  have N19 := Fr.snoc X18 N17 ga
  have E2 := E1.wr W18
  have I2 := G2.same W18
  have I1 := G1.other W18 (Or.inr (slot_ne (C := "com/example/latfix/latfix/model/Estimate") (Or.inr (hw _ (List.mem_of_getElem? (i := 30) rfl))) (Or.inr (hw _ (List.mem_of_getElem? (i := 32) rfl))) (by decide) (t := (.object "java/util/Optional")) (t' := (.object "java/util/Optional")) (by decide) (by decide)))
  have I3 := G3.other W18 (Or.inr (slot_ne (C := "com/example/latfix/latfix/model/Estimate") (Or.inr (hw _ (List.mem_of_getElem? (i := 34) rfl))) (Or.inr (hw _ (List.mem_of_getElem? (i := 32) rfl))) (by decide) (t := .int) (t' := (.object "java/util/Optional")) (by decide) (by decide)))
  obtain ⟨T20, h20, X20, e20, W20, st20⟩ := putF X18 hx hZ hown (host := "") (Or.inl (hw _ (List.mem_of_getElem? (i := 33) rfl))) Via.refl e18 I3 E2 (Or.inr ⟨hw _ (List.mem_of_getElem? (i := 34) rfl), rfl, hnm⟩) (hw _ (List.mem_of_getElem? (i := 23) rfl)) (ty := .int) (by decide) rfl rfl (g := (mkF m 16 #[.val (.ref a), .val (.ref p1), .val (.ref p2), .val (.int n)] [(.int n), (.ref a)])) rfl rfl (hb hby own_d5_16)
  have P4 : ∀ t, Steps p.tables e below (T20.setTop (mkF m 19 #[.val (.ref a), .val (.ref p1), .val (.ref p2), .val (.int n)] [])) t → Steps p.tables e below (s₁.setTop (entryFrame m #[(.ref a), (.ref p1), (.ref p2), (.int n)] 4)) t := fun t k => P3 t (by
      refine Own.w_aloadN H18 own_d5_14 15 rfl rfl rfl ?_
      refine Own.w_iloadN H18 own_d5_15 16 rfl rfl ?_
      exact st20 t k)
  have H20 := Own.hr X20 hx hby
  have N21 := Fr.snoc X20 N19 ga
  have E3 := E2.wr W20
  have J3 := I3.same W20
  have J1 := I1.other W20 (Or.inr (slot_ne (C := "com/example/latfix/latfix/model/Estimate") (Or.inr (hw _ (List.mem_of_getElem? (i := 30) rfl))) (Or.inr (hw _ (List.mem_of_getElem? (i := 34) rfl))) (by decide) (t := (.object "java/util/Optional")) (t' := .int) (by decide) (by decide)))
  have J2 := I2.other W20 (Or.inr (slot_ne (C := "com/example/latfix/latfix/model/Estimate") (Or.inr (hw _ (List.mem_of_getElem? (i := 32) rfl))) (Or.inr (hw _ (List.mem_of_getElem? (i := 34) rfl))) (by decide) (t := (.object "java/util/Optional")) (t' := .int) (by decide) (by decide)))
  have K1 := (((Keep.refl h0 [a]).wr W16 (Or.inl (List.mem_of_getElem? (i := 0) rfl))).wr W18 (Or.inl (List.mem_of_getElem? (i := 0) rfl))).wr W20 (Or.inl (List.mem_of_getElem? (i := 0) rfl))
  obtain ⟨fs, hr, hrun, hended, hW, hsame⟩ := X20.leave (v := none) (fun _ => rfl)
  refine ⟨_, _, P4 _ ?_, hrun, hended, _, _, rfl, ?_, ⟨_, rfl⟩, hW, hsame.mono (by decide : 0 ≤ _) (by decide : 0 ≤ _)⟩
  · exact X20.returnOut hx Bd.returns (hb hby own_d5_19) hr
  · subst e20; exact ⟨rfl, N21, K1, E3, J1, J2, J3⟩
theorem own_d4_0 : decode prog_28_method_3_code 0 = .ok (.new 12, 3) := by decide +kernel
theorem own_d4_3 : decode prog_28_method_3_code 3 = .ok (.dup, 1) := by decide +kernel
theorem own_d4_4 : decode prog_28_method_3_code 4 = .ok (.aload_n 0, 1) := by decide +kernel
theorem own_d4_5 : decode prog_28_method_3_code 5 = .ok (.invokestatic 33, 3) := by decide +kernel
theorem own_d4_8 : decode prog_28_method_3_code 8 = .ok (.iload_n 1, 1) := by decide +kernel
theorem own_d4_9 : decode prog_28_method_3_code 9 = .ok (.invokespecial 11, 3) := by decide +kernel
theorem own_d4_12 : decode prog_28_method_3_code 12 = .ok (.areturn, 1) := by decide +kernel
theorem ef_4 (m : MethodId) (b : Addr) (n : Int32) : entryFrame m #[(.ref b), (.int n)] 2 = mkF m 0 #[.val (.ref b), .val (.int n)] [] := by first | (simp [entryFrame, mkF, argsToLocals, Value.category, maxLocals]; done) | rfl
def Q_4 (Z : State) (b : Addr) (n : Int32) (aE : Addr) (h0 : Heap) (n0 : Nat) (v : Option Value) (h : Heap) (L : List Loc) : Prop := ∃ aN, v = some (.ref aN) ∧ aN = h0.size ∧ Fr n0 L ∧ Keep h0 h [] ∧ Exa Z h aN "com/example/latfix/latfix/model/Estimate" ∧ Fld Z h aN "com/example/latfix/latfix/model/Estimate" "position" "Ljava/util/Optional;" (.ref b) ∧ Fld Z h aN "com/example/latfix/latfix/model/Estimate" "region" "Ljava/util/Optional;" (.ref aE) ∧ Fld Z h aN "com/example/latfix/latfix/model/Estimate" "landmarksUsed" "I" (.int n)
set_option maxRecDepth 65536 in
set_option maxHeartbeats 40000000 in
theorem rm_4 (l : Launch) (Z : State) (a0 : Array Value) (hw : ∀ d ∈ tables_1, d.before a0 Z = true) (ws : List Jvm.Cond) (b : Addr) (n : Int32) (h0 : Heap) (n0 : Nat) (Z0 : n0 ≤ h0.size) (aE : Addr) (S0 : Sta Z h0 "java/util/Optional" "EMPTY" "Ljava/util/Optional;" (.ref aE)) :
    MetFree l (⟨"com/example/latfix/latfix/model/Estimate", "atPoint", "(Ljava/util/Optional;I)Lcom/example/latfix/latfix/model/Estimate;"⟩ : MethodName) (head1 (Jvm.Cond.code (⟨"com/example/latfix/latfix/model/Estimate", "atPoint", "(Ljava/util/Optional;I)Lcom/example/latfix/latfix/model/Estimate;"⟩ : MethodName) prog_28_method_3_code 2 (some (.object "com/example/latfix/latfix/model/Estimate")) :: ws) ({ frames := 2, cells := 1, slots := 3, locals := 28 } : Room)) (fun aa U => aa = #[(.ref b), (.int n)] ∧ Z.Warmed39 U.vm ∧ U.heap = h0) (fun _ _ _ _ _ => True) (fun _ U o U' => ∃ v L, o = .returned v ∧ Q_4 Z b n aE h0 n0 v U'.heap L ∧ FrameEnd U o U' L ({ frames := 2, cells := 1, slots := 3, locals := 28 } : Room).cells ({ frames := 2, cells := 1, slots := 3, locals := 28 } : Room).slots) := by
  refine MetFree.of_bodySF (plainFor_of_name pn_4) hisR ?_
  intro p e s m args below meth c s₁ Bd hml0 hP hK
  obtain ⟨rfl, hZ, hh⟩ := hP
  have hx := Bd.exec
  have hby := Bd.bytes
  have hml : c.maxLocals = 2 := hml0
  have hown : s.vm.findClass "com/example/latfix/latfix/model/Estimate" = some m.cls := findClass_of_methodNamed Bd.named
  have hnm := (name_of_methodNamed Bd.named Bd.method).1
  have X0 : Stand p l e ({ frames := 2, cells := 1, slots := 3, locals := 28 } : Room) s m #[(.ref b), (.int n)] below meth c s₁ [] 0 0 := Stand.of_body Bd
  have e0 : s₁.heap = h0 := by rw [← hh, Bd.state]; rfl
  have N0 := Fr.nil n0
  have H0 := Own.hr X0 hx hby
  have pre0 : ∀ t, Steps p.tables e below (s₁.setTop (mkF m 0 #[.val (.ref b), .val (.int n)] [])) t → Steps p.tables e below (s₁.setTop (entryFrame m #[(.ref b), (.int n)] 2)) t := fun t k => castTop (ef_4 m b n) k
  obtain ⟨T22, h22, X22, e22, E22, A22, D22, -, st22⟩ := newO X0 hx hZ hown (hw _ (List.mem_of_getElem? (i := 22) rfl)) (hw _ (List.mem_of_getElem? (i := 23) rfl)) (hw _ (List.mem_of_getElem? (i := 20) rfl)) e0 (g := (mkF m 0 #[.val (.ref b), .val (.int n)] [])) rfl (hb hby own_d4_0) (by decide : 0 + 1 ≤ _) (by decide : 0 + 3 ≤ _)
  obtain ⟨a22, g22⟩ : ∃ z, z = (h0).size := ⟨_, rfl⟩
  rw [← g22] at A22 D22 st22
  have P1 : ∀ t, Steps p.tables e below (T22.setTop (mkF m 3 #[.val (.ref b), .val (.int n)] [(.ref a22)])) t → Steps p.tables e below (s₁.setTop (entryFrame m #[(.ref b), (.int n)] 2)) t := fun t k => pre0 t (by
      exact st22 t k)
  have H22 := Own.hr X22 hx hby
  have Za := Nat.le_trans Z0 E22.1
  have S1 := S0.ext E22
  have V1 := D22 (Or.inr (hw _ (List.mem_of_getElem? (i := 30) rfl))) (ty := (.object "java/util/Optional")) (by decide)
  have V2 := D22 (Or.inr (hw _ (List.mem_of_getElem? (i := 32) rfl))) (ty := (.object "java/util/Optional")) (by decide)
  have V3 := D22 (Or.inr (hw _ (List.mem_of_getElem? (i := 34) rfl))) (ty := .int) (by decide)
  obtain ⟨_, _, ⟨T23, L23, k23, n23⟩, -, X23, ⟨Lc23, hQ23, l23, y23, z23⟩, st23⟩ := Jvm.LawKit.callS X22 hx (y := (⟨"java/util/Optional", "empty", "()Ljava/util/Optional;"⟩ : MethodName)) hown (mvT hZ (hw _ (List.mem_of_getElem? (i := 24) rfl))) (mvT hZ (hw _ (List.mem_of_getElem? (i := 14) rfl))) (mvT hZ (hw _ (List.mem_of_getElem? (i := 15) rfl))) (mvT hZ (hw _ (List.mem_of_getElem? (i := 16) rfl))) (by decide) (backOf (W := 3) (rm_3 l Z a0 hw [] h22 n0 Za aE S1) hZ (hw _ (List.mem_of_getElem? (i := 16) rfl)) (hw _ (List.mem_of_getElem? (i := 15) rfl)) (by decide) (by decide)) (g := (mkF m 5 #[.val (.ref b), .val (.int n)] [(.ref b), (.ref a22), (.ref a22)])) rfl (by rw [hml]; rfl) (argsL := []) (rest := [(.ref b), (.ref a22), (.ref a22)]) (lenOf pd_3 rfl) rfl (by show 2 * 0 + _ ≤ _; exact Nat.le_of_ble_eq_true rfl) (hb hby own_d4_5) (fun _ _ => ⟨rfl, e22, (by decide : 1 + 0 ≤ _), (by decide : 3 + 0 ≤ _)⟩)
  dsimp only [Pt.U, Pt.locs, Pt.cells, Pt.slots] at X23 l23 y23 z23 st23 hQ23
  subst l23 y23 z23
  obtain ⟨rfl, Nc1, ec1⟩ := hQ23
  have P2 : ∀ t, Steps p.tables e below (T23.setTop (mkF m 8 #[.val (.ref b), .val (.int n)] [(.ref aE), (.ref b), (.ref a22), (.ref a22)])) t → Steps p.tables e below (s₁.setTop (entryFrame m #[(.ref b), (.int n)] 2)) t := fun t k => P1 t (by
      refine Own.w_dup H22 own_d4_3 4 rfl rfl ?_
      refine Own.w_aloadN H22 own_d4_4 5 rfl rfl rfl ?_
      exact st23 t k)
  have H23 := Own.hr X23 hx hby
  have N24 := Fr.app N0 Nc1
  obtain ⟨_, _, ⟨T25, L25, k25, n25⟩, -, X25, ⟨Lc25, hQ25, l25, y25, z25⟩, st25⟩ := X23.specialBack hx (y := (⟨"com/example/latfix/latfix/model/Estimate", "<init>", "(Ljava/util/Optional;Ljava/util/Optional;I)V"⟩ : MethodName)) rfl hown (mvT hZ (hw _ (List.mem_of_getElem? (i := 25) rfl))) (mvT hZ (hw _ (List.mem_of_getElem? (i := 26) rfl))) (mvT hZ (hw _ (List.mem_of_getElem? (i := 27) rfl))) (by decide) (backOf (W := 1) (rm_5 l Z a0 hw [] a22 b aE n h22 n0 Za _ _ _ V1 V2 V3 A22 (Nat.le_trans Z0 (Nat.le_of_eq g22.symm))) hZ (hw _ (List.mem_of_getElem? (i := 27) rfl)) (hw _ (List.mem_of_getElem? (i := 20) rfl)) (by decide) (by decide)) (g := (mkF m 9 #[.val (.ref b), .val (.int n)] [(.int n), (.ref aE), (.ref b), (.ref a22), (.ref a22)])) rfl (by rw [hml]; rfl) (Steps.refl _) (a := a22) (argsL := [(.ref b), (.ref aE), (.int n)]) (rest := [(.ref a22)]) (lenOf pd_5 rfl) rfl (by show 2 * 0 + _ ≤ _; exact Nat.le_of_ble_eq_true rfl) (hb hby own_d4_9) (fun _ _ => ⟨rfl, ec1, (by decide : 1 + 0 ≤ _), (by decide : 3 + 0 ≤ _)⟩)
  dsimp only [Pt.U, Pt.locs, Pt.cells, Pt.slots] at X25 l25 y25 z25 st25 hQ25
  subst l25 y25 z25
  obtain ⟨rfl, Nc2, Kc2, Ec2, Fc1, Fc2, Fc3⟩ := hQ25
  have P3 : ∀ t, Steps p.tables e below (T25.setTop (mkF m 12 #[.val (.ref b), .val (.int n)] [(.ref a22)])) t → Steps p.tables e below (s₁.setTop (entryFrame m #[(.ref b), (.int n)] 2)) t := fun t k => P2 t (by
      refine Own.w_iloadN H23 own_d4_8 9 rfl rfl ?_
      exact st25.trans k)
  have H25 := Own.hr X25 hx hby
  have N26 := Fr.app N24 Nc2
  have Kf := ((Keep.refl h0 []).ext E22).trans Kc2 (allS (Or.inr (Nat.le_of_eq g22.symm)) all0)
  obtain ⟨fs, hr, hrun, hended, hW, hsame⟩ := X25.leave (v := some (.ref a22)) (fun h => by rw [Bd.returns] at h; cases h)
  refine ⟨_, _, P3 _ ?_, hrun, hended, _, _, rfl, ?_, ⟨_, rfl⟩, hW, hsame.mono (by decide : 1 ≤ _) (by decide : 3 ≤ _)⟩
  · exact retOut X25 hx Bd.returns rfl (Or.inr (Or.inr (Or.inr (Or.inr ⟨rfl, rfl, rfl⟩)))) (hb hby own_d4_12) hr
  · exact ⟨_, rfl, g22, N26, Kf, Ec2, Fc1, Fc2, Fc3⟩
theorem own_d6_0 : decode prog_28_method_4_code 0 = .ok (.aload_n 0, 1) := by decide +kernel
theorem own_d6_1 : decode prog_28_method_4_code 1 = .ok (.getfield 22, 3) := by decide +kernel
theorem own_d6_4 : decode prog_28_method_4_code 4 = .ok (.areturn, 1) := by decide +kernel
theorem ef_6 (m : MethodId) (a : Addr) : entryFrame m #[(.ref a)] 1 = mkF m 0 #[.val (.ref a)] [] := by first | (simp [entryFrame, mkF, argsToLocals, Value.category, maxLocals]; done) | rfl
def Q_6 (Z : State) (a : Addr) (b : Addr) (h0 : Heap) (n0 : Nat) (v : Option Value) (h : Heap) (L : List Loc) : Prop := v = some (.ref b) ∧ Fr n0 L ∧ h = h0
set_option maxRecDepth 65536 in
set_option maxHeartbeats 40000000 in
theorem rm_6 (l : Launch) (Z : State) (a0 : Array Value) (hw : ∀ d ∈ tables_1, d.before a0 Z = true) (ws : List Jvm.Cond) (a : Addr) (h0 : Heap) (n0 : Nat) (Z0 : n0 ≤ h0.size) (b : Addr) (F1 : Fld Z h0 a "com/example/latfix/latfix/model/Estimate" "position" "Ljava/util/Optional;" (.ref b)) :
    MetFree l (⟨"com/example/latfix/latfix/model/Estimate", "getPosition", "()Ljava/util/Optional;"⟩ : MethodName) (head1 (Jvm.Cond.code (⟨"com/example/latfix/latfix/model/Estimate", "getPosition", "()Ljava/util/Optional;"⟩ : MethodName) prog_28_method_4_code 1 (some (.object "java/util/Optional")) :: ws) ({ frames := 0, cells := 0, slots := 0, locals := 0 } : Room)) (fun aa U => aa = #[(.ref a)] ∧ Z.Warmed39 U.vm ∧ U.heap = h0) (fun _ _ _ _ _ => True) (fun _ U o U' => ∃ v L, o = .returned v ∧ Q_6 Z a b h0 n0 v U'.heap L ∧ FrameEnd U o U' L ({ frames := 0, cells := 0, slots := 0, locals := 0 } : Room).cells ({ frames := 0, cells := 0, slots := 0, locals := 0 } : Room).slots) := by
  refine MetFree.of_bodySF (plainFor_of_name pn_6) hisR ?_
  intro p e s m args below meth c s₁ Bd hml0 hP hK
  obtain ⟨rfl, hZ, hh⟩ := hP
  have hx := Bd.exec
  have hby := Bd.bytes
  have hml : c.maxLocals = 1 := hml0
  have hown : s.vm.findClass "com/example/latfix/latfix/model/Estimate" = some m.cls := findClass_of_methodNamed Bd.named
  have hnm := (name_of_methodNamed Bd.named Bd.method).1
  have X0 : Stand p l e ({ frames := 0, cells := 0, slots := 0, locals := 0 } : Room) s m #[(.ref a)] below meth c s₁ [] 0 0 := Stand.of_body Bd
  have e0 : s₁.heap = h0 := by rw [← hh, Bd.state]; rfl
  have N0 := Fr.nil n0
  have H0 := Own.hr X0 hx hby
  have pre0 : ∀ t, Steps p.tables e below (s₁.setTop (mkF m 0 #[.val (.ref a)] [])) t → Steps p.tables e below (s₁.setTop (entryFrame m #[(.ref a)] 1)) t := fun t k => castTop (ef_6 m a) k
  obtain ⟨T27, X27, e27, st27⟩ := getF X0 hx hZ hown (host := "") (Or.inl (hw _ (List.mem_of_getElem? (i := 29) rfl))) Via.refl e0 F1 (g := (mkF m 1 #[.val (.ref a)] [(.ref a)])) rfl rfl (hb hby own_d6_1)
  have P1 : ∀ t, Steps p.tables e below (T27.setTop (mkF m 4 #[.val (.ref a)] [(.ref b)])) t → Steps p.tables e below (s₁.setTop (entryFrame m #[(.ref a)] 1)) t := fun t k => pre0 t (by
      refine Own.w_aloadN H0 own_d6_0 1 rfl rfl rfl ?_
      exact st27 t k)
  have H27 := Own.hr X27 hx hby
  obtain ⟨fs, hr, hrun, hended, hW, hsame⟩ := X27.leave (v := some (.ref b)) (fun h => by rw [Bd.returns] at h; cases h)
  refine ⟨_, _, P1 _ ?_, hrun, hended, _, _, rfl, ?_, ⟨_, rfl⟩, hW, hsame.mono (by decide : 0 ≤ _) (by decide : 0 ≤ _)⟩
  · exact retOut X27 hx Bd.returns rfl (Or.inr (Or.inr (Or.inr (Or.inr ⟨rfl, rfl, rfl⟩)))) (hb hby own_d6_4) hr
  · exact ⟨rfl, N0, e27⟩
theorem own_d7_0 : decode prog_28_method_5_code 0 = .ok (.aload_n 0, 1) := by decide +kernel
theorem own_d7_1 : decode prog_28_method_5_code 1 = .ok (.getfield 26, 3) := by decide +kernel
theorem own_d7_4 : decode prog_28_method_5_code 4 = .ok (.areturn, 1) := by decide +kernel
theorem ef_7 (m : MethodId) (a : Addr) : entryFrame m #[(.ref a)] 1 = mkF m 0 #[.val (.ref a)] [] := by first | (simp [entryFrame, mkF, argsToLocals, Value.category, maxLocals]; done) | rfl
def Q_7 (Z : State) (a : Addr) (b : Addr) (h0 : Heap) (n0 : Nat) (v : Option Value) (h : Heap) (L : List Loc) : Prop := v = some (.ref b) ∧ Fr n0 L ∧ h = h0
set_option maxRecDepth 65536 in
set_option maxHeartbeats 40000000 in
theorem rm_7 (l : Launch) (Z : State) (a0 : Array Value) (hw : ∀ d ∈ tables_1, d.before a0 Z = true) (ws : List Jvm.Cond) (a : Addr) (h0 : Heap) (n0 : Nat) (Z0 : n0 ≤ h0.size) (b : Addr) (F1 : Fld Z h0 a "com/example/latfix/latfix/model/Estimate" "region" "Ljava/util/Optional;" (.ref b)) :
    MetFree l (⟨"com/example/latfix/latfix/model/Estimate", "getRegion", "()Ljava/util/Optional;"⟩ : MethodName) (head1 (Jvm.Cond.code (⟨"com/example/latfix/latfix/model/Estimate", "getRegion", "()Ljava/util/Optional;"⟩ : MethodName) prog_28_method_5_code 1 (some (.object "java/util/Optional")) :: ws) ({ frames := 0, cells := 0, slots := 0, locals := 0 } : Room)) (fun aa U => aa = #[(.ref a)] ∧ Z.Warmed39 U.vm ∧ U.heap = h0) (fun _ _ _ _ _ => True) (fun _ U o U' => ∃ v L, o = .returned v ∧ Q_7 Z a b h0 n0 v U'.heap L ∧ FrameEnd U o U' L ({ frames := 0, cells := 0, slots := 0, locals := 0 } : Room).cells ({ frames := 0, cells := 0, slots := 0, locals := 0 } : Room).slots) := by
  refine MetFree.of_bodySF (plainFor_of_name pn_7) hisR ?_
  intro p e s m args below meth c s₁ Bd hml0 hP hK
  obtain ⟨rfl, hZ, hh⟩ := hP
  have hx := Bd.exec
  have hby := Bd.bytes
  have hml : c.maxLocals = 1 := hml0
  have hown : s.vm.findClass "com/example/latfix/latfix/model/Estimate" = some m.cls := findClass_of_methodNamed Bd.named
  have hnm := (name_of_methodNamed Bd.named Bd.method).1
  have X0 : Stand p l e ({ frames := 0, cells := 0, slots := 0, locals := 0 } : Room) s m #[(.ref a)] below meth c s₁ [] 0 0 := Stand.of_body Bd
  have e0 : s₁.heap = h0 := by rw [← hh, Bd.state]; rfl
  have N0 := Fr.nil n0
  have H0 := Own.hr X0 hx hby
  have pre0 : ∀ t, Steps p.tables e below (s₁.setTop (mkF m 0 #[.val (.ref a)] [])) t → Steps p.tables e below (s₁.setTop (entryFrame m #[(.ref a)] 1)) t := fun t k => castTop (ef_7 m a) k
  obtain ⟨T28, X28, e28, st28⟩ := getF X0 hx hZ hown (host := "") (Or.inl (hw _ (List.mem_of_getElem? (i := 31) rfl))) Via.refl e0 F1 (g := (mkF m 1 #[.val (.ref a)] [(.ref a)])) rfl rfl (hb hby own_d7_1)
  have P1 : ∀ t, Steps p.tables e below (T28.setTop (mkF m 4 #[.val (.ref a)] [(.ref b)])) t → Steps p.tables e below (s₁.setTop (entryFrame m #[(.ref a)] 1)) t := fun t k => pre0 t (by
      refine Own.w_aloadN H0 own_d7_0 1 rfl rfl rfl ?_
      exact st28 t k)
  have H28 := Own.hr X28 hx hby
  obtain ⟨fs, hr, hrun, hended, hW, hsame⟩ := X28.leave (v := some (.ref b)) (fun h => by rw [Bd.returns] at h; cases h)
  refine ⟨_, _, P1 _ ?_, hrun, hended, _, _, rfl, ?_, ⟨_, rfl⟩, hW, hsame.mono (by decide : 0 ≤ _) (by decide : 0 ≤ _)⟩
  · exact retOut X28 hx Bd.returns rfl (Or.inr (Or.inr (Or.inr (Or.inr ⟨rfl, rfl, rfl⟩)))) (hb hby own_d7_4) hr
  · exact ⟨rfl, N0, e28⟩
theorem own_d9_0 : decode prog_28_method_6_code 0 = .ok (.aload_n 0, 1) := by decide +kernel
theorem own_d9_1 : decode prog_28_method_6_code 1 = .ok (.getfield 29, 3) := by decide +kernel
theorem own_d9_4 : decode prog_28_method_6_code 4 = .ok (.ireturn, 1) := by decide +kernel
theorem ef_9 (m : MethodId) (a : Addr) : entryFrame m #[(.ref a)] 1 = mkF m 0 #[.val (.ref a)] [] := by first | (simp [entryFrame, mkF, argsToLocals, Value.category, maxLocals]; done) | rfl
def Q_9 (Z : State) (a : Addr) (n : Int32) (h0 : Heap) (n0 : Nat) (v : Option Value) (h : Heap) (L : List Loc) : Prop := v = some (.int n) ∧ Fr n0 L ∧ h = h0
set_option maxRecDepth 65536 in
set_option maxHeartbeats 40000000 in
theorem rm_9 (l : Launch) (Z : State) (a0 : Array Value) (hw : ∀ d ∈ tables_1, d.before a0 Z = true) (ws : List Jvm.Cond) (a : Addr) (h0 : Heap) (n0 : Nat) (Z0 : n0 ≤ h0.size) (n : Int32) (F1 : Fld Z h0 a "com/example/latfix/latfix/model/Estimate" "landmarksUsed" "I" (.int n)) :
    MetFree l (⟨"com/example/latfix/latfix/model/Estimate", "getLandmarksUsed", "()I"⟩ : MethodName) (head1 (Jvm.Cond.code (⟨"com/example/latfix/latfix/model/Estimate", "getLandmarksUsed", "()I"⟩ : MethodName) prog_28_method_6_code 1 (some .int) :: ws) ({ frames := 0, cells := 0, slots := 0, locals := 0 } : Room)) (fun aa U => aa = #[(.ref a)] ∧ Z.Warmed39 U.vm ∧ U.heap = h0) (fun _ _ _ _ _ => True) (fun _ U o U' => ∃ v L, o = .returned v ∧ Q_9 Z a n h0 n0 v U'.heap L ∧ FrameEnd U o U' L ({ frames := 0, cells := 0, slots := 0, locals := 0 } : Room).cells ({ frames := 0, cells := 0, slots := 0, locals := 0 } : Room).slots) := by
  refine MetFree.of_bodySF (plainFor_of_name pn_9) hisR ?_
  intro p e s m args below meth c s₁ Bd hml0 hP hK
  obtain ⟨rfl, hZ, hh⟩ := hP
  have hx := Bd.exec
  have hby := Bd.bytes
  have hml : c.maxLocals = 1 := hml0
  have hown : s.vm.findClass "com/example/latfix/latfix/model/Estimate" = some m.cls := findClass_of_methodNamed Bd.named
  have hnm := (name_of_methodNamed Bd.named Bd.method).1
  have X0 : Stand p l e ({ frames := 0, cells := 0, slots := 0, locals := 0 } : Room) s m #[(.ref a)] below meth c s₁ [] 0 0 := Stand.of_body Bd
  have e0 : s₁.heap = h0 := by rw [← hh, Bd.state]; rfl
  have N0 := Fr.nil n0
  have H0 := Own.hr X0 hx hby
  have pre0 : ∀ t, Steps p.tables e below (s₁.setTop (mkF m 0 #[.val (.ref a)] [])) t → Steps p.tables e below (s₁.setTop (entryFrame m #[(.ref a)] 1)) t := fun t k => castTop (ef_9 m a) k
  obtain ⟨T29, X29, e29, st29⟩ := getF X0 hx hZ hown (host := "") (Or.inl (hw _ (List.mem_of_getElem? (i := 33) rfl))) Via.refl e0 F1 (g := (mkF m 1 #[.val (.ref a)] [(.ref a)])) rfl rfl (hb hby own_d9_1)
  have P1 : ∀ t, Steps p.tables e below (T29.setTop (mkF m 4 #[.val (.ref a)] [(.int n)])) t → Steps p.tables e below (s₁.setTop (entryFrame m #[(.ref a)] 1)) t := fun t k => pre0 t (by
      refine Own.w_aloadN H0 own_d9_0 1 rfl rfl rfl ?_
      exact st29 t k)
  have H29 := Own.hr X29 hx hby
  obtain ⟨fs, hr, hrun, hended, hW, hsame⟩ := X29.leave (v := some (.int n)) (fun h => by rw [Bd.returns] at h; cases h)
  refine ⟨_, _, P1 _ ?_, hrun, hended, _, _, rfl, ?_, ⟨_, rfl⟩, hW, hsame.mono (by decide : 0 ≤ _) (by decide : 0 ≤ _)⟩
  · exact retOut X29 hx Bd.returns rfl (Or.inl ⟨rfl, Or.inl rfl, _, rfl⟩) (hb hby own_d9_4) hr
  · exact ⟨rfl, N0, e29⟩
theorem own_d14_0 : decode prog_39_method_2_code 0 = .ok (.aload_n 0, 1) := by decide +kernel
theorem own_d14_1 : decode prog_39_method_2_code 1 = .ok (.getfield 7, 3) := by decide +kernel
theorem own_d14_4 : decode prog_39_method_2_code 4 = .ok (.dreturn, 1) := by decide +kernel
theorem ef_14 (m : MethodId) (a : Addr) : entryFrame m #[(.ref a)] 1 = mkF m 0 #[.val (.ref a)] [] := by first | (simp [entryFrame, mkF, argsToLocals, Value.category, maxLocals]; done) | rfl
def Q_14 (Z : State) (a : Addr) (d : UInt64) (h0 : Heap) (n0 : Nat) (v : Option Value) (h : Heap) (L : List Loc) : Prop := v = some (.double d) ∧ Fr n0 L ∧ h = h0
set_option maxRecDepth 65536 in
set_option maxHeartbeats 40000000 in
theorem rm_14 (l : Launch) (Z : State) (a0 : Array Value) (hw : ∀ d ∈ tables_1, d.before a0 Z = true) (ws : List Jvm.Cond) (a : Addr) (h0 : Heap) (n0 : Nat) (Z0 : n0 ≤ h0.size) (d : UInt64) (F1 : Fld Z h0 a "com/example/latfix/latfix/model/Position" "lat" "D" (.double d)) :
    MetFree l (⟨"com/example/latfix/latfix/model/Position", "getLat", "()D"⟩ : MethodName) (head1 (Jvm.Cond.code (⟨"com/example/latfix/latfix/model/Position", "getLat", "()D"⟩ : MethodName) prog_39_method_2_code 1 (some .double) :: ws) ({ frames := 0, cells := 0, slots := 0, locals := 0 } : Room)) (fun aa U => aa = #[(.ref a)] ∧ Z.Warmed39 U.vm ∧ U.heap = h0) (fun _ _ _ _ _ => True) (fun _ U o U' => ∃ v L, o = .returned v ∧ Q_14 Z a d h0 n0 v U'.heap L ∧ FrameEnd U o U' L ({ frames := 0, cells := 0, slots := 0, locals := 0 } : Room).cells ({ frames := 0, cells := 0, slots := 0, locals := 0 } : Room).slots) := by
  refine MetFree.of_bodySF (plainFor_of_name pn_14) hisR ?_
  intro p e s m args below meth c s₁ Bd hml0 hP hK
  obtain ⟨rfl, hZ, hh⟩ := hP
  have hx := Bd.exec
  have hby := Bd.bytes
  have hml : c.maxLocals = 1 := hml0
  have hown : s.vm.findClass "com/example/latfix/latfix/model/Position" = some m.cls := findClass_of_methodNamed Bd.named
  have hnm := (name_of_methodNamed Bd.named Bd.method).1
  have X0 : Stand p l e ({ frames := 0, cells := 0, slots := 0, locals := 0 } : Room) s m #[(.ref a)] below meth c s₁ [] 0 0 := Stand.of_body Bd
  have e0 : s₁.heap = h0 := by rw [← hh, Bd.state]; rfl
  have N0 := Fr.nil n0
  have H0 := Own.hr X0 hx hby
  have pre0 : ∀ t, Steps p.tables e below (s₁.setTop (mkF m 0 #[.val (.ref a)] [])) t → Steps p.tables e below (s₁.setTop (entryFrame m #[(.ref a)] 1)) t := fun t k => castTop (ef_14 m a) k
  obtain ⟨T30, X30, e30, st30⟩ := getF X0 hx hZ hown (host := "") (Or.inl (hw _ (List.mem_of_getElem? (i := 9) rfl))) Via.refl e0 F1 (g := (mkF m 1 #[.val (.ref a)] [(.ref a)])) rfl rfl (hb hby own_d14_1)
  have P1 : ∀ t, Steps p.tables e below (T30.setTop (mkF m 4 #[.val (.ref a)] [(.double d)])) t → Steps p.tables e below (s₁.setTop (entryFrame m #[(.ref a)] 1)) t := fun t k => pre0 t (by
      refine Own.w_aloadN H0 own_d14_0 1 rfl rfl rfl ?_
      exact st30 t k)
  have H30 := Own.hr X30 hx hby
  obtain ⟨fs, hr, hrun, hended, hW, hsame⟩ := X30.leave (v := some (.double d)) (fun h => by rw [Bd.returns] at h; cases h)
  refine ⟨_, _, P1 _ ?_, hrun, hended, _, _, rfl, ?_, ⟨_, rfl⟩, hW, hsame.mono (by decide : 0 ≤ _) (by decide : 0 ≤ _)⟩
  · exact retOut X30 hx Bd.returns rfl (Or.inr (Or.inr (Or.inl ⟨rfl, rfl, _, rfl⟩))) (hb hby own_d14_4) hr
  · exact ⟨rfl, N0, e30⟩
theorem own_d15_0 : decode prog_39_method_3_code 0 = .ok (.aload_n 0, 1) := by decide +kernel
theorem own_d15_1 : decode prog_39_method_3_code 1 = .ok (.getfield 13, 3) := by decide +kernel
theorem own_d15_4 : decode prog_39_method_3_code 4 = .ok (.dreturn, 1) := by decide +kernel
theorem ef_15 (m : MethodId) (a : Addr) : entryFrame m #[(.ref a)] 1 = mkF m 0 #[.val (.ref a)] [] := by first | (simp [entryFrame, mkF, argsToLocals, Value.category, maxLocals]; done) | rfl
def Q_15 (Z : State) (a : Addr) (d : UInt64) (h0 : Heap) (n0 : Nat) (v : Option Value) (h : Heap) (L : List Loc) : Prop := v = some (.double d) ∧ Fr n0 L ∧ h = h0
set_option maxRecDepth 65536 in
set_option maxHeartbeats 40000000 in
theorem rm_15 (l : Launch) (Z : State) (a0 : Array Value) (hw : ∀ d ∈ tables_1, d.before a0 Z = true) (ws : List Jvm.Cond) (a : Addr) (h0 : Heap) (n0 : Nat) (Z0 : n0 ≤ h0.size) (d : UInt64) (F1 : Fld Z h0 a "com/example/latfix/latfix/model/Position" "lon" "D" (.double d)) :
    MetFree l (⟨"com/example/latfix/latfix/model/Position", "getLon", "()D"⟩ : MethodName) (head1 (Jvm.Cond.code (⟨"com/example/latfix/latfix/model/Position", "getLon", "()D"⟩ : MethodName) prog_39_method_3_code 1 (some .double) :: ws) ({ frames := 0, cells := 0, slots := 0, locals := 0 } : Room)) (fun aa U => aa = #[(.ref a)] ∧ Z.Warmed39 U.vm ∧ U.heap = h0) (fun _ _ _ _ _ => True) (fun _ U o U' => ∃ v L, o = .returned v ∧ Q_15 Z a d h0 n0 v U'.heap L ∧ FrameEnd U o U' L ({ frames := 0, cells := 0, slots := 0, locals := 0 } : Room).cells ({ frames := 0, cells := 0, slots := 0, locals := 0 } : Room).slots) := by
  refine MetFree.of_bodySF (plainFor_of_name pn_15) hisR ?_
  intro p e s m args below meth c s₁ Bd hml0 hP hK
  obtain ⟨rfl, hZ, hh⟩ := hP
  have hx := Bd.exec
  have hby := Bd.bytes
  have hml : c.maxLocals = 1 := hml0
  have hown : s.vm.findClass "com/example/latfix/latfix/model/Position" = some m.cls := findClass_of_methodNamed Bd.named
  have hnm := (name_of_methodNamed Bd.named Bd.method).1
  have X0 : Stand p l e ({ frames := 0, cells := 0, slots := 0, locals := 0 } : Room) s m #[(.ref a)] below meth c s₁ [] 0 0 := Stand.of_body Bd
  have e0 : s₁.heap = h0 := by rw [← hh, Bd.state]; rfl
  have N0 := Fr.nil n0
  have H0 := Own.hr X0 hx hby
  have pre0 : ∀ t, Steps p.tables e below (s₁.setTop (mkF m 0 #[.val (.ref a)] [])) t → Steps p.tables e below (s₁.setTop (entryFrame m #[(.ref a)] 1)) t := fun t k => castTop (ef_15 m a) k
  obtain ⟨T31, X31, e31, st31⟩ := getF X0 hx hZ hown (host := "") (Or.inl (hw _ (List.mem_of_getElem? (i := 11) rfl))) Via.refl e0 F1 (g := (mkF m 1 #[.val (.ref a)] [(.ref a)])) rfl rfl (hb hby own_d15_1)
  have P1 : ∀ t, Steps p.tables e below (T31.setTop (mkF m 4 #[.val (.ref a)] [(.double d)])) t → Steps p.tables e below (s₁.setTop (entryFrame m #[(.ref a)] 1)) t := fun t k => pre0 t (by
      refine Own.w_aloadN H0 own_d15_0 1 rfl rfl rfl ?_
      exact st31 t k)
  have H31 := Own.hr X31 hx hby
  obtain ⟨fs, hr, hrun, hended, hW, hsame⟩ := X31.leave (v := some (.double d)) (fun h => by rw [Bd.returns] at h; cases h)
  refine ⟨_, _, P1 _ ?_, hrun, hended, _, _, rfl, ?_, ⟨_, rfl⟩, hW, hsame.mono (by decide : 0 ≤ _) (by decide : 0 ≤ _)⟩
  · exact retOut X31 hx Bd.returns rfl (Or.inr (Or.inr (Or.inl ⟨rfl, rfl, _, rfl⟩))) (hb hby own_d15_4) hr
  · exact ⟨rfl, N0, e31⟩
theorem own_d8n_0 : decode jdk_32_method_6_code 0 = .ok (.aload_n 0, 1) := by decide +kernel
theorem own_d8n_1 : decode jdk_32_method_6_code 1 = .ok (.getfield 13, 3) := by decide +kernel
theorem own_d8n_4 : decode jdk_32_method_6_code 4 = .ok (.ifnull 7, 3) := by decide +kernel
theorem own_d8n_11 : decode jdk_32_method_6_code 11 = .ok (.iconst 0, 1) := by decide +kernel
theorem own_d8n_12 : decode jdk_32_method_6_code 12 = .ok (.ireturn, 1) := by decide +kernel
theorem ef_8n (m : MethodId) (a : Addr) : entryFrame m #[(.ref a)] 1 = mkF m 0 #[.val (.ref a)] [] := by first | (simp [entryFrame, mkF, argsToLocals, Value.category, maxLocals]; done) | rfl
def Q_8n (Z : State) (a : Addr) (h0 : Heap) (n0 : Nat) (v : Option Value) (h : Heap) (L : List Loc) : Prop := v = some (.int (0 : Int32)) ∧ Fr n0 L ∧ h = h0
set_option maxRecDepth 65536 in
set_option maxHeartbeats 40000000 in
theorem rm_8n (l : Launch) (Z : State) (a0 : Array Value) (hw : ∀ d ∈ tables_1, d.before a0 Z = true) (ws : List Jvm.Cond) (a : Addr) (h0 : Heap) (n0 : Nat) (Z0 : n0 ≤ h0.size) (F1 : Fld Z h0 a "java/util/Optional" "value" "Ljava/lang/Object;" .null) :
    MetFree l (⟨"java/util/Optional", "isPresent", "()Z"⟩ : MethodName) (head1 (Jvm.Cond.code (⟨"java/util/Optional", "isPresent", "()Z"⟩ : MethodName) jdk_32_method_6_code 1 (some .boolean) :: ws) ({ frames := 0, cells := 0, slots := 0, locals := 0 } : Room)) (fun aa U => aa = #[(.ref a)] ∧ Z.Warmed39 U.vm ∧ U.heap = h0) (fun _ _ _ _ _ => True) (fun _ U o U' => ∃ v L, o = .returned v ∧ Q_8n Z a h0 n0 v U'.heap L ∧ FrameEnd U o U' L ({ frames := 0, cells := 0, slots := 0, locals := 0 } : Room).cells ({ frames := 0, cells := 0, slots := 0, locals := 0 } : Room).slots) := by
  refine MetFree.of_bodySF (plainFor_of_name pn_8n) hisR ?_
  intro p e s m args below meth c s₁ Bd hml0 hP hK
  obtain ⟨rfl, hZ, hh⟩ := hP
  have hx := Bd.exec
  have hby := Bd.bytes
  have hml : c.maxLocals = 1 := hml0
  have hown : s.vm.findClass "java/util/Optional" = some m.cls := findClass_of_methodNamed Bd.named
  have hnm := (name_of_methodNamed Bd.named Bd.method).1
  have X0 : Stand p l e ({ frames := 0, cells := 0, slots := 0, locals := 0 } : Room) s m #[(.ref a)] below meth c s₁ [] 0 0 := Stand.of_body Bd
  have e0 : s₁.heap = h0 := by rw [← hh, Bd.state]; rfl
  have N0 := Fr.nil n0
  have H0 := Own.hr X0 hx hby
  have pre0 : ∀ t, Steps p.tables e below (s₁.setTop (mkF m 0 #[.val (.ref a)] [])) t → Steps p.tables e below (s₁.setTop (entryFrame m #[(.ref a)] 1)) t := fun t k => castTop (ef_8n m a) k
  obtain ⟨T32, X32, e32, st32⟩ := getF X0 hx hZ hown (host := "") (Or.inl (hw _ (List.mem_of_getElem? (i := 50) rfl))) Via.refl e0 F1 (g := (mkF m 1 #[.val (.ref a)] [(.ref a)])) rfl rfl (hb hby own_d8n_1)
  have P1 : ∀ t, Steps p.tables e below (T32.setTop (mkF m 4 #[.val (.ref a)] [.null])) t → Steps p.tables e below (s₁.setTop (entryFrame m #[(.ref a)] 1)) t := fun t k => pre0 t (by
      refine Own.w_aloadN H0 own_d8n_0 1 rfl rfl rfl ?_
      exact st32 t k)
  have H32 := Own.hr X32 hx hby
  obtain ⟨fs, hr, hrun, hended, hW, hsame⟩ := X32.leave (v := some (.int (0 : Int32))) (fun h => by rw [Bd.returns] at h; cases h)
  refine ⟨_, _, P1 _ ?_, hrun, hended, _, _, rfl, ?_, ⟨_, rfl⟩, hW, hsame.mono (by decide : 0 ≤ _) (by decide : 0 ≤ _)⟩
  · refine Own.w_ifnullYes H32 own_d8n_4 11 (by decide) (by decide) ?_
    refine Own.w_iconst H32 own_d8n_11 12 rfl (z := (0 : Int32)) rfl ?_
    exact retN X32 hx (t := .boolean) Bd.returns (by simp) (hb hby own_d8n_12) hr
  · exact ⟨rfl, N0, e32⟩
theorem own_d8y_0 : decode jdk_32_method_6_code 0 = .ok (.aload_n 0, 1) := by decide +kernel
theorem own_d8y_1 : decode jdk_32_method_6_code 1 = .ok (.getfield 13, 3) := by decide +kernel
theorem own_d8y_4 : decode jdk_32_method_6_code 4 = .ok (.ifnull 7, 3) := by decide +kernel
theorem own_d8y_7 : decode jdk_32_method_6_code 7 = .ok (.iconst 1, 1) := by decide +kernel
theorem own_d8y_8 : decode jdk_32_method_6_code 8 = .ok (.goto 4, 3) := by decide +kernel
theorem own_d8y_12 : decode jdk_32_method_6_code 12 = .ok (.ireturn, 1) := by decide +kernel
theorem ef_8y (m : MethodId) (a : Addr) : entryFrame m #[(.ref a)] 1 = mkF m 0 #[.val (.ref a)] [] := by first | (simp [entryFrame, mkF, argsToLocals, Value.category, maxLocals]; done) | rfl
def Q_8y (Z : State) (a : Addr) (h0 : Heap) (n0 : Nat) (v : Option Value) (h : Heap) (L : List Loc) : Prop := v = some (.int (1 : Int32)) ∧ Fr n0 L ∧ h = h0
set_option maxRecDepth 65536 in
set_option maxHeartbeats 40000000 in
theorem rm_8y (l : Launch) (Z : State) (a0 : Array Value) (hw : ∀ d ∈ tables_1, d.before a0 Z = true) (ws : List Jvm.Cond) (a : Addr) (h0 : Heap) (n0 : Nat) (Z0 : n0 ≤ h0.size) (b : Addr) (F1 : Fld Z h0 a "java/util/Optional" "value" "Ljava/lang/Object;" (.ref b)) :
    MetFree l (⟨"java/util/Optional", "isPresent", "()Z"⟩ : MethodName) (head1 (Jvm.Cond.code (⟨"java/util/Optional", "isPresent", "()Z"⟩ : MethodName) jdk_32_method_6_code 1 (some .boolean) :: ws) ({ frames := 0, cells := 0, slots := 0, locals := 0 } : Room)) (fun aa U => aa = #[(.ref a)] ∧ Z.Warmed39 U.vm ∧ U.heap = h0) (fun _ _ _ _ _ => True) (fun _ U o U' => ∃ v L, o = .returned v ∧ Q_8y Z a h0 n0 v U'.heap L ∧ FrameEnd U o U' L ({ frames := 0, cells := 0, slots := 0, locals := 0 } : Room).cells ({ frames := 0, cells := 0, slots := 0, locals := 0 } : Room).slots) := by
  refine MetFree.of_bodySF (plainFor_of_name pn_8y) hisR ?_
  intro p e s m args below meth c s₁ Bd hml0 hP hK
  obtain ⟨rfl, hZ, hh⟩ := hP
  have hx := Bd.exec
  have hby := Bd.bytes
  have hml : c.maxLocals = 1 := hml0
  have hown : s.vm.findClass "java/util/Optional" = some m.cls := findClass_of_methodNamed Bd.named
  have hnm := (name_of_methodNamed Bd.named Bd.method).1
  have X0 : Stand p l e ({ frames := 0, cells := 0, slots := 0, locals := 0 } : Room) s m #[(.ref a)] below meth c s₁ [] 0 0 := Stand.of_body Bd
  have e0 : s₁.heap = h0 := by rw [← hh, Bd.state]; rfl
  have N0 := Fr.nil n0
  have H0 := Own.hr X0 hx hby
  have pre0 : ∀ t, Steps p.tables e below (s₁.setTop (mkF m 0 #[.val (.ref a)] [])) t → Steps p.tables e below (s₁.setTop (entryFrame m #[(.ref a)] 1)) t := fun t k => castTop (ef_8y m a) k
  obtain ⟨T33, X33, e33, st33⟩ := getF X0 hx hZ hown (host := "") (Or.inl (hw _ (List.mem_of_getElem? (i := 50) rfl))) Via.refl e0 F1 (g := (mkF m 1 #[.val (.ref a)] [(.ref a)])) rfl rfl (hb hby own_d8y_1)
  have P1 : ∀ t, Steps p.tables e below (T33.setTop (mkF m 4 #[.val (.ref a)] [(.ref b)])) t → Steps p.tables e below (s₁.setTop (entryFrame m #[(.ref a)] 1)) t := fun t k => pre0 t (by
      refine Own.w_aloadN H0 own_d8y_0 1 rfl rfl rfl ?_
      exact st33 t k)
  have H33 := Own.hr X33 hx hby
  obtain ⟨fs, hr, hrun, hended, hW, hsame⟩ := X33.leave (v := some (.int (1 : Int32))) (fun h => by rw [Bd.returns] at h; cases h)
  refine ⟨_, _, P1 _ ?_, hrun, hended, _, _, rfl, ?_, ⟨_, rfl⟩, hW, hsame.mono (by decide : 0 ≤ _) (by decide : 0 ≤ _)⟩
  · refine Own.w_ifnullNo H33 own_d8y_4 7 rfl ?_
    refine Own.w_iconst H33 own_d8y_7 8 rfl (z := (1 : Int32)) rfl ?_
    refine Own.w_goto H33 own_d8y_8 12 (by decide) (by decide) ?_
    exact retN X33 hx (t := .boolean) Bd.returns (by simp) (hb hby own_d8y_12) hr
  · exact ⟨rfl, N0, e33⟩
theorem own_d13_0 : decode jdk_32_method_5_code 0 = .ok (.aload_n 0, 1) := by decide +kernel
theorem own_d13_1 : decode jdk_32_method_5_code 1 = .ok (.getfield 13, 3) := by decide +kernel
theorem own_d13_4 : decode jdk_32_method_5_code 4 = .ok (.ifnonnull 13, 3) := by decide +kernel
theorem own_d13_17 : decode jdk_32_method_5_code 17 = .ok (.aload_n 0, 1) := by decide +kernel
theorem own_d13_18 : decode jdk_32_method_5_code 18 = .ok (.getfield 13, 3) := by decide +kernel
theorem own_d13_21 : decode jdk_32_method_5_code 21 = .ok (.areturn, 1) := by decide +kernel
theorem ef_13 (m : MethodId) (a : Addr) : entryFrame m #[(.ref a)] 1 = mkF m 0 #[.val (.ref a)] [] := by first | (simp [entryFrame, mkF, argsToLocals, Value.category, maxLocals]; done) | rfl
def Q_13 (Z : State) (a b : Addr) (h0 : Heap) (n0 : Nat) (v : Option Value) (h : Heap) (L : List Loc) : Prop := v = some (.ref b) ∧ Fr n0 L ∧ h = h0
set_option maxRecDepth 65536 in
set_option maxHeartbeats 40000000 in
theorem rm_13 (l : Launch) (Z : State) (a0 : Array Value) (hw : ∀ d ∈ tables_1, d.before a0 Z = true) (ws : List Jvm.Cond) (a : Addr) (h0 : Heap) (n0 : Nat) (Z0 : n0 ≤ h0.size) (b : Addr) (F1 : Fld Z h0 a "java/util/Optional" "value" "Ljava/lang/Object;" (.ref b)) :
    MetFree l (⟨"java/util/Optional", "get", "()Ljava/lang/Object;"⟩ : MethodName) (head1 (Jvm.Cond.code (⟨"java/util/Optional", "get", "()Ljava/lang/Object;"⟩ : MethodName) jdk_32_method_5_code 1 (some (.object "java/lang/Object")) :: ws) ({ frames := 0, cells := 0, slots := 0, locals := 0 } : Room)) (fun aa U => aa = #[(.ref a)] ∧ Z.Warmed39 U.vm ∧ U.heap = h0) (fun _ _ _ _ _ => True) (fun _ U o U' => ∃ v L, o = .returned v ∧ Q_13 Z a b h0 n0 v U'.heap L ∧ FrameEnd U o U' L ({ frames := 0, cells := 0, slots := 0, locals := 0 } : Room).cells ({ frames := 0, cells := 0, slots := 0, locals := 0 } : Room).slots) := by
  refine MetFree.of_bodySF (plainFor_of_name pn_13) hisR ?_
  intro p e s m args below meth c s₁ Bd hml0 hP hK
  obtain ⟨rfl, hZ, hh⟩ := hP
  have hx := Bd.exec
  have hby := Bd.bytes
  have hml : c.maxLocals = 1 := hml0
  have hown : s.vm.findClass "java/util/Optional" = some m.cls := findClass_of_methodNamed Bd.named
  have hnm := (name_of_methodNamed Bd.named Bd.method).1
  have X0 : Stand p l e ({ frames := 0, cells := 0, slots := 0, locals := 0 } : Room) s m #[(.ref a)] below meth c s₁ [] 0 0 := Stand.of_body Bd
  have e0 : s₁.heap = h0 := by rw [← hh, Bd.state]; rfl
  have N0 := Fr.nil n0
  have H0 := Own.hr X0 hx hby
  have pre0 : ∀ t, Steps p.tables e below (s₁.setTop (mkF m 0 #[.val (.ref a)] [])) t → Steps p.tables e below (s₁.setTop (entryFrame m #[(.ref a)] 1)) t := fun t k => castTop (ef_13 m a) k
  obtain ⟨T34, X34, e34, st34⟩ := getF X0 hx hZ hown (host := "") (Or.inl (hw _ (List.mem_of_getElem? (i := 50) rfl))) Via.refl e0 F1 (g := (mkF m 1 #[.val (.ref a)] [(.ref a)])) rfl rfl (hb hby own_d13_1)
  have P1 : ∀ t, Steps p.tables e below (T34.setTop (mkF m 4 #[.val (.ref a)] [(.ref b)])) t → Steps p.tables e below (s₁.setTop (entryFrame m #[(.ref a)] 1)) t := fun t k => pre0 t (by
      refine Own.w_aloadN H0 own_d13_0 1 rfl rfl rfl ?_
      exact st34 t k)
  have H34 := Own.hr X34 hx hby
  obtain ⟨T35, X35, e35, st35⟩ := getF X34 hx hZ hown (host := "") (Or.inl (hw _ (List.mem_of_getElem? (i := 50) rfl))) Via.refl e34 F1 (g := (mkF m 18 #[.val (.ref a)] [(.ref a)])) rfl rfl (hb hby own_d13_18)
  have P2 : ∀ t, Steps p.tables e below (T35.setTop (mkF m 21 #[.val (.ref a)] [(.ref b)])) t → Steps p.tables e below (s₁.setTop (entryFrame m #[(.ref a)] 1)) t := fun t k => P1 t (by
      refine Own.w_ifnonnullYes H34 own_d13_4 17 (by decide) (by decide) ?_
      refine Own.w_aloadN H34 own_d13_17 18 rfl rfl rfl ?_
      exact st35 t k)
  have H35 := Own.hr X35 hx hby
  obtain ⟨fs, hr, hrun, hended, hW, hsame⟩ := X35.leave (v := some (.ref b)) (fun h => by rw [Bd.returns] at h; cases h)
  refine ⟨_, _, P2 _ ?_, hrun, hended, _, _, rfl, ?_, ⟨_, rfl⟩, hW, hsame.mono (by decide : 0 ≤ _) (by decide : 0 ≤ _)⟩
  · exact retOut X35 hx Bd.returns rfl (Or.inr (Or.inr (Or.inr (Or.inr ⟨rfl, rfl, rfl⟩)))) (hb hby own_d13_21) hr
  · exact ⟨rfl, N0, e35⟩
def Q_0 (Z : State) (f la lo n : Int32) (h0 : Heap) (n0 : Nat) (v : Option Value) (h : Heap) (L : List Loc) : Prop := v = some (.int 1) ∧ Fr n0 L
def Q_0a := Q_0
def Q_0b := Q_0
theorem ef_0a (m : MethodId) (f : Int32) (la : Int32) (lo : Int32) (n : Int32) : entryFrame m #[(.int f), (.int la), (.int lo), (.int n)] maxLocals = mkF m 0 #[.val (.int f), .val (.int la), .val (.int lo), .val (.int n), .unset, .unset, .unset, .unset, .unset, .unset, .unset, .unset, .unset, .unset, .unset] [] := by first | (simp [entryFrame, mkF, argsToLocals, Value.category, maxLocals]; done) | rfl
set_option maxRecDepth 65536 in
set_option maxHeartbeats 40000000 in
theorem rm_0a (l : Launch) (Z : State) (a0 : Array Value) (hw : ∀ d ∈ tables_1, d.before a0 Z = true) (ws : List Jvm.Cond) (f : Int32) (la : Int32) (lo : Int32) (n : Int32) (h0 : Heap) (n0 : Nat) (Z0 : n0 ≤ h0.size) (aE : Addr) (OL : Old Z n0 h0) (S0 : Sta Z Z.heap "java/util/Optional" "EMPTY" "Ljava/util/Optional;" (.ref aE)) (FE : Fld Z Z.heap aE "java/util/Optional" "value" "Ljava/lang/Object;" .null) (XE : Exa Z Z.heap aE "java/util/Optional") (hf : ifCond.holds .eq (f &&& (1 : Int32)) = false) :
    MetFree l x (head1 (Jvm.Cond.code x code maxLocals ret :: ws) room_1) (fun aa U => aa = #[(.int f), (.int la), (.int lo), (.int n)] ∧ Z.Warmed39 U.vm ∧ U.heap = h0) (fun _ _ _ _ _ => True) (fun _ U o U' => ∃ v L, o = .returned v ∧ Q_0a Z f la lo n h0 n0 v U'.heap L ∧ FrameEnd U o U' L 16 128) := by
  refine MetFree.of_bodySF (plainFor_of_name pn_0a) hisR ?_
  intro p e s m args below meth c s₁ Bd hml0 hP hK
  obtain ⟨rfl, hZ, hh⟩ := hP
  have hx := Bd.exec
  have hby := Bd.bytes
  have hml : c.maxLocals = 15 := hml0
  have hown : s.vm.findClass "com/example/latfix/latfix/model/EstimateAtPointPinLaw" = some m.cls := findClass_of_methodNamed Bd.named
  have hnm := (name_of_methodNamed Bd.named Bd.method).1
  have X0 : Stand p l e room_1 s m #[(.int f), (.int la), (.int lo), (.int n)] below meth c s₁ [] 0 0 := Stand.of_body Bd
  have e0 : s₁.heap = h0 := by rw [← hh, Bd.state]; rfl
  have N0 := Fr.nil n0
  have H0 := Own.hr X0 hx hby
  have pre0 : ∀ t, Steps p.tables e below (s₁.setTop (mkF m 0 #[.val (.int f), .val (.int la), .val (.int lo), .val (.int n), .unset, .unset, .unset, .unset, .unset, .unset, .unset, .unset, .unset, .unset, .unset] [])) t → Steps p.tables e below (s₁.setTop (entryFrame m #[(.int f), (.int la), (.int lo), (.int n)] maxLocals)) t := fun t k => castTop (ef_0a m f la lo n) k
  have nan : ∀ z : Int32, ifCond.holds .ne (Own.dcmpV (FP.i2d z) (FP.i2d z) .l) = false := fun z => by
    have q : FP.dcmp (FP.i2d z) (FP.i2d z) = some .eq := FP.Core.dcmp_self (fun r => by
      have w := (FP.Core.i2d_int z)
      unfold FP.Core.DInt at w
      rw [show FP.Core.val64 (FP.Core.i2d z) = _ from r] at w
      exact w)
    unfold Own.dcmpV; rw [q]; rfl
  have P1 : ∀ t, Steps p.tables e below (s₁.setTop (mkF m 24 #[.val (.int f), .val (.int la), .val (.int lo), .val (.int n), .val (.int (1 : Int32)), .val (.double (FP.i2d (la % (91 : Int32)))), .second, .val (.double (FP.i2d lo)), .second, .unset, .unset, .unset, .unset, .unset, .unset] [])) t → Steps p.tables e below (s₁.setTop (entryFrame m #[(.int f), (.int la), (.int lo), (.int n)] maxLocals)) t := fun t k => pre0 t (by
      refine Own.w_iloadN H0 at_0 1 rfl rfl ?_
      refine Own.w_iconst H0 at_1 2 rfl (z := (1 : Int32)) rfl ?_
      refine Own.w_iand H0 at_2 3 rfl ?_
      refine Own.w_ifCondNo H0 at_3 (hf) 6 rfl ?_
      refine Own.w_iconst H0 at_6 7 rfl (z := (1 : Int32)) rfl ?_
      refine Own.w_goto H0 at_7 11 (by decide) (by decide) ?_
      refine Own.w_istore H0 at_11 13 rfl (l' := #[.val (.int f), .val (.int la), .val (.int lo), .val (.int n), .val (.int (1 : Int32)), .unset, .unset, .unset, .unset, .unset, .unset, .unset, .unset, .unset, .unset]) rfl ?_
      refine Own.w_iloadN H0 at_13 14 rfl rfl ?_
      refine Own.w_bipush H0 at_14 16 rfl (z := (91 : Int32)) rfl ?_
      refine Own.w_irem H0 at_16 17 rfl (by decide) ?_
      refine Own.w_i2d H0 at_17 18 rfl ?_
      refine Own.w_dstore H0 at_18 20 rfl (l' := #[.val (.int f), .val (.int la), .val (.int lo), .val (.int n), .val (.int (1 : Int32)), .val (.double (FP.i2d (la % (91 : Int32)))), .second, .unset, .unset, .unset, .unset, .unset, .unset, .unset, .unset]) rfl ?_
      refine Own.w_iloadN H0 at_20 21 rfl rfl ?_
      refine Own.w_i2d H0 at_21 22 rfl ?_
      refine Own.w_dstore H0 at_22 24 rfl (l' := #[.val (.int f), .val (.int la), .val (.int lo), .val (.int n), .val (.int (1 : Int32)), .val (.double (FP.i2d (la % (91 : Int32)))), .second, .val (.double (FP.i2d lo)), .second, .unset, .unset, .unset, .unset, .unset, .unset]) rfl ?_
      exact k)
  obtain ⟨T36, h36, X36, e36, E36, A36, D36, -, st36⟩ := newO X0 hx hZ hown (hw _ (List.mem_of_getElem? (i := 0) rfl)) (hw _ (List.mem_of_getElem? (i := 1) rfl)) (hw _ (List.mem_of_getElem? (i := 2) rfl)) e0 (g := (mkF m 24 #[.val (.int f), .val (.int la), .val (.int lo), .val (.int n), .val (.int (1 : Int32)), .val (.double (FP.i2d (la % (91 : Int32)))), .second, .val (.double (FP.i2d lo)), .second, .unset, .unset, .unset, .unset, .unset, .unset] [])) rfl (hb hby at_24) (by decide : 0 + 1 ≤ _) (by decide : 0 + 2 ≤ _)
  obtain ⟨a36, g36⟩ : ∃ z, z = (h0).size := ⟨_, rfl⟩
  rw [← g36] at A36 D36 st36
  have P2 : ∀ t, Steps p.tables e below (T36.setTop (mkF m 27 #[.val (.int f), .val (.int la), .val (.int lo), .val (.int n), .val (.int (1 : Int32)), .val (.double (FP.i2d (la % (91 : Int32)))), .second, .val (.double (FP.i2d lo)), .second, .unset, .unset, .unset, .unset, .unset, .unset] [(.ref a36)])) t → Steps p.tables e below (s₁.setTop (entryFrame m #[(.int f), (.int la), (.int lo), (.int n)] maxLocals)) t := fun t k => P1 t (by
      exact st36 t k)
  have H36 := Own.hr X36 hx hby
  have Z1 := Nat.le_trans Z0 E36.1
  have OL1 := OL.ext E36
  have gP : n0 ≤ a36 := Nat.le_trans Z0 (Nat.le_of_eq g36.symm)
  have V1 := D36 (Or.inr (hw _ (List.mem_of_getElem? (i := 10) rfl))) (ty := .double) (by decide)
  have V2 := D36 (Or.inr (hw _ (List.mem_of_getElem? (i := 12) rfl))) (ty := .double) (by decide)
  obtain ⟨_, _, ⟨T37, L37, k37, n37⟩, -, X37, ⟨Lc37, hQ37, l37, y37, z37⟩, st37⟩ := X36.specialBack hx (y := (⟨"com/example/latfix/latfix/model/Position", "<init>", "(DD)V"⟩ : MethodName)) rfl hown (mvT hZ (hw _ (List.mem_of_getElem? (i := 3) rfl))) (mvT hZ (hw _ (List.mem_of_getElem? (i := 4) rfl))) (mvT hZ (hw _ (List.mem_of_getElem? (i := 5) rfl))) (by decide) (backOf (W := 1) (rm_1 l Z a0 hw [] a36 (FP.i2d (la % (91 : Int32))) (FP.i2d lo) h36 n0 Z1 _ _ V1 V2 A36 gP) hZ (hw _ (List.mem_of_getElem? (i := 5) rfl)) (hw _ (List.mem_of_getElem? (i := 2) rfl)) (by decide) (by decide)) (g := (mkF m 32 #[.val (.int f), .val (.int la), .val (.int lo), .val (.int n), .val (.int (1 : Int32)), .val (.double (FP.i2d (la % (91 : Int32)))), .second, .val (.double (FP.i2d lo)), .second, .unset, .unset, .unset, .unset, .unset, .unset] [(.double (FP.i2d lo)), (.double (FP.i2d (la % (91 : Int32)))), (.ref a36), (.ref a36)])) rfl (by rw [hml]; rfl) (Steps.refl _) (a := a36) (argsL := [(.double (FP.i2d (la % (91 : Int32)))), (.double (FP.i2d lo))]) (rest := [(.ref a36)]) (lenOf pd_1 rfl) rfl (by show 2 * 0 + _ ≤ _; exact Nat.le_of_ble_eq_true rfl) (hb hby at_32) (fun _ _ => ⟨rfl, e36, (by decide : 1 + 0 ≤ _), (by decide : 2 + 0 ≤ _)⟩)
  dsimp only [Pt.U, Pt.locs, Pt.cells, Pt.slots] at X37 l37 y37 z37 st37 hQ37
  subst l37 y37 z37
  obtain ⟨rfl, Np, Kp, EP, FLa, FLo⟩ := hQ37
  have P3 : ∀ t, Steps p.tables e below (T37.setTop (mkF m 35 #[.val (.int f), .val (.int la), .val (.int lo), .val (.int n), .val (.int (1 : Int32)), .val (.double (FP.i2d (la % (91 : Int32)))), .second, .val (.double (FP.i2d lo)), .second, .unset, .unset, .unset, .unset, .unset, .unset] [(.ref a36)])) t → Steps p.tables e below (s₁.setTop (entryFrame m #[(.int f), (.int la), (.int lo), (.int n)] maxLocals)) t := fun t k => P2 t (by
      refine Own.w_dup H36 at_27 28 rfl rfl ?_
      refine Own.w_dload H36 at_28 30 rfl rfl ?_
      refine Own.w_dload H36 at_30 32 rfl rfl ?_
      exact st37.trans k)
  have H37 := Own.hr X37 hx hby
  have N38 := Fr.app N0 Np
  have Z2 := Nat.le_trans Z1 Kp.1
  have OL2 := OL1.keep Kp (allS gP all0)
  obtain ⟨_, _, ⟨T39, L39, k39, n39⟩, -, X39, ⟨Lc39, hQ39, l39, y39, z39⟩, st39⟩ := Jvm.LawKit.callS X37 hx (y := (⟨"java/util/Optional", "of", "(Ljava/lang/Object;)Ljava/util/Optional;"⟩ : MethodName)) hown (mvT hZ (hw _ (List.mem_of_getElem? (i := 57) rfl))) (mvT hZ (hw _ (List.mem_of_getElem? (i := 58) rfl))) (mvT hZ (hw _ (List.mem_of_getElem? (i := 15) rfl))) (mvT hZ (hw _ (List.mem_of_getElem? (i := 59) rfl))) (by decide) (backOf (W := 0) (rm_10 l Z a0 hw [] a36 T37.heap n0 Z2) hZ (hw _ (List.mem_of_getElem? (i := 59) rfl)) (hw _ (List.mem_of_getElem? (i := 15) rfl)) (by decide) (by decide)) (g := (mkF m 44 #[.val (.int f), .val (.int la), .val (.int lo), .val (.int n), .val (.int (1 : Int32)), .val (.double (FP.i2d (la % (91 : Int32)))), .second, .val (.double (FP.i2d lo)), .second, .val (.ref a36), .unset, .unset, .unset, .unset, .unset] [(.ref a36)])) rfl (by rw [hml]; rfl) (argsL := [(.ref a36)]) (rest := []) (lenOf pd_10 rfl) rfl (by show 2 * 0 + _ ≤ _; exact Nat.le_of_ble_eq_true rfl) (hb hby at_44) (fun _ _ => ⟨rfl, rfl, (by decide : 1 + 1 ≤ _), (by decide : 2 + 1 ≤ _)⟩)
  dsimp only [Pt.U, Pt.locs, Pt.cells, Pt.slots] at X39 l39 y39 z39 st39 hQ39
  subst l39 y39 z39
  obtain ⟨aO, rfl, gO, No, Ko, EO, FO⟩ := hQ39
  have P4 : ∀ t, Steps p.tables e below (T39.setTop (mkF m 47 #[.val (.int f), .val (.int la), .val (.int lo), .val (.int n), .val (.int (1 : Int32)), .val (.double (FP.i2d (la % (91 : Int32)))), .second, .val (.double (FP.i2d lo)), .second, .val (.ref a36), .unset, .unset, .unset, .unset, .unset] [(.ref aO)])) t → Steps p.tables e below (s₁.setTop (entryFrame m #[(.int f), (.int la), (.int lo), (.int n)] maxLocals)) t := fun t k => P3 t (by
      refine Own.w_astore H37 at_35 37 rfl rfl (l' := #[.val (.int f), .val (.int la), .val (.int lo), .val (.int n), .val (.int (1 : Int32)), .val (.double (FP.i2d (la % (91 : Int32)))), .second, .val (.double (FP.i2d lo)), .second, .val (.ref a36), .unset, .unset, .unset, .unset, .unset]) rfl ?_
      refine Own.w_iload H37 at_37 39 rfl rfl ?_
      refine Own.w_ifCondNo H37 at_39 (rfl) 42 rfl ?_
      refine Own.w_aload H37 at_42 44 rfl rfl rfl ?_
      exact st39 t k)
  have H39 := Own.hr X39 hx hby
  have N40 := Fr.app N38 No
  have Z3 := Nat.le_trans Z2 Ko.1
  have OL3 := OL2.keep Ko all0
  have EP3 := EP.keep Ko
  have FLa3 := FLa.keep Ko nin0
  have FLo3 := FLo.keep Ko nin0
  obtain ⟨_, _, ⟨T41, L41, k41, n41⟩, -, X41, ⟨Lc41, hQ41, l41, y41, z41⟩, st41⟩ := Jvm.LawKit.callS X39 hx (y := (⟨"com/example/latfix/latfix/model/Estimate", "atPoint", "(Ljava/util/Optional;I)Lcom/example/latfix/latfix/model/Estimate;"⟩ : MethodName)) hown (mvT hZ (hw _ (List.mem_of_getElem? (i := 18) rfl))) (mvT hZ (hw _ (List.mem_of_getElem? (i := 19) rfl))) (mvT hZ (hw _ (List.mem_of_getElem? (i := 20) rfl))) (mvT hZ (hw _ (List.mem_of_getElem? (i := 21) rfl))) (by decide) (backOf (W := 0) (rm_4 l Z a0 hw [] aO n T39.heap n0 Z3 aE (S0.ext OL3.2)) hZ (hw _ (List.mem_of_getElem? (i := 21) rfl)) (hw _ (List.mem_of_getElem? (i := 20) rfl)) (by decide) (by decide)) (g := (mkF m 58 #[.val (.int f), .val (.int la), .val (.int lo), .val (.int n), .val (.int (1 : Int32)), .val (.double (FP.i2d (la % (91 : Int32)))), .second, .val (.double (FP.i2d lo)), .second, .val (.ref a36), .val (.ref aO), .unset, .unset, .unset, .unset] [(.int n), (.ref aO)])) rfl (by rw [hml]; rfl) (argsL := [(.ref aO), (.int n)]) (rest := []) (lenOf pd_4 rfl) rfl (by show 2 * 0 + _ ≤ _; exact Nat.le_of_ble_eq_true rfl) (hb hby at_58) (fun _ _ => ⟨rfl, rfl, (by decide : 2 + 1 ≤ _), (by decide : 3 + 3 ≤ _)⟩)
  dsimp only [Pt.U, Pt.locs, Pt.cells, Pt.slots] at X41 l41 y41 z41 st41 hQ41
  subst l41 y41 z41
  obtain ⟨aS, rfl, gS, Ns, Ks, ES, Fpo, Fre, Flm⟩ := hQ41
  have P5 : ∀ t, Steps p.tables e below (T41.setTop (mkF m 61 #[.val (.int f), .val (.int la), .val (.int lo), .val (.int n), .val (.int (1 : Int32)), .val (.double (FP.i2d (la % (91 : Int32)))), .second, .val (.double (FP.i2d lo)), .second, .val (.ref a36), .val (.ref aO), .unset, .unset, .unset, .unset] [(.ref aS)])) t → Steps p.tables e below (s₁.setTop (entryFrame m #[(.int f), (.int la), (.int lo), (.int n)] maxLocals)) t := fun t k => P4 t (by
      refine Own.w_goto H39 at_47 53 (by decide) (by decide) ?_
      refine Own.w_astore H39 at_53 55 rfl rfl (l' := #[.val (.int f), .val (.int la), .val (.int lo), .val (.int n), .val (.int (1 : Int32)), .val (.double (FP.i2d (la % (91 : Int32)))), .second, .val (.double (FP.i2d lo)), .second, .val (.ref a36), .val (.ref aO), .unset, .unset, .unset, .unset]) rfl ?_
      refine Own.w_aload H39 at_55 57 rfl rfl rfl ?_
      refine Own.w_iloadN H39 at_57 58 rfl rfl ?_
      exact st41 t k)
  have H41 := Own.hr X41 hx hby
  have N42 := Fr.app N40 Ns
  have Z4 := Nat.le_trans Z3 Ks.1
  have OL4 := OL3.keep Ks all0
  have XE4 := XE.ext OL4.2
  have FE4 := FE.ext OL4.2
  have EO4 := EO.keep Ks
  have FO4 := FO.keep Ks nin0
  have EP4 := EP3.keep Ks
  have FLa4 := FLa3.keep Ks nin0
  have FLo4 := FLo3.keep Ks nin0
  obtain ⟨cq43, kq43, qa43, qb43, qc43⟩ := isOf hZ rfl ES
  obtain ⟨_, _, ⟨T43, L43, k43, n43⟩, -, X43, ⟨Lc43, hQ43, l43, y43, z43⟩, st43⟩ := X41.virtualBack hx (y := (⟨"com/example/latfix/latfix/model/Estimate", "getPosition", "()Ljava/util/Optional;"⟩ : MethodName)) (z := (⟨"com/example/latfix/latfix/model/Estimate", "getPosition", "()Ljava/util/Optional;"⟩ : MethodName)) hown (mvT hZ (hw _ (List.mem_of_getElem? (i := 35) rfl))) (mvT hZ (hw _ (List.mem_of_getElem? (i := 36) rfl))) (notFace_of_selects (args := #[]) (mvT hZ (hw _ (List.mem_of_getElem? (i := 38) rfl)))) (mvT hZ (hw _ (List.mem_of_getElem? (i := 38) rfl))) (mvT hZ (hw _ (List.mem_of_getElem? (i := 37) rfl))) (by decide) (backOf (W := 0) (rm_6 l Z a0 hw [] aS T41.heap n0 Z4 aO Fpo) hZ (hw _ (List.mem_of_getElem? (i := 39) rfl)) (hw _ (List.mem_of_getElem? (i := 20) rfl)) (by decide) (by decide)) qa43 qc43 (g := (mkF m 65 #[.val (.int f), .val (.int la), .val (.int lo), .val (.int n), .val (.int (1 : Int32)), .val (.double (FP.i2d (la % (91 : Int32)))), .second, .val (.double (FP.i2d lo)), .second, .val (.ref a36), .val (.ref aO), .val (.ref aS), .unset, .unset, .unset] [(.ref aS)])) rfl (by rw [hml]; rfl) (Steps.refl _) (argsL := []) (rest := []) (lenOf pd_3 rfl) rfl (by show 2 * 0 + _ ≤ _; exact Nat.le_of_ble_eq_true rfl) (hb hby at_65) (fun _ _ => ⟨rfl, rfl, (by decide : 3 + 0 ≤ _), (by decide : 6 + 0 ≤ _)⟩)
  dsimp only [Pt.U, Pt.locs, Pt.cells, Pt.slots] at X43 l43 y43 z43 st43 hQ43
  subst l43 y43 z43
  obtain ⟨rfl, N43v, ev43⟩ := hQ43
  have P6 : ∀ t, Steps p.tables e below (T43.setTop (mkF m 68 #[.val (.int f), .val (.int la), .val (.int lo), .val (.int n), .val (.int (1 : Int32)), .val (.double (FP.i2d (la % (91 : Int32)))), .second, .val (.double (FP.i2d lo)), .second, .val (.ref a36), .val (.ref aO), .val (.ref aS), .unset, .unset, .unset] [(.ref aO)])) t → Steps p.tables e below (s₁.setTop (entryFrame m #[(.int f), (.int la), (.int lo), (.int n)] maxLocals)) t := fun t k => P5 t (by
      refine Own.w_astore H41 at_61 63 rfl rfl (l' := #[.val (.int f), .val (.int la), .val (.int lo), .val (.int n), .val (.int (1 : Int32)), .val (.double (FP.i2d (la % (91 : Int32)))), .second, .val (.double (FP.i2d lo)), .second, .val (.ref a36), .val (.ref aO), .val (.ref aS), .unset, .unset, .unset]) rfl ?_
      refine Own.w_aload H41 at_63 65 rfl rfl rfl ?_
      exact st43.trans k)
  have H43 := Own.hr X43 hx hby
  have N44 := Fr.app N42 N43v
  obtain ⟨cq45, kq45, qa45, qb45, qc45⟩ := isOf hZ ev43 ES
  obtain ⟨_, _, ⟨T45, L45, k45, n45⟩, -, X45, ⟨Lc45, hQ45, l45, y45, z45⟩, st45⟩ := X43.virtualBack hx (y := (⟨"com/example/latfix/latfix/model/Estimate", "getRegion", "()Ljava/util/Optional;"⟩ : MethodName)) (z := (⟨"com/example/latfix/latfix/model/Estimate", "getRegion", "()Ljava/util/Optional;"⟩ : MethodName)) hown (mvT hZ (hw _ (List.mem_of_getElem? (i := 40) rfl))) (mvT hZ (hw _ (List.mem_of_getElem? (i := 41) rfl))) (notFace_of_selects (args := #[]) (mvT hZ (hw _ (List.mem_of_getElem? (i := 43) rfl)))) (mvT hZ (hw _ (List.mem_of_getElem? (i := 43) rfl))) (mvT hZ (hw _ (List.mem_of_getElem? (i := 42) rfl))) (by decide) (backOf (W := 0) (rm_7 l Z a0 hw [] aS T41.heap n0 Z4 aE Fre) hZ (hw _ (List.mem_of_getElem? (i := 44) rfl)) (hw _ (List.mem_of_getElem? (i := 20) rfl)) (by decide) (by decide)) qa45 qc45 (g := (mkF m 72 #[.val (.int f), .val (.int la), .val (.int lo), .val (.int n), .val (.int (1 : Int32)), .val (.double (FP.i2d (la % (91 : Int32)))), .second, .val (.double (FP.i2d lo)), .second, .val (.ref a36), .val (.ref aO), .val (.ref aS), .val (.ref aO), .unset, .unset] [(.ref aS)])) rfl (by rw [hml]; rfl) (Steps.refl _) (argsL := []) (rest := []) (lenOf pd_3 rfl) rfl (by show 2 * 0 + _ ≤ _; exact Nat.le_of_ble_eq_true rfl) (hb hby at_72) (fun _ _ => ⟨rfl, ev43, (by decide : 3 + 0 ≤ _), (by decide : 6 + 0 ≤ _)⟩)
  dsimp only [Pt.U, Pt.locs, Pt.cells, Pt.slots] at X45 l45 y45 z45 st45 hQ45
  subst l45 y45 z45
  obtain ⟨rfl, N45v, ev45⟩ := hQ45
  have P7 : ∀ t, Steps p.tables e below (T45.setTop (mkF m 75 #[.val (.int f), .val (.int la), .val (.int lo), .val (.int n), .val (.int (1 : Int32)), .val (.double (FP.i2d (la % (91 : Int32)))), .second, .val (.double (FP.i2d lo)), .second, .val (.ref a36), .val (.ref aO), .val (.ref aS), .val (.ref aO), .unset, .unset] [(.ref aE)])) t → Steps p.tables e below (s₁.setTop (entryFrame m #[(.int f), (.int la), (.int lo), (.int n)] maxLocals)) t := fun t k => P6 t (by
      refine Own.w_astore H43 at_68 70 rfl rfl (l' := #[.val (.int f), .val (.int la), .val (.int lo), .val (.int n), .val (.int (1 : Int32)), .val (.double (FP.i2d (la % (91 : Int32)))), .second, .val (.double (FP.i2d lo)), .second, .val (.ref a36), .val (.ref aO), .val (.ref aS), .val (.ref aO), .unset, .unset]) rfl ?_
      refine Own.w_aload H43 at_70 72 rfl rfl rfl ?_
      exact st45.trans k)
  have H45 := Own.hr X45 hx hby
  have N46 := Fr.app N44 N45v
  obtain ⟨cq47, kq47, qa47, qb47, qc47⟩ := isOf hZ ev45 XE4
  obtain ⟨_, _, ⟨T47, L47, k47, n47⟩, -, X47, ⟨Lc47, hQ47, l47, y47, z47⟩, st47⟩ := X45.virtualBack hx (y := (⟨"java/util/Optional", "isPresent", "()Z"⟩ : MethodName)) (z := (⟨"java/util/Optional", "isPresent", "()Z"⟩ : MethodName)) hown (mvT hZ (hw _ (List.mem_of_getElem? (i := 45) rfl))) (mvT hZ (hw _ (List.mem_of_getElem? (i := 46) rfl))) (notFace_of_selects (args := #[]) (mvT hZ (hw _ (List.mem_of_getElem? (i := 48) rfl)))) (mvT hZ (hw _ (List.mem_of_getElem? (i := 48) rfl))) (mvT hZ (hw _ (List.mem_of_getElem? (i := 47) rfl))) (by decide) (backOf (W := 0) (rm_8n l Z a0 hw [] aE T41.heap n0 Z4 FE4) hZ (hw _ (List.mem_of_getElem? (i := 49) rfl)) (hw _ (List.mem_of_getElem? (i := 15) rfl)) (by decide) (by decide)) qa47 qc47 (g := (mkF m 91 #[.val (.int f), .val (.int la), .val (.int lo), .val (.int n), .val (.int (1 : Int32)), .val (.double (FP.i2d (la % (91 : Int32)))), .second, .val (.double (FP.i2d lo)), .second, .val (.ref a36), .val (.ref aO), .val (.ref aS), .val (.ref aO), .val (.ref aE), .unset] [(.ref aE)])) rfl (by rw [hml]; rfl) (Steps.refl _) (argsL := []) (rest := []) (lenOf pd_8 rfl) rfl (by show 2 * 0 + _ ≤ _; exact Nat.le_of_ble_eq_true rfl) (hb hby at_91) (fun _ _ => ⟨rfl, ev45, (by decide : 3 + 0 ≤ _), (by decide : 6 + 0 ≤ _)⟩)
  dsimp only [Pt.U, Pt.locs, Pt.cells, Pt.slots] at X47 l47 y47 z47 st47 hQ47
  subst l47 y47 z47
  obtain ⟨rfl, N47v, ev47⟩ := hQ47
  have P8 : ∀ t, Steps p.tables e below (T47.setTop (mkF m 94 #[.val (.int f), .val (.int la), .val (.int lo), .val (.int n), .val (.int (1 : Int32)), .val (.double (FP.i2d (la % (91 : Int32)))), .second, .val (.double (FP.i2d lo)), .second, .val (.ref a36), .val (.ref aO), .val (.ref aS), .val (.ref aO), .val (.ref aE), .unset] [(.int (0 : Int32))])) t → Steps p.tables e below (s₁.setTop (entryFrame m #[(.int f), (.int la), (.int lo), (.int n)] maxLocals)) t := fun t k => P7 t (by
      refine Own.w_astore H45 at_75 77 rfl rfl (l' := #[.val (.int f), .val (.int la), .val (.int lo), .val (.int n), .val (.int (1 : Int32)), .val (.double (FP.i2d (la % (91 : Int32)))), .second, .val (.double (FP.i2d lo)), .second, .val (.ref a36), .val (.ref aO), .val (.ref aS), .val (.ref aO), .val (.ref aE), .unset]) rfl ?_
      refine Own.w_aload H45 at_77 79 rfl rfl rfl ?_
      refine Own.w_ifnullNo H45 at_79 82 rfl ?_
      refine Own.w_aload H45 at_82 84 rfl rfl rfl ?_
      refine Own.w_ifnonnullYes H45 at_84 89 (by decide) (by decide) ?_
      refine Own.w_aload H45 at_89 91 rfl rfl rfl ?_
      exact st47.trans k)
  have H47 := Own.hr X47 hx hby
  have N48 := Fr.app N46 N47v
  obtain ⟨cq49, kq49, qa49, qb49, qc49⟩ := isOf hZ ev47 ES
  obtain ⟨_, _, ⟨T49, L49, k49, n49⟩, -, X49, ⟨Lc49, hQ49, l49, y49, z49⟩, st49⟩ := X47.virtualBack hx (y := (⟨"com/example/latfix/latfix/model/Estimate", "getLandmarksUsed", "()I"⟩ : MethodName)) (z := (⟨"com/example/latfix/latfix/model/Estimate", "getLandmarksUsed", "()I"⟩ : MethodName)) hown (mvT hZ (hw _ (List.mem_of_getElem? (i := 52) rfl))) (mvT hZ (hw _ (List.mem_of_getElem? (i := 53) rfl))) (notFace_of_selects (args := #[]) (mvT hZ (hw _ (List.mem_of_getElem? (i := 55) rfl)))) (mvT hZ (hw _ (List.mem_of_getElem? (i := 55) rfl))) (mvT hZ (hw _ (List.mem_of_getElem? (i := 54) rfl))) (by decide) (backOf (W := 0) (rm_9 l Z a0 hw [] aS T41.heap n0 Z4 n Flm) hZ (hw _ (List.mem_of_getElem? (i := 56) rfl)) (hw _ (List.mem_of_getElem? (i := 20) rfl)) (by decide) (by decide)) qa49 qc49 (g := (mkF m 101 #[.val (.int f), .val (.int la), .val (.int lo), .val (.int n), .val (.int (1 : Int32)), .val (.double (FP.i2d (la % (91 : Int32)))), .second, .val (.double (FP.i2d lo)), .second, .val (.ref a36), .val (.ref aO), .val (.ref aS), .val (.ref aO), .val (.ref aE), .unset] [(.ref aS)])) rfl (by rw [hml]; rfl) (Steps.refl _) (argsL := []) (rest := []) (lenOf pd_9 rfl) rfl (by show 2 * 0 + _ ≤ _; exact Nat.le_of_ble_eq_true rfl) (hb hby at_101) (fun _ _ => ⟨rfl, ev47, (by decide : 3 + 0 ≤ _), (by decide : 6 + 0 ≤ _)⟩)
  dsimp only [Pt.U, Pt.locs, Pt.cells, Pt.slots] at X49 l49 y49 z49 st49 hQ49
  subst l49 y49 z49
  obtain ⟨rfl, N49v, ev49⟩ := hQ49
  have P9 : ∀ t, Steps p.tables e below (T49.setTop (mkF m 104 #[.val (.int f), .val (.int la), .val (.int lo), .val (.int n), .val (.int (1 : Int32)), .val (.double (FP.i2d (la % (91 : Int32)))), .second, .val (.double (FP.i2d lo)), .second, .val (.ref a36), .val (.ref aO), .val (.ref aS), .val (.ref aO), .val (.ref aE), .unset] [(.int n)])) t → Steps p.tables e below (s₁.setTop (entryFrame m #[(.int f), (.int la), (.int lo), (.int n)] maxLocals)) t := fun t k => P8 t (by
      refine Own.w_ifCondYes H47 at_94 (rfl) 99 (by decide) (by decide) ?_
      refine Own.w_aload H47 at_99 101 rfl rfl rfl ?_
      exact st49.trans k)
  have H49 := Own.hr X49 hx hby
  have N50 := Fr.app N48 N49v
  obtain ⟨cq51, kq51, qa51, qb51, qc51⟩ := isOf hZ ev49 EO4
  obtain ⟨_, _, ⟨T51, L51, k51, n51⟩, -, X51, ⟨Lc51, hQ51, l51, y51, z51⟩, st51⟩ := X49.virtualBack hx (y := (⟨"java/util/Optional", "isPresent", "()Z"⟩ : MethodName)) (z := (⟨"java/util/Optional", "isPresent", "()Z"⟩ : MethodName)) hown (mvT hZ (hw _ (List.mem_of_getElem? (i := 45) rfl))) (mvT hZ (hw _ (List.mem_of_getElem? (i := 46) rfl))) (notFace_of_selects (args := #[]) (mvT hZ (hw _ (List.mem_of_getElem? (i := 48) rfl)))) (mvT hZ (hw _ (List.mem_of_getElem? (i := 48) rfl))) (mvT hZ (hw _ (List.mem_of_getElem? (i := 47) rfl))) (by decide) (backOf (W := 0) (rm_8y l Z a0 hw [] aO T41.heap n0 Z4 a36 FO4) hZ (hw _ (List.mem_of_getElem? (i := 49) rfl)) (hw _ (List.mem_of_getElem? (i := 15) rfl)) (by decide) (by decide)) qa51 qc51 (g := (mkF m 112 #[.val (.int f), .val (.int la), .val (.int lo), .val (.int n), .val (.int (1 : Int32)), .val (.double (FP.i2d (la % (91 : Int32)))), .second, .val (.double (FP.i2d lo)), .second, .val (.ref a36), .val (.ref aO), .val (.ref aS), .val (.ref aO), .val (.ref aE), .unset] [(.ref aO)])) rfl (by rw [hml]; rfl) (Steps.refl _) (argsL := []) (rest := []) (lenOf pd_8 rfl) rfl (by show 2 * 0 + _ ≤ _; exact Nat.le_of_ble_eq_true rfl) (hb hby at_112) (fun _ _ => ⟨rfl, ev49, (by decide : 3 + 0 ≤ _), (by decide : 6 + 0 ≤ _)⟩)
  dsimp only [Pt.U, Pt.locs, Pt.cells, Pt.slots] at X51 l51 y51 z51 st51 hQ51
  subst l51 y51 z51
  obtain ⟨rfl, N51v, ev51⟩ := hQ51
  have P10 : ∀ t, Steps p.tables e below (T51.setTop (mkF m 115 #[.val (.int f), .val (.int la), .val (.int lo), .val (.int n), .val (.int (1 : Int32)), .val (.double (FP.i2d (la % (91 : Int32)))), .second, .val (.double (FP.i2d lo)), .second, .val (.ref a36), .val (.ref aO), .val (.ref aS), .val (.ref aO), .val (.ref aE), .unset] [(.int (1 : Int32))])) t → Steps p.tables e below (s₁.setTop (entryFrame m #[(.int f), (.int la), (.int lo), (.int n)] maxLocals)) t := fun t k => P9 t (by
      refine Own.w_iloadN H49 at_104 105 rfl rfl ?_
      refine Own.w_icmpYes H49 at_105 (by simp [if_icmp.holds]) 110 (by decide) (by decide) ?_
      refine Own.w_aload H49 at_110 112 rfl rfl rfl ?_
      exact st51.trans k)
  have H51 := Own.hr X51 hx hby
  have N52 := Fr.app N50 N51v
  obtain ⟨cq53, kq53, qa53, qb53, qc53⟩ := isOf hZ ev51 EO4
  obtain ⟨_, _, ⟨T53, L53, k53, n53⟩, -, X53, ⟨Lc53, hQ53, l53, y53, z53⟩, st53⟩ := X51.virtualBack hx (y := (⟨"java/util/Optional", "get", "()Ljava/lang/Object;"⟩ : MethodName)) (z := (⟨"java/util/Optional", "get", "()Ljava/lang/Object;"⟩ : MethodName)) hown (mvT hZ (hw _ (List.mem_of_getElem? (i := 71) rfl))) (mvT hZ (hw _ (List.mem_of_getElem? (i := 72) rfl))) (notFace_of_selects (args := #[]) (mvT hZ (hw _ (List.mem_of_getElem? (i := 74) rfl)))) (mvT hZ (hw _ (List.mem_of_getElem? (i := 74) rfl))) (mvT hZ (hw _ (List.mem_of_getElem? (i := 73) rfl))) (by decide) (backOf (W := 0) (rm_13 l Z a0 hw [] aO T41.heap n0 Z4 a36 FO4) hZ (hw _ (List.mem_of_getElem? (i := 75) rfl)) (hw _ (List.mem_of_getElem? (i := 15) rfl)) (by decide) (by decide)) qa53 qc53 (g := (mkF m 131 #[.val (.int f), .val (.int la), .val (.int lo), .val (.int n), .val (.int (1 : Int32)), .val (.double (FP.i2d (la % (91 : Int32)))), .second, .val (.double (FP.i2d lo)), .second, .val (.ref a36), .val (.ref aO), .val (.ref aS), .val (.ref aO), .val (.ref aE), .unset] [(.ref aO)])) rfl (by rw [hml]; rfl) (Steps.refl _) (argsL := []) (rest := []) (lenOf pd_13 rfl) rfl (by show 2 * 0 + _ ≤ _; exact Nat.le_of_ble_eq_true rfl) (hb hby at_131) (fun _ _ => ⟨rfl, ev51, (by decide : 3 + 0 ≤ _), (by decide : 6 + 0 ≤ _)⟩)
  dsimp only [Pt.U, Pt.locs, Pt.cells, Pt.slots] at X53 l53 y53 z53 st53 hQ53
  subst l53 y53 z53
  obtain ⟨rfl, N53v, ev53⟩ := hQ53
  have P11 : ∀ t, Steps p.tables e below (T53.setTop (mkF m 134 #[.val (.int f), .val (.int la), .val (.int lo), .val (.int n), .val (.int (1 : Int32)), .val (.double (FP.i2d (la % (91 : Int32)))), .second, .val (.double (FP.i2d lo)), .second, .val (.ref a36), .val (.ref aO), .val (.ref aS), .val (.ref aO), .val (.ref aE), .unset] [(.ref a36)])) t → Steps p.tables e below (s₁.setTop (entryFrame m #[(.int f), (.int la), (.int lo), (.int n)] maxLocals)) t := fun t k => P10 t (by
      refine Own.w_iload H51 at_115 117 rfl rfl ?_
      refine Own.w_icmpYes H51 at_117 (rfl) 122 (by decide) (by decide) ?_
      refine Own.w_iload H51 at_122 124 rfl rfl ?_
      refine Own.w_ifCondYes H51 at_124 (rfl) 129 (by decide) (by decide) ?_
      refine Own.w_aload H51 at_129 131 rfl rfl rfl ?_
      exact st53.trans k)
  have H53 := Own.hr X53 hx hby
  have N54 := Fr.app N52 N53v
  obtain ⟨T55, X55, e55, st55⟩ := castY X53 hx hZ hown (hw _ (List.mem_of_getElem? (i := 0) rfl)) ev53 (Ins.self EP4) (g := (mkF m 134 #[.val (.int f), .val (.int la), .val (.int lo), .val (.int n), .val (.int (1 : Int32)), .val (.double (FP.i2d (la % (91 : Int32)))), .second, .val (.double (FP.i2d lo)), .second, .val (.ref a36), .val (.ref aO), .val (.ref aS), .val (.ref aO), .val (.ref aE), .unset] [(.ref a36)])) rfl rfl (hb hby at_134)
  have P12 : ∀ t, Steps p.tables e below (T55.setTop (mkF m 137 #[.val (.int f), .val (.int la), .val (.int lo), .val (.int n), .val (.int (1 : Int32)), .val (.double (FP.i2d (la % (91 : Int32)))), .second, .val (.double (FP.i2d lo)), .second, .val (.ref a36), .val (.ref aO), .val (.ref aS), .val (.ref aO), .val (.ref aE), .unset] [(.ref a36)])) t → Steps p.tables e below (s₁.setTop (entryFrame m #[(.int f), (.int la), (.int lo), (.int n)] maxLocals)) t := fun t k => P11 t (by
      exact st55 t k)
  have H55 := Own.hr X55 hx hby
  obtain ⟨cq56, kq56, qa56, qb56, qc56⟩ := isOf hZ e55 EP4
  obtain ⟨_, _, ⟨T56, L56, k56, n56⟩, -, X56, ⟨Lc56, hQ56, l56, y56, z56⟩, st56⟩ := X55.virtualBack hx (y := (⟨"com/example/latfix/latfix/model/Position", "getLat", "()D"⟩ : MethodName)) (z := (⟨"com/example/latfix/latfix/model/Position", "getLat", "()D"⟩ : MethodName)) hown (mvT hZ (hw _ (List.mem_of_getElem? (i := 77) rfl))) (mvT hZ (hw _ (List.mem_of_getElem? (i := 78) rfl))) (notFace_of_selects (args := #[]) (mvT hZ (hw _ (List.mem_of_getElem? (i := 80) rfl)))) (mvT hZ (hw _ (List.mem_of_getElem? (i := 80) rfl))) (mvT hZ (hw _ (List.mem_of_getElem? (i := 79) rfl))) (by decide) (backOf (W := 0) (rm_14 l Z a0 hw [] a36 T41.heap n0 Z4 _ FLa4) hZ (hw _ (List.mem_of_getElem? (i := 81) rfl)) (hw _ (List.mem_of_getElem? (i := 2) rfl)) (by decide) (by decide)) qa56 qc56 (g := (mkF m 148 #[.val (.int f), .val (.int la), .val (.int lo), .val (.int n), .val (.int (1 : Int32)), .val (.double (FP.i2d (la % (91 : Int32)))), .second, .val (.double (FP.i2d lo)), .second, .val (.ref a36), .val (.ref aO), .val (.ref aS), .val (.ref aO), .val (.ref aE), .val (.ref a36)] [(.ref a36)])) rfl (by rw [hml]; rfl) (Steps.refl _) (argsL := []) (rest := []) (lenOf pd_14 rfl) rfl (by show 2 * 0 + _ ≤ _; exact Nat.le_of_ble_eq_true rfl) (hb hby at_148) (fun _ _ => ⟨rfl, e55, (by decide : 3 + 0 ≤ _), (by decide : 6 + 0 ≤ _)⟩)
  dsimp only [Pt.U, Pt.locs, Pt.cells, Pt.slots] at X56 l56 y56 z56 st56 hQ56
  subst l56 y56 z56
  obtain ⟨rfl, N56v, ev56⟩ := hQ56
  have P13 : ∀ t, Steps p.tables e below (T56.setTop (mkF m 151 #[.val (.int f), .val (.int la), .val (.int lo), .val (.int n), .val (.int (1 : Int32)), .val (.double (FP.i2d (la % (91 : Int32)))), .second, .val (.double (FP.i2d lo)), .second, .val (.ref a36), .val (.ref aO), .val (.ref aS), .val (.ref aO), .val (.ref aE), .val (.ref a36)] [(.double (FP.i2d (la % (91 : Int32))))])) t → Steps p.tables e below (s₁.setTop (entryFrame m #[(.int f), (.int la), (.int lo), (.int n)] maxLocals)) t := fun t k => P12 t (by
      refine Own.w_astore H55 at_137 139 rfl rfl (l' := #[.val (.int f), .val (.int la), .val (.int lo), .val (.int n), .val (.int (1 : Int32)), .val (.double (FP.i2d (la % (91 : Int32)))), .second, .val (.double (FP.i2d lo)), .second, .val (.ref a36), .val (.ref aO), .val (.ref aS), .val (.ref aO), .val (.ref aE), .val (.ref a36)]) rfl ?_
      refine Own.w_aload H55 at_139 141 rfl rfl rfl ?_
      refine Own.w_aload H55 at_141 143 rfl rfl rfl ?_
      refine Own.w_acmpNo H55 at_143 rfl rfl (by simp [XT.acmp]) 146 rfl ?_
      refine Own.w_aload H55 at_146 148 rfl rfl rfl ?_
      exact st56.trans k)
  have H56 := Own.hr X56 hx hby
  have N57 := Fr.app N54 N56v
  obtain ⟨cq58, kq58, qa58, qb58, qc58⟩ := isOf hZ ev56 EP4
  obtain ⟨_, _, ⟨T58, L58, k58, n58⟩, -, X58, ⟨Lc58, hQ58, l58, y58, z58⟩, st58⟩ := X56.virtualBack hx (y := (⟨"com/example/latfix/latfix/model/Position", "getLon", "()D"⟩ : MethodName)) (z := (⟨"com/example/latfix/latfix/model/Position", "getLon", "()D"⟩ : MethodName)) hown (mvT hZ (hw _ (List.mem_of_getElem? (i := 82) rfl))) (mvT hZ (hw _ (List.mem_of_getElem? (i := 83) rfl))) (notFace_of_selects (args := #[]) (mvT hZ (hw _ (List.mem_of_getElem? (i := 85) rfl)))) (mvT hZ (hw _ (List.mem_of_getElem? (i := 85) rfl))) (mvT hZ (hw _ (List.mem_of_getElem? (i := 84) rfl))) (by decide) (backOf (W := 0) (rm_15 l Z a0 hw [] a36 T41.heap n0 Z4 _ FLo4) hZ (hw _ (List.mem_of_getElem? (i := 86) rfl)) (hw _ (List.mem_of_getElem? (i := 2) rfl)) (by decide) (by decide)) qa58 qc58 (g := (mkF m 159 #[.val (.int f), .val (.int la), .val (.int lo), .val (.int n), .val (.int (1 : Int32)), .val (.double (FP.i2d (la % (91 : Int32)))), .second, .val (.double (FP.i2d lo)), .second, .val (.ref a36), .val (.ref aO), .val (.ref aS), .val (.ref aO), .val (.ref aE), .val (.ref a36)] [(.ref a36)])) rfl (by rw [hml]; rfl) (Steps.refl _) (argsL := []) (rest := []) (lenOf pd_14 rfl) rfl (by show 2 * 0 + _ ≤ _; exact Nat.le_of_ble_eq_true rfl) (hb hby at_159) (fun _ _ => ⟨rfl, ev56, (by decide : 3 + 0 ≤ _), (by decide : 6 + 0 ≤ _)⟩)
  dsimp only [Pt.U, Pt.locs, Pt.cells, Pt.slots] at X58 l58 y58 z58 st58 hQ58
  subst l58 y58 z58
  obtain ⟨rfl, N58v, ev58⟩ := hQ58
  have P14 : ∀ t, Steps p.tables e below (T58.setTop (mkF m 162 #[.val (.int f), .val (.int la), .val (.int lo), .val (.int n), .val (.int (1 : Int32)), .val (.double (FP.i2d (la % (91 : Int32)))), .second, .val (.double (FP.i2d lo)), .second, .val (.ref a36), .val (.ref aO), .val (.ref aS), .val (.ref aO), .val (.ref aE), .val (.ref a36)] [(.double (FP.i2d lo))])) t → Steps p.tables e below (s₁.setTop (entryFrame m #[(.int f), (.int la), (.int lo), (.int n)] maxLocals)) t := fun t k => P13 t (by
      refine Own.w_dload H56 at_151 153 rfl rfl ?_
      refine Own.w_dcmp H56 at_153 154 rfl ?_
      refine Own.w_ifCondNo H56 at_154 (nan _) 157 rfl ?_
      refine Own.w_aload H56 at_157 159 rfl rfl rfl ?_
      exact st58.trans k)
  have H58 := Own.hr X58 hx hby
  have N59 := Fr.app N57 N58v
  obtain ⟨fs, hr, hrun, hended, hW, hsame⟩ := X58.leave (v := some (.int (1 : Int32))) (fun h => by rw [Bd.returns] at h; cases h)
  refine ⟨_, _, P14 _ ?_, hrun, hended, _, _, rfl, ?_, ⟨_, rfl⟩, hW, hsame.mono (by decide : 3 ≤ _) (by decide : 6 ≤ _)⟩
  · refine Own.w_dload H58 at_162 164 rfl rfl ?_
    refine Own.w_dcmp H58 at_164 165 rfl ?_
    refine Own.w_ifCondNo H58 at_165 (nan _) 168 rfl ?_
    refine Own.w_iconst H58 at_168 169 rfl (z := (1 : Int32)) rfl ?_
    refine Own.w_goto H58 at_169 173 (by decide) (by decide) ?_
    exact retN X58 hx (t := .boolean) Bd.returns (by simp) (hb hby at_173) hr
  · exact ⟨rfl, N59⟩
theorem ef_0b (m : MethodId) (f : Int32) (la : Int32) (lo : Int32) (n : Int32) : entryFrame m #[(.int f), (.int la), (.int lo), (.int n)] maxLocals = mkF m 0 #[.val (.int f), .val (.int la), .val (.int lo), .val (.int n), .unset, .unset, .unset, .unset, .unset, .unset, .unset, .unset, .unset, .unset, .unset] [] := by first | (simp [entryFrame, mkF, argsToLocals, Value.category, maxLocals]; done) | rfl
set_option maxRecDepth 65536 in
set_option maxHeartbeats 40000000 in
theorem rm_0b (l : Launch) (Z : State) (a0 : Array Value) (hw : ∀ d ∈ tables_1, d.before a0 Z = true) (ws : List Jvm.Cond) (f : Int32) (la : Int32) (lo : Int32) (n : Int32) (h0 : Heap) (n0 : Nat) (Z0 : n0 ≤ h0.size) (aE : Addr) (OL : Old Z n0 h0) (S0 : Sta Z Z.heap "java/util/Optional" "EMPTY" "Ljava/util/Optional;" (.ref aE)) (FE : Fld Z Z.heap aE "java/util/Optional" "value" "Ljava/lang/Object;" .null) (XE : Exa Z Z.heap aE "java/util/Optional") (hf : ifCond.holds .eq (f &&& (1 : Int32)) = true) :
    MetFree l x (head1 (Jvm.Cond.code x code maxLocals ret :: ws) room_1) (fun aa U => aa = #[(.int f), (.int la), (.int lo), (.int n)] ∧ Z.Warmed39 U.vm ∧ U.heap = h0) (fun _ _ _ _ _ => True) (fun _ U o U' => ∃ v L, o = .returned v ∧ Q_0b Z f la lo n h0 n0 v U'.heap L ∧ FrameEnd U o U' L 16 128) := by
  refine MetFree.of_bodySF (plainFor_of_name pn_0b) hisR ?_
  intro p e s m args below meth c s₁ Bd hml0 hP hK
  obtain ⟨rfl, hZ, hh⟩ := hP
  have hx := Bd.exec
  have hby := Bd.bytes
  have hml : c.maxLocals = 15 := hml0
  have hown : s.vm.findClass "com/example/latfix/latfix/model/EstimateAtPointPinLaw" = some m.cls := findClass_of_methodNamed Bd.named
  have hnm := (name_of_methodNamed Bd.named Bd.method).1
  have X0 : Stand p l e room_1 s m #[(.int f), (.int la), (.int lo), (.int n)] below meth c s₁ [] 0 0 := Stand.of_body Bd
  have e0 : s₁.heap = h0 := by rw [← hh, Bd.state]; rfl
  have N0 := Fr.nil n0
  have H0 := Own.hr X0 hx hby
  have pre0 : ∀ t, Steps p.tables e below (s₁.setTop (mkF m 0 #[.val (.int f), .val (.int la), .val (.int lo), .val (.int n), .unset, .unset, .unset, .unset, .unset, .unset, .unset, .unset, .unset, .unset, .unset] [])) t → Steps p.tables e below (s₁.setTop (entryFrame m #[(.int f), (.int la), (.int lo), (.int n)] maxLocals)) t := fun t k => castTop (ef_0b m f la lo n) k
  have nan : ∀ z : Int32, ifCond.holds .ne (Own.dcmpV (FP.i2d z) (FP.i2d z) .l) = false := fun z => by
    have q : FP.dcmp (FP.i2d z) (FP.i2d z) = some .eq := FP.Core.dcmp_self (fun r => by
      have w := (FP.Core.i2d_int z)
      unfold FP.Core.DInt at w
      rw [show FP.Core.val64 (FP.Core.i2d z) = _ from r] at w
      exact w)
    unfold Own.dcmpV; rw [q]; rfl
  have P1 : ∀ t, Steps p.tables e below (s₁.setTop (mkF m 24 #[.val (.int f), .val (.int la), .val (.int lo), .val (.int n), .val (.int (0 : Int32)), .val (.double (FP.i2d (la % (91 : Int32)))), .second, .val (.double (FP.i2d lo)), .second, .unset, .unset, .unset, .unset, .unset, .unset] [])) t → Steps p.tables e below (s₁.setTop (entryFrame m #[(.int f), (.int la), (.int lo), (.int n)] maxLocals)) t := fun t k => pre0 t (by
      refine Own.w_iloadN H0 at_0 1 rfl rfl ?_
      refine Own.w_iconst H0 at_1 2 rfl (z := (1 : Int32)) rfl ?_
      refine Own.w_iand H0 at_2 3 rfl ?_
      refine Own.w_ifCondYes H0 at_3 (hf) 10 (by decide) (by decide) ?_
      refine Own.w_iconst H0 at_10 11 rfl (z := (0 : Int32)) rfl ?_
      refine Own.w_istore H0 at_11 13 rfl (l' := #[.val (.int f), .val (.int la), .val (.int lo), .val (.int n), .val (.int (0 : Int32)), .unset, .unset, .unset, .unset, .unset, .unset, .unset, .unset, .unset, .unset]) rfl ?_
      refine Own.w_iloadN H0 at_13 14 rfl rfl ?_
      refine Own.w_bipush H0 at_14 16 rfl (z := (91 : Int32)) rfl ?_
      refine Own.w_irem H0 at_16 17 rfl (by decide) ?_
      refine Own.w_i2d H0 at_17 18 rfl ?_
      refine Own.w_dstore H0 at_18 20 rfl (l' := #[.val (.int f), .val (.int la), .val (.int lo), .val (.int n), .val (.int (0 : Int32)), .val (.double (FP.i2d (la % (91 : Int32)))), .second, .unset, .unset, .unset, .unset, .unset, .unset, .unset, .unset]) rfl ?_
      refine Own.w_iloadN H0 at_20 21 rfl rfl ?_
      refine Own.w_i2d H0 at_21 22 rfl ?_
      refine Own.w_dstore H0 at_22 24 rfl (l' := #[.val (.int f), .val (.int la), .val (.int lo), .val (.int n), .val (.int (0 : Int32)), .val (.double (FP.i2d (la % (91 : Int32)))), .second, .val (.double (FP.i2d lo)), .second, .unset, .unset, .unset, .unset, .unset, .unset]) rfl ?_
      exact k)
  obtain ⟨T60, h60, X60, e60, E60, A60, D60, -, st60⟩ := newO X0 hx hZ hown (hw _ (List.mem_of_getElem? (i := 0) rfl)) (hw _ (List.mem_of_getElem? (i := 1) rfl)) (hw _ (List.mem_of_getElem? (i := 2) rfl)) e0 (g := (mkF m 24 #[.val (.int f), .val (.int la), .val (.int lo), .val (.int n), .val (.int (0 : Int32)), .val (.double (FP.i2d (la % (91 : Int32)))), .second, .val (.double (FP.i2d lo)), .second, .unset, .unset, .unset, .unset, .unset, .unset] [])) rfl (hb hby at_24) (by decide : 0 + 1 ≤ _) (by decide : 0 + 2 ≤ _)
  obtain ⟨a60, g60⟩ : ∃ z, z = (h0).size := ⟨_, rfl⟩
  rw [← g60] at A60 D60 st60
  have P2 : ∀ t, Steps p.tables e below (T60.setTop (mkF m 27 #[.val (.int f), .val (.int la), .val (.int lo), .val (.int n), .val (.int (0 : Int32)), .val (.double (FP.i2d (la % (91 : Int32)))), .second, .val (.double (FP.i2d lo)), .second, .unset, .unset, .unset, .unset, .unset, .unset] [(.ref a60)])) t → Steps p.tables e below (s₁.setTop (entryFrame m #[(.int f), (.int la), (.int lo), (.int n)] maxLocals)) t := fun t k => P1 t (by
      exact st60 t k)
  have H60 := Own.hr X60 hx hby
  have Z1 := Nat.le_trans Z0 E60.1
  have OL1 := OL.ext E60
  have gP : n0 ≤ a60 := Nat.le_trans Z0 (Nat.le_of_eq g60.symm)
  have V1 := D60 (Or.inr (hw _ (List.mem_of_getElem? (i := 10) rfl))) (ty := .double) (by decide)
  have V2 := D60 (Or.inr (hw _ (List.mem_of_getElem? (i := 12) rfl))) (ty := .double) (by decide)
  obtain ⟨_, _, ⟨T61, L61, k61, n61⟩, -, X61, ⟨Lc61, hQ61, l61, y61, z61⟩, st61⟩ := X60.specialBack hx (y := (⟨"com/example/latfix/latfix/model/Position", "<init>", "(DD)V"⟩ : MethodName)) rfl hown (mvT hZ (hw _ (List.mem_of_getElem? (i := 3) rfl))) (mvT hZ (hw _ (List.mem_of_getElem? (i := 4) rfl))) (mvT hZ (hw _ (List.mem_of_getElem? (i := 5) rfl))) (by decide) (backOf (W := 1) (rm_1 l Z a0 hw [] a60 (FP.i2d (la % (91 : Int32))) (FP.i2d lo) h60 n0 Z1 _ _ V1 V2 A60 gP) hZ (hw _ (List.mem_of_getElem? (i := 5) rfl)) (hw _ (List.mem_of_getElem? (i := 2) rfl)) (by decide) (by decide)) (g := (mkF m 32 #[.val (.int f), .val (.int la), .val (.int lo), .val (.int n), .val (.int (0 : Int32)), .val (.double (FP.i2d (la % (91 : Int32)))), .second, .val (.double (FP.i2d lo)), .second, .unset, .unset, .unset, .unset, .unset, .unset] [(.double (FP.i2d lo)), (.double (FP.i2d (la % (91 : Int32)))), (.ref a60), (.ref a60)])) rfl (by rw [hml]; rfl) (Steps.refl _) (a := a60) (argsL := [(.double (FP.i2d (la % (91 : Int32)))), (.double (FP.i2d lo))]) (rest := [(.ref a60)]) (lenOf pd_1 rfl) rfl (by show 2 * 0 + _ ≤ _; exact Nat.le_of_ble_eq_true rfl) (hb hby at_32) (fun _ _ => ⟨rfl, e60, (by decide : 1 + 0 ≤ _), (by decide : 2 + 0 ≤ _)⟩)
  dsimp only [Pt.U, Pt.locs, Pt.cells, Pt.slots] at X61 l61 y61 z61 st61 hQ61
  subst l61 y61 z61
  obtain ⟨rfl, Np, Kp, EP, FLa, FLo⟩ := hQ61
  have P3 : ∀ t, Steps p.tables e below (T61.setTop (mkF m 35 #[.val (.int f), .val (.int la), .val (.int lo), .val (.int n), .val (.int (0 : Int32)), .val (.double (FP.i2d (la % (91 : Int32)))), .second, .val (.double (FP.i2d lo)), .second, .unset, .unset, .unset, .unset, .unset, .unset] [(.ref a60)])) t → Steps p.tables e below (s₁.setTop (entryFrame m #[(.int f), (.int la), (.int lo), (.int n)] maxLocals)) t := fun t k => P2 t (by
      refine Own.w_dup H60 at_27 28 rfl rfl ?_
      refine Own.w_dload H60 at_28 30 rfl rfl ?_
      refine Own.w_dload H60 at_30 32 rfl rfl ?_
      exact st61.trans k)
  have H61 := Own.hr X61 hx hby
  have N62 := Fr.app N0 Np
  have Z2 := Nat.le_trans Z1 Kp.1
  have OL2 := OL1.keep Kp (allS gP all0)
  obtain ⟨_, _, ⟨T63, L63, k63, n63⟩, -, X63, ⟨Lc63, hQ63, l63, y63, z63⟩, st63⟩ := Jvm.LawKit.callS X61 hx (y := (⟨"java/util/Optional", "empty", "()Ljava/util/Optional;"⟩ : MethodName)) hown (mvT hZ (hw _ (List.mem_of_getElem? (i := 13) rfl))) (mvT hZ (hw _ (List.mem_of_getElem? (i := 14) rfl))) (mvT hZ (hw _ (List.mem_of_getElem? (i := 15) rfl))) (mvT hZ (hw _ (List.mem_of_getElem? (i := 16) rfl))) (by decide) (backOf (W := 0) (rm_3 l Z a0 hw [] T61.heap n0 Z2 aE (S0.ext OL2.2)) hZ (hw _ (List.mem_of_getElem? (i := 16) rfl)) (hw _ (List.mem_of_getElem? (i := 15) rfl)) (by decide) (by decide)) (g := (mkF m 50 #[.val (.int f), .val (.int la), .val (.int lo), .val (.int n), .val (.int (0 : Int32)), .val (.double (FP.i2d (la % (91 : Int32)))), .second, .val (.double (FP.i2d lo)), .second, .val (.ref a60), .unset, .unset, .unset, .unset, .unset] [])) rfl (by rw [hml]; rfl) (argsL := []) (rest := []) (lenOf pd_3 rfl) rfl (by show 2 * 0 + _ ≤ _; exact Nat.le_of_ble_eq_true rfl) (hb hby at_50) (fun _ _ => ⟨rfl, rfl, (by decide : 1 + 0 ≤ _), (by decide : 2 + 0 ≤ _)⟩)
  dsimp only [Pt.U, Pt.locs, Pt.cells, Pt.slots] at X63 l63 y63 z63 st63 hQ63
  subst l63 y63 z63
  obtain ⟨rfl, No, eo⟩ := hQ63
  have P4 : ∀ t, Steps p.tables e below (T63.setTop (mkF m 53 #[.val (.int f), .val (.int la), .val (.int lo), .val (.int n), .val (.int (0 : Int32)), .val (.double (FP.i2d (la % (91 : Int32)))), .second, .val (.double (FP.i2d lo)), .second, .val (.ref a60), .unset, .unset, .unset, .unset, .unset] [(.ref aE)])) t → Steps p.tables e below (s₁.setTop (entryFrame m #[(.int f), (.int la), (.int lo), (.int n)] maxLocals)) t := fun t k => P3 t (by
      refine Own.w_astore H61 at_35 37 rfl rfl (l' := #[.val (.int f), .val (.int la), .val (.int lo), .val (.int n), .val (.int (0 : Int32)), .val (.double (FP.i2d (la % (91 : Int32)))), .second, .val (.double (FP.i2d lo)), .second, .val (.ref a60), .unset, .unset, .unset, .unset, .unset]) rfl ?_
      refine Own.w_iload H61 at_37 39 rfl rfl ?_
      refine Own.w_ifCondYes H61 at_39 (rfl) 50 (by decide) (by decide) ?_
      exact st63 t k)
  have H63 := Own.hr X63 hx hby
  have N64 := Fr.app N62 No
  have Z3 := Z2
  have OL3 := OL2
  obtain ⟨_, _, ⟨T65, L65, k65, n65⟩, -, X65, ⟨Lc65, hQ65, l65, y65, z65⟩, st65⟩ := Jvm.LawKit.callS X63 hx (y := (⟨"com/example/latfix/latfix/model/Estimate", "atPoint", "(Ljava/util/Optional;I)Lcom/example/latfix/latfix/model/Estimate;"⟩ : MethodName)) hown (mvT hZ (hw _ (List.mem_of_getElem? (i := 18) rfl))) (mvT hZ (hw _ (List.mem_of_getElem? (i := 19) rfl))) (mvT hZ (hw _ (List.mem_of_getElem? (i := 20) rfl))) (mvT hZ (hw _ (List.mem_of_getElem? (i := 21) rfl))) (by decide) (backOf (W := 0) (rm_4 l Z a0 hw [] aE n T61.heap n0 Z3 aE (S0.ext OL3.2)) hZ (hw _ (List.mem_of_getElem? (i := 21) rfl)) (hw _ (List.mem_of_getElem? (i := 20) rfl)) (by decide) (by decide)) (g := (mkF m 58 #[.val (.int f), .val (.int la), .val (.int lo), .val (.int n), .val (.int (0 : Int32)), .val (.double (FP.i2d (la % (91 : Int32)))), .second, .val (.double (FP.i2d lo)), .second, .val (.ref a60), .val (.ref aE), .unset, .unset, .unset, .unset] [(.int n), (.ref aE)])) rfl (by rw [hml]; rfl) (argsL := [(.ref aE), (.int n)]) (rest := []) (lenOf pd_4 rfl) rfl (by show 2 * 0 + _ ≤ _; exact Nat.le_of_ble_eq_true rfl) (hb hby at_58) (fun _ _ => ⟨rfl, eo, (by decide : 1 + 1 ≤ _), (by decide : 2 + 3 ≤ _)⟩)
  dsimp only [Pt.U, Pt.locs, Pt.cells, Pt.slots] at X65 l65 y65 z65 st65 hQ65
  subst l65 y65 z65
  obtain ⟨aS, rfl, gS, Ns, Ks, ES, Fpo, Fre, Flm⟩ := hQ65
  have P5 : ∀ t, Steps p.tables e below (T65.setTop (mkF m 61 #[.val (.int f), .val (.int la), .val (.int lo), .val (.int n), .val (.int (0 : Int32)), .val (.double (FP.i2d (la % (91 : Int32)))), .second, .val (.double (FP.i2d lo)), .second, .val (.ref a60), .val (.ref aE), .unset, .unset, .unset, .unset] [(.ref aS)])) t → Steps p.tables e below (s₁.setTop (entryFrame m #[(.int f), (.int la), (.int lo), (.int n)] maxLocals)) t := fun t k => P4 t (by
      refine Own.w_astore H63 at_53 55 rfl rfl (l' := #[.val (.int f), .val (.int la), .val (.int lo), .val (.int n), .val (.int (0 : Int32)), .val (.double (FP.i2d (la % (91 : Int32)))), .second, .val (.double (FP.i2d lo)), .second, .val (.ref a60), .val (.ref aE), .unset, .unset, .unset, .unset]) rfl ?_
      refine Own.w_aload H63 at_55 57 rfl rfl rfl ?_
      refine Own.w_iloadN H63 at_57 58 rfl rfl ?_
      exact st65 t k)
  have H65 := Own.hr X65 hx hby
  have N66 := Fr.app N64 Ns
  have Z4 := Nat.le_trans Z3 Ks.1
  have OL4 := OL3.keep Ks all0
  have XE4 := XE.ext OL4.2
  have FE4 := FE.ext OL4.2
  obtain ⟨cq67, kq67, qa67, qb67, qc67⟩ := isOf hZ rfl ES
  obtain ⟨_, _, ⟨T67, L67, k67, n67⟩, -, X67, ⟨Lc67, hQ67, l67, y67, z67⟩, st67⟩ := X65.virtualBack hx (y := (⟨"com/example/latfix/latfix/model/Estimate", "getPosition", "()Ljava/util/Optional;"⟩ : MethodName)) (z := (⟨"com/example/latfix/latfix/model/Estimate", "getPosition", "()Ljava/util/Optional;"⟩ : MethodName)) hown (mvT hZ (hw _ (List.mem_of_getElem? (i := 35) rfl))) (mvT hZ (hw _ (List.mem_of_getElem? (i := 36) rfl))) (notFace_of_selects (args := #[]) (mvT hZ (hw _ (List.mem_of_getElem? (i := 38) rfl)))) (mvT hZ (hw _ (List.mem_of_getElem? (i := 38) rfl))) (mvT hZ (hw _ (List.mem_of_getElem? (i := 37) rfl))) (by decide) (backOf (W := 0) (rm_6 l Z a0 hw [] aS T65.heap n0 Z4 aE Fpo) hZ (hw _ (List.mem_of_getElem? (i := 39) rfl)) (hw _ (List.mem_of_getElem? (i := 20) rfl)) (by decide) (by decide)) qa67 qc67 (g := (mkF m 65 #[.val (.int f), .val (.int la), .val (.int lo), .val (.int n), .val (.int (0 : Int32)), .val (.double (FP.i2d (la % (91 : Int32)))), .second, .val (.double (FP.i2d lo)), .second, .val (.ref a60), .val (.ref aE), .val (.ref aS), .unset, .unset, .unset] [(.ref aS)])) rfl (by rw [hml]; rfl) (Steps.refl _) (argsL := []) (rest := []) (lenOf pd_3 rfl) rfl (by show 2 * 0 + _ ≤ _; exact Nat.le_of_ble_eq_true rfl) (hb hby at_65) (fun _ _ => ⟨rfl, rfl, (by decide : 2 + 0 ≤ _), (by decide : 5 + 0 ≤ _)⟩)
  dsimp only [Pt.U, Pt.locs, Pt.cells, Pt.slots] at X67 l67 y67 z67 st67 hQ67
  subst l67 y67 z67
  obtain ⟨rfl, N67v, ev67⟩ := hQ67
  have P6 : ∀ t, Steps p.tables e below (T67.setTop (mkF m 68 #[.val (.int f), .val (.int la), .val (.int lo), .val (.int n), .val (.int (0 : Int32)), .val (.double (FP.i2d (la % (91 : Int32)))), .second, .val (.double (FP.i2d lo)), .second, .val (.ref a60), .val (.ref aE), .val (.ref aS), .unset, .unset, .unset] [(.ref aE)])) t → Steps p.tables e below (s₁.setTop (entryFrame m #[(.int f), (.int la), (.int lo), (.int n)] maxLocals)) t := fun t k => P5 t (by
      refine Own.w_astore H65 at_61 63 rfl rfl (l' := #[.val (.int f), .val (.int la), .val (.int lo), .val (.int n), .val (.int (0 : Int32)), .val (.double (FP.i2d (la % (91 : Int32)))), .second, .val (.double (FP.i2d lo)), .second, .val (.ref a60), .val (.ref aE), .val (.ref aS), .unset, .unset, .unset]) rfl ?_
      refine Own.w_aload H65 at_63 65 rfl rfl rfl ?_
      exact st67.trans k)
  have H67 := Own.hr X67 hx hby
  have N68 := Fr.app N66 N67v
  obtain ⟨cq69, kq69, qa69, qb69, qc69⟩ := isOf hZ ev67 ES
  obtain ⟨_, _, ⟨T69, L69, k69, n69⟩, -, X69, ⟨Lc69, hQ69, l69, y69, z69⟩, st69⟩ := X67.virtualBack hx (y := (⟨"com/example/latfix/latfix/model/Estimate", "getRegion", "()Ljava/util/Optional;"⟩ : MethodName)) (z := (⟨"com/example/latfix/latfix/model/Estimate", "getRegion", "()Ljava/util/Optional;"⟩ : MethodName)) hown (mvT hZ (hw _ (List.mem_of_getElem? (i := 40) rfl))) (mvT hZ (hw _ (List.mem_of_getElem? (i := 41) rfl))) (notFace_of_selects (args := #[]) (mvT hZ (hw _ (List.mem_of_getElem? (i := 43) rfl)))) (mvT hZ (hw _ (List.mem_of_getElem? (i := 43) rfl))) (mvT hZ (hw _ (List.mem_of_getElem? (i := 42) rfl))) (by decide) (backOf (W := 0) (rm_7 l Z a0 hw [] aS T65.heap n0 Z4 aE Fre) hZ (hw _ (List.mem_of_getElem? (i := 44) rfl)) (hw _ (List.mem_of_getElem? (i := 20) rfl)) (by decide) (by decide)) qa69 qc69 (g := (mkF m 72 #[.val (.int f), .val (.int la), .val (.int lo), .val (.int n), .val (.int (0 : Int32)), .val (.double (FP.i2d (la % (91 : Int32)))), .second, .val (.double (FP.i2d lo)), .second, .val (.ref a60), .val (.ref aE), .val (.ref aS), .val (.ref aE), .unset, .unset] [(.ref aS)])) rfl (by rw [hml]; rfl) (Steps.refl _) (argsL := []) (rest := []) (lenOf pd_3 rfl) rfl (by show 2 * 0 + _ ≤ _; exact Nat.le_of_ble_eq_true rfl) (hb hby at_72) (fun _ _ => ⟨rfl, ev67, (by decide : 2 + 0 ≤ _), (by decide : 5 + 0 ≤ _)⟩)
  dsimp only [Pt.U, Pt.locs, Pt.cells, Pt.slots] at X69 l69 y69 z69 st69 hQ69
  subst l69 y69 z69
  obtain ⟨rfl, N69v, ev69⟩ := hQ69
  have P7 : ∀ t, Steps p.tables e below (T69.setTop (mkF m 75 #[.val (.int f), .val (.int la), .val (.int lo), .val (.int n), .val (.int (0 : Int32)), .val (.double (FP.i2d (la % (91 : Int32)))), .second, .val (.double (FP.i2d lo)), .second, .val (.ref a60), .val (.ref aE), .val (.ref aS), .val (.ref aE), .unset, .unset] [(.ref aE)])) t → Steps p.tables e below (s₁.setTop (entryFrame m #[(.int f), (.int la), (.int lo), (.int n)] maxLocals)) t := fun t k => P6 t (by
      refine Own.w_astore H67 at_68 70 rfl rfl (l' := #[.val (.int f), .val (.int la), .val (.int lo), .val (.int n), .val (.int (0 : Int32)), .val (.double (FP.i2d (la % (91 : Int32)))), .second, .val (.double (FP.i2d lo)), .second, .val (.ref a60), .val (.ref aE), .val (.ref aS), .val (.ref aE), .unset, .unset]) rfl ?_
      refine Own.w_aload H67 at_70 72 rfl rfl rfl ?_
      exact st69.trans k)
  have H69 := Own.hr X69 hx hby
  have N70 := Fr.app N68 N69v
  obtain ⟨cq71, kq71, qa71, qb71, qc71⟩ := isOf hZ ev69 XE4
  obtain ⟨_, _, ⟨T71, L71, k71, n71⟩, -, X71, ⟨Lc71, hQ71, l71, y71, z71⟩, st71⟩ := X69.virtualBack hx (y := (⟨"java/util/Optional", "isPresent", "()Z"⟩ : MethodName)) (z := (⟨"java/util/Optional", "isPresent", "()Z"⟩ : MethodName)) hown (mvT hZ (hw _ (List.mem_of_getElem? (i := 45) rfl))) (mvT hZ (hw _ (List.mem_of_getElem? (i := 46) rfl))) (notFace_of_selects (args := #[]) (mvT hZ (hw _ (List.mem_of_getElem? (i := 48) rfl)))) (mvT hZ (hw _ (List.mem_of_getElem? (i := 48) rfl))) (mvT hZ (hw _ (List.mem_of_getElem? (i := 47) rfl))) (by decide) (backOf (W := 0) (rm_8n l Z a0 hw [] aE T65.heap n0 Z4 FE4) hZ (hw _ (List.mem_of_getElem? (i := 49) rfl)) (hw _ (List.mem_of_getElem? (i := 15) rfl)) (by decide) (by decide)) qa71 qc71 (g := (mkF m 91 #[.val (.int f), .val (.int la), .val (.int lo), .val (.int n), .val (.int (0 : Int32)), .val (.double (FP.i2d (la % (91 : Int32)))), .second, .val (.double (FP.i2d lo)), .second, .val (.ref a60), .val (.ref aE), .val (.ref aS), .val (.ref aE), .val (.ref aE), .unset] [(.ref aE)])) rfl (by rw [hml]; rfl) (Steps.refl _) (argsL := []) (rest := []) (lenOf pd_8 rfl) rfl (by show 2 * 0 + _ ≤ _; exact Nat.le_of_ble_eq_true rfl) (hb hby at_91) (fun _ _ => ⟨rfl, ev69, (by decide : 2 + 0 ≤ _), (by decide : 5 + 0 ≤ _)⟩)
  dsimp only [Pt.U, Pt.locs, Pt.cells, Pt.slots] at X71 l71 y71 z71 st71 hQ71
  subst l71 y71 z71
  obtain ⟨rfl, N71v, ev71⟩ := hQ71
  have P8 : ∀ t, Steps p.tables e below (T71.setTop (mkF m 94 #[.val (.int f), .val (.int la), .val (.int lo), .val (.int n), .val (.int (0 : Int32)), .val (.double (FP.i2d (la % (91 : Int32)))), .second, .val (.double (FP.i2d lo)), .second, .val (.ref a60), .val (.ref aE), .val (.ref aS), .val (.ref aE), .val (.ref aE), .unset] [(.int (0 : Int32))])) t → Steps p.tables e below (s₁.setTop (entryFrame m #[(.int f), (.int la), (.int lo), (.int n)] maxLocals)) t := fun t k => P7 t (by
      refine Own.w_astore H69 at_75 77 rfl rfl (l' := #[.val (.int f), .val (.int la), .val (.int lo), .val (.int n), .val (.int (0 : Int32)), .val (.double (FP.i2d (la % (91 : Int32)))), .second, .val (.double (FP.i2d lo)), .second, .val (.ref a60), .val (.ref aE), .val (.ref aS), .val (.ref aE), .val (.ref aE), .unset]) rfl ?_
      refine Own.w_aload H69 at_77 79 rfl rfl rfl ?_
      refine Own.w_ifnullNo H69 at_79 82 rfl ?_
      refine Own.w_aload H69 at_82 84 rfl rfl rfl ?_
      refine Own.w_ifnonnullYes H69 at_84 89 (by decide) (by decide) ?_
      refine Own.w_aload H69 at_89 91 rfl rfl rfl ?_
      exact st71.trans k)
  have H71 := Own.hr X71 hx hby
  have N72 := Fr.app N70 N71v
  obtain ⟨cq73, kq73, qa73, qb73, qc73⟩ := isOf hZ ev71 ES
  obtain ⟨_, _, ⟨T73, L73, k73, n73⟩, -, X73, ⟨Lc73, hQ73, l73, y73, z73⟩, st73⟩ := X71.virtualBack hx (y := (⟨"com/example/latfix/latfix/model/Estimate", "getLandmarksUsed", "()I"⟩ : MethodName)) (z := (⟨"com/example/latfix/latfix/model/Estimate", "getLandmarksUsed", "()I"⟩ : MethodName)) hown (mvT hZ (hw _ (List.mem_of_getElem? (i := 52) rfl))) (mvT hZ (hw _ (List.mem_of_getElem? (i := 53) rfl))) (notFace_of_selects (args := #[]) (mvT hZ (hw _ (List.mem_of_getElem? (i := 55) rfl)))) (mvT hZ (hw _ (List.mem_of_getElem? (i := 55) rfl))) (mvT hZ (hw _ (List.mem_of_getElem? (i := 54) rfl))) (by decide) (backOf (W := 0) (rm_9 l Z a0 hw [] aS T65.heap n0 Z4 n Flm) hZ (hw _ (List.mem_of_getElem? (i := 56) rfl)) (hw _ (List.mem_of_getElem? (i := 20) rfl)) (by decide) (by decide)) qa73 qc73 (g := (mkF m 101 #[.val (.int f), .val (.int la), .val (.int lo), .val (.int n), .val (.int (0 : Int32)), .val (.double (FP.i2d (la % (91 : Int32)))), .second, .val (.double (FP.i2d lo)), .second, .val (.ref a60), .val (.ref aE), .val (.ref aS), .val (.ref aE), .val (.ref aE), .unset] [(.ref aS)])) rfl (by rw [hml]; rfl) (Steps.refl _) (argsL := []) (rest := []) (lenOf pd_9 rfl) rfl (by show 2 * 0 + _ ≤ _; exact Nat.le_of_ble_eq_true rfl) (hb hby at_101) (fun _ _ => ⟨rfl, ev71, (by decide : 2 + 0 ≤ _), (by decide : 5 + 0 ≤ _)⟩)
  dsimp only [Pt.U, Pt.locs, Pt.cells, Pt.slots] at X73 l73 y73 z73 st73 hQ73
  subst l73 y73 z73
  obtain ⟨rfl, N73v, ev73⟩ := hQ73
  have P9 : ∀ t, Steps p.tables e below (T73.setTop (mkF m 104 #[.val (.int f), .val (.int la), .val (.int lo), .val (.int n), .val (.int (0 : Int32)), .val (.double (FP.i2d (la % (91 : Int32)))), .second, .val (.double (FP.i2d lo)), .second, .val (.ref a60), .val (.ref aE), .val (.ref aS), .val (.ref aE), .val (.ref aE), .unset] [(.int n)])) t → Steps p.tables e below (s₁.setTop (entryFrame m #[(.int f), (.int la), (.int lo), (.int n)] maxLocals)) t := fun t k => P8 t (by
      refine Own.w_ifCondYes H71 at_94 (rfl) 99 (by decide) (by decide) ?_
      refine Own.w_aload H71 at_99 101 rfl rfl rfl ?_
      exact st73.trans k)
  have H73 := Own.hr X73 hx hby
  have N74 := Fr.app N72 N73v
  obtain ⟨cq75, kq75, qa75, qb75, qc75⟩ := isOf hZ ev73 XE4
  obtain ⟨_, _, ⟨T75, L75, k75, n75⟩, -, X75, ⟨Lc75, hQ75, l75, y75, z75⟩, st75⟩ := X73.virtualBack hx (y := (⟨"java/util/Optional", "isPresent", "()Z"⟩ : MethodName)) (z := (⟨"java/util/Optional", "isPresent", "()Z"⟩ : MethodName)) hown (mvT hZ (hw _ (List.mem_of_getElem? (i := 45) rfl))) (mvT hZ (hw _ (List.mem_of_getElem? (i := 46) rfl))) (notFace_of_selects (args := #[]) (mvT hZ (hw _ (List.mem_of_getElem? (i := 48) rfl)))) (mvT hZ (hw _ (List.mem_of_getElem? (i := 48) rfl))) (mvT hZ (hw _ (List.mem_of_getElem? (i := 47) rfl))) (by decide) (backOf (W := 0) (rm_8n l Z a0 hw [] aE T65.heap n0 Z4 FE4) hZ (hw _ (List.mem_of_getElem? (i := 49) rfl)) (hw _ (List.mem_of_getElem? (i := 15) rfl)) (by decide) (by decide)) qa75 qc75 (g := (mkF m 112 #[.val (.int f), .val (.int la), .val (.int lo), .val (.int n), .val (.int (0 : Int32)), .val (.double (FP.i2d (la % (91 : Int32)))), .second, .val (.double (FP.i2d lo)), .second, .val (.ref a60), .val (.ref aE), .val (.ref aS), .val (.ref aE), .val (.ref aE), .unset] [(.ref aE)])) rfl (by rw [hml]; rfl) (Steps.refl _) (argsL := []) (rest := []) (lenOf pd_8 rfl) rfl (by show 2 * 0 + _ ≤ _; exact Nat.le_of_ble_eq_true rfl) (hb hby at_112) (fun _ _ => ⟨rfl, ev73, (by decide : 2 + 0 ≤ _), (by decide : 5 + 0 ≤ _)⟩)
  dsimp only [Pt.U, Pt.locs, Pt.cells, Pt.slots] at X75 l75 y75 z75 st75 hQ75
  subst l75 y75 z75
  obtain ⟨rfl, N75v, ev75⟩ := hQ75
  have P10 : ∀ t, Steps p.tables e below (T75.setTop (mkF m 115 #[.val (.int f), .val (.int la), .val (.int lo), .val (.int n), .val (.int (0 : Int32)), .val (.double (FP.i2d (la % (91 : Int32)))), .second, .val (.double (FP.i2d lo)), .second, .val (.ref a60), .val (.ref aE), .val (.ref aS), .val (.ref aE), .val (.ref aE), .unset] [(.int (0 : Int32))])) t → Steps p.tables e below (s₁.setTop (entryFrame m #[(.int f), (.int la), (.int lo), (.int n)] maxLocals)) t := fun t k => P9 t (by
      refine Own.w_iloadN H73 at_104 105 rfl rfl ?_
      refine Own.w_icmpYes H73 at_105 (by simp [if_icmp.holds]) 110 (by decide) (by decide) ?_
      refine Own.w_aload H73 at_110 112 rfl rfl rfl ?_
      exact st75.trans k)
  have H75 := Own.hr X75 hx hby
  have N76 := Fr.app N74 N75v
  obtain ⟨fs, hr, hrun, hended, hW, hsame⟩ := X75.leave (v := some (.int (1 : Int32))) (fun h => by rw [Bd.returns] at h; cases h)
  refine ⟨_, _, P10 _ ?_, hrun, hended, _, _, rfl, ?_, ⟨_, rfl⟩, hW, hsame.mono (by decide : 2 ≤ _) (by decide : 5 ≤ _)⟩
  · refine Own.w_iload H75 at_115 117 rfl rfl ?_
    refine Own.w_icmpYes H75 at_117 (rfl) 122 (by decide) (by decide) ?_
    refine Own.w_iload H75 at_122 124 rfl rfl ?_
    refine Own.w_ifCondNo H75 at_124 (rfl) 127 rfl ?_
    refine Own.w_iconst H75 at_127 128 rfl (z := (1 : Int32)) rfl ?_
    exact retN X75 hx (t := .boolean) Bd.returns (by simp) (hb hby at_128) hr
  · exact ⟨rfl, N76⟩
set_option maxRecDepth 65536 in
set_option maxHeartbeats 40000000 in
theorem comes_1 {Post : Tables → Env → Array Value → State → Outcome → State → Prop} (hpost : ∀ tb e args s v u, (limb_1_1.after args s (.returned v) u = true ∧ limb_1_2.after args s (.returned v) u = true ∧ True) → FrameEnd s (.returned v) u (Jvm.fieldLocs frame_1_writes args s ++ Jvm.arrayLocs frame_1_arrays args s ++ Jvm.staticLocs frame_1_statics s) 16 128 → Post tb e args s (.returned v) u) :
    ArmFor flags0 classFile x code maxLocals ret World_1 tables_1 room_1 Calls_1 rest_1 Pre_1 Post := by
  intro l hfl _ _ p e ha hc hk s m args below hf hA hF happ hP
  obtain ⟨hcalls, hrest, hpre⟩ := hP
  obtain ⟨-, -, -, hnamed, -, -, -, hat⟩ := (Spec.applies_iff hf).mp happ
  obtain ⟨hg, hn⟩ := and_e (Cond.before_iff.mp (show (Jvm.Cond.and given_1 narrow_1).before args s = true from hpre))
  obtain ⟨h1, g0⟩ := and_e hg
  obtain ⟨v0, g1⟩ := and_e g0
  obtain ⟨v1, g2⟩ := and_e g1
  obtain ⟨v2, g3⟩ := and_e g2
  obtain ⟨w0, w1, w2, w3, rfl⟩ : ∃ w0 w1 w2 w3 : Value, args = #[w0, w1, w2, w3] := by
    have hs : args.size = 4 := by simpa [Cond.value, given_1] using h1
    obtain ⟨L⟩ := args
    match L, hs with
    | [w0, w1, w2, w3], _ => exact ⟨w0, w1, w2, w3, rfl⟩
  have hw := fun d (hd : d ∈ tables_1) => atoms_spec (ws := Jvm.Cond.code x code maxLocals ret :: tables_1) hat d (List.mem_cons_of_mem _ hd)
  obtain ⟨i0, q0⟩ := is_v v0
  obtain rfl : w0 = (.int i0) := Option.some.inj q0
  obtain ⟨i1, q1⟩ := is_v v1
  obtain rfl : w1 = (.int i1) := Option.some.inj q1
  obtain ⟨i2, q2⟩ := is_v v2
  obtain rfl : w2 = (.int i2) := Option.some.inj q2
  obtain ⟨i3, q3⟩ := is_v g3
  obtain rfl : w3 = (.int i3) := Option.some.inj q3
  obtain ⟨hsets, hown0⟩ := atoms_of _ (rest_1_c_eq ▸ (show rest_1_c.before _ s = true from hrest))
  have x2 := Cond.before_iff.mp (hsets _ (List.mem_of_getElem? (i := 2) rfl))
  have x3 := Cond.before_iff.mp (hsets _ (List.mem_of_getElem? (i := 3) rfl))
  obtain ⟨aE, eE⟩ := exa_v x2
  have S0 : Sta s s.heap "java/util/Optional" "EMPTY" "Ljava/util/Optional;" (.ref aE) := Sta.start eE (Or.inl (hsets _ (List.mem_of_getElem? (i := 1) rfl)))
  have XE := Exa.start eE x2
  have FE : Fld s s.heap aE "java/util/Optional" "value" "Ljava/lang/Object;" .null := Fld.start (by have q := null_v x3; rw [fld_at eE] at q; exact q)
  have both : ∀ P : Prop, (ifCond.holds .eq (i0 &&& (1 : Int32)) = false → P) → (ifCond.holds .eq (i0 &&& (1 : Int32)) = true → P) → P := fun P q1 q2 => by
    cases h : ifCond.holds .eq (i0 &&& (1 : Int32))
    · exact q1 h
    · exact q2 h
  refine both _ (fun hb0 => ?_) (fun hb0 => ?_)
  · obtain ⟨n, o, h1, h2, h3, _, L, rfl, ⟨rfl, N⟩, hq⟩ := rm_0a l s _ hw tables_1 i0 i1 i2 i3 s.heap s.heap.size (Nat.le_refl _) aE (Old.start s) S0 FE XE hb0 p e ha hc hk s m _ below hf ((Spec.applies_iff_loose hf).mp happ).1 ⟨rfl, State.Warmed39.refl s, rfl⟩ trivial
    refine ⟨n, _, h1, h2, h3, hpost _ _ _ _ _ _ ⟨Cond.after_iff.mpr rfl, Cond.after_iff.mpr (eq_i res_at (Term.int_eval (1)) rfl), trivial⟩ ⟨hq.1, hq.2.1, (hq.2.2.sift fun y hy => Or.inr (N y hy)).mono (by decide) (by decide)⟩⟩
  · obtain ⟨n, o, h1, h2, h3, _, L, rfl, ⟨rfl, N⟩, hq⟩ := rm_0b l s _ hw tables_1 i0 i1 i2 i3 s.heap s.heap.size (Nat.le_refl _) aE (Old.start s) S0 FE XE hb0 p e ha hc hk s m _ below hf ((Spec.applies_iff_loose hf).mp happ).1 ⟨rfl, State.Warmed39.refl s, rfl⟩ trivial
    refine ⟨n, _, h1, h2, h3, hpost _ _ _ _ _ _ ⟨Cond.after_iff.mpr rfl, Cond.after_iff.mpr (eq_i res_at (Term.int_eval (1)) rfl), trivial⟩ ⟨hq.1, hq.2.1, (hq.2.2.sift fun y hy => Or.inr (N y hy)).mono (by decide) (by decide)⟩⟩
theorem main_1_1 : Claimed_1_1 := comes_1 fun _ _ _ _ _ _ h hF => ⟨h.1, hF⟩
theorem main_1_2 : Claimed_1_2 := comes_1 fun _ _ _ _ _ _ h hF => ⟨h.2.1, hF⟩
end Jvm.Pilot.@@N@@
namespace Jvm.Pilot.@@N@@
open Jvm Jvm.ClassFile Sem Op Lib Jvm.Free Jvm.Stand Jvm.Pilot.@@N@@.Jvm.D
/-! MADE BY PROGRAM (witnessworld.py) out of the Statement's table words and the real class files: 12 classes; the members and pool entries that the words name. The judged class is class 1, her method 1. -/
namespace start1
open Jvm.ClassFile
def u (s : String) : CpInfo := .utf8 (stringToUtf16 s)
/-- a pool by its gaps: so many unusable entries, then the entry; so many at the end -/
def gap : Nat → List CpInfo → List CpInfo
  | 0, r => r
  | n + 1, r => .unusable :: gap n r
def poolList (es : List (Nat × CpInfo)) (last : Nat) : List CpInfo := es.foldr (fun e r => gap e.1 (e.2 :: r)) (gap last [])
def pool (es : List (Nat × CpInfo)) (last : Nat) : Array CpInfo := ⟨poolList es last⟩
def fileOf (pool : Array CpInfo) (this : Nat) (attrs : Array Attribute := #[]) (ms : Array MethodInfo := #[]) (fl : Nat := 33) (sup : Nat := 0) (ifs : Array Nat := #[]) (fds : Array FieldInfo := #[]) : ClassFile where
  minorVersion := 0
  majorVersion := 65
  constantPool := pool
  accessFlags := fl
  thisClass := this
  superClass := sup
  interfaces := ifs
  fields := fds
  methods := ms
  attributes := attrs
def plain (name : String) (sup : Option ClassId) : Class where
  name := name
  kind := .ordinary
  loader := none
  accessFlags := 33
  super := sup
  interfaces := #[]
  cf := none
  fields := #[]
  methods := #[]
  instanceTypes := #[]
  staticTypes := #[]
  resolved := #[]
  callSites := []
  init := .initialized
  statics := none
  mirror := none

def pool0 : Array CpInfo := pool [(5, u "<init>"), (0, u "()V"), (1, .class_ 10), (1, u "java/lang/Object")] 113

def k0c0 : Code := { maxStack := 0, maxLocals := 1, code := object_method_1_code, exceptionTable := #[], attributes := #[] }
def k0m0 : Method := { name := "<init>", desc := "()V", sig := { parameters := [], returnType := none }, accessFlags := 1, code := some k0c0 }
/-- java/lang/Object -/
def k0 : Class := { plain "java/lang/Object" none with
  accessFlags := 33
  interfaces := #[]
  cf := some (fileOf pool0 8 #[] #[{ accessFlags := 1, nameIndex := 5, descriptorIndex := 6, attributes := #[] }] 33 0 #[] #[])
  fields := #[]
  methods := #[k0m0]
  instanceTypes := #[]
  staticTypes := #[]
  resolved := Array.replicate 124 none
  statics := none }

def pool1 : Array CpInfo := pool [(2, .class_ 4), (1, u "java/lang/Object"), (0, u "<init>"), (0, u "()V"), (0, .class_ 8), (0, u "com/example/latfix/latfix/model/Position"), (0, .methodref 7 10), (0, .nameAndType 5 11), (0, u "(DD)V"), (0, .methodref 13 14), (0, .class_ 15), (0, .nameAndType 16 17), (0, u "java/util/Optional"), (0, u "of"), (0, u "(Ljava/lang/Object;)Ljava/util/Optional;"), (0, .methodref 13 19), (0, .nameAndType 20 21), (0, u "empty"), (0, u "()Ljava/util/Optional;"), (0, .methodref 23 24), (0, .class_ 25), (0, .nameAndType 26 27), (0, u "com/example/latfix/latfix/model/Estimate"), (0, u "atPoint"), (0, u "(Ljava/util/Optional;I)Lcom/example/latfix/latfix/model/Estimate;"), (0, .methodref 23 29), (0, .nameAndType 30 21), (0, u "getPosition"), (0, .methodref 23 32), (0, .nameAndType 33 21), (0, u "getRegion"), (0, .methodref 13 35), (0, .nameAndType 36 37), (0, u "isPresent"), (0, u "()Z"), (0, .methodref 23 39), (0, .nameAndType 40 41), (0, u "getLandmarksUsed"), (0, u "()I"), (0, .methodref 13 43), (0, .nameAndType 44 45), (0, u "get"), (0, u "()Ljava/lang/Object;"), (0, .methodref 7 47), (0, .nameAndType 48 49), (0, u "getLat"), (0, u "()D"), (0, .methodref 7 51), (0, .nameAndType 52 49), (0, u "getLon"), (0, .class_ 54), (0, u "com/example/latfix/latfix/model/EstimateAtPointPinLaw"), (2, u "law"), (0, u "(IIII)Z")] 3

def k1m0 : Method := { name := "<init>", desc := "()V", sig := { parameters := [], returnType := none }, accessFlags := 1, code := none }
def k1c1 : Code := { maxStack := 6, maxLocals := 15, code := code, exceptionTable := #[], attributes := #[] }
def k1m1 : Method := { name := "law", desc := "(IIII)Z", sig := { parameters := [.int, .int, .int, .int], returnType := some .boolean }, accessFlags := 9, code := some k1c1 }
/-- com/example/latfix/latfix/model/EstimateAtPointPinLaw -/
def k1 : Class := { plain "com/example/latfix/latfix/model/EstimateAtPointPinLaw" (some 0) with
  accessFlags := 49
  interfaces := #[]
  cf := some (fileOf pool1 53 #[] #[{ accessFlags := 1, nameIndex := 5, descriptorIndex := 6, attributes := #[] }, { accessFlags := 9, nameIndex := 57, descriptorIndex := 58, attributes := #[] }] 49 2 #[] #[])
  fields := #[]
  methods := #[k1m0, k1m1]
  instanceTypes := #[]
  staticTypes := #[]
  resolved := Array.replicate 62 none
  statics := none }

def pool2 : Array CpInfo := pool [(1, .methodref 2 3), (0, .class_ 4), (0, .nameAndType 5 6), (0, u "java/lang/Object"), (0, u "<init>"), (0, u "()V"), (0, .fieldref 8 9), (0, .class_ 10), (0, .nameAndType 11 12), (0, u "com/example/latfix/latfix/model/Position"), (0, u "lat"), (0, u "D"), (0, .fieldref 8 14), (0, .nameAndType 15 12), (0, u "lon"), (0, u "(DD)V"), (2, u "getLat"), (0, u "()D"), (0, u "getLon")] 2

def k2c0 : Code := { maxStack := 3, maxLocals := 5, code := prog_39_method_1_code, exceptionTable := #[], attributes := #[] }
def k2m0 : Method := { name := "<init>", desc := "(DD)V", sig := { parameters := [.double, .double], returnType := none }, accessFlags := 1, code := some k2c0 }
def k2c1 : Code := { maxStack := 2, maxLocals := 1, code := prog_39_method_2_code, exceptionTable := #[], attributes := #[] }
def k2m1 : Method := { name := "getLat", desc := "()D", sig := { parameters := [], returnType := some .double }, accessFlags := 1, code := some k2c1 }
def k2c2 : Code := { maxStack := 2, maxLocals := 1, code := prog_39_method_3_code, exceptionTable := #[], attributes := #[] }
def k2m2 : Method := { name := "getLon", desc := "()D", sig := { parameters := [], returnType := some .double }, accessFlags := 1, code := some k2c2 }
/-- com/example/latfix/latfix/model/Position -/
def k2 : Class := { plain "com/example/latfix/latfix/model/Position" (some 0) with
  accessFlags := 49
  interfaces := #[]
  cf := some (fileOf pool2 8 #[] #[{ accessFlags := 1, nameIndex := 5, descriptorIndex := 16, attributes := #[] }, { accessFlags := 1, nameIndex := 19, descriptorIndex := 20, attributes := #[] }, { accessFlags := 1, nameIndex := 21, descriptorIndex := 20, attributes := #[] }] 49 2 #[] #[{ accessFlags := 18, nameIndex := 11, descriptorIndex := 12, attributes := #[] }, { accessFlags := 18, nameIndex := 15, descriptorIndex := 12, attributes := #[] }])
  fields := #[{ name := "lat", type := .double, accessFlags := 18, slot := 0, constantValue := 0 }, { name := "lon", type := .double, accessFlags := 18, slot := 1, constantValue := 0 }]
  methods := #[k2m0, k2m1, k2m2]
  instanceTypes := #[.double, .double]
  staticTypes := #[]
  resolved := Array.replicate 24 none
  statics := none }

def pool3 : Array CpInfo := pool [(1, .fieldref 2 3), (0, .class_ 4), (0, .nameAndType 5 6), (0, u "java/util/Optional"), (0, u "EMPTY"), (0, u "Ljava/util/Optional;"), (0, .methodref 8 9), (0, .class_ 10), (0, .nameAndType 11 12), (0, u "java/lang/Object"), (0, u "<init>"), (0, u "()V"), (0, .fieldref 2 14), (0, .nameAndType 15 16), (0, u "value"), (0, u "Ljava/lang/Object;"), (0, .methodref 18 19), (0, .class_ 20), (0, .nameAndType 21 22), (0, u "java/util/Objects"), (0, u "requireNonNull"), (0, u "(Ljava/lang/Object;)Ljava/lang/Object;"), (0, .methodref 2 24), (0, .nameAndType 11 25), (0, u "(Ljava/lang/Object;)V"), (20, u "()Z"), (8, u "empty"), (0, u "()Ljava/util/Optional;"), (8, u "(Ljava/lang/Object;)Ljava/util/Optional;"), (2, u "isPresent"), (4, u "get"), (0, u "()Ljava/lang/Object;"), (7, u "of")] 104

def k3c0 : Code := { maxStack := 1, maxLocals := 1, code := jdk_32_method_1_code, exceptionTable := #[], attributes := #[] }
def k3m0 : Method := { name := "empty", desc := "()Ljava/util/Optional;", sig := { parameters := [], returnType := some (.object "java/util/Optional") }, accessFlags := 9, code := some k3c0 }
def k3c1 : Code := { maxStack := 2, maxLocals := 2, code := jdk_32_method_2_code, exceptionTable := #[], attributes := #[] }
def k3m1 : Method := { name := "<init>", desc := "(Ljava/lang/Object;)V", sig := { parameters := [(.object "java/lang/Object")], returnType := none }, accessFlags := 2, code := some k3c1 }
def k3c2 : Code := { maxStack := 3, maxLocals := 1, code := jdk_32_method_3_code, exceptionTable := #[], attributes := #[] }
def k3m2 : Method := { name := "of", desc := "(Ljava/lang/Object;)Ljava/util/Optional;", sig := { parameters := [(.object "java/lang/Object")], returnType := some (.object "java/util/Optional") }, accessFlags := 9, code := some k3c2 }
def k3c3 : Code := { maxStack := 3, maxLocals := 1, code := jdk_32_method_5_code, exceptionTable := #[], attributes := #[] }
def k3m3 : Method := { name := "get", desc := "()Ljava/lang/Object;", sig := { parameters := [], returnType := some (.object "java/lang/Object") }, accessFlags := 1, code := some k3c3 }
def k3c4 : Code := { maxStack := 1, maxLocals := 1, code := jdk_32_method_6_code, exceptionTable := #[], attributes := #[] }
def k3m4 : Method := { name := "isPresent", desc := "()Z", sig := { parameters := [], returnType := some .boolean }, accessFlags := 1, code := some k3c4 }
/-- java/util/Optional -/
def k3 : Class := { plain "java/util/Optional" (some 0) with
  accessFlags := 49
  interfaces := #[]
  cf := some (fileOf pool3 2 #[] #[{ accessFlags := 9, nameIndex := 55, descriptorIndex := 56, attributes := #[] }, { accessFlags := 2, nameIndex := 11, descriptorIndex := 25, attributes := #[] }, { accessFlags := 9, nameIndex := 82, descriptorIndex := 65, attributes := #[] }, { accessFlags := 1, nameIndex := 73, descriptorIndex := 74, attributes := #[] }, { accessFlags := 1, nameIndex := 68, descriptorIndex := 46, attributes := #[] }] 49 8 #[] #[{ accessFlags := 26, nameIndex := 5, descriptorIndex := 6, attributes := #[] }, { accessFlags := 18, nameIndex := 15, descriptorIndex := 16, attributes := #[] }])
  fields := #[{ name := "EMPTY", type := (.object "java/util/Optional"), accessFlags := 26, slot := 0, constantValue := 0 }, { name := "value", type := (.object "java/lang/Object"), accessFlags := 18, slot := 0, constantValue := 0 }]
  methods := #[k3m0, k3m1, k3m2, k3m3, k3m4]
  instanceTypes := #[(.object "java/lang/Object")]
  staticTypes := #[(.object "java/util/Optional")]
  resolved := Array.replicate 187 none
  statics := some 0 }

def pool4 : Array CpInfo := pool [(6, .class_ 8), (1, u "java/util/Optional"), (2, .methodref 12 13), (0, .class_ 14), (0, .nameAndType 15 16), (0, u "com/example/latfix/latfix/model/Estimate"), (0, u "<init>"), (0, u "(Ljava/util/Optional;Ljava/util/Optional;I)V"), (0, .methodref 18 19), (0, .class_ 20), (0, .nameAndType 15 21), (0, u "java/lang/Object"), (0, u "()V"), (0, .fieldref 12 23), (0, .nameAndType 24 25), (0, u "position"), (0, u "Ljava/util/Optional;"), (0, .fieldref 12 27), (0, .nameAndType 28 25), (0, u "region"), (0, .fieldref 12 30), (0, .nameAndType 31 32), (0, u "landmarksUsed"), (0, u "I"), (0, .methodref 6 34), (0, .nameAndType 35 36), (0, u "empty"), (0, u "()Ljava/util/Optional;"), (8, u "atPoint"), (0, u "(Ljava/util/Optional;I)Lcom/example/latfix/latfix/model/Estimate;"), (1, u "getPosition"), (1, u "getRegion"), (1, u "getLandmarksUsed"), (0, u "()I")] 27

def k4c0 : Code := { maxStack := 2, maxLocals := 4, code := prog_28_method_2_code, exceptionTable := #[], attributes := #[] }
def k4m0 : Method := { name := "<init>", desc := "(Ljava/util/Optional;Ljava/util/Optional;I)V", sig := { parameters := [(.object "java/util/Optional"), (.object "java/util/Optional"), .int], returnType := none }, accessFlags := 2, code := some k4c0 }
def k4c1 : Code := { maxStack := 5, maxLocals := 2, code := prog_28_method_3_code, exceptionTable := #[], attributes := #[] }
def k4m1 : Method := { name := "atPoint", desc := "(Ljava/util/Optional;I)Lcom/example/latfix/latfix/model/Estimate;", sig := { parameters := [(.object "java/util/Optional"), .int], returnType := some (.object "com/example/latfix/latfix/model/Estimate") }, accessFlags := 9, code := some k4c1 }
def k4c2 : Code := { maxStack := 1, maxLocals := 1, code := prog_28_method_4_code, exceptionTable := #[], attributes := #[] }
def k4m2 : Method := { name := "getPosition", desc := "()Ljava/util/Optional;", sig := { parameters := [], returnType := some (.object "java/util/Optional") }, accessFlags := 1, code := some k4c2 }
def k4c3 : Code := { maxStack := 1, maxLocals := 1, code := prog_28_method_5_code, exceptionTable := #[], attributes := #[] }
def k4m3 : Method := { name := "getRegion", desc := "()Ljava/util/Optional;", sig := { parameters := [], returnType := some (.object "java/util/Optional") }, accessFlags := 1, code := some k4c3 }
def k4c4 : Code := { maxStack := 1, maxLocals := 1, code := prog_28_method_6_code, exceptionTable := #[], attributes := #[] }
def k4m4 : Method := { name := "getLandmarksUsed", desc := "()I", sig := { parameters := [], returnType := some .int }, accessFlags := 1, code := some k4c4 }
/-- com/example/latfix/latfix/model/Estimate -/
def k4 : Class := { plain "com/example/latfix/latfix/model/Estimate" (some 0) with
  accessFlags := 49
  interfaces := #[]
  cf := some (fileOf pool4 12 #[] #[{ accessFlags := 2, nameIndex := 15, descriptorIndex := 16, attributes := #[] }, { accessFlags := 9, nameIndex := 45, descriptorIndex := 46, attributes := #[] }, { accessFlags := 1, nameIndex := 48, descriptorIndex := 36, attributes := #[] }, { accessFlags := 1, nameIndex := 50, descriptorIndex := 36, attributes := #[] }, { accessFlags := 1, nameIndex := 52, descriptorIndex := 53, attributes := #[] }] 49 18 #[] #[{ accessFlags := 18, nameIndex := 24, descriptorIndex := 25, attributes := #[] }, { accessFlags := 18, nameIndex := 28, descriptorIndex := 25, attributes := #[] }, { accessFlags := 18, nameIndex := 31, descriptorIndex := 32, attributes := #[] }])
  fields := #[{ name := "position", type := (.object "java/util/Optional"), accessFlags := 18, slot := 0, constantValue := 0 }, { name := "region", type := (.object "java/util/Optional"), accessFlags := 18, slot := 1, constantValue := 0 }, { name := "landmarksUsed", type := .int, accessFlags := 18, slot := 2, constantValue := 0 }]
  methods := #[k4m0, k4m1, k4m2, k4m3, k4m4]
  instanceTypes := #[(.object "java/util/Optional"), (.object "java/util/Optional"), .int]
  staticTypes := #[]
  resolved := Array.replicate 81 none
  statics := none }

def pool5 : Array CpInfo := pool [(2, .class_ 4), (1, u "java/lang/Object"), (0, u "<init>"), (0, u "()V"), (35, .class_ 44), (1, u "java/util/Objects"), (0, u "requireNonNull"), (0, u "(Ljava/lang/Object;)Ljava/lang/Object;")] 137

def k5m0 : Method := { name := "<init>", desc := "()V", sig := { parameters := [], returnType := none }, accessFlags := 2, code := none }
def k5c1 : Code := { maxStack := 2, maxLocals := 1, code := jdk_31_method_10_code, exceptionTable := #[], attributes := #[] }
def k5m1 : Method := { name := "requireNonNull", desc := "(Ljava/lang/Object;)Ljava/lang/Object;", sig := { parameters := [(.object "java/lang/Object")], returnType := some (.object "java/lang/Object") }, accessFlags := 9, code := some k5c1 }
/-- java/util/Objects -/
def k5 : Class := { plain "java/util/Objects" (some 0) with
  accessFlags := 49
  interfaces := #[]
  cf := some (fileOf pool5 42 #[] #[{ accessFlags := 2, nameIndex := 5, descriptorIndex := 6, attributes := #[] }, { accessFlags := 9, nameIndex := 45, descriptorIndex := 46, attributes := #[] }] 49 2 #[] #[])
  fields := #[]
  methods := #[k5m0, k5m1]
  instanceTypes := #[]
  staticTypes := #[]
  resolved := Array.replicate 184 none
  statics := none }

def pool6 : Array CpInfo := pool [(1, u "java/lang/Cloneable"), (0, .class_ 1), (0, u "java/lang/Object"), (0, .class_ 3)] 3

/-- java/lang/Cloneable -/
def k6 : Class := { plain "java/lang/Cloneable" (some 0) with
  accessFlags := 1537
  interfaces := #[]
  cf := some (fileOf pool6 2 #[] #[] 1537 4 #[] #[])
  fields := #[]
  methods := #[]
  instanceTypes := #[]
  staticTypes := #[]
  resolved := Array.replicate 8 none
  statics := none }

def pool7 : Array CpInfo := pool [(1, u "java/io/Serializable"), (0, .class_ 1), (0, u "java/lang/Object"), (0, .class_ 3)] 3

/-- java/io/Serializable -/
def k7 : Class := { plain "java/io/Serializable" (some 0) with
  accessFlags := 1537
  interfaces := #[]
  cf := some (fileOf pool7 2 #[] #[] 1537 4 #[] #[])
  fields := #[]
  methods := #[]
  instanceTypes := #[]
  staticTypes := #[]
  resolved := Array.replicate 8 none
  statics := none }

/-- the primitive byte -/
def k8 : Class := { plain "byte" none with kind := .primitive 'B', accessFlags := 0x411 }
/-- [B -/
def k9 : Class := { plain "[B" (some 0) with kind := .array 8 .byte, interfaces := #[6, 7], accessFlags := 1041 }

/-- the primitive int -/
def k10 : Class := { plain "int" none with kind := .primitive 'I', accessFlags := 0x411 }
/-- [I -/
def k11 : Class := { plain "[I" (some 0) with kind := .array 10 .int, interfaces := #[6, 7], accessFlags := 1041 }

def heap : Heap := #[{ cls := 3, slots := #[.ref 1], vm := .statics 3 },
  { cls := 3, slots := #[.null], vm := .none }]
def classes : Array Class := #[k0, k1, k2, k3, k4, k5, k6, k7, k8, k9, k10, k11]
def interned : List (Array UInt16 × Addr) := []
def slotsUsed : Nat := 2
def theMethod : MethodId := ⟨1, 1⟩
def args0 : Array Value := #[.int 1, .int 45, .int 7, .int 3]
def aboutOver (below : List Frame) : State where
  vm := { classes := classes, interned := interned.toArray }
  heap := heap
  slotsUsed := slotsUsed
  threads := #[{ frames := .invoking theMethod args0 :: below }]
def below0 : List Frame := [.native { method := ⟨0, 0⟩, args := #[] }]
def about1 : State := aboutOver below0
def p0 : Program := .bare "" "" ""
def e0 : Env := launch0.env 0 0 0
theorem w_frames : about1.frames = Frame.invoking theMethod args0 :: below0 := rfl
set_option maxRecDepth 65536 in
theorem w_args : argsFit about1.vm theMethod args0 = true := by decide +kernel
set_option maxRecDepth 65536 in
theorem w_heap : heapFits about1 = true := by decide +kernel
set_option maxRecDepth 65536 in
theorem w_runnable : about1.curStatus? = some .runnable := by decide +kernel
set_option maxRecDepth 65536 in
theorem w_alone : about1.alone = true := by decide +kernel
set_option maxRecDepth 65536 in
theorem w_named : about1.methodNamed? x = some theMethod := by decide +kernel
set_option maxRecDepth 65536 in
theorem w_hears : about1.hears theMethod below0 = true := by decide +kernel
set_option maxRecDepth 65536 in
theorem w_ripe : about1.ripe theMethod args0 below0 = true := by decide +kernel
theorem w_running : about1.status = .running := rfl
set_option maxRecDepth 65536 in
theorem w_room : about1.hasRoom e0.platform room_1 = true :=
  launch0.hasRoom_least _ room_1 (by decide +kernel) (by decide +kernel) (by decide +kernel) (by decide +kernel) (by decide +kernel) (by decide +kernel)
theorem allAtoms_all (ts : List Jvm.Cond) (a : Array Jvm.Value) (st : Jvm.State) : (allAtoms ts).before a st = ts.all (fun c => c.before a st) := by
  induction ts with
  | nil => rfl
  | cons c t ih =>
    show (Jvm.Cond.and c (allAtoms t)).before a st = _
    rw [Jvm.Cond.before_and, ih, List.all_cons]
def words1 : List Jvm.Cond := Jvm.Cond.code x code maxLocals ret :: tables_1
/-- a 'code' word, met by the world's own term for the bytes: nothing is compared byte by byte -/
theorem code_word {y : MethodName} {bytes : ByteArray} {mx : Nat} {rt : Option FieldType} {a : Array Value} {s : State} {m : MethodId} {meth : Method} {c : Code} (h1 : s.methodNamed? y = some m) (h2 : s.vm.method? m = some meth) (h3 : meth.code = some c) (h4 : c.code = bytes)
    (h5 : (c.maxLocals == mx && c.exceptionTable.isEmpty && decide (c.maxStack ≤ mostOperands) && decide (meth.sig.returnType = rt) && !meth.locks && decide (parseMethodDescriptor y.desc = some meth.sig)) = true) : (Jvm.Cond.code y bytes mx rt).before a s = true := by
  simp only [Bool.and_eq_true, beq_iff_eq, Bool.not_eq_true', decide_eq_true_eq] at h5
  obtain ⟨⟨⟨⟨⟨g1, g2⟩, g3⟩, g4⟩, g5⟩, g6⟩ := h5
  simp [Cond.before, Cond.holds, Cond.value, h1, h2, h3, h4, g1, g2, g3, g4, g5, g6]
def isCode : Jvm.Cond → Bool
  | .code _ _ _ _ => true
  | _ => false
theorem all_split {L : List Jvm.Cond} {P : Jvm.Cond → Bool} (h1 : L.all (fun c => isCode c || P c) = true) (h2 : ∀ c ∈ L.filter isCode, P c = true) : L.all P = true := by
  refine List.all_eq_true.mpr fun c hc => ?_
  have h := List.all_eq_true.mp h1 c hc
  rcases Bool.eq_false_or_eq_true (isCode c) with hi | hi
  · exact h2 c (List.mem_filter.mpr ⟨hc, hi⟩)
  · simpa [hi] using h
set_option maxRecDepth 65536 in
theorem w_c0 : (Jvm.Cond.code x code maxLocals ret).before args0 about1 = true := code_word (m := ⟨1, 1⟩) (meth := k1m1) (c := k1c1) (by decide +kernel) rfl rfl rfl (by decide +kernel)
set_option maxRecDepth 65536 in
theorem w_c1 : (Jvm.Cond.code ({ cls := "com/example/latfix/latfix/model/Position", name := "<init>", desc := "(DD)V" } : Jvm.MethodName) prog_39_method_1_code (5 : Nat) (Option.none : Option Jvm.ClassFile.FieldType)).before args0 about1 = true := code_word (m := ⟨2, 0⟩) (meth := k2m0) (c := k2c0) (by decide +kernel) rfl rfl rfl (by decide +kernel)
set_option maxRecDepth 65536 in
theorem w_c2 : (Jvm.Cond.code ({ cls := "java/lang/Object", name := "<init>", desc := "()V" } : Jvm.MethodName) object_method_1_code (1 : Nat) (Option.none : Option Jvm.ClassFile.FieldType)).before args0 about1 = true := code_word (m := ⟨0, 0⟩) (meth := k0m0) (c := k0c0) (by decide +kernel) rfl rfl rfl (by decide +kernel)
set_option maxRecDepth 65536 in
theorem w_c3 : (Jvm.Cond.code ({ cls := "java/util/Optional", name := "empty", desc := "()Ljava/util/Optional;" } : Jvm.MethodName) jdk_32_method_1_code (1 : Nat) (Option.some (Jvm.ClassFile.FieldType.object "java/util/Optional"))).before args0 about1 = true := code_word (m := ⟨3, 0⟩) (meth := k3m0) (c := k3c0) (by decide +kernel) rfl rfl rfl (by decide +kernel)
set_option maxRecDepth 65536 in
theorem w_c4 : (Jvm.Cond.code ({ cls := "com/example/latfix/latfix/model/Estimate", name := "atPoint", desc := "(Ljava/util/Optional;I)Lcom/example/latfix/latfix/model/Estimate;" } : Jvm.MethodName) prog_28_method_3_code (2 : Nat) (Option.some (Jvm.ClassFile.FieldType.object "com/example/latfix/latfix/model/Estimate"))).before args0 about1 = true := code_word (m := ⟨4, 1⟩) (meth := k4m1) (c := k4c1) (by decide +kernel) rfl rfl rfl (by decide +kernel)
set_option maxRecDepth 65536 in
theorem w_c5 : (Jvm.Cond.code ({ cls := "com/example/latfix/latfix/model/Estimate", name := "<init>", desc := "(Ljava/util/Optional;Ljava/util/Optional;I)V" } : Jvm.MethodName) prog_28_method_2_code (4 : Nat) (Option.none : Option Jvm.ClassFile.FieldType)).before args0 about1 = true := code_word (m := ⟨4, 0⟩) (meth := k4m0) (c := k4c0) (by decide +kernel) rfl rfl rfl (by decide +kernel)
set_option maxRecDepth 65536 in
theorem w_c6 : (Jvm.Cond.code ({ cls := "com/example/latfix/latfix/model/Estimate", name := "getPosition", desc := "()Ljava/util/Optional;" } : Jvm.MethodName) prog_28_method_4_code (1 : Nat) (Option.some (Jvm.ClassFile.FieldType.object "java/util/Optional"))).before args0 about1 = true := code_word (m := ⟨4, 2⟩) (meth := k4m2) (c := k4c2) (by decide +kernel) rfl rfl rfl (by decide +kernel)
set_option maxRecDepth 65536 in
theorem w_c7 : (Jvm.Cond.code ({ cls := "com/example/latfix/latfix/model/Estimate", name := "getRegion", desc := "()Ljava/util/Optional;" } : Jvm.MethodName) prog_28_method_5_code (1 : Nat) (Option.some (Jvm.ClassFile.FieldType.object "java/util/Optional"))).before args0 about1 = true := code_word (m := ⟨4, 3⟩) (meth := k4m3) (c := k4c3) (by decide +kernel) rfl rfl rfl (by decide +kernel)
set_option maxRecDepth 65536 in
theorem w_c8 : (Jvm.Cond.code ({ cls := "java/util/Optional", name := "isPresent", desc := "()Z" } : Jvm.MethodName) jdk_32_method_6_code (1 : Nat) (Option.some Jvm.ClassFile.FieldType.boolean)).before args0 about1 = true := code_word (m := ⟨3, 4⟩) (meth := k3m4) (c := k3c4) (by decide +kernel) rfl rfl rfl (by decide +kernel)
set_option maxRecDepth 65536 in
theorem w_c9 : (Jvm.Cond.code ({ cls := "com/example/latfix/latfix/model/Estimate", name := "getLandmarksUsed", desc := "()I" } : Jvm.MethodName) prog_28_method_6_code (1 : Nat) (Option.some Jvm.ClassFile.FieldType.int)).before args0 about1 = true := code_word (m := ⟨4, 4⟩) (meth := k4m4) (c := k4c4) (by decide +kernel) rfl rfl rfl (by decide +kernel)
set_option maxRecDepth 65536 in
theorem w_c10 : (Jvm.Cond.code ({ cls := "java/util/Optional", name := "of", desc := "(Ljava/lang/Object;)Ljava/util/Optional;" } : Jvm.MethodName) jdk_32_method_3_code (1 : Nat) (Option.some (Jvm.ClassFile.FieldType.object "java/util/Optional"))).before args0 about1 = true := code_word (m := ⟨3, 2⟩) (meth := k3m2) (c := k3c2) (by decide +kernel) rfl rfl rfl (by decide +kernel)
set_option maxRecDepth 65536 in
theorem w_c11 : (Jvm.Cond.code ({ cls := "java/util/Objects", name := "requireNonNull", desc := "(Ljava/lang/Object;)Ljava/lang/Object;" } : Jvm.MethodName) jdk_31_method_10_code (1 : Nat) (Option.some (Jvm.ClassFile.FieldType.object "java/lang/Object"))).before args0 about1 = true := code_word (m := ⟨5, 1⟩) (meth := k5m1) (c := k5c1) (by decide +kernel) rfl rfl rfl (by decide +kernel)
set_option maxRecDepth 65536 in
theorem w_c12 : (Jvm.Cond.code ({ cls := "java/util/Optional", name := "<init>", desc := "(Ljava/lang/Object;)V" } : Jvm.MethodName) jdk_32_method_2_code (2 : Nat) (Option.none : Option Jvm.ClassFile.FieldType)).before args0 about1 = true := code_word (m := ⟨3, 1⟩) (meth := k3m1) (c := k3c1) (by decide +kernel) rfl rfl rfl (by decide +kernel)
set_option maxRecDepth 65536 in
theorem w_c13 : (Jvm.Cond.code ({ cls := "java/util/Optional", name := "get", desc := "()Ljava/lang/Object;" } : Jvm.MethodName) jdk_32_method_5_code (1 : Nat) (Option.some (Jvm.ClassFile.FieldType.object "java/lang/Object"))).before args0 about1 = true := code_word (m := ⟨3, 3⟩) (meth := k3m3) (c := k3c3) (by decide +kernel) rfl rfl rfl (by decide +kernel)
set_option maxRecDepth 65536 in
theorem w_c14 : (Jvm.Cond.code ({ cls := "com/example/latfix/latfix/model/Position", name := "getLat", desc := "()D" } : Jvm.MethodName) prog_39_method_2_code (1 : Nat) (Option.some Jvm.ClassFile.FieldType.double)).before args0 about1 = true := code_word (m := ⟨2, 1⟩) (meth := k2m1) (c := k2c1) (by decide +kernel) rfl rfl rfl (by decide +kernel)
set_option maxRecDepth 65536 in
theorem w_c15 : (Jvm.Cond.code ({ cls := "com/example/latfix/latfix/model/Position", name := "getLon", desc := "()D" } : Jvm.MethodName) prog_39_method_3_code (1 : Nat) (Option.some Jvm.ClassFile.FieldType.double)).before args0 about1 = true := code_word (m := ⟨2, 2⟩) (meth := k2m2) (c := k2c2) (by decide +kernel) rfl rfl rfl (by decide +kernel)
def codes1 : List Jvm.Cond := [Jvm.Cond.code x code maxLocals ret, Jvm.Cond.code ({ cls := "com/example/latfix/latfix/model/Position", name := "<init>", desc := "(DD)V" } : Jvm.MethodName) prog_39_method_1_code (5 : Nat) (Option.none : Option Jvm.ClassFile.FieldType), Jvm.Cond.code ({ cls := "java/lang/Object", name := "<init>", desc := "()V" } : Jvm.MethodName) object_method_1_code (1 : Nat) (Option.none : Option Jvm.ClassFile.FieldType), Jvm.Cond.code ({ cls := "java/util/Optional", name := "empty", desc := "()Ljava/util/Optional;" } : Jvm.MethodName) jdk_32_method_1_code (1 : Nat) (Option.some (Jvm.ClassFile.FieldType.object "java/util/Optional")), Jvm.Cond.code ({ cls := "com/example/latfix/latfix/model/Estimate", name := "atPoint", desc := "(Ljava/util/Optional;I)Lcom/example/latfix/latfix/model/Estimate;" } : Jvm.MethodName) prog_28_method_3_code (2 : Nat) (Option.some (Jvm.ClassFile.FieldType.object "com/example/latfix/latfix/model/Estimate")), Jvm.Cond.code ({ cls := "com/example/latfix/latfix/model/Estimate", name := "<init>", desc := "(Ljava/util/Optional;Ljava/util/Optional;I)V" } : Jvm.MethodName) prog_28_method_2_code (4 : Nat) (Option.none : Option Jvm.ClassFile.FieldType), Jvm.Cond.code ({ cls := "com/example/latfix/latfix/model/Estimate", name := "getPosition", desc := "()Ljava/util/Optional;" } : Jvm.MethodName) prog_28_method_4_code (1 : Nat) (Option.some (Jvm.ClassFile.FieldType.object "java/util/Optional")), Jvm.Cond.code ({ cls := "com/example/latfix/latfix/model/Estimate", name := "getRegion", desc := "()Ljava/util/Optional;" } : Jvm.MethodName) prog_28_method_5_code (1 : Nat) (Option.some (Jvm.ClassFile.FieldType.object "java/util/Optional")), Jvm.Cond.code ({ cls := "java/util/Optional", name := "isPresent", desc := "()Z" } : Jvm.MethodName) jdk_32_method_6_code (1 : Nat) (Option.some Jvm.ClassFile.FieldType.boolean), Jvm.Cond.code ({ cls := "com/example/latfix/latfix/model/Estimate", name := "getLandmarksUsed", desc := "()I" } : Jvm.MethodName) prog_28_method_6_code (1 : Nat) (Option.some Jvm.ClassFile.FieldType.int), Jvm.Cond.code ({ cls := "java/util/Optional", name := "of", desc := "(Ljava/lang/Object;)Ljava/util/Optional;" } : Jvm.MethodName) jdk_32_method_3_code (1 : Nat) (Option.some (Jvm.ClassFile.FieldType.object "java/util/Optional")), Jvm.Cond.code ({ cls := "java/util/Objects", name := "requireNonNull", desc := "(Ljava/lang/Object;)Ljava/lang/Object;" } : Jvm.MethodName) jdk_31_method_10_code (1 : Nat) (Option.some (Jvm.ClassFile.FieldType.object "java/lang/Object")), Jvm.Cond.code ({ cls := "java/util/Optional", name := "<init>", desc := "(Ljava/lang/Object;)V" } : Jvm.MethodName) jdk_32_method_2_code (2 : Nat) (Option.none : Option Jvm.ClassFile.FieldType), Jvm.Cond.code ({ cls := "java/util/Optional", name := "get", desc := "()Ljava/lang/Object;" } : Jvm.MethodName) jdk_32_method_5_code (1 : Nat) (Option.some (Jvm.ClassFile.FieldType.object "java/lang/Object")), Jvm.Cond.code ({ cls := "com/example/latfix/latfix/model/Position", name := "getLat", desc := "()D" } : Jvm.MethodName) prog_39_method_2_code (1 : Nat) (Option.some Jvm.ClassFile.FieldType.double), Jvm.Cond.code ({ cls := "com/example/latfix/latfix/model/Position", name := "getLon", desc := "()D" } : Jvm.MethodName) prog_39_method_3_code (1 : Nat) (Option.some Jvm.ClassFile.FieldType.double)]
set_option maxRecDepth 65536 in
theorem codes_eq : words1.filter isCode = codes1 := rfl
theorem w_codes : ∀ c ∈ words1.filter isCode, c.before args0 about1 = true := by
  rw [codes_eq]
  intro c hc
  simp only [codes1, List.mem_cons, List.not_mem_nil, or_false] at hc
  rcases hc with rfl | rfl | rfl | rfl | rfl | rfl | rfl | rfl | rfl | rfl | rfl | rfl | rfl | rfl | rfl | rfl
  · exact w_c0
  · exact w_c1
  · exact w_c2
  · exact w_c3
  · exact w_c4
  · exact w_c5
  · exact w_c6
  · exact w_c7
  · exact w_c8
  · exact w_c9
  · exact w_c10
  · exact w_c11
  · exact w_c12
  · exact w_c13
  · exact w_c14
  · exact w_c15
set_option maxRecDepth 65536 in
theorem w_t1 : (words1.take 24).all (fun c => isCode c || c.before args0 about1) = true := by decide +kernel
set_option maxRecDepth 65536 in
theorem w_t2 : ((words1.drop 24).take 24).all (fun c => isCode c || c.before args0 about1) = true := by decide +kernel
set_option maxRecDepth 65536 in
theorem w_t3 : (((words1.drop 24).drop 24).take 24).all (fun c => isCode c || c.before args0 about1) = true := by decide +kernel
set_option maxRecDepth 65536 in
theorem w_t4 : (((words1.drop 24).drop 24).drop 24).all (fun c => isCode c || c.before args0 about1) = true := by decide +kernel
theorem w_tables : (allAtoms (Jvm.Cond.code x code maxLocals ret :: tables_1)).before args0 about1 = true := by
  rw [allAtoms_all]
  show words1.all (fun c => c.before args0 about1) = true
  refine all_split ?_ w_codes
  rw [← List.take_append_drop 24 words1, List.all_append, w_t1, ← List.take_append_drop 24 (words1.drop 24), List.all_append, w_t2, ← List.take_append_drop 24 ((words1.drop 24).drop 24), List.all_append, w_t3, w_t4]
  rfl
set_option maxRecDepth 65536 in
theorem w_rest : rest_1_c.before args0 about1 = true := by decide +kernel
set_option maxRecDepth 65536 in
theorem w_case : (Jvm.Cond.and given_1 narrow_1).before args0 about1 = true := by decide +kernel
theorem w_applies : (headSpec (Jvm.Cond.code x code maxLocals ret :: tables_1) room_1).applies x e0.platform about1 = true :=
  (Spec.applies_iff w_frames).mpr ⟨w_running, w_runnable, w_alone, w_named, w_hears, w_ripe, w_room, w_tables⟩
theorem atStart : AtStart classFile x code maxLocals ret World_1 tables_1 room_1 Calls_1 rest_1 Pre_1 launch0 p0 e0 about1 theMethod args0 below0 :=
  ⟨lists_1, trivial, launch0.admits_env _ _ _, launch0.least_env, fairChoices_fair.cas, fairChoices_fair.clock, w_frames, w_args, w_heap, w_applies, trivial, w_rest, w_case⟩
end start1
theorem witness_1 : WitnessClaimed_1 := ⟨start1.p0, start1.e0, start1.about1, start1.theMethod, start1.args0, start1.below0, start1.atStart⟩
end Jvm.Pilot.@@N@@
