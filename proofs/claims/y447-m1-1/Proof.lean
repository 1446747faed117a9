import JvmDerived
import JvmDerived.Pilot.@@N@@Statement
import JvmDerived.Pilot.@@N@@Code
set_option linter.unusedVariables false
set_option linter.unusedSimpArgs false

namespace Jvm.Own
open Sem ClassFile Op Lib Jvm.Stand Jvm.Free Jvm.LawKit Jvm.RoadKit
/-- the walk stands in a method whose bytes are 'code' -/
def Hr (tb : Tables) (below : List Frame) (T : State) (m : MethodId) (c : Code) (code : ByteArray) : Prop := At T m c below ∧ tb.exec = Jvm.exec ∧ c.code = code
def ushr (x y : Int32) : Int32 := (x.toUInt32 >>> (y &&& 31).toUInt32).toInt32
def ushrL (x : Int64) (y : Int32) : Int64 := (x.toUInt64 >>> (y &&& 0x3f).toInt64.toUInt64).toInt64
def shlL (x : Int64) (y : Int32) : Int64 := x <<< (y &&& 0x3f).toInt64
def shrL (x : Int64) (y : Int32) : Int64 := x >>> (y &&& 0x3f).toInt64
def toC (x : Int32) : Int32 := x.toUInt32.toUInt16.toUInt32.toInt32
def lcmpV (x y : Int64) : Int32 := if x > y then 1 else if x = y then 0 else -1
def dcmpV (x y : UInt64) (o : CmpOp) : Int32 := cmpValue (FP.dcmp x y) o
theorem lrem_mod (x y : Int64) : x - (x / y) * y = x % y := by
  apply Int64.toInt_inj.mp
  have h1 := Int64.le_toInt (x % y)
  have h2 := Int64.toInt_lt (x % y)
  rw [Int64.toInt_sub, Int64.toInt_mul, Int64.toInt_div, Int.bmod_mul_bmod, Int.sub_bmod_bmod, Int.mul_comm (x.toInt.tdiv y.toInt), ← Int.tmod_def, ← Int64.toInt_mod]
  exact Int.bmod_eq_of_le_mul_two (by omega) (by omega)
section Steps
variable {tb : Tables} [Ours tb] {e : Env} {below : List Frame} {T t : State} {m : MethodId} {c : Code} {code : ByteArray} {pc : Nat} {ls : Array Slot} {st : List Value}
theorem w_iload (H : Hr tb below T m c code) {k : Nat} {v : Int32} (hd : decode code pc = .ok (.iload k, 2)) (pc' : Nat) (hp : pc + 2 = pc') (hl : ls[k]? = some (.val (.int v))) (K : Steps tb e below (T.setTop (mkF m pc' ls (.int v :: st))) t) : Steps tb e below (T.setTop (mkF m pc ls (st))) t := by
  subst hp; obtain ⟨h, hx, rfl⟩ := H
  exact XS.iload h hx rfl hd hl K
theorem w_iloadN (H : Hr tb below T m c code) {k : Fin 4} {v : Int32} (hd : decode code pc = .ok (.iload_n k, 1)) (pc' : Nat) (hp : pc + 1 = pc') (hl : ls[k.val]? = some (.val (.int v))) (K : Steps tb e below (T.setTop (mkF m pc' ls (.int v :: st))) t) : Steps tb e below (T.setTop (mkF m pc ls (st))) t := by
  subst hp; obtain ⟨h, hx, rfl⟩ := H
  exact XS.iloadN h hx rfl hd hl K
theorem w_istore (H : Hr tb below T m c code) {k : Nat} {x : Int32} {l' : Array Slot} (hd : decode code pc = .ok (.istore k, 2)) (pc' : Nat) (hp : pc + 2 = pc') (hl : storeLocals ls k (.int x) = some l') (K : Steps tb e below (T.setTop (mkF m pc' l' (st))) t) : Steps tb e below (T.setTop (mkF m pc ls (.int x :: st))) t := by
  subst hp; obtain ⟨h, hx, rfl⟩ := H
  exact XS.istore h hx rfl hd rfl hl K
theorem w_istoreN (H : Hr tb below T m c code) {k : Fin 4} {x : Int32} {l' : Array Slot} (hd : decode code pc = .ok (.istore_n k, 1)) (pc' : Nat) (hp : pc + 1 = pc') (hl : storeLocals ls k.val (.int x) = some l') (K : Steps tb e below (T.setTop (mkF m pc' l' (st))) t) : Steps tb e below (T.setTop (mkF m pc ls (.int x :: st))) t := by
  subst hp; obtain ⟨h, hx, rfl⟩ := H
  exact XS.istoreN h hx rfl hd rfl hl K
theorem w_lload (H : Hr tb below T m c code) {k : Nat} {v : Int64} (hd : decode code pc = .ok (.lload k, 2)) (pc' : Nat) (hp : pc + 2 = pc') (hl : ls[k]? = some (.val (.long v))) (K : Steps tb e below (T.setTop (mkF m pc' ls (.long v :: st))) t) : Steps tb e below (T.setTop (mkF m pc ls (st))) t := by
  subst hp; obtain ⟨h, hx, rfl⟩ := H
  exact XS.lload h hx rfl hd hl K
theorem w_lloadN (H : Hr tb below T m c code) {k : Fin 4} {v : Int64} (hd : decode code pc = .ok (.lload_n k, 1)) (pc' : Nat) (hp : pc + 1 = pc') (hl : ls[k.val]? = some (.val (.long v))) (K : Steps tb e below (T.setTop (mkF m pc' ls (.long v :: st))) t) : Steps tb e below (T.setTop (mkF m pc ls (st))) t := by
  subst hp; obtain ⟨h, hx, rfl⟩ := H
  exact XS.lloadN h hx rfl hd hl K
theorem w_lstore (H : Hr tb below T m c code) {k : Nat} {x : Int64} {l' : Array Slot} (hd : decode code pc = .ok (.lstore k, 2)) (pc' : Nat) (hp : pc + 2 = pc') (hl : storeLocals ls k (.long x) = some l') (K : Steps tb e below (T.setTop (mkF m pc' l' (st))) t) : Steps tb e below (T.setTop (mkF m pc ls (.long x :: st))) t := by
  subst hp; obtain ⟨h, hx, rfl⟩ := H
  exact XS.lstore h hx rfl hd rfl hl K
theorem w_lstoreN (H : Hr tb below T m c code) {k : Fin 4} {x : Int64} {l' : Array Slot} (hd : decode code pc = .ok (.lstore_n k, 1)) (pc' : Nat) (hp : pc + 1 = pc') (hl : storeLocals ls k.val (.long x) = some l') (K : Steps tb e below (T.setTop (mkF m pc' l' (st))) t) : Steps tb e below (T.setTop (mkF m pc ls (.long x :: st))) t := by
  subst hp; obtain ⟨h, hx, rfl⟩ := H
  exact XS.lstoreN h hx rfl hd rfl hl K
theorem w_dload (H : Hr tb below T m c code) {k : Nat} {v : UInt64} (hd : decode code pc = .ok (.dload k, 2)) (pc' : Nat) (hp : pc + 2 = pc') (hl : ls[k]? = some (.val (.double v))) (K : Steps tb e below (T.setTop (mkF m pc' ls (.double v :: st))) t) : Steps tb e below (T.setTop (mkF m pc ls (st))) t := by
  subst hp; obtain ⟨h, hx, rfl⟩ := H
  show Steps tb e below (T.setTop { method := m, pc := pc, locals := ls, stack := st, locked := none }) _
  jvm_step h [h.top, hx, hd, hl]
  exact K
theorem w_dloadN (H : Hr tb below T m c code) {k : Fin 4} {v : UInt64} (hd : decode code pc = .ok (.dload_n k, 1)) (pc' : Nat) (hp : pc + 1 = pc') (hl : ls[k.val]? = some (.val (.double v))) (K : Steps tb e below (T.setTop (mkF m pc' ls (.double v :: st))) t) : Steps tb e below (T.setTop (mkF m pc ls (st))) t := by
  subst hp; obtain ⟨h, hx, rfl⟩ := H
  show Steps tb e below (T.setTop { method := m, pc := pc, locals := ls, stack := st, locked := none }) _
  jvm_step h [h.top, hx, hd, hl]
  exact K
theorem w_dstore (H : Hr tb below T m c code) {k : Nat} {x : UInt64} {l' : Array Slot} (hd : decode code pc = .ok (.dstore k, 2)) (pc' : Nat) (hp : pc + 2 = pc') (hl : storeLocals ls k (.double x) = some l') (K : Steps tb e below (T.setTop (mkF m pc' l' (st))) t) : Steps tb e below (T.setTop (mkF m pc ls (.double x :: st))) t := by
  subst hp; obtain ⟨h, hx, rfl⟩ := H
  show Steps tb e below (T.setTop { method := m, pc := pc, locals := ls, stack := .double x :: st, locked := none }) _
  jvm_step h [h.top, hx, hd, hl]
  exact K
theorem w_dstoreN (H : Hr tb below T m c code) {k : Fin 4} {x : UInt64} {l' : Array Slot} (hd : decode code pc = .ok (.dstore_n k, 1)) (pc' : Nat) (hp : pc + 1 = pc') (hl : storeLocals ls k.val (.double x) = some l') (K : Steps tb e below (T.setTop (mkF m pc' l' (st))) t) : Steps tb e below (T.setTop (mkF m pc ls (.double x :: st))) t := by
  subst hp; obtain ⟨h, hx, rfl⟩ := H
  show Steps tb e below (T.setTop { method := m, pc := pc, locals := ls, stack := .double x :: st, locked := none }) _
  jvm_step h [h.top, hx, hd, hl]
  exact K
theorem w_aload (H : Hr tb below T m c code) {k : Nat} {v : Value} (hd : decode code pc = .ok (.aload k, 2)) (pc' : Nat) (hp : pc + 2 = pc') (hl : ls[k]? = some (.val v)) (hv : v.isRef = true) (K : Steps tb e below (T.setTop (mkF m pc' ls (v :: st))) t) : Steps tb e below (T.setTop (mkF m pc ls (st))) t := by
  subst hp; obtain ⟨h, hx, rfl⟩ := H
  exact XS.aload h hx rfl hd hl hv K
theorem w_aloadN (H : Hr tb below T m c code) {k : Fin 4} {v : Value} (hd : decode code pc = .ok (.aload_n k, 1)) (pc' : Nat) (hp : pc + 1 = pc') (hl : ls[k.val]? = some (.val v)) (hv : v.isRef = true) (K : Steps tb e below (T.setTop (mkF m pc' ls (v :: st))) t) : Steps tb e below (T.setTop (mkF m pc ls (st))) t := by
  subst hp; obtain ⟨h, hx, rfl⟩ := H
  exact XS.aloadN h hx rfl hd hl hv K
theorem w_astore (H : Hr tb below T m c code) {k : Nat} {x : Value} {l' : Array Slot} (hd : decode code pc = .ok (.astore k, 2)) (pc' : Nat) (hp : pc + 2 = pc') (hv : x.isRef = true) (hl : storeLocals ls k x = some l') (K : Steps tb e below (T.setTop (mkF m pc' l' (st))) t) : Steps tb e below (T.setTop (mkF m pc ls (x :: st))) t := by
  subst hp; obtain ⟨h, hx, rfl⟩ := H
  exact XS.astore h hx rfl hd rfl hv hl K
theorem w_astoreN (H : Hr tb below T m c code) {k : Fin 4} {x : Value} {l' : Array Slot} (hd : decode code pc = .ok (.astore_n k, 1)) (pc' : Nat) (hp : pc + 1 = pc') (hv : x.isRef = true) (hl : storeLocals ls k.val x = some l') (K : Steps tb e below (T.setTop (mkF m pc' l' (st))) t) : Steps tb e below (T.setTop (mkF m pc ls (x :: st))) t := by
  subst hp; obtain ⟨h, hx, rfl⟩ := H
  exact XS.astoreN h hx rfl hd rfl hv hl K
theorem w_iinc (H : Hr tb below T m c code) {k : Nat} {cst : Int} {x z : Int32} {l' : Array Slot} (hd : decode code pc = .ok (.iinc k cst, 3)) (pc' : Nat) (hp : pc + 3 = pc') (hl : ls[k]? = some (.val (.int x))) (hz : x + Int32.ofInt cst = z) (hl' : storeLocals ls k (.int z) = some l') (K : Steps tb e below (T.setTop (mkF m pc' l' (st))) t) : Steps tb e below (T.setTop (mkF m pc ls (st))) t := by
  subst hp; obtain ⟨h, hx, rfl⟩ := H
  subst hz; exact XS.iinc h hx rfl hd hl hl' K
theorem w_iconst (H : Hr tb below T m c code) {i : Int} {z : Int32} (hd : decode code pc = .ok (.iconst i, 1)) (pc' : Nat) (hp : pc + 1 = pc') (hz : Int32.ofInt i = z) (K : Steps tb e below (T.setTop (mkF m pc' ls (.int z :: st))) t) : Steps tb e below (T.setTop (mkF m pc ls (st))) t := by
  subst hp; obtain ⟨h, hx, rfl⟩ := H
  subst hz; exact XS.iconst h hx rfl hd K
theorem w_bipush (H : Hr tb below T m c code) {i : Int} {z : Int32} (hd : decode code pc = .ok (.bipush i, 2)) (pc' : Nat) (hp : pc + 2 = pc') (hz : (Int8.ofInt i).toInt32 = z) (K : Steps tb e below (T.setTop (mkF m pc' ls (.int z :: st))) t) : Steps tb e below (T.setTop (mkF m pc ls (st))) t := by
  subst hp; obtain ⟨h, hx, rfl⟩ := H
  subst hz; exact XS.bipush h hx rfl hd K
theorem w_sipush (H : Hr tb below T m c code) {i : Int} {z : Int32} (hd : decode code pc = .ok (.sipush i, 3)) (pc' : Nat) (hp : pc + 3 = pc') (hz : (Int16.ofInt i).toInt32 = z) (K : Steps tb e below (T.setTop (mkF m pc' ls (.int z :: st))) t) : Steps tb e below (T.setTop (mkF m pc ls (st))) t := by
  subst hp; obtain ⟨h, hx, rfl⟩ := H
  subst hz; exact XS.sipush h hx rfl hd K
theorem w_lconst (H : Hr tb below T m c code) {k : Fin 2} {z : Int64} (hd : decode code pc = .ok (.lconst k, 1)) (pc' : Nat) (hp : pc + 1 = pc') (hz : Int64.ofNat k = z) (K : Steps tb e below (T.setTop (mkF m pc' ls (.long z :: st))) t) : Steps tb e below (T.setTop (mkF m pc ls (st))) t := by
  subst hp; obtain ⟨h, hx, rfl⟩ := H
  subst hz; exact XS.lconst h hx rfl hd K
theorem w_dconst0 (H : Hr tb below T m c code) (hd : decode code pc = .ok (.dconst 0, 1)) (pc' : Nat) (hp : pc + 1 = pc') (K : Steps tb e below (T.setTop (mkF m pc' ls (.double FP.dconst0 :: st))) t) : Steps tb e below (T.setTop (mkF m pc ls (st))) t := by
  subst hp; obtain ⟨h, hx, rfl⟩ := H
  show Steps tb e below (T.setTop { method := m, pc := pc, locals := ls, stack := st, locked := none }) _
  jvm_step h [h.top, hx, hd]
  exact K
theorem w_dconst1 (H : Hr tb below T m c code) (hd : decode code pc = .ok (.dconst 1, 1)) (pc' : Nat) (hp : pc + 1 = pc') (K : Steps tb e below (T.setTop (mkF m pc' ls (.double FP.dconst1 :: st))) t) : Steps tb e below (T.setTop (mkF m pc ls (st))) t := by
  subst hp; obtain ⟨h, hx, rfl⟩ := H
  show Steps tb e below (T.setTop { method := m, pc := pc, locals := ls, stack := st, locked := none }) _
  jvm_step h [h.top, hx, hd]
  exact K
theorem w_aconstNull (H : Hr tb below T m c code) (hd : decode code pc = .ok (.aconst_null, 1)) (pc' : Nat) (hp : pc + 1 = pc') (K : Steps tb e below (T.setTop (mkF m pc' ls (.null :: st))) t) : Steps tb e below (T.setTop (mkF m pc ls (st))) t := by
  subst hp; obtain ⟨h, hx, rfl⟩ := H
  exact XS.aconstNull h hx rfl hd K
theorem w_dup (H : Hr tb below T m c code) {x : Value} (hd : decode code pc = .ok (.dup, 1)) (pc' : Nat) (hp : pc + 1 = pc') (hc : x.category = 1) (K : Steps tb e below (T.setTop (mkF m pc' ls (x :: x :: st))) t) : Steps tb e below (T.setTop (mkF m pc ls (x :: st))) t := by
  subst hp; obtain ⟨h, hx, rfl⟩ := H
  exact XS.dup h hx rfl hd rfl hc K
theorem w_iadd (H : Hr tb below T m c code) {x y : Int32} (hd : decode code pc = .ok (.iadd, 1)) (pc' : Nat) (hp : pc + 1 = pc') (K : Steps tb e below (T.setTop (mkF m pc' ls (.int (x + y) :: st))) t) : Steps tb e below (T.setTop (mkF m pc ls (.int y :: .int x :: st))) t := by
  subst hp; obtain ⟨h, hx, rfl⟩ := H
  exact XS.iadd h hx rfl hd rfl K
theorem w_isub (H : Hr tb below T m c code) {x y : Int32} (hd : decode code pc = .ok (.isub, 1)) (pc' : Nat) (hp : pc + 1 = pc') (K : Steps tb e below (T.setTop (mkF m pc' ls (.int (x - y) :: st))) t) : Steps tb e below (T.setTop (mkF m pc ls (.int y :: .int x :: st))) t := by
  subst hp; obtain ⟨h, hx, rfl⟩ := H
  exact XS.isub h hx rfl hd rfl K
theorem w_imul (H : Hr tb below T m c code) {x y : Int32} (hd : decode code pc = .ok (.imul, 1)) (pc' : Nat) (hp : pc + 1 = pc') (K : Steps tb e below (T.setTop (mkF m pc' ls (.int (x * y) :: st))) t) : Steps tb e below (T.setTop (mkF m pc ls (.int y :: .int x :: st))) t := by
  subst hp; obtain ⟨h, hx, rfl⟩ := H
  exact XS.imul h hx rfl hd rfl K
theorem w_iand (H : Hr tb below T m c code) {x y : Int32} (hd : decode code pc = .ok (.iand, 1)) (pc' : Nat) (hp : pc + 1 = pc') (K : Steps tb e below (T.setTop (mkF m pc' ls (.int (x &&& y) :: st))) t) : Steps tb e below (T.setTop (mkF m pc ls (.int y :: .int x :: st))) t := by
  subst hp; obtain ⟨h, hx, rfl⟩ := H
  exact XS.iand h hx rfl hd rfl K
theorem w_ladd (H : Hr tb below T m c code) {x y : Int64} (hd : decode code pc = .ok (.ladd, 1)) (pc' : Nat) (hp : pc + 1 = pc') (K : Steps tb e below (T.setTop (mkF m pc' ls (.long (x + y) :: st))) t) : Steps tb e below (T.setTop (mkF m pc ls (.long y :: .long x :: st))) t := by
  subst hp; obtain ⟨h, hx, rfl⟩ := H
  exact XS.ladd h hx rfl hd rfl K
theorem w_lsub (H : Hr tb below T m c code) {x y : Int64} (hd : decode code pc = .ok (.lsub, 1)) (pc' : Nat) (hp : pc + 1 = pc') (K : Steps tb e below (T.setTop (mkF m pc' ls (.long (x - y) :: st))) t) : Steps tb e below (T.setTop (mkF m pc ls (.long y :: .long x :: st))) t := by
  subst hp; obtain ⟨h, hx, rfl⟩ := H
  exact XS.lsub h hx rfl hd rfl K
theorem w_lmul (H : Hr tb below T m c code) {x y : Int64} (hd : decode code pc = .ok (.lmul, 1)) (pc' : Nat) (hp : pc + 1 = pc') (K : Steps tb e below (T.setTop (mkF m pc' ls (.long (x * y) :: st))) t) : Steps tb e below (T.setTop (mkF m pc ls (.long y :: .long x :: st))) t := by
  subst hp; obtain ⟨h, hx, rfl⟩ := H
  exact XS.lmul h hx rfl hd rfl K
theorem w_land (H : Hr tb below T m c code) {x y : Int64} (hd : decode code pc = .ok (.land, 1)) (pc' : Nat) (hp : pc + 1 = pc') (K : Steps tb e below (T.setTop (mkF m pc' ls (.long (x &&& y) :: st))) t) : Steps tb e below (T.setTop (mkF m pc ls (.long y :: .long x :: st))) t := by
  subst hp; obtain ⟨h, hx, rfl⟩ := H
  exact XS.land h hx rfl hd rfl K
theorem w_lor (H : Hr tb below T m c code) {x y : Int64} (hd : decode code pc = .ok (.lor, 1)) (pc' : Nat) (hp : pc + 1 = pc') (K : Steps tb e below (T.setTop (mkF m pc' ls (.long (x ||| y) :: st))) t) : Steps tb e below (T.setTop (mkF m pc ls (.long y :: .long x :: st))) t := by
  subst hp; obtain ⟨h, hx, rfl⟩ := H
  exact XS.lor h hx rfl hd rfl K
theorem w_irem (H : Hr tb below T m c code) {x y : Int32} (hd : decode code pc = .ok (.irem, 1)) (pc' : Nat) (hp : pc + 1 = pc') (hy : y ≠ 0) (K : Steps tb e below (T.setTop (mkF m pc' ls (.int (x % y) :: st))) t) : Steps tb e below (T.setTop (mkF m pc ls (.int y :: .int x :: st))) t := by
  subst hp; obtain ⟨h, hx, rfl⟩ := H
  exact XS.irem h hx rfl hd rfl hy (by rw [irem_eq_mod]; exact K)
theorem w_lrem (H : Hr tb below T m c code) {x y : Int64} (hd : decode code pc = .ok (.lrem, 1)) (pc' : Nat) (hp : pc + 1 = pc') (hy : y ≠ 0) (K : Steps tb e below (T.setTop (mkF m pc' ls (.long (x % y) :: st))) t) : Steps tb e below (T.setTop (mkF m pc ls (.long y :: .long x :: st))) t := by
  subst hp; obtain ⟨h, hx, rfl⟩ := H
  exact XS.lrem h hx rfl hd rfl hy (by rw [lrem_mod]; exact K)
theorem w_iushr (H : Hr tb below T m c code) {x y : Int32} (hd : decode code pc = .ok (.iushr, 1)) (pc' : Nat) (hp : pc + 1 = pc') (K : Steps tb e below (T.setTop (mkF m pc' ls (.int (ushr x y) :: st))) t) : Steps tb e below (T.setTop (mkF m pc ls (.int y :: .int x :: st))) t := by
  subst hp; obtain ⟨h, hx, rfl⟩ := H
  exact XS.iushr h hx rfl hd rfl K
theorem w_lushr (H : Hr tb below T m c code) {x : Int64} {y : Int32} (hd : decode code pc = .ok (.lushr, 1)) (pc' : Nat) (hp : pc + 1 = pc') (K : Steps tb e below (T.setTop (mkF m pc' ls (.long (ushrL x y) :: st))) t) : Steps tb e below (T.setTop (mkF m pc ls (.int y :: .long x :: st))) t := by
  subst hp; obtain ⟨h, hx, rfl⟩ := H
  exact XS.lushr h hx rfl hd rfl K
theorem w_lshl (H : Hr tb below T m c code) {x : Int64} {y : Int32} (hd : decode code pc = .ok (.lshl, 1)) (pc' : Nat) (hp : pc + 1 = pc') (K : Steps tb e below (T.setTop (mkF m pc' ls (.long (shlL x y) :: st))) t) : Steps tb e below (T.setTop (mkF m pc ls (.int y :: .long x :: st))) t := by
  subst hp; obtain ⟨h, hx, rfl⟩ := H
  exact XS.lshl h hx rfl hd rfl K
theorem w_lshr (H : Hr tb below T m c code) {x : Int64} {y : Int32} (hd : decode code pc = .ok (.lshr, 1)) (pc' : Nat) (hp : pc + 1 = pc') (K : Steps tb e below (T.setTop (mkF m pc' ls (.long (shrL x y) :: st))) t) : Steps tb e below (T.setTop (mkF m pc ls (.int y :: .long x :: st))) t := by
  subst hp; obtain ⟨h, hx, rfl⟩ := H
  exact XS.lshr h hx rfl hd rfl K
theorem w_lcmp (H : Hr tb below T m c code) {x y : Int64} (hd : decode code pc = .ok (.lcmp, 1)) (pc' : Nat) (hp : pc + 1 = pc') (K : Steps tb e below (T.setTop (mkF m pc' ls (.int (lcmpV x y) :: st))) t) : Steps tb e below (T.setTop (mkF m pc ls (.long y :: .long x :: st))) t := by
  subst hp; obtain ⟨h, hx, rfl⟩ := H
  exact XS.lcmp h hx rfl hd rfl K
theorem w_dcmp (H : Hr tb below T m c code) {x y : UInt64} {o : CmpOp} (hd : decode code pc = .ok (.dcmp o, 1)) (pc' : Nat) (hp : pc + 1 = pc') (K : Steps tb e below (T.setTop (mkF m pc' ls (.int (dcmpV x y o) :: st))) t) : Steps tb e below (T.setTop (mkF m pc ls (.double y :: .double x :: st))) t := by
  subst hp; obtain ⟨h, hx, rfl⟩ := H
  show Steps tb e below (T.setTop { method := m, pc := pc, locals := ls, stack := .double y :: .double x :: st, locked := none }) _
  jvm_step h [h.top, hx, hd]
  exact K
theorem w_ddiv (H : Hr tb below T m c code) {x y : UInt64} (hd : decode code pc = .ok (.ddiv, 1)) (pc' : Nat) (hp : pc + 1 = pc') (hr : Jvm.Free.Fl.NoNaN64 (FP.ddiv x y)) (K : Steps tb e below (T.setTop (mkF m pc' ls (.double (FP.ddiv x y) :: st))) t) : Steps tb e below (T.setTop (mkF m pc ls (.double y :: .double x :: st))) t := by
  subst hp; obtain ⟨h, hx, rfl⟩ := H
  show Steps tb e below (T.setTop { method := m, pc := pc, locals := ls, stack := .double y :: .double x :: st, locked := none }) _
  jvm_step h [h.top, hx, hd, Op.ddiv.at_number h.top hr]
  exact K
theorem w_i2d (H : Hr tb below T m c code) {x : Int32} (hd : decode code pc = .ok (.i2d, 1)) (pc' : Nat) (hp : pc + 1 = pc') (K : Steps tb e below (T.setTop (mkF m pc' ls (.double (FP.i2d x) :: st))) t) : Steps tb e below (T.setTop (mkF m pc ls (.int x :: st))) t := by
  subst hp; obtain ⟨h, hx, rfl⟩ := H
  show Steps tb e below (T.setTop { method := m, pc := pc, locals := ls, stack := .int x :: st, locked := none }) _
  jvm_step h [h.top, hx, hd]
  exact K
theorem w_l2d (H : Hr tb below T m c code) {x : Int64} (hd : decode code pc = .ok (.l2d, 1)) (pc' : Nat) (hp : pc + 1 = pc') (K : Steps tb e below (T.setTop (mkF m pc' ls (.double (FP.l2d x) :: st))) t) : Steps tb e below (T.setTop (mkF m pc ls (.long x :: st))) t := by
  subst hp; obtain ⟨h, hx, rfl⟩ := H
  show Steps tb e below (T.setTop { method := m, pc := pc, locals := ls, stack := .long x :: st, locked := none }) _
  jvm_step h [h.top, hx, hd]
  exact K
theorem w_i2l (H : Hr tb below T m c code) {x : Int32} (hd : decode code pc = .ok (.i2l, 1)) (pc' : Nat) (hp : pc + 1 = pc') (K : Steps tb e below (T.setTop (mkF m pc' ls (.long (Int32.toInt64 x) :: st))) t) : Steps tb e below (T.setTop (mkF m pc ls (.int x :: st))) t := by
  subst hp; obtain ⟨h, hx, rfl⟩ := H
  exact XS.i2l h hx rfl hd rfl K
theorem w_l2i (H : Hr tb below T m c code) {x : Int64} (hd : decode code pc = .ok (.l2i, 1)) (pc' : Nat) (hp : pc + 1 = pc') (K : Steps tb e below (T.setTop (mkF m pc' ls (.int (Int64.toInt32 x) :: st))) t) : Steps tb e below (T.setTop (mkF m pc ls (.long x :: st))) t := by
  subst hp; obtain ⟨h, hx, rfl⟩ := H
  exact XS.l2i h hx rfl hd rfl K
theorem w_i2c (H : Hr tb below T m c code) {x : Int32} (hd : decode code pc = .ok (.i2c, 1)) (pc' : Nat) (hp : pc + 1 = pc') (K : Steps tb e below (T.setTop (mkF m pc' ls (.int (toC x) :: st))) t) : Steps tb e below (T.setTop (mkF m pc ls (.int x :: st))) t := by
  subst hp; obtain ⟨h, hx, rfl⟩ := H
  exact XS.i2c h hx rfl hd rfl K
theorem w_goto (H : Hr tb below T m c code) {o : Int} (hd : decode code pc = .ok (.goto o, 3)) (pc' : Nat) (ho : 0 ≤ (pc : Int) + o) (hp : ((pc : Int) + o).toNat = pc') (K : Steps tb e below (T.setTop (mkF m pc' ls st)) t) : Steps tb e below (T.setTop (mkF m pc ls (st))) t := by
  obtain ⟨h, hx, rfl⟩ := H
  exact XS.goto h hx rfl rfl hd ho hp K
theorem w_ifCondYes (H : Hr tb below T m c code) {cd : ClassFile.Cond} {x : Int32} {o : Int} (hd : decode code pc = .ok (.ifCond cd o, 3)) (hc : ifCond.holds cd x = true) (pc' : Nat) (ho : 0 ≤ (pc : Int) + o) (hp : ((pc : Int) + o).toNat = pc') (K : Steps tb e below (T.setTop (mkF m pc' ls st)) t) : Steps tb e below (T.setTop (mkF m pc ls (.int x :: st))) t := by
  obtain ⟨h, hx, rfl⟩ := H
  exact XS.ifYes h hx rfl rfl hd rfl hc ho hp K
theorem w_ifCondNo (H : Hr tb below T m c code) {cd : ClassFile.Cond} {x : Int32} {o : Int} (hd : decode code pc = .ok (.ifCond cd o, 3)) (hc : ifCond.holds cd x = false) (pc' : Nat) (hp : pc + 3 = pc') (K : Steps tb e below (T.setTop (mkF m pc' ls st)) t) : Steps tb e below (T.setTop (mkF m pc ls (.int x :: st))) t := by
  subst hp; obtain ⟨h, hx, rfl⟩ := H
  exact XS.ifNo h hx rfl hd rfl hc K
theorem w_icmpYes (H : Hr tb below T m c code) {cd : ClassFile.Cond} {x y : Int32} {o : Int} (hd : decode code pc = .ok (.if_icmp cd o, 3)) (hc : if_icmp.holds cd x y = true) (pc' : Nat) (ho : 0 ≤ (pc : Int) + o) (hp : ((pc : Int) + o).toNat = pc') (K : Steps tb e below (T.setTop (mkF m pc' ls st)) t) : Steps tb e below (T.setTop (mkF m pc ls (.int y :: .int x :: st))) t := by
  obtain ⟨h, hx, rfl⟩ := H
  exact XS.icmpYes h hx rfl rfl hd rfl hc ho hp K
theorem w_icmpNo (H : Hr tb below T m c code) {cd : ClassFile.Cond} {x y : Int32} {o : Int} (hd : decode code pc = .ok (.if_icmp cd o, 3)) (hc : if_icmp.holds cd x y = false) (pc' : Nat) (hp : pc + 3 = pc') (K : Steps tb e below (T.setTop (mkF m pc' ls st)) t) : Steps tb e below (T.setTop (mkF m pc ls (.int y :: .int x :: st))) t := by
  subst hp; obtain ⟨h, hx, rfl⟩ := H
  exact XS.icmpNo h hx rfl hd rfl hc K
theorem w_acmpYes (H : Hr tb below T m c code) {cd : ClassFile.ACond} {x y : Value} {o : Int} (hd : decode code pc = .ok (.if_acmp cd o, 3)) (hx' : x.isRef = true) (hy' : y.isRef = true) (hc : XT.acmp cd x y = true) (pc' : Nat) (ho : 0 ≤ (pc : Int) + o) (hp : ((pc : Int) + o).toNat = pc') (K : Steps tb e below (T.setTop (mkF m pc' ls st)) t) : Steps tb e below (T.setTop (mkF m pc ls (y :: x :: st))) t := by
  obtain ⟨h, hx, rfl⟩ := H
  exact XT.acmpYes h hx rfl rfl hd rfl hx' hy' hc ho hp K
theorem w_acmpNo (H : Hr tb below T m c code) {cd : ClassFile.ACond} {x y : Value} {o : Int} (hd : decode code pc = .ok (.if_acmp cd o, 3)) (hx' : x.isRef = true) (hy' : y.isRef = true) (hc : XT.acmp cd x y = false) (pc' : Nat) (hp : pc + 3 = pc') (K : Steps tb e below (T.setTop (mkF m pc' ls st)) t) : Steps tb e below (T.setTop (mkF m pc ls (y :: x :: st))) t := by
  subst hp; obtain ⟨h, hx, rfl⟩ := H
  exact XT.acmpNo h hx rfl hd rfl hx' hy' hc K
theorem w_ifnullYes (H : Hr tb below T m c code) {o : Int} (hd : decode code pc = .ok (.ifnull o, 3)) (pc' : Nat) (ho : 0 ≤ (pc : Int) + o) (hp : ((pc : Int) + o).toNat = pc') (K : Steps tb e below (T.setTop (mkF m pc' ls st)) t) : Steps tb e below (T.setTop (mkF m pc ls (.null :: st))) t := by
  obtain ⟨h, hx, rfl⟩ := H
  exact XS.ifnullYes h hx rfl rfl hd rfl ho hp K
theorem w_ifnullNo (H : Hr tb below T m c code) {b : Addr} {o : Int} (hd : decode code pc = .ok (.ifnull o, 3)) (pc' : Nat) (hp : pc + 3 = pc') (K : Steps tb e below (T.setTop (mkF m pc' ls st)) t) : Steps tb e below (T.setTop (mkF m pc ls (.ref b :: st))) t := by
  subst hp; obtain ⟨h, hx, rfl⟩ := H
  exact XS.ifnullNo h hx rfl hd rfl K
theorem w_ifnonnullYes (H : Hr tb below T m c code) {b : Addr} {o : Int} (hd : decode code pc = .ok (.ifnonnull o, 3)) (pc' : Nat) (ho : 0 ≤ (pc : Int) + o) (hp : ((pc : Int) + o).toNat = pc') (K : Steps tb e below (T.setTop (mkF m pc' ls st)) t) : Steps tb e below (T.setTop (mkF m pc ls (.ref b :: st))) t := by
  obtain ⟨h, hx, rfl⟩ := H
  exact XS.ifnonnullYes h hx rfl rfl hd rfl ho hp K
theorem w_ifnonnullNo (H : Hr tb below T m c code) {o : Int} (hd : decode code pc = .ok (.ifnonnull o, 3)) (pc' : Nat) (hp : pc + 3 = pc') (K : Steps tb e below (T.setTop (mkF m pc' ls st)) t) : Steps tb e below (T.setTop (mkF m pc ls (.null :: st))) t := by
  subst hp; obtain ⟨h, hx, rfl⟩ := H
  exact XS.ifnonnullNo h hx rfl hd rfl K
end Steps
section Rets
variable {p : Program} {l : Launch} {e : Env} {R : Room} {s : State} {m : MethodId} {args : Array Value} {below : List Frame} {meth : Method} {c : Code} {T : State} {locs : List Loc} {cells slots : Nat} {code : ByteArray} {pc : Nat} {ls : Array Slot} {st : List Value} {t : State}
theorem hr (X : Stand p l e R s m args below meth c T locs cells slots) (hx : p.tables.exec = Jvm.exec) (hby : c.code = code) : Hr p.tables below T m c code := ⟨X.here, hx, hby⟩
theorem w_ldc2Long (X : Stand p l e R s m args below meth c T locs cells slots) (hx : p.tables.exec = Jvm.exec) {own : String} {index : Nat} {v : Int64} (hown : s.vm.findClass own = some m.cls) (hc : (Cond.constantLong own index v).before args s = true) (hd : decode c.code pc = .ok (.ldc2_w index, 3)) (pc' : Nat) (hp : pc + 3 = pc') (K : Steps p.tables e below (T.setTop (mkF m pc' ls (.long v :: st))) t) : Steps p.tables e below (T.setTop (mkF m pc ls st)) t := by
  subst hp; exact X.ldc2Long hx hown hc (g := mkF m pc ls st) rfl hd _ K
theorem w_ldc2Double (X : Stand p l e R s m args below meth c T locs cells slots) (hx : p.tables.exec = Jvm.exec) {own : String} {index : Nat} {v : UInt64} (hown : s.vm.findClass own = some m.cls) (hc : (Cond.constantDouble own index v).before args s = true) (hd : decode c.code pc = .ok (.ldc2_w index, 3)) (pc' : Nat) (hp : pc + 3 = pc') (K : Steps p.tables e below (T.setTop (mkF m pc' ls (.double v :: st))) t) : Steps p.tables e below (T.setTop (mkF m pc ls st)) t := by
  subst hp; exact X.ldc2DoubleC hx hown hc (g := mkF m pc ls st) rfl hd _ K
end Rets
end Jvm.Own

namespace Jvm.Own
open Jvm.FP.Core
/-- a ratio below 1, with a denominator of at most 2^52, rounds to a number below 1 -/
theorem ratio_below {a b : Nat} (ha : 0 < a) (hab : a < b) (hb : b ≤ 2 ^ 52) (s : Bool) :
    ∃ (c : Nat) (q : Int), roundRatio b64 s a b 0 = .fin s c q ∧ q ≤ -53 ∧ c ≤ 2 ^ 53 ∧ (q = -53 → c < 2 ^ 53) := by
  have hb0 : 0 < b := by omega
  have hB0 : Below a b 0 := by unfold Below; simpa using hab
  have hl : leading a b < 0 := lt_of_below (leading_spec ha hb0).1 hB0
  have hqm : b64.qmin = -1074 := by decide
  have hp : b64.p = 53 := rfl
  have hQ : quantum b64 a b 0 ≤ -53 := by unfold quantum; rw [hqm, hp]; omega
  have hn := nearest_units_le (f := b64) ha hb0 0
  have hx : b64.qmax = 971 := by decide
  have ht : b64.tails = 2 ^ 52 := by decide
  have e1 : roundRatio b64 s a b 0 = settle b64 s (nearest (unitsNum a 0 (quantum b64 a b 0)) (unitsDen b 0 (quantum b64 a b 0))) (quantum b64 a b 0) := by
    unfold roundRatio roundAt; rw [if_neg (by omega)]
  rw [e1]
  have hn53 : quantum b64 a b 0 = -53 → nearest (unitsNum a 0 (quantum b64 a b 0)) (unitsDen b 0 (quantum b64 a b 0)) < 2 ^ 53 := by
    intro hq
    rw [hq]
    have h1 : unitsNum a 0 (-53) = a * 2 ^ 53 := rfl
    have h2 : unitsDen b 0 (-53) = b := by show b * 2 ^ 0 = b; omega
    rw [h1, h2]
    have : nearest (a * 2 ^ 53) b ≤ 2 ^ 53 - 1 := nearest_le hb0 (by omega)
    omega
  rw [hp] at hn
  generalize nearest (unitsNum a 0 (quantum b64 a b 0)) (unitsDen b 0 (quantum b64 a b 0)) = n at hn hn53 ⊢
  generalize quantum b64 a b 0 = Q at hQ hn53 ⊢
  unfold settle bound
  rw [hp, hx, ht]
  by_cases h : n < 2 ^ 53
  · rw [if_pos h, if_pos (by omega)]
    exact ⟨n, Q, rfl, hQ, hn, fun hq => h⟩
  · have hq : Q ≠ -53 := fun hq => h (hn53 hq)
    rw [if_neg h, if_pos (by omega)]
    exact ⟨2 ^ 52, Q + 1, rfl, by omega, by decide, fun _ => by decide⟩
/-- at least 0, below 1, no NaN -/
def Drift (d : UInt64) : Prop := val64 d ≠ .nan ∧ (Jvm.FP.dcmp d Jvm.FP.dconst0 = some .gt ∨ Jvm.FP.dcmp d Jvm.FP.dconst0 = some .eq) ∧ Jvm.FP.dcmp d Jvm.FP.dconst1 = some .lt
theorem order_one {c : Nat} {q : Int} (hq : q ≤ -53) (hc : c ≤ 2 ^ 53) (h : q = -53 → c < 2 ^ 53) : order (.fin false c q) (.fin false (2 ^ 52) (-52)) = some .lt := by
  have hm : min q (-52) = q := by omega
  simp only [order, hm, inUnits, signed]
  have e0 : (q - q).toNat = 0 := by omega
  obtain ⟨k, hk⟩ : ∃ k : Nat, (-52 - q).toNat = k + 1 := ⟨(-52 - q).toNat - 1, by omega⟩
  rw [e0, hk]
  have hlt : c < 2 ^ 52 * 2 ^ (k + 1) := by
    by_cases h1 : q = -53
    · have : k = 0 := by omega
      subst this
      have := h h1
      omega
    · obtain ⟨j, rfl⟩ : ∃ j, k = j + 1 := ⟨k - 1, by omega⟩
      have := Nat.two_pow_pos j
      rw [Nat.pow_succ, Nat.pow_succ]
      omega
  have : compare (c : Int) ((2 ^ 52 * 2 ^ (k + 1) : Nat) : Int) = .lt := by
    rw [Int.compare_eq_lt]; omega
  simpa using this
theorem order_nought (c : Nat) (q : Int) (s : Bool) (hs : s = false ∨ c = 0) : order (.fin s c q) (.fin false 0 b64.qmin) = some .gt ∨ order (.fin s c q) (.fin false 0 b64.qmin) = some .eq := by
  simp only [order]
  generalize min q b64.qmin = e
  have h0 : signed false (inUnits 0 b64.qmin e) = 0 := by simp [inUnits, signed]
  have h1 : 0 ≤ signed s (inUnits c q e) := by
    rcases hs with rfl | rfl
    · simp only [signed]; exact Int.natCast_nonneg _
    · simp [inUnits, signed]
  rw [h0]
  generalize signed s (inUnits c q e) = z at h1 ⊢
  rcases Int.lt_or_eq_of_le h1 with h | h
  · left; rw [Int.compare_eq_gt.mpr h]
  · right; subst h; rfl
theorem zero_one (s : Bool) : order (.fin s 0 b64.qmin) (.fin false (2 ^ 52) (-52)) = some .lt := by cases s <;> decide +kernel
theorem drift_negzero : Drift 9223372036854775808 := by
  unfold Drift
  refine ⟨by decide +kernel, Or.inr (by decide +kernel), by decide +kernel⟩
theorem drift_of_val {d : UInt64} {s : Bool} {c : Nat} {q : Int} (h : val64 d = .fin s c q) (h0 : order (.fin s c q) (.fin false 0 b64.qmin) = some .gt ∨ order (.fin s c q) (.fin false 0 b64.qmin) = some .eq) (h1 : order (.fin s c q) (.fin false (2 ^ 52) (-52)) = some .lt) : Drift d := by
  have e0 : Jvm.FP.dcmp d Jvm.FP.dconst0 = order (val64 d) (val64 dconst0) := rfl
  have e1 : Jvm.FP.dcmp d Jvm.FP.dconst1 = order (val64 d) (val64 dconst1) := rfl
  rw [val64_dconst0, h] at e0
  rw [val64_dconst1, h] at e1
  exact ⟨by rw [h]; exact fun q => (nomatch q), by rw [e0]; exact h0, by rw [e1]; exact h1⟩
theorem drift_ratio {a b : Int64} (h0 : 0 ≤ a.toInt) (h1 : a.toInt < b.toInt) (h2 : b.toInt ≤ 2 ^ 52) : Drift (Jvm.FP.ddiv (Jvm.FP.l2d a) (Jvm.FP.l2d b)) := by
  have A : Whole a.toInt (val64 (l2d a)) := l2d_int (by omega)
  have B : Whole b.toInt (val64 (l2d b)) := l2d_int (by omega)
  have hv := val64_ddiv (l2d a) (l2d b)
  generalize val64 (l2d a) = x at A hv
  generalize val64 (l2d b) = y at B hv
  cases x with
  | nan => exact A.elim
  | inf => exact A.elim
  | fin s c q =>
  cases y with
  | nan => exact B.elim
  | inf => exact B.elim
  | fin t d r =>
  have hd : d ≠ 0 := fun h => by have := (whole_zero B).mp h; omega
  have ht : t = false := by rw [whole_sign B (by omega)]; simp; omega
  subst ht
  simp only [quotient, if_neg hd] at hv
  by_cases ha : a.toInt = 0
  · have hc : c = 0 := (whole_zero A).mpr ha
    subst hc
    simp only [roundRatio, if_true] at hv
    exact drift_of_val hv (order_nought _ _ _ (Or.inr rfl)) (zero_one _)
  · have hs : s = false := by rw [whole_sign A ha]; simp; omega
    subst hs
    have w1 := whole_natAbs A
    have w2 := whole_natAbs B
    have hcong : roundRatio b64 (false != false) c d (q - r) = roundRatio b64 (false != false) a.toInt.natAbs b.toInt.natAbs 0 := by
      refine roundRatio_congr (Nat.pos_of_ne_zero hd) (by omega) ?_
      obtain ⟨k, e1, e2⟩ : ∃ k : Nat, q.toNat + (-r).toNat = (q - r - 0).toNat + k ∧ (-q).toNat + r.toNat = (0 - (q - r)).toNat + k := ⟨min (q.toNat + (-r).toNat) ((-q).toNat + r.toNat), by omega, by omega⟩
      have hmul : c * b.toInt.natAbs * 2 ^ (q.toNat + (-r).toNat) = a.toInt.natAbs * d * 2 ^ ((-q).toNat + r.toNat) := by
        rw [Nat.pow_add, Nat.pow_add]
        calc c * b.toInt.natAbs * (2 ^ q.toNat * 2 ^ (-r).toNat) = (c * 2 ^ q.toNat) * (b.toInt.natAbs * 2 ^ (-r).toNat) := by ac_rfl
          _ = (a.toInt.natAbs * 2 ^ (-q).toNat) * (d * 2 ^ r.toNat) := by rw [w1, w2]
          _ = a.toInt.natAbs * d * (2 ^ (-q).toNat * 2 ^ r.toNat) := by ac_rfl
      rw [e1, e2, Nat.pow_add, Nat.pow_add, ← Nat.mul_assoc, ← Nat.mul_assoc] at hmul
      exact Nat.eq_of_mul_eq_mul_right (Nat.two_pow_pos k) hmul
    rw [hcong] at hv
    obtain ⟨c', q', e, g1, g2, g3⟩ := ratio_below (a := a.toInt.natAbs) (b := b.toInt.natAbs) (by omega) (by omega) (by omega) (false != false)
    rw [e] at hv
    exact drift_of_val hv (order_nought _ _ _ (Or.inl rfl)) (order_one g1 g2 g3)
end Jvm.Own

namespace Jvm.Own
theorem toInt_nat (x : Int64) : x.toInt = if 2 * x.toBitVec.toNat < 2 ^ 64 then (x.toBitVec.toNat : Int) else (x.toBitVec.toNat : Int) - ((2 ^ 64 : Nat) : Int) := by
  rw [← Int64.toInt_toBitVec, BitVec.toInt_eq_toNat_cond]
theorem and_bounds (x m : Int64) (hm : 0 ≤ m.toInt) : 0 ≤ (x &&& m).toInt ∧ (x &&& m).toInt ≤ m.toInt := by
  have h1 : (x &&& m).toBitVec.toNat ≤ m.toBitVec.toNat := by
    rw [Int64.toBitVec_and, BitVec.toNat_and]; exact Nat.and_le_right
  have h2 := toInt_nat m
  have h3 := toInt_nat (x &&& m)
  have h4 := m.toBitVec.isLt
  generalize (x &&& m).toBitVec.toNat = u at h1 h3
  generalize m.toBitVec.toNat = v at h1 h2 h4
  split at h2 <;> split at h3 <;> omega
theorem add64 {x y : Int64} (h1 : -2 ^ 63 ≤ x.toInt + y.toInt) (h2 : x.toInt + y.toInt < 2 ^ 63) : (x + y).toInt = x.toInt + y.toInt := by
  rw [Int64.toInt_add]; exact Int.bmod_eq_of_le_mul_two (by omega) (by omega)
theorem sub64 {x y : Int64} (h1 : -2 ^ 63 ≤ x.toInt - y.toInt) (h2 : x.toInt - y.toInt < 2 ^ 63) : (x - y).toInt = x.toInt - y.toInt := by
  rw [Int64.toInt_sub]; exact Int.bmod_eq_of_le_mul_two (by omega) (by omega)
theorem one64 : (1 : Int64).toInt = 1 := by decide
theorem mask52 (y : Int64) : 1 ≤ ((y &&& (4503599627370495 : Int64)) + (1 : Int64)).toInt ∧ ((y &&& (4503599627370495 : Int64)) + (1 : Int64)).toInt ≤ 2 ^ 52 := by
  have h := and_bounds y (4503599627370495 : Int64) (by decide)
  have e : (4503599627370495 : Int64).toInt = 4503599627370495 := by decide
  rw [e] at h
  have o := one64
  rw [add64 (by omega) (by omega)]
  omega
theorem rem_bounds (x b : Int64) (hb : 1 ≤ b.toInt) : 0 ≤ ((x &&& (9223372036854775807 : Int64)) % b).toInt ∧ ((x &&& (9223372036854775807 : Int64)) % b).toInt < b.toInt := by
  have h := and_bounds x (9223372036854775807 : Int64) (by decide)
  rw [Int64.toInt_mod]
  exact ⟨Int.tmod_nonneg _ h.1, Int.tmod_lt_of_pos _ (by omega)⟩
theorem pred_bounds {b : Int64} (hb : 1 ≤ b.toInt) : 0 ≤ (b - (1 : Int64)).toInt ∧ (b - (1 : Int64)).toInt < b.toInt := by
  have o := one64
  have h2 := b.toInt_lt
  rw [sub64 (by omega) (by omega)]
  omega
theorem pos_ne {b : Int64} (hb : 1 ≤ b.toInt) : b ≠ 0 := fun h => by
  subst h
  exact absurd hb (by decide)
theorem ddiv_ok {a b : Int64} (hb : 1 ≤ b.toInt) : Jvm.Free.Fl.NoNaN64 (FP.ddiv (FP.l2d a) (FP.l2d b)) :=
  Jvm.Free.Fl.ddiv_out (Jvm.Free.Fl.l2d_fin a).noNaN (Jvm.Free.Fl.l2d_fin b) (Jvm.Free.Fl.l2d_nz (pos_ne hb))
end Jvm.Own

namespace Jvm.Pilot.@@N@@
open Jvm Jvm.ClassFile Sem Op Lib Jvm.Free Jvm.Stand Jvm.LawKit Jvm.RoadKit Bundle Jvm.Pilot.@@N@@.Jvm.D

theorem own_d1_0 : decode prog_18_method_4_code 0 = .ok (.dload_n 0, 1) := by decide +kernel
theorem own_d1_1 : decode prog_18_method_4_code 1 = .ok (.dconst 0, 1) := by decide +kernel
theorem own_d1_2 : decode prog_18_method_4_code 2 = .ok (.dcmp .l, 1) := by decide +kernel
theorem own_d1_3 : decode prog_18_method_4_code 3 = .ok (.ifCond .lt 9, 3) := by decide +kernel
theorem own_d1_6 : decode prog_18_method_4_code 6 = .ok (.dload_n 0, 1) := by decide +kernel
theorem own_d1_7 : decode prog_18_method_4_code 7 = .ok (.dconst 1, 1) := by decide +kernel
theorem own_d1_8 : decode prog_18_method_4_code 8 = .ok (.dcmp .g, 1) := by decide +kernel
theorem own_d1_9 : decode prog_18_method_4_code 9 = .ok (.ifCond .lt 17, 3) := by decide +kernel
theorem own_d1_26 : decode prog_18_method_4_code 26 = .ok (.dload_n 0, 1) := by decide +kernel
theorem own_d1_27 : decode prog_18_method_4_code 27 = .ok (.dreturn, 1) := by decide +kernel
theorem pn_1 : plainName "com/example/hasp5/hasp5/Validity" = true := by first | (simp [plainName, overriddenIn]; done) | decide +kernel
theorem pn_0 : plainName "com/example/hasp5/hasp5/ValidityCheckDriftFactorPinLaw" = true := by first | (simp [plainName, overriddenIn]; done) | decide +kernel
theorem pd_1 : parseMethodDescriptor "(D)D" = some ⟨[.double], some .double⟩ := by decide +kernel
theorem ef_1 (m : MethodId) (d : UInt64) : entryFrame m #[(.double d)] 2 = mkF m 0 #[.val (.double d), .second] [] := by first | (simp [entryFrame, mkF, argsToLocals, Value.category, maxLocals]; done) | rfl
def Q_1 (Z : State) (d : UInt64) (h0 : Heap) (n0 : Nat) (v : Option Value) (h : Heap) (L : List Loc) : Prop := v = some (.double d) ∧ Fr n0 L ∧ h = h0
set_option maxRecDepth 65536 in
set_option maxHeartbeats 40000000 in
theorem rm_1 (l : Launch) (Z : State) (a0 : Array Value) (hw : ∀ d ∈ tables_1, d.before a0 Z = true) (ws : List Jvm.Cond) (d : UInt64) (h0 : Heap) (n0 : Nat) (Z0 : n0 ≤ h0.size) (hD : Own.Drift d) :
    MetFree l (⟨"com/example/hasp5/hasp5/Validity", "checkDriftFactor", "(D)D"⟩ : MethodName) (head1 (Jvm.Cond.code (⟨"com/example/hasp5/hasp5/Validity", "checkDriftFactor", "(D)D"⟩ : MethodName) prog_18_method_4_code 2 (some .double) :: ws) ({ frames := 0, cells := 0, slots := 0, locals := 0 } : Room)) (fun a U => a = #[(.double d)] ∧ Z.Warmed39 U.vm ∧ U.heap = h0) (fun _ _ _ _ _ => True) (fun _ U o U' => ∃ v L, o = .returned v ∧ Q_1 Z d h0 n0 v U'.heap L ∧ FrameEnd U o U' L ({ frames := 0, cells := 0, slots := 0, locals := 0 } : Room).cells ({ frames := 0, cells := 0, slots := 0, locals := 0 } : Room).slots) := by
  refine MetFree.of_bodySF (plainFor_of_name pn_1) hisR ?_
  intro p e s m args below meth c s₁ Bd hml0 hP hK
  obtain ⟨rfl, hZ, hh⟩ := hP
  have hx := Bd.exec
  have hby := Bd.bytes
  have hml : c.maxLocals = 2 := hml0
  have hown : s.vm.findClass "com/example/hasp5/hasp5/Validity" = some m.cls := findClass_of_methodNamed Bd.named
  have hnm := (name_of_methodNamed Bd.named Bd.method).1
  have X0 : Stand p l e ({ frames := 0, cells := 0, slots := 0, locals := 0 } : Room) s m #[(.double d)] below meth c s₁ [] 0 0 := Stand.of_body Bd
  have e0 : s₁.heap = h0 := by rw [← hh, Bd.state]; rfl
  have N0 := Fr.nil n0
  have H0 := Own.hr X0 hx hby
  have pre0 : ∀ t, Steps p.tables e below (s₁.setTop (mkF m 0 #[.val (.double d), .second] [])) t → Steps p.tables e below (s₁.setTop (entryFrame m #[(.double d)] 2)) t := fun t k => castTop (ef_1 m d) k

  have c1 : ifCond.holds .lt (Own.dcmpV d FP.dconst0 .l) = false := by unfold Own.dcmpV; rcases hD.2.1 with q | q <;> rw [q] <;> rfl
  have c2 : ifCond.holds .lt (Own.dcmpV d FP.dconst1 .g) = true := by unfold Own.dcmpV; rw [hD.2.2]; rfl
  obtain ⟨fs, hr, hrun, hended, hW, hsame⟩ := X0.leave (v := some (.double d)) (fun h => by rw [Bd.returns] at h; cases h)
  refine ⟨_, _, pre0 _ ?_, hrun, hended, _, _, rfl, ?_, ⟨_, rfl⟩, hW, hsame.mono (by decide) (by decide)⟩
  · refine Own.w_dloadN H0 own_d1_0 1 rfl rfl ?_
    refine Own.w_dconst0 H0 own_d1_1 2 rfl ?_
    refine Own.w_dcmp H0 own_d1_2 3 rfl ?_
    refine Own.w_ifCondNo H0 own_d1_3 (c1) 6 rfl ?_
    refine Own.w_dloadN H0 own_d1_6 7 rfl rfl ?_
    refine Own.w_dconst1 H0 own_d1_7 8 rfl ?_
    refine Own.w_dcmp H0 own_d1_8 9 rfl ?_
    refine Own.w_ifCondYes H0 own_d1_9 (c2) 26 (by decide) (by decide) ?_
    refine Own.w_dloadN H0 own_d1_26 27 rfl rfl ?_
    exact retOut X0 hx Bd.returns rfl (Or.inr (Or.inr (Or.inl ⟨rfl, rfl, _, rfl⟩))) (hb hby own_d1_27) hr
  · exact ⟨rfl, N0, e0⟩
theorem ef_0 (m : MethodId) (x1 : Int64) (y1 : Int64) (f1 : Int32) : entryFrame m #[(.long x1), (.long y1), (.int f1)] maxLocals = mkF m 0 #[.val (.long x1), .second, .val (.long y1), .second, .val (.int f1), .unset, .unset, .unset, .unset, .unset, .unset, .unset, .unset] [] := by first | (simp [entryFrame, mkF, argsToLocals, Value.category, maxLocals]; done) | rfl
def Q_0 (Z : State) (x1 y1 : Int64) (f1 : Int32) (h0 : Heap) (n0 : Nat) (v : Option Value) (h : Heap) (L : List Loc) : Prop := v = some (.int 1) ∧ Fr n0 L
set_option maxRecDepth 65536 in
set_option maxHeartbeats 40000000 in
theorem rm_0 (l : Launch) (Z : State) (a0 : Array Value) (hw : ∀ d ∈ tables_1, d.before a0 Z = true) (ws : List Jvm.Cond) (x1 : Int64) (y1 : Int64) (f1 : Int32) (h0 : Heap) (n0 : Nat) (Z0 : n0 ≤ h0.size)  :
    MetFree l x (head1 (Jvm.Cond.code x code maxLocals ret :: ws) room_1) (fun a U => a = #[(.long x1), (.long y1), (.int f1)] ∧ Z.Warmed39 U.vm ∧ U.heap = h0) (fun _ _ _ _ _ => True) (fun _ U o U' => ∃ v L, o = .returned v ∧ Q_0 Z x1 y1 f1 h0 n0 v U'.heap L ∧ FrameEnd U o U' L 0 0) := by
  refine MetFree.of_bodySF (plainFor_of_name pn_0) hisR ?_
  intro p e s m args below meth c s₁ Bd hml0 hP hK
  obtain ⟨rfl, hZ, hh⟩ := hP
  have hx := Bd.exec
  have hby := Bd.bytes
  have hml : c.maxLocals = 13 := hml0
  have hown : s.vm.findClass "com/example/hasp5/hasp5/ValidityCheckDriftFactorPinLaw" = some m.cls := findClass_of_methodNamed Bd.named
  have hnm := (name_of_methodNamed Bd.named Bd.method).1
  have X0 : Stand p l e room_1 s m #[(.long x1), (.long y1), (.int f1)] below meth c s₁ [] 0 0 := Stand.of_body Bd
  have e0 : s₁.heap = h0 := by rw [← hh, Bd.state]; rfl
  have N0 := Fr.nil n0
  have H0 := Own.hr X0 hx hby
  have pre0 : ∀ t, Steps p.tables e below (s₁.setTop (mkF m 0 #[.val (.long x1), .second, .val (.long y1), .second, .val (.int f1), .unset, .unset, .unset, .unset, .unset, .unset, .unset, .unset] [])) t → Steps p.tables e below (s₁.setTop (entryFrame m #[(.long x1), (.long y1), (.int f1)] maxLocals)) t := fun t k => castTop (ef_0 m x1 y1 f1) k

  obtain ⟨b, a, hb1, hb2, ha1, ha2, P0⟩ : ∃ b a : Int64, 1 ≤ b.toInt ∧ b.toInt ≤ 2 ^ 52 ∧ 0 ≤ a.toInt ∧ a.toInt < b.toInt ∧ ∀ t, Steps p.tables e below (s₁.setTop (mkF m 19 #[.val (.long x1), .second, .val (.long y1), .second, .val (.int f1), .val (.long b), .second, .val (.long a), .second, .unset, .unset, .unset, .unset] [])) t → Steps p.tables e below (s₁.setTop (entryFrame m #[(.long x1), (.long y1), (.int f1)] maxLocals)) t := by
    have hb1 := Own.mask52 y1
    have ha1 := Own.rem_bounds x1 ((y1 &&& (4503599627370495 : Int64)) + (1 : Int64)) hb1.1
    refine ⟨((y1 &&& (4503599627370495 : Int64)) + (1 : Int64)), ((x1 &&& (9223372036854775807 : Int64)) % ((y1 &&& (4503599627370495 : Int64)) + (1 : Int64))), hb1.1, hb1.2, ha1.1, ha1.2, fun t k => pre0 t ?_⟩
    have hb1 := hb1.1
    refine Own.w_lloadN H0 at_0 1 rfl rfl ?_
    refine Own.w_ldc2Long X0 hx hown (mvT hZ (hw _ (List.mem_of_getElem? (i := 0) rfl))) (hb hby at_1) 4 rfl ?_
    refine Own.w_land H0 at_4 5 rfl ?_
    refine Own.w_lconst H0 at_5 6 rfl (z := (1 : Int64)) rfl ?_
    refine Own.w_ladd H0 at_6 7 rfl ?_
    refine Own.w_lstore H0 at_7 9 rfl (l' := #[.val (.long x1), .second, .val (.long y1), .second, .val (.int f1), .val (.long ((y1 &&& (4503599627370495 : Int64)) + (1 : Int64))), .second, .unset, .unset, .unset, .unset, .unset, .unset]) rfl ?_
    refine Own.w_lloadN H0 at_9 10 rfl rfl ?_
    refine Own.w_ldc2Long X0 hx hown (mvT hZ (hw _ (List.mem_of_getElem? (i := 1) rfl))) (hb hby at_10) 13 rfl ?_
    refine Own.w_land H0 at_13 14 rfl ?_
    refine Own.w_lload H0 at_14 16 rfl rfl ?_
    refine Own.w_lrem H0 at_16 17 rfl (Own.pos_ne hb1) ?_
    refine Own.w_lstore H0 at_17 19 rfl (l' := #[.val (.long x1), .second, .val (.long y1), .second, .val (.int f1), .val (.long ((y1 &&& (4503599627370495 : Int64)) + (1 : Int64))), .second, .val (.long ((x1 &&& (9223372036854775807 : Int64)) % ((y1 &&& (4503599627370495 : Int64)) + (1 : Int64)))), .second, .unset, .unset, .unset, .unset]) rfl ?_
    exact k
  obtain ⟨a', ha1', ha2', P1⟩ : ∃ a' : Int64, 0 ≤ a'.toInt ∧ a'.toInt < b.toInt ∧ ∀ t, Steps p.tables e below (s₁.setTop (mkF m 29 #[.val (.long x1), .second, .val (.long y1), .second, .val (.int f1), .val (.long b), .second, .val (.long a'), .second, .unset, .unset, .unset, .unset] [])) t → Steps p.tables e below (s₁.setTop (entryFrame m #[(.long x1), (.long y1), (.int f1)] maxLocals)) t := by
    cases h : ifCond.holds .eq (f1 &&& (2 : Int32))
    · refine ⟨(0 : Int64), (by decide), (Int.lt_of_lt_of_le (by decide) hb1), fun t k => P0 t ?_⟩
      refine Own.w_iload H0 at_19 21 rfl rfl ?_
      refine Own.w_iconst H0 at_21 22 rfl (z := (2 : Int32)) rfl ?_
      refine Own.w_iand H0 at_22 23 rfl ?_
      refine Own.w_ifCondNo H0 at_23 (h) 26 rfl ?_
      refine Own.w_lconst H0 at_26 27 rfl (z := (0 : Int64)) rfl ?_
      refine Own.w_lstore H0 at_27 29 rfl (l' := #[.val (.long x1), .second, .val (.long y1), .second, .val (.int f1), .val (.long b), .second, .val (.long (0 : Int64)), .second, .unset, .unset, .unset, .unset]) rfl ?_
      exact k
    · refine ⟨a, ha1, ha2, fun t k => P0 t ?_⟩
      refine Own.w_iload H0 at_19 21 rfl rfl ?_
      refine Own.w_iconst H0 at_21 22 rfl (z := (2 : Int32)) rfl ?_
      refine Own.w_iand H0 at_22 23 rfl ?_
      refine Own.w_ifCondYes H0 at_23 (h) 29 (by decide) (by decide) ?_
      exact k
  obtain ⟨a2, h21, h22, P2⟩ : ∃ a2 : Int64, 0 ≤ a2.toInt ∧ a2.toInt < b.toInt ∧ ∀ t, Steps p.tables e below (s₁.setTop (mkF m 42 #[.val (.long x1), .second, .val (.long y1), .second, .val (.int f1), .val (.long b), .second, .val (.long a2), .second, .unset, .unset, .unset, .unset] [])) t → Steps p.tables e below (s₁.setTop (entryFrame m #[(.long x1), (.long y1), (.int f1)] maxLocals)) t := by
    cases h : ifCond.holds .eq (f1 &&& (4 : Int32))
    · refine ⟨(b - (1 : Int64)), (Own.pred_bounds hb1).1, (Own.pred_bounds hb1).2, fun t k => P1 t ?_⟩
      refine Own.w_iload H0 at_29 31 rfl rfl ?_
      refine Own.w_iconst H0 at_31 32 rfl (z := (4 : Int32)) rfl ?_
      refine Own.w_iand H0 at_32 33 rfl ?_
      refine Own.w_ifCondNo H0 at_33 (h) 36 rfl ?_
      refine Own.w_lload H0 at_36 38 rfl rfl ?_
      refine Own.w_lconst H0 at_38 39 rfl (z := (1 : Int64)) rfl ?_
      refine Own.w_lsub H0 at_39 40 rfl ?_
      refine Own.w_lstore H0 at_40 42 rfl (l' := #[.val (.long x1), .second, .val (.long y1), .second, .val (.int f1), .val (.long b), .second, .val (.long (b - (1 : Int64))), .second, .unset, .unset, .unset, .unset]) rfl ?_
      exact k
    · refine ⟨a', ha1', ha2', fun t k => P1 t ?_⟩
      refine Own.w_iload H0 at_29 31 rfl rfl ?_
      refine Own.w_iconst H0 at_31 32 rfl (z := (4 : Int32)) rfl ?_
      refine Own.w_iand H0 at_32 33 rfl ?_
      refine Own.w_ifCondYes H0 at_33 (h) 42 (by decide) (by decide) ?_
      exact k
  obtain ⟨dd, hdd, P3⟩ : ∃ dd : UInt64, Own.Drift dd ∧ ∀ t, Steps p.tables e below (s₁.setTop (mkF m 51 #[.val (.long x1), .second, .val (.long y1), .second, .val (.int f1), .val (.long b), .second, .val (.long a2), .second, .val (.double dd), .second, .unset, .unset] [])) t → Steps p.tables e below (s₁.setTop (entryFrame m #[(.long x1), (.long y1), (.int f1)] maxLocals)) t := by
    refine ⟨FP.ddiv (FP.l2d a2) (FP.l2d b), Own.drift_ratio h21 h22 hb2, fun t k => P2 t ?_⟩
    refine Own.w_lload H0 at_42 44 rfl rfl ?_
    refine Own.w_l2d H0 at_44 45 rfl ?_
    refine Own.w_lload H0 at_45 47 rfl rfl ?_
    refine Own.w_l2d H0 at_47 48 rfl ?_
    refine Own.w_ddiv H0 at_48 49 rfl (Own.ddiv_ok hb1) ?_
    refine Own.w_dstore H0 at_49 51 rfl (l' := #[.val (.long x1), .second, .val (.long y1), .second, .val (.int f1), .val (.long b), .second, .val (.long a2), .second, .val (.double (FP.ddiv (FP.l2d a2) (FP.l2d b))), .second, .unset, .unset]) rfl ?_
    exact k
  obtain ⟨d, hd, P4⟩ : ∃ d : UInt64, Own.Drift d ∧ ∀ t, Steps p.tables e below (s₁.setTop (mkF m 70 #[.val (.long x1), .second, .val (.long y1), .second, .val (.int f1), .val (.long b), .second, .val (.long a2), .second, .val (.double d), .second, .unset, .unset] [])) t → Steps p.tables e below (s₁.setTop (entryFrame m #[(.long x1), (.long y1), (.int f1)] maxLocals)) t := by
    cases h : ifCond.holds .eq (f1 &&& (1 : Int32))
    · cases h2 : ifCond.holds .ne (Own.lcmpV a2 (0 : Int64))
      · refine ⟨9223372036854775808, Own.drift_negzero, fun t k => P3 t ?_⟩
        refine Own.w_iload H0 at_51 53 rfl rfl ?_
        refine Own.w_iconst H0 at_53 54 rfl (z := (1 : Int32)) rfl ?_
        refine Own.w_iand H0 at_54 55 rfl ?_
        refine Own.w_ifCondNo H0 at_55 (h) 58 rfl ?_
        refine Own.w_lload H0 at_58 60 rfl rfl ?_
        refine Own.w_lconst H0 at_60 61 rfl (z := (0 : Int64)) rfl ?_
        refine Own.w_lcmp H0 at_61 62 rfl ?_
        refine Own.w_ifCondNo H0 at_62 (h2) 65 rfl ?_
        refine Own.w_ldc2Double X0 hx hown (mvT hZ (hw _ (List.mem_of_getElem? (i := 6) rfl))) (hb hby at_65) 68 rfl ?_
        refine Own.w_dstore H0 at_68 70 rfl (l' := #[.val (.long x1), .second, .val (.long y1), .second, .val (.int f1), .val (.long b), .second, .val (.long a2), .second, .val (.double (9223372036854775808 : UInt64)), .second, .unset, .unset]) rfl ?_
        exact k
      · refine ⟨dd, hdd, fun t k => P3 t ?_⟩
        refine Own.w_iload H0 at_51 53 rfl rfl ?_
        refine Own.w_iconst H0 at_53 54 rfl (z := (1 : Int32)) rfl ?_
        refine Own.w_iand H0 at_54 55 rfl ?_
        refine Own.w_ifCondNo H0 at_55 (h) 58 rfl ?_
        refine Own.w_lload H0 at_58 60 rfl rfl ?_
        refine Own.w_lconst H0 at_60 61 rfl (z := (0 : Int64)) rfl ?_
        refine Own.w_lcmp H0 at_61 62 rfl ?_
        refine Own.w_ifCondYes H0 at_62 (h2) 70 (by decide) (by decide) ?_
        exact k
    · refine ⟨dd, hdd, fun t k => P3 t ?_⟩
      refine Own.w_iload H0 at_51 53 rfl rfl ?_
      refine Own.w_iconst H0 at_53 54 rfl (z := (1 : Int32)) rfl ?_
      refine Own.w_iand H0 at_54 55 rfl ?_
      refine Own.w_ifCondYes H0 at_55 (h) 70 (by decide) (by decide) ?_
      exact k
  obtain ⟨_, _, ⟨T1, L1, k1, n1⟩, -, X1, ⟨Lc1, hQ1, l1, y1e, z1⟩, st1⟩ := Jvm.LawKit.callS X0 hx (y := (⟨"com/example/hasp5/hasp5/Validity", "checkDriftFactor", "(D)D"⟩ : MethodName)) hown (mvT hZ (hw _ (List.mem_of_getElem? (i := 2) rfl))) (mvT hZ (hw _ (List.mem_of_getElem? (i := 3) rfl))) (mvT hZ (hw _ (List.mem_of_getElem? (i := 4) rfl))) (mvT hZ (hw _ (List.mem_of_getElem? (i := 5) rfl))) (by decide) (backOf (W := 0) (rm_1 l Z a0 hw [] d h0 n0 Z0 hd) hZ (hw _ (List.mem_of_getElem? (i := 5) rfl)) (hw _ (List.mem_of_getElem? (i := 4) rfl)) (by decide) (by decide)) (g := (mkF m 72 #[.val (.long x1), .second, .val (.long y1), .second, .val (.int f1), .val (.long b), .second, .val (.long a2), .second, .val (.double d), .second, .unset, .unset] [(.double d)])) rfl (by rw [hml]; rfl) (argsL := [(.double d)]) (rest := []) (lenOf pd_1 rfl) rfl (by show 2 * 0 + _ ≤ _; exact Nat.le_of_eq rfl) (hb hby at_72) (fun _ _ => ⟨rfl, e0, (by decide : 0 + 0 ≤ _), (by decide : 0 + 0 ≤ _)⟩)
  dsimp only [Pt.U, Pt.locs, Pt.cells, Pt.slots] at X1 l1 y1e z1 st1 hQ1
  subst l1 y1e z1
  obtain ⟨rfl, N1, e1⟩ := hQ1
  have N2 := Fr.app N0 N1
  have H1 := Own.hr X1 hx hby
  have c82 : ifCond.holds .ne (Own.dcmpV d d .l) = false := by
    have q : FP.dcmp d d = some .eq := FP.Core.dcmp_self hd.1
    unfold Own.dcmpV; rw [q]; rfl
  obtain ⟨fs, hr, hrun, hended, hW, hsame⟩ := X1.leave (v := some (.int (1 : Int32))) (fun h => by rw [Bd.returns] at h; cases h)
  refine ⟨_, _, P4 _ ?_, hrun, hended, _, _, rfl, ?_, ⟨_, rfl⟩, hW, hsame.mono (by decide) (by decide)⟩
  · refine Own.w_dload H0 at_70 72 rfl rfl ?_
    refine st1 _ ?_
    show Steps p.tables e below (T1.setTop (mkF m 75 #[.val (.long x1), .second, .val (.long y1), .second, .val (.int f1), .val (.long b), .second, .val (.long a2), .second, .val (.double d), .second, .unset, .unset] [(.double d)])) _
    refine Own.w_dstore H1 at_75 77 rfl (l' := #[.val (.long x1), .second, .val (.long y1), .second, .val (.int f1), .val (.long b), .second, .val (.long a2), .second, .val (.double d), .second, .val (.double d), .second]) rfl ?_
    refine Own.w_dload H1 at_77 79 rfl rfl ?_
    refine Own.w_dload H1 at_79 81 rfl rfl ?_
    refine Own.w_dcmp H1 at_81 82 rfl ?_
    refine Own.w_ifCondNo H1 at_82 (c82) 85 rfl ?_
    refine Own.w_iconst H1 at_85 86 rfl (z := (1 : Int32)) rfl ?_
    refine Own.w_goto H1 at_86 90 (by decide) (by decide) ?_
    exact retN X1 hx (t := .boolean) Bd.returns (by simp) (hb hby at_90) hr
  · exact ⟨rfl, N2⟩
set_option maxRecDepth 65536 in
set_option maxHeartbeats 40000000 in
theorem comes_1 {Post : Tables → Env → Array Value → State → Outcome → State → Prop} (hpost : ∀ tb e args s v u, (limb_1_1.after args s (.returned v) u = true ∧ limb_1_2.after args s (.returned v) u = true ∧ True) → FrameEnd s (.returned v) u (Jvm.fieldLocs frame_1_writes args s ++ Jvm.arrayLocs frame_1_arrays args s ++ Jvm.staticLocs frame_1_statics s) 0 0 → Post tb e args s (.returned v) u) :
    ArmFor flags0 classFile x code maxLocals ret World_1 tables_1 room_1 Calls_1 rest_1 Pre_1 Post := by
  intro l hfl _ _ p e ha hc hk s m args below hf hA hF happ hP
  obtain ⟨hcalls, hrest, hpre⟩ := hP
  obtain ⟨-, -, -, hnamed, -, -, -, hat⟩ := (Spec.applies_iff hf).mp happ
  obtain ⟨hg, hn⟩ := and_e (Cond.before_iff.mp (show (Jvm.Cond.and given_1 narrow_1).before args s = true from hpre))
  obtain ⟨h1, h2⟩ := and_e hg
  obtain ⟨h3, h4⟩ := and_e h2
  obtain ⟨h4, h5⟩ := and_e h4
  obtain ⟨w0, w1, w2, rfl⟩ : ∃ w0 w1 w2 : Value, args = #[w0, w1, w2] := by
    have hs : args.size = 3 := by simpa [Cond.value, given_1] using h1
    obtain ⟨L⟩ := args
    match L, hs with
    | [w0, w1, w2], _ => exact ⟨w0, w1, w2, rfl⟩
  have hw := fun d (hd : d ∈ tables_1) => atoms_spec (ws := Jvm.Cond.code x code maxLocals ret :: tables_1) hat d (List.mem_cons_of_mem _ hd)
  obtain ⟨i7, e6⟩ := isL_v h3
  obtain rfl : w0 = (.long i7) := Option.some.inj e6
  obtain ⟨i9, e8⟩ := isL_v h4
  obtain rfl : w1 = (.long i9) := Option.some.inj e8
  obtain ⟨i11, e10⟩ := is_v h5
  obtain rfl : w2 = (.int i11) := Option.some.inj e10
  obtain ⟨n, o, h1, h2, h3, _, L, rfl, ⟨rfl, N⟩, hq⟩ := rm_0 l s _ hw tables_1 i7 i9 i11 s.heap s.heap.size (Nat.le_refl _) p e ha hc hk s m _ below hf ((Spec.applies_iff_loose hf).mp happ).1 ⟨rfl, State.Warmed39.refl s, rfl⟩ trivial
  refine ⟨n, _, h1, h2, h3, hpost _ _ _ _ _ _ ⟨Cond.after_iff.mpr rfl, Cond.after_iff.mpr (eq_i res_at (Term.int_eval (1)) rfl), trivial⟩ ⟨hq.1, hq.2.1, (hq.2.2.sift fun y hy => Or.inr (N y hy)).mono (by decide) (by decide)⟩⟩
theorem main_1_1 : Claimed_1_1 := comes_1 fun _ _ _ _ _ _ h hF => ⟨h.1, hF⟩
theorem main_1_2 : Claimed_1_2 := comes_1 fun _ _ _ _ _ _ h hF => ⟨h.2.1, hF⟩
end Jvm.Pilot.@@N@@
namespace Jvm.Pilot.@@N@@
open Jvm Jvm.ClassFile Sem Op Lib Jvm.Free Jvm.Stand Jvm.Pilot.@@N@@.Jvm.D
/-! MADE BY PROGRAM (witnessworld.py) out of the Statement's table words and the real class files: 9 classes; the members and pool entries that the words name. The judged class is class 1, her method 1. -/
namespace start1
open Jvm.ClassFile
def u (s : String) : CpInfo := .utf8 (stringToUtf16 s)
/-- a pool by its gaps: so many unusable entries, then the entry; so many at the end -/
def gap : Nat → List CpInfo → List CpInfo
  | 0, r => r
  | n + 1, r => .unusable :: gap n r
def poolList (es : List (Nat × CpInfo)) (last : Nat) : List CpInfo := es.foldr (fun e r => gap e.1 (e.2 :: r)) (gap last [])
def pool (es : List (Nat × CpInfo)) (last : Nat) : Array CpInfo := ⟨poolList es last⟩
def fileOf (pool : Array CpInfo) (this : Nat) (attrs : Array Attribute := #[]) (ms : Array MethodInfo := #[]) (fl : Nat := 33) (sup : Nat := 0) (ifs : Array Nat := #[]) (fds : Array FieldInfo := #[]) : ClassFile where
  minorVersion := 0
  majorVersion := 65
  constantPool := pool
  accessFlags := fl
  thisClass := this
  superClass := sup
  interfaces := ifs
  fields := fds
  methods := ms
  attributes := attrs
def plain (name : String) (sup : Option ClassId) : Class where
  name := name
  kind := .ordinary
  loader := none
  accessFlags := 33
  super := sup
  interfaces := #[]
  cf := none
  fields := #[]
  methods := #[]
  instanceTypes := #[]
  staticTypes := #[]
  resolved := #[]
  callSites := []
  init := .initialized
  statics := none
  mirror := none

def pool0 : Array CpInfo := pool [(5, u "<init>"), (0, u "()V"), (1, .class_ 10), (1, u "java/lang/Object")] 113

def k0m0 : Method := { name := "<init>", desc := "()V", sig := { parameters := [], returnType := none }, accessFlags := 1, code := none }
/-- java/lang/Object -/
def k0 : Class := { plain "java/lang/Object" none with
  accessFlags := 33
  interfaces := #[]
  cf := some (fileOf pool0 8 #[] #[{ accessFlags := 1, nameIndex := 5, descriptorIndex := 6, attributes := #[] }] 33 0 #[] #[])
  fields := #[]
  methods := #[k0m0]
  instanceTypes := #[]
  staticTypes := #[]
  resolved := Array.replicate 124 none
  statics := none }

def pool1 : Array CpInfo := pool [(2, .class_ 4), (1, u "java/lang/Object"), (0, u "<init>"), (0, u "()V"), (0, .long 4503599627370495), (3, .long 9223372036854775807), (1, .double 9223372036854775808), (1, .methodref 16 17), (0, .class_ 18), (0, .nameAndType 19 20), (0, u "com/example/hasp5/hasp5/Validity"), (0, u "checkDriftFactor"), (0, u "(D)D"), (0, .class_ 22), (0, u "com/example/hasp5/hasp5/ValidityCheckDriftFactorPinLaw"), (2, u "law"), (0, u "(JJI)Z")] 3

def k1m0 : Method := { name := "<init>", desc := "()V", sig := { parameters := [], returnType := none }, accessFlags := 1, code := none }
def k1c1 : Code := { maxStack := 4, maxLocals := 13, code := code, exceptionTable := #[], attributes := #[] }
def k1m1 : Method := { name := "law", desc := "(JJI)Z", sig := { parameters := [.long, .long, .int], returnType := some .boolean }, accessFlags := 9, code := some k1c1 }
/-- com/example/hasp5/hasp5/ValidityCheckDriftFactorPinLaw -/
def k1 : Class := { plain "com/example/hasp5/hasp5/ValidityCheckDriftFactorPinLaw" (some 0) with
  accessFlags := 49
  interfaces := #[]
  cf := some (fileOf pool1 21 #[] #[{ accessFlags := 1, nameIndex := 5, descriptorIndex := 6, attributes := #[] }, { accessFlags := 9, nameIndex := 25, descriptorIndex := 26, attributes := #[] }] 49 2 #[] #[])
  fields := #[]
  methods := #[k1m0, k1m1]
  instanceTypes := #[]
  staticTypes := #[]
  resolved := Array.replicate 30 none
  statics := none }

def pool2 : Array CpInfo := pool [(2, .class_ 4), (1, u "java/lang/Object"), (3, .class_ 10), (1, u "com/example/hasp5/hasp5/Validity"), (0, u "deadline"), (0, u "J"), (6, u "checkDriftFactor"), (0, u "(D)D"), (27, u "MIN_TTL"), (0, u "Ljava/time/Duration;"), (6, u "MAX_TTL"), (33, u "FIXED_ALLOWANCE_NANOS")] 27

def k2c0 : Code := { maxStack := 4, maxLocals := 2, code := prog_18_method_4_code, exceptionTable := #[], attributes := #[] }
def k2m0 : Method := { name := "checkDriftFactor", desc := "(D)D", sig := { parameters := [.double], returnType := some .double }, accessFlags := 8, code := some k2c0 }
/-- com/example/hasp5/hasp5/Validity -/
def k2 : Class := { plain "com/example/hasp5/hasp5/Validity" (some 0) with
  accessFlags := 48
  interfaces := #[]
  cf := some (fileOf pool2 8 #[] #[{ accessFlags := 8, nameIndex := 19, descriptorIndex := 20, attributes := #[] }] 48 2 #[] #[{ accessFlags := 24, nameIndex := 48, descriptorIndex := 49, attributes := #[] }, { accessFlags := 24, nameIndex := 56, descriptorIndex := 49, attributes := #[] }, { accessFlags := 26, nameIndex := 90, descriptorIndex := 12, attributes := #[] }, { accessFlags := 18, nameIndex := 11, descriptorIndex := 12, attributes := #[] }])
  fields := #[{ name := "MIN_TTL", type := (.object "java/time/Duration"), accessFlags := 24, slot := 0, constantValue := 0 }, { name := "MAX_TTL", type := (.object "java/time/Duration"), accessFlags := 24, slot := 1, constantValue := 0 }, { name := "FIXED_ALLOWANCE_NANOS", type := .long, accessFlags := 26, slot := 2, constantValue := 0 }, { name := "deadline", type := .long, accessFlags := 18, slot := 0, constantValue := 0 }]
  methods := #[k2m0]
  instanceTypes := #[.long]
  staticTypes := #[(.object "java/time/Duration"), (.object "java/time/Duration"), .long]
  resolved := Array.replicate 118 none
  statics := none }

def pool3 : Array CpInfo := pool [(1, u "java/lang/Cloneable"), (0, .class_ 1), (0, u "java/lang/Object"), (0, .class_ 3)] 3

/-- java/lang/Cloneable -/
def k3 : Class := { plain "java/lang/Cloneable" (some 0) with
  accessFlags := 1537
  interfaces := #[]
  cf := some (fileOf pool3 2 #[] #[] 1537 4 #[] #[])
  fields := #[]
  methods := #[]
  instanceTypes := #[]
  staticTypes := #[]
  resolved := Array.replicate 8 none
  statics := none }

def pool4 : Array CpInfo := pool [(1, u "java/io/Serializable"), (0, .class_ 1), (0, u "java/lang/Object"), (0, .class_ 3)] 3

/-- java/io/Serializable -/
def k4 : Class := { plain "java/io/Serializable" (some 0) with
  accessFlags := 1537
  interfaces := #[]
  cf := some (fileOf pool4 2 #[] #[] 1537 4 #[] #[])
  fields := #[]
  methods := #[]
  instanceTypes := #[]
  staticTypes := #[]
  resolved := Array.replicate 8 none
  statics := none }

/-- the primitive byte -/
def k5 : Class := { plain "byte" none with kind := .primitive 'B', accessFlags := 0x411 }
/-- [B -/
def k6 : Class := { plain "[B" (some 0) with kind := .array 5 .byte, interfaces := #[3, 4], accessFlags := 1041 }

/-- the primitive int -/
def k7 : Class := { plain "int" none with kind := .primitive 'I', accessFlags := 0x411 }
/-- [I -/
def k8 : Class := { plain "[I" (some 0) with kind := .array 7 .int, interfaces := #[3, 4], accessFlags := 1041 }

def heap : Heap := #[]
def classes : Array Class := #[k0, k1, k2, k3, k4, k5, k6, k7, k8]
def interned : List (Array UInt16 × Addr) := []
def slotsUsed : Nat := 0
def theMethod : MethodId := ⟨1, 1⟩
def args0 : Array Value := #[.long 5, .long 7, .int 3]
def aboutOver (below : List Frame) : State where
  vm := { classes := classes, interned := interned.toArray }
  heap := heap
  slotsUsed := slotsUsed
  threads := #[{ frames := .invoking theMethod args0 :: below }]
def below0 : List Frame := [.native { method := ⟨0, 0⟩, args := #[] }]
def about1 : State := aboutOver below0
def p0 : Program := .bare "" "" ""
def e0 : Env := launch0.env 0 0 0
theorem w_frames : about1.frames = Frame.invoking theMethod args0 :: below0 := rfl
set_option maxRecDepth 65536 in
theorem w_args : argsFit about1.vm theMethod args0 = true := by decide +kernel
set_option maxRecDepth 65536 in
theorem w_heap : heapFits about1 = true := by decide +kernel
set_option maxRecDepth 65536 in
theorem w_runnable : about1.curStatus? = some .runnable := by decide +kernel
set_option maxRecDepth 65536 in
theorem w_alone : about1.alone = true := by decide +kernel
set_option maxRecDepth 65536 in
theorem w_named : about1.methodNamed? x = some theMethod := by decide +kernel
set_option maxRecDepth 65536 in
theorem w_hears : about1.hears theMethod below0 = true := by decide +kernel
set_option maxRecDepth 65536 in
theorem w_ripe : about1.ripe theMethod args0 below0 = true := by decide +kernel
theorem w_running : about1.status = .running := rfl
set_option maxRecDepth 65536 in
theorem w_room : about1.hasRoom e0.platform room_1 = true :=
  launch0.hasRoom_least _ room_1 (by decide +kernel) (by decide +kernel) (by decide +kernel) (by decide +kernel) (by decide +kernel) (by decide +kernel)
theorem allAtoms_all (ts : List Jvm.Cond) (a : Array Jvm.Value) (st : Jvm.State) : (allAtoms ts).before a st = ts.all (fun c => c.before a st) := by
  induction ts with
  | nil => rfl
  | cons c t ih =>
    show (Jvm.Cond.and c (allAtoms t)).before a st = _
    rw [Jvm.Cond.before_and, ih, List.all_cons]
def words1 : List Jvm.Cond := Jvm.Cond.code x code maxLocals ret :: tables_1
/-- a 'code' word, met by the world's own term for the bytes: nothing is compared byte by byte -/
theorem code_word {y : MethodName} {bytes : ByteArray} {mx : Nat} {rt : Option FieldType} {a : Array Value} {s : State} {m : MethodId} {meth : Method} {c : Code} (h1 : s.methodNamed? y = some m) (h2 : s.vm.method? m = some meth) (h3 : meth.code = some c) (h4 : c.code = bytes)
    (h5 : (c.maxLocals == mx && c.exceptionTable.isEmpty && decide (c.maxStack ≤ mostOperands) && decide (meth.sig.returnType = rt) && !meth.locks && decide (parseMethodDescriptor y.desc = some meth.sig)) = true) : (Jvm.Cond.code y bytes mx rt).before a s = true := by
  simp only [Bool.and_eq_true, beq_iff_eq, Bool.not_eq_true', decide_eq_true_eq] at h5
  obtain ⟨⟨⟨⟨⟨g1, g2⟩, g3⟩, g4⟩, g5⟩, g6⟩ := h5
  simp [Cond.before, Cond.holds, Cond.value, h1, h2, h3, h4, g1, g2, g3, g4, g5, g6]
def isCode : Jvm.Cond → Bool
  | .code _ _ _ _ => true
  | _ => false
theorem all_split {L : List Jvm.Cond} {P : Jvm.Cond → Bool} (h1 : L.all (fun c => isCode c || P c) = true) (h2 : ∀ c ∈ L.filter isCode, P c = true) : L.all P = true := by
  refine List.all_eq_true.mpr fun c hc => ?_
  have h := List.all_eq_true.mp h1 c hc
  rcases Bool.eq_false_or_eq_true (isCode c) with hi | hi
  · exact h2 c (List.mem_filter.mpr ⟨hc, hi⟩)
  · simpa [hi] using h
set_option maxRecDepth 65536 in
theorem w_c0 : (Jvm.Cond.code x code maxLocals ret).before args0 about1 = true := code_word (m := ⟨1, 1⟩) (meth := k1m1) (c := k1c1) (by decide +kernel) rfl rfl rfl (by decide +kernel)
set_option maxRecDepth 65536 in
theorem w_c1 : (Jvm.Cond.code ({ cls := "com/example/hasp5/hasp5/Validity", name := "checkDriftFactor", desc := "(D)D" } : Jvm.MethodName) prog_18_method_4_code (2 : Nat) (Option.some Jvm.ClassFile.FieldType.double)).before args0 about1 = true := code_word (m := ⟨2, 0⟩) (meth := k2m0) (c := k2c0) (by decide +kernel) rfl rfl rfl (by decide +kernel)
def codes1 : List Jvm.Cond := [Jvm.Cond.code x code maxLocals ret, Jvm.Cond.code ({ cls := "com/example/hasp5/hasp5/Validity", name := "checkDriftFactor", desc := "(D)D" } : Jvm.MethodName) prog_18_method_4_code (2 : Nat) (Option.some Jvm.ClassFile.FieldType.double)]
set_option maxRecDepth 65536 in
theorem codes_eq : words1.filter isCode = codes1 := rfl
theorem w_codes : ∀ c ∈ words1.filter isCode, c.before args0 about1 = true := by
  rw [codes_eq]
  intro c hc
  simp only [codes1, List.mem_cons, List.not_mem_nil, or_false] at hc
  rcases hc with rfl | rfl
  · exact w_c0
  · exact w_c1
set_option maxRecDepth 65536 in
theorem w_t1 : words1.all (fun c => isCode c || c.before args0 about1) = true := by decide +kernel
theorem w_tables : (allAtoms (Jvm.Cond.code x code maxLocals ret :: tables_1)).before args0 about1 = true := by
  rw [allAtoms_all]
  show words1.all (fun c => c.before args0 about1) = true
  refine all_split ?_ w_codes
  rw [w_t1]
set_option maxRecDepth 65536 in
theorem w_case : (Jvm.Cond.and given_1 narrow_1).before args0 about1 = true := by decide +kernel
theorem w_applies : (headSpec (Jvm.Cond.code x code maxLocals ret :: tables_1) room_1).applies x e0.platform about1 = true :=
  (Spec.applies_iff w_frames).mpr ⟨w_running, w_runnable, w_alone, w_named, w_hears, w_ripe, w_room, w_tables⟩
theorem atStart : AtStart classFile x code maxLocals ret World_1 tables_1 room_1 Calls_1 rest_1 Pre_1 launch0 p0 e0 about1 theMethod args0 below0 :=
  ⟨lists_1, trivial, launch0.admits_env _ _ _, launch0.least_env, fairChoices_fair.cas, fairChoices_fair.clock, w_frames, w_args, w_heap, w_applies, trivial, trivial, w_case⟩
end start1
theorem witness_1 : WitnessClaimed_1 := ⟨start1.p0, start1.e0, start1.about1, start1.theMethod, start1.args0, start1.below0, start1.atStart⟩
end Jvm.Pilot.@@N@@
