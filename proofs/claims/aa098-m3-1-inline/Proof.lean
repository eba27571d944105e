import JvmDerived
import JvmDerived.Pilot.@@N@@Statement
import JvmDerived.Pilot.@@N@@Code
set_option linter.unusedVariables false
set_option linter.unusedSimpArgs false

namespace Jvm.Own
open Sem ClassFile Op Lib Jvm.Stand Jvm.Free Jvm.LawKit Jvm.RoadKit
/-- the goal of a walk: from here the invocation ends, and P holds of its end -/
def Goes (tb : Tables) (e : Env) (below : List Frame) (P : Outcome → State → Prop) (T : State) (F : JFrame) : Prop :=
  ∃ t o, Steps tb e below (T.setTop F) t ∧ t.status = .running ∧ Ended t below o ∧ P o t
/-- what a comparison says, of the integers -/
def icR : ClassFile.Cond → Int → Int → Prop
  | .eq, x, y => x = y
  | .ne, x, y => ¬ x = y
  | .lt, x, y => x < y
  | .ge, x, y => y ≤ x
  | .gt, x, y => y < x
  | .le, x, y => x ≤ y
theorem icR_iff (cd : ClassFile.Cond) (x y : Int32) : if_icmp.holds cd x y = true ↔ icR cd x.toInt y.toInt := by
  cases cd <;> simp [if_icmp.holds, icR, Int32.lt_iff_toInt_lt, Int32.le_iff_toInt_le, Int32.toInt_inj]
theorem icR_yes {cd : ClassFile.Cond} {x y : Int32} {X Y : Int} (ex : x.toInt = X) (ey : y.toInt = Y) (h : icR cd X Y) : if_icmp.holds cd x y = true := by
  subst ex ey; exact (icR_iff cd x y).mpr h
theorem icR_no {cd : ClassFile.Cond} {x y : Int32} {X Y : Int} (ex : x.toInt = X) (ey : y.toInt = Y) (h : ¬ icR cd X Y) : if_icmp.holds cd x y = false := by
  subst ex ey; exact Bool.eq_false_iff.mpr fun q => h ((icR_iff cd x y).mp q)
section G
variable {tb : Tables} {e : Env} {below : List Frame} {P : Outcome → State → Prop} {T T' : State} {F F' : JFrame}
theorem Goes.via (k : Goes tb e below P T' F') (st : ∀ target, Steps tb e below (T'.setTop F') target → Steps tb e below (T.setTop F) target) : Goes tb e below P T F := by
  obtain ⟨t, o, h1, h2⟩ := k; exact ⟨t, o, st _ h1, h2⟩
theorem Goes.to (k : Goes tb e below P T' F') (st : Steps tb e below (T.setTop F) (T'.setTop F')) : Goes tb e below P T F := k.via fun _ h => st.trans h
theorem Goes.cast (q : F = F') (k : Goes tb e below P T F') : Goes tb e below P T F := q ▸ k
variable [Ours tb] {m : MethodId} {c : Code} {pc : Nat} {L L' : Array Slot} {S : List Value}
theorem g_aloadN (h : At T m c below) (hx : tb.exec = Jvm.exec) {k : Fin 4} {v : Value} (hd : decode c.code pc = .ok (.aload_n k, 1)) (hl : L[k.val]? = some (.val v)) (hv : v.isRef = true) (p' : Nat) (hp : p' = pc + 1) (q : Goes tb e below P T (mkF m p' L (v :: S))) : Goes tb e below P T (mkF m pc L (S)) := by
  subst hp; exact q.via fun _ k => XS.aloadN h hx rfl hd hl hv k
theorem g_aload (h : At T m c below) (hx : tb.exec = Jvm.exec) {k : Nat} {v : Value} (hd : decode c.code pc = .ok (.aload k, 2)) (hl : L[k]? = some (.val v)) (hv : v.isRef = true) (p' : Nat) (hp : p' = pc + 2) (q : Goes tb e below P T (mkF m p' L (v :: S))) : Goes tb e below P T (mkF m pc L (S)) := by
  subst hp; exact q.via fun _ k => XS.aload h hx rfl hd hl hv k
theorem g_iloadN (h : At T m c below) (hx : tb.exec = Jvm.exec) {k : Fin 4} {v : Int32} (hd : decode c.code pc = .ok (.iload_n k, 1)) (hl : L[k.val]? = some (.val (.int v))) (p' : Nat) (hp : p' = pc + 1) (q : Goes tb e below P T (mkF m p' L (.int v :: S))) : Goes tb e below P T (mkF m pc L (S)) := by
  subst hp; exact q.via fun _ k => XS.iloadN h hx rfl hd hl k
theorem g_iload (h : At T m c below) (hx : tb.exec = Jvm.exec) {k : Nat} {v : Int32} (hd : decode c.code pc = .ok (.iload k, 2)) (hl : L[k]? = some (.val (.int v))) (p' : Nat) (hp : p' = pc + 2) (q : Goes tb e below P T (mkF m p' L (.int v :: S))) : Goes tb e below P T (mkF m pc L (S)) := by
  subst hp; exact q.via fun _ k => XS.iload h hx rfl hd hl k
theorem g_lloadN (h : At T m c below) (hx : tb.exec = Jvm.exec) {k : Fin 4} {v : Int64} (hd : decode c.code pc = .ok (.lload_n k, 1)) (hl : L[k.val]? = some (.val (.long v))) (p' : Nat) (hp : p' = pc + 1) (q : Goes tb e below P T (mkF m p' L (.long v :: S))) : Goes tb e below P T (mkF m pc L (S)) := by
  subst hp; exact q.via fun _ k => XS.lloadN h hx rfl hd hl k
theorem g_lload (h : At T m c below) (hx : tb.exec = Jvm.exec) {k : Nat} {v : Int64} (hd : decode c.code pc = .ok (.lload k, 2)) (hl : L[k]? = some (.val (.long v))) (p' : Nat) (hp : p' = pc + 2) (q : Goes tb e below P T (mkF m p' L (.long v :: S))) : Goes tb e below P T (mkF m pc L (S)) := by
  subst hp; exact q.via fun _ k => XS.lload h hx rfl hd hl k
theorem g_istoreN (h : At T m c below) (hx : tb.exec = Jvm.exec) {k : Fin 4} {x : Int32} (hd : decode c.code pc = .ok (.istore_n k, 1)) (L2 : Array Slot) (hl : storeLocals L k.val (.int x) = some L2) (p' : Nat) (hp : p' = pc + 1) (q : Goes tb e below P T (mkF m p' L2 (S))) : Goes tb e below P T (mkF m pc L (.int x :: S)) := by
  subst hp; exact q.via fun _ k => XS.istoreN h hx rfl hd rfl hl k
theorem g_istore (h : At T m c below) (hx : tb.exec = Jvm.exec) {k : Nat} {x : Int32} (hd : decode c.code pc = .ok (.istore k, 2)) (L2 : Array Slot) (hl : storeLocals L k (.int x) = some L2) (p' : Nat) (hp : p' = pc + 2) (q : Goes tb e below P T (mkF m p' L2 (S))) : Goes tb e below P T (mkF m pc L (.int x :: S)) := by
  subst hp; exact q.via fun _ k => XS.istore h hx rfl hd rfl hl k
theorem g_lstoreN (h : At T m c below) (hx : tb.exec = Jvm.exec) {k : Fin 4} {x : Int64} (hd : decode c.code pc = .ok (.lstore_n k, 1)) (L2 : Array Slot) (hl : storeLocals L k.val (.long x) = some L2) (p' : Nat) (hp : p' = pc + 1) (q : Goes tb e below P T (mkF m p' L2 (S))) : Goes tb e below P T (mkF m pc L (.long x :: S)) := by
  subst hp; exact q.via fun _ k => XS.lstoreN h hx rfl hd rfl hl k
theorem g_lstore (h : At T m c below) (hx : tb.exec = Jvm.exec) {k : Nat} {x : Int64} (hd : decode c.code pc = .ok (.lstore k, 2)) (L2 : Array Slot) (hl : storeLocals L k (.long x) = some L2) (p' : Nat) (hp : p' = pc + 2) (q : Goes tb e below P T (mkF m p' L2 (S))) : Goes tb e below P T (mkF m pc L (.long x :: S)) := by
  subst hp; exact q.via fun _ k => XS.lstore h hx rfl hd rfl hl k
theorem g_astoreN (h : At T m c below) (hx : tb.exec = Jvm.exec) {k : Fin 4} {x : Value} (hd : decode c.code pc = .ok (.astore_n k, 1)) (hv : x.isRef = true) (L2 : Array Slot) (hl : storeLocals L k.val x = some L2) (p' : Nat) (hp : p' = pc + 1) (q : Goes tb e below P T (mkF m p' L2 (S))) : Goes tb e below P T (mkF m pc L (x :: S)) := by
  subst hp; exact q.via fun _ k => XS.astoreN h hx rfl hd rfl hv hl k
theorem g_astore (h : At T m c below) (hx : tb.exec = Jvm.exec) {k : Nat} {x : Value} (hd : decode c.code pc = .ok (.astore k, 2)) (hv : x.isRef = true) (L2 : Array Slot) (hl : storeLocals L k x = some L2) (p' : Nat) (hp : p' = pc + 2) (q : Goes tb e below P T (mkF m p' L2 (S))) : Goes tb e below P T (mkF m pc L (x :: S)) := by
  subst hp; exact q.via fun _ k => XS.astore h hx rfl hd rfl hv hl k
theorem g_iconst (h : At T m c below) (hx : tb.exec = Jvm.exec) {i : Int} (hd : decode c.code pc = .ok (.iconst i, 1)) (v : Int32) (hv : Int32.ofInt i = v) (p' : Nat) (hp : p' = pc + 1) (q : Goes tb e below P T (mkF m p' L (.int v :: S))) : Goes tb e below P T (mkF m pc L (S)) := by
  subst hp hv; exact q.via fun _ k => XS.iconst h hx rfl hd  k
theorem g_bipush (h : At T m c below) (hx : tb.exec = Jvm.exec) {i : Int} (hd : decode c.code pc = .ok (.bipush i, 2)) (v : Int32) (hv : (Int8.ofInt i).toInt32 = v) (p' : Nat) (hp : p' = pc + 2) (q : Goes tb e below P T (mkF m p' L (.int v :: S))) : Goes tb e below P T (mkF m pc L (S)) := by
  subst hp hv; exact q.via fun _ k => XS.bipush h hx rfl hd  k
theorem g_sipush (h : At T m c below) (hx : tb.exec = Jvm.exec) {i : Int} (hd : decode c.code pc = .ok (.sipush i, 3)) (v : Int32) (hv : (Int16.ofInt i).toInt32 = v) (p' : Nat) (hp : p' = pc + 3) (q : Goes tb e below P T (mkF m p' L (.int v :: S))) : Goes tb e below P T (mkF m pc L (S)) := by
  subst hp hv; exact q.via fun _ k => XS.sipush h hx rfl hd  k
theorem g_aconst_null (h : At T m c below) (hx : tb.exec = Jvm.exec)  (hd : decode c.code pc = .ok (.aconst_null, 1))  (p' : Nat) (hp : p' = pc + 1) (q : Goes tb e below P T (mkF m p' L (.null :: S))) : Goes tb e below P T (mkF m pc L (S)) := by
  subst hp; exact q.via fun _ k => XS.aconstNull h hx rfl hd  k
theorem g_iadd (h : At T m c below) (hx : tb.exec = Jvm.exec) {x y : Int32} (hd : decode c.code pc = .ok (.iadd, 1))  (p' : Nat) (hp : p' = pc + 1) (q : Goes tb e below P T (mkF m p' L (.int (x + y) :: S))) : Goes tb e below P T (mkF m pc L (.int y :: .int x :: S)) := by
  subst hp; exact q.via fun _ k => XS.iadd h hx rfl hd rfl k
theorem g_isub (h : At T m c below) (hx : tb.exec = Jvm.exec) {x y : Int32} (hd : decode c.code pc = .ok (.isub, 1))  (p' : Nat) (hp : p' = pc + 1) (q : Goes tb e below P T (mkF m p' L (.int (x - y) :: S))) : Goes tb e below P T (mkF m pc L (.int y :: .int x :: S)) := by
  subst hp; exact q.via fun _ k => XS.isub h hx rfl hd rfl k
theorem g_imul (h : At T m c below) (hx : tb.exec = Jvm.exec) {x y : Int32} (hd : decode c.code pc = .ok (.imul, 1))  (p' : Nat) (hp : p' = pc + 1) (q : Goes tb e below P T (mkF m p' L (.int (x * y) :: S))) : Goes tb e below P T (mkF m pc L (.int y :: .int x :: S)) := by
  subst hp; exact q.via fun _ k => XS.imul h hx rfl hd rfl k
theorem g_iand (h : At T m c below) (hx : tb.exec = Jvm.exec) {x y : Int32} (hd : decode c.code pc = .ok (.iand, 1))  (p' : Nat) (hp : p' = pc + 1) (q : Goes tb e below P T (mkF m p' L (.int (x &&& y) :: S))) : Goes tb e below P T (mkF m pc L (.int y :: .int x :: S)) := by
  subst hp; exact q.via fun _ k => XS.iand h hx rfl hd rfl k
theorem g_ior (h : At T m c below) (hx : tb.exec = Jvm.exec) {x y : Int32} (hd : decode c.code pc = .ok (.ior, 1))  (p' : Nat) (hp : p' = pc + 1) (q : Goes tb e below P T (mkF m p' L (.int (x ||| y) :: S))) : Goes tb e below P T (mkF m pc L (.int y :: .int x :: S)) := by
  subst hp; exact q.via fun _ k => XS.ior h hx rfl hd rfl k
theorem g_ixor (h : At T m c below) (hx : tb.exec = Jvm.exec) {x y : Int32} (hd : decode c.code pc = .ok (.ixor, 1))  (p' : Nat) (hp : p' = pc + 1) (q : Goes tb e below P T (mkF m p' L (.int (x ^^^ y) :: S))) : Goes tb e below P T (mkF m pc L (.int y :: .int x :: S)) := by
  subst hp; exact q.via fun _ k => XS.ixor h hx rfl hd rfl k
theorem g_ishl (h : At T m c below) (hx : tb.exec = Jvm.exec) {x y : Int32} (hd : decode c.code pc = .ok (.ishl, 1))  (p' : Nat) (hp : p' = pc + 1) (q : Goes tb e below P T (mkF m p' L (.int (x <<< (y &&& 31)) :: S))) : Goes tb e below P T (mkF m pc L (.int y :: .int x :: S)) := by
  subst hp; exact q.via fun _ k => XS.ishl h hx rfl hd rfl k
theorem g_ishr (h : At T m c below) (hx : tb.exec = Jvm.exec) {x y : Int32} (hd : decode c.code pc = .ok (.ishr, 1))  (p' : Nat) (hp : p' = pc + 1) (q : Goes tb e below P T (mkF m p' L (.int (x >>> (y &&& 31)) :: S))) : Goes tb e below P T (mkF m pc L (.int y :: .int x :: S)) := by
  subst hp; exact q.via fun _ k => XS.ishr h hx rfl hd rfl k
theorem g_iushr (h : At T m c below) (hx : tb.exec = Jvm.exec) {x y : Int32} (hd : decode c.code pc = .ok (.iushr, 1))  (p' : Nat) (hp : p' = pc + 1) (q : Goes tb e below P T (mkF m p' L (.int ((x.toUInt32 >>> (y &&& 31).toUInt32).toInt32) :: S))) : Goes tb e below P T (mkF m pc L (.int y :: .int x :: S)) := by
  subst hp; exact q.via fun _ k => XS.iushr h hx rfl hd rfl k
theorem g_ladd (h : At T m c below) (hx : tb.exec = Jvm.exec) {x y : Int64} (hd : decode c.code pc = .ok (.ladd, 1))  (p' : Nat) (hp : p' = pc + 1) (q : Goes tb e below P T (mkF m p' L (.long (x + y) :: S))) : Goes tb e below P T (mkF m pc L (.long y :: .long x :: S)) := by
  subst hp; exact q.via fun _ k => XS.ladd h hx rfl hd rfl k
theorem g_lsub (h : At T m c below) (hx : tb.exec = Jvm.exec) {x y : Int64} (hd : decode c.code pc = .ok (.lsub, 1))  (p' : Nat) (hp : p' = pc + 1) (q : Goes tb e below P T (mkF m p' L (.long (x - y) :: S))) : Goes tb e below P T (mkF m pc L (.long y :: .long x :: S)) := by
  subst hp; exact q.via fun _ k => XS.lsub h hx rfl hd rfl k
theorem g_lmul (h : At T m c below) (hx : tb.exec = Jvm.exec) {x y : Int64} (hd : decode c.code pc = .ok (.lmul, 1))  (p' : Nat) (hp : p' = pc + 1) (q : Goes tb e below P T (mkF m p' L (.long (x * y) :: S))) : Goes tb e below P T (mkF m pc L (.long y :: .long x :: S)) := by
  subst hp; exact q.via fun _ k => XS.lmul h hx rfl hd rfl k
theorem g_land (h : At T m c below) (hx : tb.exec = Jvm.exec) {x y : Int64} (hd : decode c.code pc = .ok (.land, 1))  (p' : Nat) (hp : p' = pc + 1) (q : Goes tb e below P T (mkF m p' L (.long (x &&& y) :: S))) : Goes tb e below P T (mkF m pc L (.long y :: .long x :: S)) := by
  subst hp; exact q.via fun _ k => XS.land h hx rfl hd rfl k
theorem g_lor (h : At T m c below) (hx : tb.exec = Jvm.exec) {x y : Int64} (hd : decode c.code pc = .ok (.lor, 1))  (p' : Nat) (hp : p' = pc + 1) (q : Goes tb e below P T (mkF m p' L (.long (x ||| y) :: S))) : Goes tb e below P T (mkF m pc L (.long y :: .long x :: S)) := by
  subst hp; exact q.via fun _ k => XS.lor h hx rfl hd rfl k
theorem g_lshl (h : At T m c below) (hx : tb.exec = Jvm.exec) {x : Int64} {y : Int32} (hd : decode c.code pc = .ok (.lshl, 1))  (p' : Nat) (hp : p' = pc + 1) (q : Goes tb e below P T (mkF m p' L (.long (x <<< (y &&& 0x3f).toInt64) :: S))) : Goes tb e below P T (mkF m pc L (.int y :: .long x :: S)) := by
  subst hp; exact q.via fun _ k => XS.lshl h hx rfl hd rfl k
theorem g_lshr (h : At T m c below) (hx : tb.exec = Jvm.exec) {x : Int64} {y : Int32} (hd : decode c.code pc = .ok (.lshr, 1))  (p' : Nat) (hp : p' = pc + 1) (q : Goes tb e below P T (mkF m p' L (.long (x >>> (y &&& 0x3f).toInt64) :: S))) : Goes tb e below P T (mkF m pc L (.int y :: .long x :: S)) := by
  subst hp; exact q.via fun _ k => XS.lshr h hx rfl hd rfl k
theorem g_lushr (h : At T m c below) (hx : tb.exec = Jvm.exec) {x : Int64} {y : Int32} (hd : decode c.code pc = .ok (.lushr, 1))  (p' : Nat) (hp : p' = pc + 1) (q : Goes tb e below P T (mkF m p' L (.long ((x.toUInt64 >>> (y &&& 0x3f).toInt64.toUInt64).toInt64) :: S))) : Goes tb e below P T (mkF m pc L (.int y :: .long x :: S)) := by
  subst hp; exact q.via fun _ k => XS.lushr h hx rfl hd rfl k
theorem g_lcmp (h : At T m c below) (hx : tb.exec = Jvm.exec) {x y : Int64} (hd : decode c.code pc = .ok (.lcmp, 1))  (p' : Nat) (hp : p' = pc + 1) (q : Goes tb e below P T (mkF m p' L (.int (lcmpW x y) :: S))) : Goes tb e below P T (mkF m pc L (.long y :: .long x :: S)) := by
  subst hp; exact q.via fun _ k => XS.lcmp h hx rfl hd rfl k
theorem g_i2l (h : At T m c below) (hx : tb.exec = Jvm.exec) {x : Int32} (hd : decode c.code pc = .ok (.i2l, 1))  (p' : Nat) (hp : p' = pc + 1) (q : Goes tb e below P T (mkF m p' L (.long (x.toInt64) :: S))) : Goes tb e below P T (mkF m pc L (.int x :: S)) := by
  subst hp; exact q.via fun _ k => XS.i2l h hx rfl hd rfl k
theorem g_l2i (h : At T m c below) (hx : tb.exec = Jvm.exec) {x : Int64} (hd : decode c.code pc = .ok (.l2i, 1))  (p' : Nat) (hp : p' = pc + 1) (q : Goes tb e below P T (mkF m p' L (.int (x.toInt32) :: S))) : Goes tb e below P T (mkF m pc L (.long x :: S)) := by
  subst hp; exact q.via fun _ k => XS.l2i h hx rfl hd rfl k
theorem g_i2b (h : At T m c below) (hx : tb.exec = Jvm.exec) {x : Int32} (hd : decode c.code pc = .ok (.i2b, 1))  (p' : Nat) (hp : p' = pc + 1) (q : Goes tb e below P T (mkF m p' L (.int (x.toInt8.toInt32) :: S))) : Goes tb e below P T (mkF m pc L (.int x :: S)) := by
  subst hp; exact q.via fun _ k => XS.i2b h hx rfl hd rfl k
theorem g_i2c (h : At T m c below) (hx : tb.exec = Jvm.exec) {x : Int32} (hd : decode c.code pc = .ok (.i2c, 1))  (p' : Nat) (hp : p' = pc + 1) (q : Goes tb e below P T (mkF m p' L (.int (x.toUInt32.toUInt16.toUInt32.toInt32) :: S))) : Goes tb e below P T (mkF m pc L (.int x :: S)) := by
  subst hp; exact q.via fun _ k => XS.i2c h hx rfl hd rfl k
theorem g_i2s (h : At T m c below) (hx : tb.exec = Jvm.exec) {x : Int32} (hd : decode c.code pc = .ok (.i2s, 1))  (p' : Nat) (hp : p' = pc + 1) (q : Goes tb e below P T (mkF m p' L (.int (x.toInt16.toInt32) :: S))) : Goes tb e below P T (mkF m pc L (.int x :: S)) := by
  subst hp; exact q.via fun _ k => XS.i2s h hx rfl hd rfl k
theorem g_irem (h : At T m c below) (hx : tb.exec = Jvm.exec) {x y : Int32} (hd : decode c.code pc = .ok (.irem, 1)) (hy : y ≠ 0) (p' : Nat) (hp : p' = pc + 1) (q : Goes tb e below P T (mkF m p' L (.int (x % y) :: S))) : Goes tb e below P T (mkF m pc L (.int y :: .int x :: S)) := by
  subst hp; exact q.via fun _ k => XS.irem h hx rfl hd rfl hy (by rw [show x - x / y * y = x % y from irem_eq_mod x y]; exact k)
theorem g_idiv (h : At T m c below) (hx : tb.exec = Jvm.exec) {x y : Int32} (hd : decode c.code pc = .ok (.idiv, 1)) (hy : y ≠ 0) (p' : Nat) (hp : p' = pc + 1) (q : Goes tb e below P T (mkF m p' L (.int (x / y) :: S))) : Goes tb e below P T (mkF m pc L (.int y :: .int x :: S)) := by
  subst hp; exact q.via fun _ k => XS.idiv h hx rfl hd rfl hy k
theorem g_dup (h : At T m c below) (hx : tb.exec = Jvm.exec) {x : Value} (hd : decode c.code pc = .ok (.dup, 1)) (hc : x.category = 1) (p' : Nat) (hp : p' = pc + 1) (q : Goes tb e below P T (mkF m p' L (x :: x :: S))) : Goes tb e below P T (mkF m pc L (x :: S)) := by
  subst hp; exact q.via fun _ k => XS.dup h hx rfl hd rfl hc k
theorem g_pop (h : At T m c below) (hx : tb.exec = Jvm.exec) {x : Value} (hd : decode c.code pc = .ok (.pop, 1)) (hc : x.category = 1) (p' : Nat) (hp : p' = pc + 1) (q : Goes tb e below P T (mkF m p' L (S))) : Goes tb e below P T (mkF m pc L (x :: S)) := by
  subst hp; exact q.via fun _ k => XS.pop h hx rfl hd rfl hc k
theorem g_dup_x1 (h : At T m c below) (hx : tb.exec = Jvm.exec) {x y : Value} (hd : decode c.code pc = .ok (.dup_x1, 1)) (hc : x.category = 1) (hc' : y.category = 1) (p' : Nat) (hp : p' = pc + 1) (q : Goes tb e below P T (mkF m p' L (x :: y :: x :: S))) : Goes tb e below P T (mkF m pc L (x :: y :: S)) := by
  subst hp; exact q.via fun _ k => XS.dupX1 h hx rfl hd rfl hc hc' k
theorem g_lconst (h : At T m c below) (hx : tb.exec = Jvm.exec) {k : Fin 2} (hd : decode c.code pc = .ok (.lconst k, 1)) (v : Int64) (hv : Int64.ofNat k.val = v) (p' : Nat) (hp : p' = pc + 1) (q : Goes tb e below P T (mkF m p' L (.long v :: S))) : Goes tb e below P T (mkF m pc L (S)) := by
  subst hp hv; exact q.via fun _ k => XS.lconst h hx rfl hd  k
theorem g_iinc (h : At T m c below) (hx : tb.exec = Jvm.exec) {k : Nat} {i : Int} {x : Int32} (hd : decode c.code pc = .ok (.iinc k i, 3)) (hl : L[k]? = some (.val (.int x))) (L2 : Array Slot) (hl2 : storeLocals L k (.int (x + Int32.ofInt i)) = some L2) (p' : Nat) (hp : p' = pc + 3) (q : Goes tb e below P T (mkF m p' L2 (S))) : Goes tb e below P T (mkF m pc L (S)) := by
  subst hp; exact q.via fun _ k => XS.iinc h hx rfl hd hl hl2 k
theorem g_goto (h : At T m c below) (hx : tb.exec = Jvm.exec) {o : Int} (hd : decode c.code pc = .ok (.goto o, 3)) (p' : Nat) (ho : 0 ≤ (pc : Int) + o) (hp : ((pc : Int) + o).toNat = p') (q : Goes tb e below P T (mkF m p' L S)) : Goes tb e below P T (mkF m pc L S) := q.via fun _ k => XS.goto h hx rfl rfl hd ho hp k
theorem g_icmpT (h : At T m c below) (hx : tb.exec = Jvm.exec) {cd : ClassFile.Cond} {x y : Int32} {o : Int} (hd : decode c.code pc = .ok (.if_icmp cd o, 3)) (X Y : Int) (ex : x.toInt = X) (ey : y.toInt = Y) (hc : icR cd X Y) (p' : Nat) (ho : 0 ≤ (pc : Int) + o) (hp : ((pc : Int) + o).toNat = p') (q : Goes tb e below P T (mkF m p' L S)) : Goes tb e below P T (mkF m pc L (.int y :: .int x :: S)) := q.via fun _ k => XS.icmpYes h hx rfl rfl hd rfl (icR_yes ex ey hc) ho hp k
theorem g_icmpF (h : At T m c below) (hx : tb.exec = Jvm.exec) {cd : ClassFile.Cond} {x y : Int32} {o : Int} (hd : decode c.code pc = .ok (.if_icmp cd o, 3)) (X Y : Int) (ex : x.toInt = X) (ey : y.toInt = Y) (hc : ¬ icR cd X Y) (p' : Nat) (hp : p' = pc + 3) (q : Goes tb e below P T (mkF m p' L S)) : Goes tb e below P T (mkF m pc L (.int y :: .int x :: S)) := by
  subst hp; exact q.via fun _ k => XS.icmpNo h hx rfl hd rfl (icR_no ex ey hc) k
theorem g_icmp (h : At T m c below) (hx : tb.exec = Jvm.exec) {cd : ClassFile.Cond} {x y : Int32} {o : Int} (hd : decode c.code pc = .ok (.if_icmp cd o, 3)) (X Y : Int) (ex : x.toInt = X) (ey : y.toInt = Y) (p1 p2 : Nat) (ho : 0 ≤ (pc : Int) + o) (hp : ((pc : Int) + o).toNat = p1) (hp2 : p2 = pc + 3) (q1 : icR cd X Y → Goes tb e below P T (mkF m p1 L S)) (q2 : ¬ icR cd X Y → Goes tb e below P T (mkF m p2 L S)) : Goes tb e below P T (mkF m pc L (.int y :: .int x :: S)) := by
  by_cases hc : icR cd X Y
  · exact g_icmpT h hx hd X Y ex ey hc p1 ho hp (q1 hc)
  · exact g_icmpF h hx hd X Y ex ey hc p2 hp2 (q2 hc)
theorem g_ifT (h : At T m c below) (hx : tb.exec = Jvm.exec) {cd : ClassFile.Cond} {x : Int32} {o : Int} (hd : decode c.code pc = .ok (.ifCond cd o, 3)) (X : Int) (ex : x.toInt = X) (hc : icR cd X 0) (p' : Nat) (ho : 0 ≤ (pc : Int) + o) (hp : ((pc : Int) + o).toNat = p') (q : Goes tb e below P T (mkF m p' L S)) : Goes tb e below P T (mkF m pc L (.int x :: S)) := q.via fun _ k => XS.ifYes h hx rfl rfl hd rfl ((if0 _ _).trans (icR_yes ex (by decide) hc)) ho hp k
theorem g_ifF (h : At T m c below) (hx : tb.exec = Jvm.exec) {cd : ClassFile.Cond} {x : Int32} {o : Int} (hd : decode c.code pc = .ok (.ifCond cd o, 3)) (X : Int) (ex : x.toInt = X) (hc : ¬ icR cd X 0) (p' : Nat) (hp : p' = pc + 3) (q : Goes tb e below P T (mkF m p' L S)) : Goes tb e below P T (mkF m pc L (.int x :: S)) := by
  subst hp; exact q.via fun _ k => XS.ifNo h hx rfl hd rfl ((if0 _ _).trans (icR_no ex (by decide) hc)) k
theorem g_if (h : At T m c below) (hx : tb.exec = Jvm.exec) {cd : ClassFile.Cond} {x : Int32} {o : Int} (hd : decode c.code pc = .ok (.ifCond cd o, 3)) (X : Int) (ex : x.toInt = X) (p1 p2 : Nat) (ho : 0 ≤ (pc : Int) + o) (hp : ((pc : Int) + o).toNat = p1) (hp2 : p2 = pc + 3) (q1 : icR cd X 0 → Goes tb e below P T (mkF m p1 L S)) (q2 : ¬ icR cd X 0 → Goes tb e below P T (mkF m p2 L S)) : Goes tb e below P T (mkF m pc L (.int x :: S)) := by
  by_cases hc : icR cd X 0
  · exact g_ifT h hx hd X ex hc p1 ho hp (q1 hc)
  · exact g_ifF h hx hd X ex hc p2 hp2 (q2 hc)
theorem g_ifnullT (h : At T m c below) (hx : tb.exec = Jvm.exec) {o : Int} (hd : decode c.code pc = .ok (.ifnull o, 3)) (p' : Nat) (ho : 0 ≤ (pc : Int) + o) (hp : ((pc : Int) + o).toNat = p') (q : Goes tb e below P T (mkF m p' L S)) : Goes tb e below P T (mkF m pc L (.null :: S)) := q.via fun _ k => XS.ifnullYes h hx rfl rfl hd rfl ho hp k
theorem g_ifnullF (h : At T m c below) (hx : tb.exec = Jvm.exec) {o : Int} {b : Addr} (hd : decode c.code pc = .ok (.ifnull o, 3)) (p' : Nat) (hp : p' = pc + 3) (q : Goes tb e below P T (mkF m p' L S)) : Goes tb e below P T (mkF m pc L (.ref b :: S)) := by
  subst hp; exact q.via fun _ k => XS.ifnullNo h hx rfl hd rfl k
theorem g_ifnonnullT (h : At T m c below) (hx : tb.exec = Jvm.exec) {o : Int} {b : Addr} (hd : decode c.code pc = .ok (.ifnonnull o, 3)) (p' : Nat) (ho : 0 ≤ (pc : Int) + o) (hp : ((pc : Int) + o).toNat = p') (q : Goes tb e below P T (mkF m p' L S)) : Goes tb e below P T (mkF m pc L (.ref b :: S)) := q.via fun _ k => XS.ifnonnullYes h hx rfl rfl hd rfl ho hp k
theorem g_ifnonnullF (h : At T m c below) (hx : tb.exec = Jvm.exec) {o : Int} (hd : decode c.code pc = .ok (.ifnonnull o, 3)) (p' : Nat) (hp : p' = pc + 3) (q : Goes tb e below P T (mkF m p' L S)) : Goes tb e below P T (mkF m pc L (.null :: S)) := by
  subst hp; exact q.via fun _ k => XS.ifnonnullNo h hx rfl hd rfl k
end G
/-! part B: the walk's state (St), one law a step that reads the tables or the heap -/
/-- md 0: no String constant is loaded; 1: some may be; 2: and a stack trace may be filled in -/
def EndOf (md : Nat) (s : State) (o : Outcome) (t : State) (L : List Loc) (k n : Nat) : Prop := (md = 0 → FrameEnd s o t L k n) ∧ (md ≠ 0 → ReturnedEndW s o t L k n)
def KnOf (md : Nat) (vm : Vm) (bl : List Frame) : Prop := md = 2 → vm.MethodsKnown ∧ vm.FramesKnown bl
def St (md : Nat) (p : Program) (l : Launch) (e : Env) (R : Room) (s : State) (m : MethodId) (args : Array Value) (below : List Frame) (meth : Method) (c : Code) (own : String) (Z : State) (EL : List (String × Nat)) (vm : Vm) (T : State) (h : Heap) (cells slots : Nat) : Prop :=
  ∃ locs k, Stand p l e R (s.setVm vm) m args below meth c T locs cells slots ∧ T.heap = h ∧ Z.Warmed39 vm ∧ vm.findClass own = some m.cls ∧ s.Since vm k ∧ k ≤ h.size ∧ CHr Z EL s.vm s.heap vm h ∧ Fr Z.heap.size locs ∧ Old Z Z.heap.size h ∧ (md = 0 → vm = s.vm ∧ EL = []) ∧ KnOf md vm below ∧ ∃ a0, EW Z a0 EL ∧ Old Z Z.heap.size s.heap
/-- what a body leaves, as its caller is told -/
def Pof (md : Nat) (Z : State) (EL : List (String × Nat)) (s : State) (rm : Room) (Q : Option Value → Heap → Prop) : Outcome → State → Prop :=
  fun o U => ∃ v L, o = .returned v ∧ (Q v U.heap ∧ Fr Z.heap.size L ∧ Old Z Z.heap.size U.heap) ∧ CHr Z EL s.vm s.heap U.vm U.heap ∧ EndOf md s o U L rm.cells rm.slots
/-- a contract -/
def Ct (md : Nat) (l : Launch) (Z : State) (EL : List (String × Nat)) (sf : List Addr) (y : MethodName) (bytes : ByteArray) (maxL : Nat) (ret : Option FieldType) (rm : Room) (as' : Array Value) (h : Heap) (Q : Option Value → Heap → Prop) : Prop :=
  ∀ ws, MetFree l y (head1 (Cond.code y bytes maxL ret :: ws) rm) (fun a U => a = as' ∧ Z.Warmed39 U.vm ∧ U.heap = h ∧ CHv Z EL U.vm h ∧ ∀ x ∈ sf, Safe Z EL U.vm h x) (fun _ _ bl s _ => KnOf md s.vm bl) (fun _ U o U' => Pof md Z EL U rm Q o U')
theorem own_is1 {z : Int32} {Q : Prop} (h : (z = 1 ∧ Q) ∨ (z = 0 ∧ ¬ Q)) (q : Q) : z = 1 := h.elim (fun r => r.1) fun r => absurd q r.2
theorem own_is0 {z : Int32} {Q : Prop} (h : (z = 1 ∧ Q) ∨ (z = 0 ∧ ¬ Q)) (q : ¬ Q) : z = 0 := h.elim (fun r => absurd r.2 q) fun r => r.1
theorem own_two {Q : Addr → Prop} {a b : Addr} (h1 : Q a) (h2 : Q b) : ∀ x ∈ [a, b], Q x := fun x hx => (List.mem_cons.mp hx).elim (fun e => e ▸ h1) fun e => (List.mem_singleton.mp e) ▸ h2
theorem own_ne_new {a b : Addr} {h : Heap} (g : b = h.size) (l : a < h.size) : b ≠ a := fun q => absurd l (by rw [← q, g]; exact Nat.lt_irrefl _)
section B
variable {md : Nat} {p : Program} {l : Launch} {e : Env} {R : Room} {s : State} {m : MethodId} {args : Array Value} {below : List Frame} {meth : Method} {c : Code} {own : String} {Z : State} {EL : List (String × Nat)} {vm vm' : Vm} {T : State} {h h' : Heap} {cells slots : Nat} {P : Outcome → State → Prop} {pc : Nat} {L : Array Slot} {K : List Value} {a0 : Array Value}
theorem safe_nil {x : Addr} : Safe Z [] vm h x := fun B => by obtain ⟨q, hq, -⟩ := B; cases hq
theorem chv_nil : CHv Z [] vm h := fun q hq => by cases hq
theorem chr_nil (g : h.size ≤ h'.size) : CHr Z [] vm h vm' h' := ⟨chv_nil, g, fun y B => by obtain ⟨q, hq, -⟩ := B; cases hq⟩
theorem ew_nil : EW Z a0 [] := EW.nil
theorem St.here (S : St md p l e R s m args below meth c own Z EL vm T h cells slots) : At T m c below := by obtain ⟨_, _, X, -⟩ := S; exact X.here
theorem St.old (S : St md p l e R s m args below meth c own Z EL vm T h cells slots) : Old Z Z.heap.size h := by obtain ⟨_, _, -, -, -, -, -, -, -, -, O, -⟩ := S; exact O
theorem St.warm (S : St md p l e R s m args below meth c own Z EL vm T h cells slots) : Z.Warmed39 vm := by obtain ⟨_, _, -, -, hZ, -⟩ := S; exact hZ
theorem St.chr (S : St md p l e R s m args below meth c own Z EL vm T h cells slots) : CHr Z EL s.vm s.heap vm h := by obtain ⟨_, _, -, -, -, -, -, -, C, -⟩ := S; exact C
theorem St.ew (S : St md p l e R s m args below meth c own Z EL vm T h cells slots) : ∃ a0, EW Z a0 EL := by obtain ⟨_, _, -, -, -, -, -, -, -, -, -, -, -, a0, E, -⟩ := S; exact ⟨a0, E⟩
theorem St.size (S : St md p l e R s m args below meth c own Z EL vm T h cells slots) : Z.heap.size ≤ h.size := S.old.2.1
theorem St.safeE (S : St md p l e R s m args below meth c own Z EL vm T h cells slots) {x : Addr} {C : String} (E : Exa Z h x C) (h1 : C ≠ "java/lang/String") (h2 : C ≠ "[B") : Safe Z EL vm h x := Safe.exa S.warm.alike E h1 h2
theorem St.safeA (S : St md p l e R s m args below meth c own Z EL vm T h cells slots) {x : Addr} {k : ClassId} {ty : FieldType} {z : Int32} {vs : List Value} {dv : Value} (F : Arv Z h x k ty z vs dv) (ht : ty ≠ .byte) : Safe Z EL vm h x := Safe.arv S.warm.alike F ht
/-- entering a body -/
theorem Ct.intro {y : MethodName} {bytes : ByteArray} {maxL : Nat} {ret : Option FieldType} {rm : Room} {as' : Array Value} {Q : Option Value → Heap → Prop} (hpl : plainFor y = true) (hO : Old Z Z.heap.size h) (hmd : md = 0 → EL = []) (hE : ∃ a0, EW Z a0 EL) {sf : List Addr}
    (body : ∀ p e s m below meth c T, p.tables.exec = Jvm.exec → c.code = bytes → c.maxLocals = maxL → meth.sig.returnType = ret → meth.name = y.name → meth.locks = false → (∀ x ∈ sf, Safe Z EL s.vm h x) →
      St md p l e rm s m as' below meth c y.cls Z EL s.vm T h 0 0 → Goes p.tables e below (Pof md Z EL s rm Q) T (entryFrame m as' maxL)) : Ct md l Z EL sf y bytes maxL ret rm as' h Q := by
  intro ws
  refine MetFree.of_bodySF hpl hisR ?_
  intro p e s m args below meth c s₁ Bd hml hP hK
  obtain ⟨rfl, hZ, rfl, hC, hsf⟩ := hP
  obtain ⟨a1, hE⟩ := hE
  have X0 : Stand p l e rm s m args below meth c s₁ [] 0 0 := Stand.of_body Bd
  have e0 : s₁.heap = s.heap := by rw [Bd.state]; rfl
  have hown : s.vm.findClass y.cls = some m.cls := findClass_of_methodNamed Bd.named
  refine body p e s m below meth c s₁ Bd.exec Bd.bytes hml Bd.returns (name_of_methodNamed Bd.named Bd.method).1 Bd.notSynchronized hsf ⟨[], 0, X0, e0, hZ, hown, (State.WarmedH.refl s).since 0, Nat.zero_le _, CHr.refl hC, Fr.nil _, hO, fun q => ⟨rfl, hmd q⟩, hK, a1, hE, hO⟩
/-- new -/
theorem St.new (S : St md p l e R s m args below meth c own Z EL vm T h cells slots) (hx : p.tables.exec = Jvm.exec) {C : String} {index n : Nat} (w : (Cond.classLink own index C).before a0 Z = true) (wi : (Cond.instantiable C n).before a0 Z = true) (wz : (Cond.initialized C).before a0 Z = true) (hd : decode c.code pc = .ok (.new index, 3)) (hc : cells + 1 ≤ R.cells) (hl : slots + n ≤ R.slots) (p' : Nat) (hp : p' = pc + 3)
    (q : ∀ T' h' a, St md p l e R s m args below meth c own Z EL vm T' h' (cells + 1) (slots + n) → a = h.size → Ext h h' → Exa Z h' a C → (∀ {O nm d : String} {ty : FieldType}, Laid Z a0 C O nm d → parseFieldDescriptor d = some ty → Fld Z h' a O nm d (defaultValue ty)) → Safe Z EL vm h' a → CHr Z EL vm h vm h' → (∃ cell : Cell, h'[a]? = some cell ∧ cell.vm = .none ∧ cell.monitor = {}) → Goes p.tables e below P T' (mkF m p' L (.ref a :: K))) : Goes p.tables e below P T (mkF m pc L K) := by
  subst hp
  obtain ⟨locs, k, X, eT, hZ, hown, hS, hk, hC, hF, hO, h0, h2, hE⟩ := S
  obtain ⟨T', h', X', e', E', A', D', U', st⟩ := newO X hx hZ hown w wi wz eT (g := mkF m pc L K) rfl hd hc hl
  exact (q T' h' h.size ⟨locs, k, X', e', hZ, hown, hS, Nat.le_trans hk E'.1, hC.trans (CHr.ext E' hC.1), hF, hO.ext E', h0, h2, hE⟩ rfl E' A' D' (Safe.ext E' hC.1 (Safe.new (Nat.le_refl _))) (CHr.ext E' hC.1) U').via st
theorem St.getF (S : St md p l e R s m args below meth c own Z EL vm T h cells slots) (hx : p.tables.exec = Jvm.exec) {R0 O n d host : String} {index : Nat} (w : (Cond.fieldLink own index R0 n d).before a0 Z = true ∨ (Cond.fieldLinkNest own index R0 n d host).before a0 Z = true) (via : Via Z R0 O n d) {a : Addr} {v : Value} (F : Fld Z h a O n d v) (hd : decode c.code pc = .ok (.getfield index, 3)) (p' : Nat) (hp : p' = pc + 3)
    (q : ∀ T', St md p l e R s m args below meth c own Z EL vm T' h cells slots → Goes p.tables e below P T' (mkF m p' L (v :: K))) : Goes p.tables e below P T (mkF m pc L (.ref a :: K)) := by
  subst hp
  obtain ⟨locs, k, X, eT, hZ, hown, r⟩ := S
  obtain ⟨T', X', e', st⟩ := RoadKit.getF X hx hZ hown w via eT F (g := mkF m pc L (.ref a :: K)) rfl rfl hd
  exact (q T' ⟨locs, k, X', e', hZ, hown, r⟩).via st
theorem St.putF (S : St md p l e R s m args below meth c own Z EL vm T h cells slots) (hx : p.tables.exec = Jvm.exec) {R0 O n d host C : String} {index kk : Nat} {ty : FieldType} (w : (Cond.fieldLink own index R0 n d).before a0 Z = true ∨ (Cond.fieldLinkNest own index R0 n d host).before a0 Z = true) (via : Via Z R0 O n d) {a : Addr} {v u : Value} (F : Fld Z h a O n d u) (E : Exa Z h a C)
    (Ly : (Cond.lays C O n d).before a0 Z = true ∨ ((Cond.laysFinal C O n d).before a0 Z = true ∧ own = O ∧ meth.name = "<init>")) (wi : (Cond.instantiable C kk).before a0 Z = true) (hty : parseFieldDescriptor d = some ty) (hn : narrow ty v = v) (hf : fits ty v = true) (sf : Safe Z EL vm h a) (ga : Z.heap.size ≤ a) (hd : decode c.code pc = .ok (.putfield index, 3)) (p' : Nat) (hp : p' = pc + 3)
    (q : ∀ T' h', St md p l e R s m args below meth c own Z EL vm T' h' cells slots → Wr h h' a (Jvm.RoadKit.slotOf Z O n d) v → CHr Z EL vm h vm h' → Goes p.tables e below P T' (mkF m p' L K)) : Goes p.tables e below P T (mkF m pc L (v :: .ref a :: K)) := by
  subst hp
  obtain ⟨locs, k, X, eT, hZ, hown, hS, hk, hC, hF, hO, h0, h2, hE⟩ := S
  obtain ⟨T', h', X', e', W', st⟩ := RoadKit.putF X hx hZ hown w via eT F E Ly wi hty hn hf (g := mkF m pc L (v :: .ref a :: K)) rfl rfl hd
  have hR := CHr.wr W' sf hC.1
  exact (q T' h' ⟨_, k, X', e', hZ, hown, hS, Nat.le_trans hk hR.2.1, hC.trans hR, Fr.snoc X' hF ga, hO.wr W' ga, h0, h2, hE⟩ W' hR).via st
theorem St.getS (S : St md p l e R s m args below meth c own Z EL vm T h cells slots) (hx : p.tables.exec = Jvm.exec) {R0 O n d host : String} {index : Nat} (w : (Cond.fieldLink own index R0 n d).before a0 Z = true ∨ (Cond.fieldLinkNest own index R0 n d host).before a0 Z = true) (via : Via Z R0 O n d) {v : Value} (F : Sta Z h O n d v) (hd : decode c.code pc = .ok (.getstatic index, 3)) (p' : Nat) (hp : p' = pc + 3)
    (q : ∀ T', St md p l e R s m args below meth c own Z EL vm T' h cells slots → Goes p.tables e below P T' (mkF m p' L (v :: K))) : Goes p.tables e below P T (mkF m pc L K) := by
  subst hp
  obtain ⟨locs, k, X, eT, hZ, hown, r⟩ := S
  obtain ⟨T', X', e', st⟩ := getS2 X hx hZ hown w via eT F (g := mkF m pc L K) rfl hd
  exact (q T' ⟨locs, k, X', e', hZ, hown, r⟩).via st
theorem St.castY (S : St md p l e R s m args below meth c own Z EL vm T h cells slots) (hx : p.tables.exec = Jvm.exec) {C : String} {index : Nat} (w : (Cond.classLink own index C).before a0 Z = true) {a : Addr} (F : Ins Z h a C true) (hd : decode c.code pc = .ok (.checkcast index, 3)) (p' : Nat) (hp : p' = pc + 3)
    (q : ∀ T', St md p l e R s m args below meth c own Z EL vm T' h cells slots → Goes p.tables e below P T' (mkF m p' L (.ref a :: K))) : Goes p.tables e below P T (mkF m pc L (.ref a :: K)) := by
  subst hp
  obtain ⟨locs, k, X, eT, hZ, hown, r⟩ := S
  obtain ⟨T', X', e', st⟩ := RoadKit.castY X hx hZ hown w eT F (g := mkF m pc L (.ref a :: K)) rfl rfl hd
  exact (q T' ⟨locs, k, X', e', hZ, hown, r⟩).via st
theorem St.instY (S : St md p l e R s m args below meth c own Z EL vm T h cells slots) (hx : p.tables.exec = Jvm.exec) {C : String} {index : Nat} (w : (Cond.classLink own index C).before a0 Z = true) {a : Addr} (F : Ins Z h a C true) (hd : decode c.code pc = .ok (.instanceof index, 3)) (p' : Nat) (hp : p' = pc + 3)
    (q : ∀ T', St md p l e R s m args below meth c own Z EL vm T' h cells slots → Goes p.tables e below P T' (mkF m p' L (.int 1 :: K))) : Goes p.tables e below P T (mkF m pc L (.ref a :: K)) := by
  subst hp
  obtain ⟨locs, k, X, eT, hZ, hown, r⟩ := S
  obtain ⟨T', X', e', st⟩ := RoadKit.instY X hx hZ hown w eT F (g := mkF m pc L (.ref a :: K)) rfl rfl hd
  exact (q T' ⟨locs, k, X', e', hZ, hown, r⟩).via st
theorem St.ldcI (S : St md p l e R s m args below meth c own Z EL vm T h cells slots) (hx : p.tables.exec = Jvm.exec) {index : Nat} {v : Int32} (w : (Cond.constant own index v).before a0 Z = true) (hd : decode c.code pc = .ok (.ldc index, 2)) (p' : Nat) (hp : p' = pc + 2)
    (q : Goes p.tables e below P T (mkF m p' L (.int v :: K))) : Goes p.tables e below P T (mkF m pc L K) := by
  subst hp
  obtain ⟨locs, k, X, eT, hZ, hown, r⟩ := S
  exact q.via fun t k => X.ldcInt hx hown (mvT (s := s.setVm vm) hZ w) (g := mkF m pc L K) rfl hd t k
theorem St.ldcJ (S : St md p l e R s m args below meth c own Z EL vm T h cells slots) (hx : p.tables.exec = Jvm.exec) {index : Nat} {v : Int64} (w : (Cond.constantLong own index v).before a0 Z = true) (hd : decode c.code pc = .ok (.ldc2_w index, 3)) (p' : Nat) (hp : p' = pc + 3)
    (q : Goes p.tables e below P T (mkF m p' L (.long v :: K))) : Goes p.tables e below P T (mkF m pc L K) := by
  subst hp
  obtain ⟨locs, k, X, eT, hZ, hown, r⟩ := S
  exact q.via fun t k => X.ldc2Long hx hown (mvT (s := s.setVm vm) hZ w) (g := mkF m pc L K) rfl hd t k
/-- newarray of a primitive kind -/
theorem St.newA (S : St md p l e R s m args below meth c own Z EL vm T h cells slots) (hx : p.tables.exec = Jvm.exec) {aty : ArrayType} (w : (Cond.arrayClass (newarray.typeOf aty)).before a0 Z = true) {n : Int32} (hn : ¬ n < 0) {cap : Nat} (hcap : n.toNatClampNeg ≤ cap) (hb : cap * 8 ≤ 536870912) (hd : decode c.code pc = .ok (.newarray aty, 2)) (hc : cells + 1 ≤ R.cells) (hl : slots + cap ≤ R.slots) (p' : Nat) (hp : p' = pc + 2)
    (q : ∀ T' h' a k, St md p l e R s m args below meth c own Z EL vm T' h' (cells + 1) (slots + cap) → a = h.size → Ext h h' → Arv Z h' a k (newarray.typeOf aty) n (List.replicate cap (defaultValue (newarray.typeOf aty))) (defaultValue (newarray.typeOf aty)) → Safe Z EL vm h' a → CHr Z EL vm h vm h' → Goes p.tables e below P T' (mkF m p' L (.ref a :: K))) : Goes p.tables e below P T (mkF m pc L (.int n :: K)) := by
  subst hp
  obtain ⟨locs, k, X, eT, hZ, hown, hS, hk, hC, hF, hO, h0, h2, hE⟩ := S
  obtain ⟨T', h', cA, X', e', E', A', st⟩ := newP X hx hZ w eT (g := mkF m pc L (.int n :: K)) rfl hd rfl hn hcap hb hc hl
  exact (q T' h' h.size cA ⟨locs, k, X', e', hZ, hown, hS, Nat.le_trans hk E'.1, hC.trans (CHr.ext E' hC.1), hF, hO.ext E', h0, h2, hE⟩ rfl E' ((Arv.new A' hn).pad (pad_rep [] _ cap)) (Safe.ext E' hC.1 (Safe.new (Nat.le_refl _))) (CHr.ext E' hC.1)).via st
/-- castore -/
theorem St.stC (S : St md p l e R s m args below meth c own Z EL vm T h cells slots) (hx : p.tables.exec = Jvm.exec) {a : Addr} {k : ClassId} {z j x : Int32} {vs : List Value} {dv : Value} (A : Arv Z h a k .char z vs dv) (i : Nat) (hj : ¬ j < 0 ∧ j < z) (hi : j.toNatClampNeg = i) (hv : i < vs.length) (ga : Z.heap.size ≤ a) (x' : Int32) (hx' : nar .char x = x') (hd : decode c.code pc = .ok (.castore, 1)) (p' : Nat) (hp : p' = pc + 1)
    (q : ∀ T' h', St md p l e R s m args below meth c own Z EL vm T' h' cells slots → Wr h h' a i (.int x') → Arv Z h' a k .char z (vs.set i (.int x')) dv → CHr Z EL vm h vm h' → Goes p.tables e below P T' (mkF m p' L K)) : Goes p.tables e below P T (mkF m pc L (.int x :: .int j :: .ref a :: K)) := by
  subst hp hx'
  have sf := S.safeA A (by decide)
  obtain ⟨locs, kk, X, eT, hZ, hown, hS, hk, hC, hF, hO, h0, h2, hE⟩ := S
  obtain ⟨cl, A1, A2, A3, A4, A5, A6⟩ := A
  obtain ⟨T', h', X', e', W', st⟩ := RoadKit.stC X hx hZ eT A1 (j := j) (inb_of A3 hj) (g := mkF m pc L (.int x :: .int j :: .ref a :: K)) rfl rfl hd
  have hR := CHr.wr W' sf hC.1
  exact (q T' h' ⟨_, kk, X', e', hZ, hown, hS, Nat.le_trans hk hR.2.1, hC.trans hR, Fr.snoc X' hF ga, hO.wr W' ga, h0, h2, hE⟩ (by rw [← hi]; exact W') (Arv.set A1 A2 A3 A4 A5 A6 (fits_nar_char x) W' i hi hv) hR).via st
theorem St.len (S : St md p l e R s m args below meth c own Z EL vm T h cells slots) (hx : p.tables.exec = Jvm.exec) {a : Addr} {k : ClassId} {ty : FieldType} {z : Int32} {vs : List Value} {dv : Value} (A : Arv Z h a k ty z vs dv) (hd : decode c.code pc = .ok (.arraylength, 1)) (p' : Nat) (hp : p' = pc + 1)
    (q : Goes p.tables e below P T (mkF m p' L (.int z :: K))) : Goes p.tables e below P T (mkF m pc L (.ref a :: K)) := by
  subst hp
  obtain ⟨locs, kk, X, eT, hZ, hown, r⟩ := S
  obtain ⟨cl, A1, A2, A3, A4, A5, A6⟩ := A
  refine q.via fun t k => X.arraylength hx (by rw [eT]; exact A1.1) (State.isArrayOf_alike (T := s.setVm vm) hZ.alike A1.2.1) (g := mkF m pc L (.ref a :: K)) rfl rfl hd t ?_
  rw [len_of A3 A4]; exact k
end B

/-! part C: calls, String constants, returns -/
abbrev PreN (R : Room) (as' : Array Value) (h : Heap) (k n : Nat) : Pt → Array Value → Prop := fun A a => a = as' ∧ A.U.heap = h ∧ A.cells + k ≤ R.cells ∧ A.slots + n ≤ R.slots
abbrev PostN (Q : Option Value → Heap → List Loc → Prop) (k n : Nat) : Pt → Array Value → Option Value → Pt → Prop := fun A _ v B => ∃ L, Q v B.U.heap L ∧ B.locs = A.locs ++ L ∧ B.cells = A.cells + k ∧ B.slots = A.slots + n
abbrev PostW (Q : Option Value → Heap → List Loc → Prop) (k n : Nat) (Z : State) (EL : List (String × Nat)) (vm : Vm) (h : Heap) : Pt → Array Value → Option Value → Pt → Prop := fun A _ v B => ∃ L, Q v B.U.heap L ∧ B.locs = A.locs ++ L ∧ B.cells = A.cells + k ∧ B.slots = A.slots + n ∧ CHr Z EL vm h B.U.vm B.U.heap
section C
variable {md : Nat} {p : Program} {l : Launch} {e : Env} {R : Room} {s : State} {m : MethodId} {args : Array Value} {below : List Frame} {meth : Method} {c : Code} {own : String} {Z : State} {EL : List (String × Nat)} {vm : Vm} {T : State} {h : Heap} {cells slots : Nat} {P : Outcome → State → Prop} {pc : Nat} {L : Array Slot} {K : List Value} {a0 : Array Value} {y : MethodName} {bytes : ByteArray} {maxL : Nat} {ret : Option FieldType} {rm : Room} {as' : Array Value} {Q : Option Value → Heap → Prop} {W len : Nat}
theorem nosf : ∀ x ∈ ([] : List Addr), x < h.size ∧ Safe Z EL vm h x := fun _ q => nomatch q
theorem ctBack {sf : List Addr} (hM : Ct 0 l Z [] sf y bytes maxL ret rm as' h Q) (hZ : Z.Warmed39 s.vm) (wc : (Cond.code y bytes maxL ret).before a0 Z = true) (wz : (Cond.initialized y.cls).before a0 Z = true) (hf : rm.frames + 1 ≤ R.frames) (hl : W + (maxL + 11) + rm.locals ≤ R.locals) :
    Back l R p e below s args y len W (PreN R as' h rm.cells rm.slots) (PostN (fun v h' L => Q v h' ∧ Fr Z.heap.size L ∧ Old Z Z.heap.size h' ∧ h.size ≤ h'.size) rm.cells rm.slots) := by
  have hM' : MetFree l y (head1 [Cond.code y bytes maxL ret] rm) (fun a U => a = as' ∧ Z.Warmed39 U.vm ∧ U.heap = h) (fun _ _ _ _ _ => True) (fun _ U o U' => ∃ v L, o = .returned v ∧ (Q v U'.heap ∧ Fr Z.heap.size L ∧ Old Z Z.heap.size U'.heap ∧ h.size ≤ U'.heap.size) ∧ FrameEnd U o U' L rm.cells rm.slots) := fun p e ha hc hk s m args below hf happ hP hK => by
    obtain ⟨n, o, h1, h2, h3, v, L, r1, r2, r3, r4⟩ := hM [] p e ha hc hk s m args below hf happ ⟨hP.1, hP.2.1, hP.2.2, chv_nil, fun _ _ => safe_nil⟩ (fun q => by cases q)
    exact ⟨n, o, h1, h2, h3, v, L, r1, ⟨r2.1, r2.2.1, r2.2.2, by rw [← hP.2.2]; exact r3.2.1⟩, r4.1 rfl⟩
  exact backOf (Q := fun v h' L => Q v h' ∧ Fr Z.heap.size L ∧ Old Z Z.heap.size h' ∧ h.size ≤ h'.size) hM' hZ wc wz hf hl
theorem ctBackS {sf : List Addr} (hmd : md ≠ 0) (hM : Ct md l Z EL sf y bytes maxL ret rm as' h Q) (hZ : Z.Warmed39 vm) (wc : (Cond.code y bytes maxL ret).before a0 Z = true) (wz : (Cond.initialized y.cls).before a0 Z = true) (hf : rm.frames + 1 ≤ R.frames) (hl : W + (maxL + 11) + rm.locals ≤ R.locals) {a1 : Array Value} (hEL : EW Z a1 EL) (H : CHv Z EL vm h) (hkn : KnOf md vm below) (hsf : ∀ x ∈ sf, x < h.size ∧ Safe Z EL vm h x) :
    BackS l R p e below (s.setVm vm) args y len W (PreN R as' h rm.cells rm.slots) (PostW (fun v h' L => Q v h' ∧ Fr Z.heap.size L ∧ Old Z Z.heap.size h') rm.cells rm.slots Z EL vm h) :=
  BackS.of_freeWG (bytes := bytes) (maxL := maxL) (ret := ret) (E := fun _ first o t L k n => k = rm.cells ∧ n = rm.slots ∧ (∃ v, o = .returned v ∧ Q v t.heap ∧ Fr Z.heap.size L ∧ Old Z Z.heap.size t.heap) ∧ CHr Z EL first.vm first.heap t.vm t.heap) (hM []) hf hl
    (fun m meth c A a Y hp => have hU : Z.Warmed39 A.U.vm := wtrans (s := s.setVm vm) hZ Y.warmed
      ⟨by show (Cond.and _ .tt).before a A.U = true; rw [Cond.before_and, mv hU wc]; rfl, mv hU wc, mv hU wz, hp.2.2.1, hp.2.2.2⟩)
    (fun m meth c A a g mk Y hp => ⟨hp.1, wtrans (s := s.setVm vm) hZ Y.warmed, hp.2.1, (CHv.at Y hZ hEL H).1, fun x hx => (CHv.at Y hZ hEL H).safe (hsf x hx).1 (hsf x hx).2⟩) (fun m meth c A a g mk Y _ hg q2 => known_frames Y hg (hkn q2).1 (hkn q2).2)
    (fun _ _ _ _ ⟨v, L, h1, h2, h3, h4⟩ => ⟨L, _, _, h4.2 hmd, rfl, rfl, ⟨v, h1, h2⟩, h3⟩)
    (fun m meth c A a g mk v t L k n Y hp _ _ ⟨e1, e2, ⟨v', e3, e4⟩, e5⟩ => by
      cases e3; subst e1 e2
      refine ⟨L, e4, rfl, rfl, rfl, (CHv.at Y hZ hEL H).trans ?_⟩
      rw [← hp.2.1]; exact e5)
theorem St.callSN (S : St md p l e R s m args below meth c own Z EL vm T h cells slots) (hx : p.tables.exec = Jvm.exec) {index : Nat}  (w1 : (Cond.methodLink own index y).before a0 Z = true) (w2 : (Cond.static y).before a0 Z = true) (w3 : (Cond.initialized y.cls).before a0 Z = true) (w4 : (Cond.code y bytes maxL ret).before a0 Z = true) (hy : y.cls ≠ "java/lang/invoke/MethodHandle" ∧ y.cls ≠ "java/lang/invoke/VarHandle") {k n : Nat} {QN : Option Value → Heap → List Loc → Prop} (hK : Back l R p e below (s.setVm vm) args y 3 W (PreN R as' h k n) (PostN QN k n)) (hQ : ∀ v h' Lc, QN v h' Lc → Fr Z.heap.size Lc ∧ Old Z Z.heap.size h' ∧ CHr Z EL vm h vm h') (hml : L.size = c.maxLocals) (argsL rest : List Value) (hlen : ∀ sig, parseMethodDescriptor y.desc = some sig → argsL.length = sig.parameters.length) (hst : K = argsL.reverse ++ rest) (has : argsL.toArray = as') (hW : (rest.map fun v => v.category).sum ≤ W) (hd : decode c.code pc = .ok (.invokestatic index, 3)) (hc : cells + k ≤ R.cells) (hs : slots + n ≤ R.slots) (p' : Nat) (hp : p' = pc + 3)
    (q : ∀ v T' h' Lc, St md p l e R s m args below meth c own Z EL vm T' h' (cells + k) (slots + n) → QN v h' Lc → CHr Z EL vm h vm h' → Goes p.tables e below P T' (mkF m p' L (v.toList ++ rest))) : Goes p.tables e below P T (mkF m pc L K) := by
  subst hp hst has
  obtain ⟨locs, k0, X, eT, hZ, hown, hS, hk, hC, hF, hO, h0, h2, hE⟩ := S
  obtain ⟨v, vm1, ⟨T', L', k', n'⟩, -, X', ⟨Lc, hq, l', y', z'⟩, st⟩ := Jvm.LawKit.callS X hx hown (mvT (s := s.setVm vm) hZ w1) (mvT (s := s.setVm vm) hZ w2) (mvT (s := s.setVm vm) hZ w3) (mvT (s := s.setVm vm) hZ w4) hy hK (g := mkF m pc L (argsL.reverse ++ rest)) rfl hml  (argsL := argsL) (rest := rest) hlen rfl (by show 2 * 0 + _ ≤ _; omega) hd (fun _ _ => ⟨rfl, eT, hc, hs⟩)
  dsimp only [Pt.U, Pt.locs, Pt.cells, Pt.slots] at X' l' y' z' st hq
  subst l' y' z'
  obtain ⟨r1, r2, r3⟩ := hQ v _ Lc hq
  exact (q v T' T'.heap Lc ⟨_, k0, X', rfl, hZ, hown, hS, Nat.le_trans hk r3.2.1, hC.trans r3, hF.app r1, r2, h0, h2, hE⟩ hq r3).via st
theorem St.callS {sf : List Addr} (S : St md p l e R s m args below meth c own Z EL vm T h cells slots) (hx : p.tables.exec = Jvm.exec) {index : Nat}  (w1 : (Cond.methodLink own index y).before a0 Z = true) (w2 : (Cond.static y).before a0 Z = true) (w3 : (Cond.initialized y.cls).before a0 Z = true) (w4 : (Cond.code y bytes maxL ret).before a0 Z = true) (hy : y.cls ≠ "java/lang/invoke/MethodHandle" ∧ y.cls ≠ "java/lang/invoke/VarHandle") (hM : Ct md l Z EL sf y bytes maxL ret rm as' h Q) (hsf : ∀ x ∈ sf, x < h.size ∧ Safe Z EL vm h x) (hf : rm.frames + 1 ≤ R.frames) (hl : W + (maxL + 11) + rm.locals ≤ R.locals) (hml : L.size = c.maxLocals) (argsL rest : List Value) (hlen : ∀ sig, parseMethodDescriptor y.desc = some sig → argsL.length = sig.parameters.length) (hst : K = argsL.reverse ++ rest) (has : argsL.toArray = as') (hW : (rest.map fun v => v.category).sum ≤ W) (hd : decode c.code pc = .ok (.invokestatic index, 3)) (hc : cells + rm.cells ≤ R.cells) (hs : slots + rm.slots ≤ R.slots) (p' : Nat) (hp : p' = pc + 3)
    (q : ∀ v vm' T' h', St md p l e R s m args below meth c own Z EL vm' T' h' (cells + rm.cells) (slots + rm.slots) → Q v h' → CHr Z EL vm h vm' h' → Goes p.tables e below P T' (mkF m p' L (v.toList ++ rest))) : Goes p.tables e below P T (mkF m pc L K) := by
  by_cases hmd : md = 0
  · subst hmd
    have hEL : EL = [] := by obtain ⟨_, _, -, -, -, -, -, -, -, -, -, h0, -⟩ := S; exact (h0 rfl).2
    subst hEL
    have hZ := S.warm
    exact St.callSN S hx w1 w2 w3 w4 hy (ctBack (s := s.setVm vm) hM hZ w4 w3 hf hl) (fun v h' Lc r => ⟨r.2.1, r.2.2.1, chr_nil r.2.2.2⟩) hml argsL rest hlen hst has hW hd hc hs p' hp (fun v T' h' Lc S' r R' => q v vm T' h' S' r.1 R')
  · subst hp hst has
    obtain ⟨locs, k0, X, eT, hZ, hown, hS, hk, hC, hF, hO, h0, h2, a1, hE⟩ := S
    have hK := ctBackS (s := s) (R := R) (p := p) (e := e) (below := below) (args := args) (W := W) (len := 3) hmd hM hZ w4 w3 hf hl hE.1 hC.1 h2 hsf
    obtain ⟨v, vm1, ⟨T', L', k', n'⟩, -, X', hS2, hgr, ⟨Lc, ⟨hq, r1, r2⟩, l', y', z', hR⟩, st⟩ := callSS X hx hown (mvT (s := s.setVm vm) hZ w1) (mvT (s := s.setVm vm) hZ w2) (mvT (s := s.setVm vm) hZ w3) (mvT (s := s.setVm vm) hZ w4) hy hK (g := mkF m pc L (argsL.reverse ++ rest)) rfl hml  (argsL := argsL) (rest := rest) hlen rfl (by show 2 * 0 + _ ≤ _; omega) hd (fun _ _ => ⟨rfl, eT, hc, hs⟩)
    dsimp only [Pt.U, Pt.locs, Pt.cells, Pt.slots] at X' l' y' z' st hq hS2 hgr hR
    subst l' y' z'
    obtain ⟨Y1, Y2, Y3, Y4⟩ := rebS hS (n1 := T.heap.size) (by rw [eT]; exact hk) X' hS2 hgr hZ hown
    exact (q v T'.vm T' T'.heap ⟨_, _, Y1, rfl, Y3, Y4, Y2, Nat.le_refl _, hC.trans hR, hF.app r1, r2, fun z => absurd z hmd, fun z => ⟨(h2 z).1.alikeC hS2.1.alike, (h2 z).2.alikeC hS2.1.alike⟩, a1, hE⟩ hq hR).to st
theorem St.callIN (S : St md p l e R s m args below meth c own Z EL vm T h cells slots) (hx : p.tables.exec = Jvm.exec) {index : Nat} {a : Addr} (hy1 : y.name = "<init>") (w1 : (Cond.methodLink own index y).before a0 Z = true) (w2 : (Cond.instanceMethod y).before a0 Z = true) (w4 : (Cond.code y bytes maxL none).before a0 Z = true) (hy : y.cls ≠ "java/lang/invoke/MethodHandle" ∧ y.cls ≠ "java/lang/invoke/VarHandle") {k n : Nat} {QN : Option Value → Heap → List Loc → Prop} (hK : Back l R p e below (s.setVm vm) args y 3 W (PreN R as' h k n) (PostN QN k n)) (hQ : ∀ v h' Lc, QN v h' Lc → Fr Z.heap.size Lc ∧ Old Z Z.heap.size h' ∧ CHr Z EL vm h vm h') (hml : L.size = c.maxLocals) (argsL rest : List Value) (hlen : ∀ sig, parseMethodDescriptor y.desc = some sig → argsL.length = sig.parameters.length) (hst : K = argsL.reverse ++ .ref a :: rest) (has : (.ref a :: argsL).toArray = as') (hW : (rest.map fun v => v.category).sum ≤ W) (hd : decode c.code pc = .ok (.invokespecial index, 3)) (hc : cells + k ≤ R.cells) (hs : slots + n ≤ R.slots) (p' : Nat) (hp : p' = pc + 3)
    (q : ∀ v T' h' Lc, St md p l e R s m args below meth c own Z EL vm T' h' (cells + k) (slots + n) → QN v h' Lc → CHr Z EL vm h vm h' → Goes p.tables e below P T' (mkF m p' L (v.toList ++ rest))) : Goes p.tables e below P T (mkF m pc L K) := by
  subst hp hst has
  obtain ⟨locs, k0, X, eT, hZ, hown, hS, hk, hC, hF, hO, h0, h2, hE⟩ := S
  obtain ⟨v, vm1, ⟨T', L', k', n'⟩, -, X', ⟨Lc, hq, l', y', z'⟩, st⟩ := X.specialBack hx hy1 hown (mvT (s := s.setVm vm) hZ w1) (mvT (s := s.setVm vm) hZ w2) (mvT (s := s.setVm vm) hZ w4) hy hK (g := mkF m pc L (argsL.reverse ++ .ref a :: rest)) rfl hml (Steps.refl _) (argsL := argsL) (rest := rest) hlen rfl (by show 2 * 0 + _ ≤ _; omega) hd (fun _ _ => ⟨rfl, eT, hc, hs⟩)
  dsimp only [Pt.U, Pt.locs, Pt.cells, Pt.slots] at X' l' y' z' st hq
  subst l' y' z'
  obtain ⟨r1, r2, r3⟩ := hQ v _ Lc hq
  exact (q v T' T'.heap Lc ⟨_, k0, X', rfl, hZ, hown, hS, Nat.le_trans hk r3.2.1, hC.trans r3, hF.app r1, r2, h0, h2, hE⟩ hq r3).to st
theorem St.callI {sf : List Addr} (S : St md p l e R s m args below meth c own Z EL vm T h cells slots) (hx : p.tables.exec = Jvm.exec) {index : Nat} {a : Addr} (hy1 : y.name = "<init>") (w1 : (Cond.methodLink own index y).before a0 Z = true) (w2 : (Cond.instanceMethod y).before a0 Z = true) (w4 : (Cond.code y bytes maxL none).before a0 Z = true) (hy : y.cls ≠ "java/lang/invoke/MethodHandle" ∧ y.cls ≠ "java/lang/invoke/VarHandle") (wz : (Cond.initialized y.cls).before a0 Z = true) (hM : Ct md l Z EL sf y bytes maxL none rm as' h Q) (hsf : ∀ x ∈ sf, x < h.size ∧ Safe Z EL vm h x) (hf : rm.frames + 1 ≤ R.frames) (hl : W + (maxL + 11) + rm.locals ≤ R.locals) (hml : L.size = c.maxLocals) (argsL rest : List Value) (hlen : ∀ sig, parseMethodDescriptor y.desc = some sig → argsL.length = sig.parameters.length) (hst : K = argsL.reverse ++ .ref a :: rest) (has : (.ref a :: argsL).toArray = as') (hW : (rest.map fun v => v.category).sum ≤ W) (hd : decode c.code pc = .ok (.invokespecial index, 3)) (hc : cells + rm.cells ≤ R.cells) (hs : slots + rm.slots ≤ R.slots) (p' : Nat) (hp : p' = pc + 3)
    (q : ∀ v vm' T' h', St md p l e R s m args below meth c own Z EL vm' T' h' (cells + rm.cells) (slots + rm.slots) → Q v h' → CHr Z EL vm h vm' h' → Goes p.tables e below P T' (mkF m p' L (v.toList ++ rest))) : Goes p.tables e below P T (mkF m pc L K) := by
  by_cases hmd : md = 0
  · subst hmd
    have hEL : EL = [] := by obtain ⟨_, _, -, -, -, -, -, -, -, -, -, h0, -⟩ := S; exact (h0 rfl).2
    subst hEL
    have hZ := S.warm
    exact St.callIN S hx hy1 w1 w2 w4 hy (ctBack (s := s.setVm vm) hM hZ w4 wz hf hl) (fun v h' Lc r => ⟨r.2.1, r.2.2.1, chr_nil r.2.2.2⟩) hml argsL rest hlen hst has hW hd hc hs p' hp (fun v T' h' Lc S' r R' => q v vm T' h' S' r.1 R')
  · subst hp hst has
    obtain ⟨locs, k0, X, eT, hZ, hown, hS, hk, hC, hF, hO, h0, h2, a1, hE⟩ := S
    have hK := ctBackS (s := s) (R := R) (p := p) (e := e) (below := below) (args := args) (W := W) (len := 3) hmd hM hZ w4 wz hf hl hE.1 hC.1 h2 hsf
    obtain ⟨v, vm1, ⟨T', L', k', n'⟩, -, X', hS2, hgr, ⟨Lc, ⟨hq, r1, r2⟩, l', y', z', hR⟩, st⟩ := X.specialBackS hx hy1 hown (mvT (s := s.setVm vm) hZ w1) (mvT (s := s.setVm vm) hZ w2) (mvT (s := s.setVm vm) hZ w4) hy hK (g := mkF m pc L (argsL.reverse ++ .ref a :: rest)) rfl hml (Steps.refl _) (argsL := argsL) (rest := rest) hlen rfl (by show 2 * 0 + _ ≤ _; omega) hd (fun _ _ => ⟨rfl, eT, hc, hs⟩)
    dsimp only [Pt.U, Pt.locs, Pt.cells, Pt.slots] at X' l' y' z' st hq hS2 hgr hR
    subst l' y' z'
    obtain ⟨Y1, Y2, Y3, Y4⟩ := rebS hS (n1 := T.heap.size) (by rw [eT]; exact hk) X' hS2 hgr hZ hown
    exact (q v T'.vm T' T'.heap ⟨_, _, Y1, rfl, Y3, Y4, Y2, Nat.le_refl _, hC.trans hR, hF.app r1, r2, fun z => absurd z hmd, fun z => ⟨(h2 z).1.alikeC hS2.1.alike, (h2 z).2.alikeC hS2.1.alike⟩, a1, hE⟩ hq hR).to st
theorem St.callVN (S : St md p l e R s m args below meth c own Z EL vm T h cells slots) (hx : p.tables.exec = Jvm.exec) {index : Nat} {a : Addr} {C : String} {x : MethodName} (w1 : (Cond.methodLink own index x).before a0 Z = true) (w2 : (Cond.declares x).before a0 Z = true) (nf : NotFace (s.setVm vm) x) (w5 : (Cond.selects C x y).before a0 Z = true) (w6 : (Cond.instanceMethod y).before a0 Z = true) (hy : x.cls ≠ "java/lang/invoke/MethodHandle" ∧ x.cls ≠ "java/lang/invoke/VarHandle") (E : Exa Z h a C) {k n : Nat} {QN : Option Value → Heap → List Loc → Prop} (hK : Back l R p e below (s.setVm vm) args y 3 W (PreN R as' h k n) (PostN QN k n)) (hQ : ∀ v h' Lc, QN v h' Lc → Fr Z.heap.size Lc ∧ Old Z Z.heap.size h' ∧ CHr Z EL vm h vm h') (hml : L.size = c.maxLocals) (argsL rest : List Value) (hlen : ∀ sig, parseMethodDescriptor x.desc = some sig → argsL.length = sig.parameters.length) (hst : K = argsL.reverse ++ .ref a :: rest) (has : (.ref a :: argsL).toArray = as') (hW : (rest.map fun v => v.category).sum ≤ W) (hd : decode c.code pc = .ok (.invokevirtual index, 3)) (hc : cells + k ≤ R.cells) (hs : slots + n ≤ R.slots) (p' : Nat) (hp : p' = pc + 3)
    (q : ∀ v T' h' Lc, St md p l e R s m args below meth c own Z EL vm T' h' (cells + k) (slots + n) → QN v h' Lc → CHr Z EL vm h vm h' → Goes p.tables e below P T' (mkF m p' L (v.toList ++ rest))) : Goes p.tables e below P T (mkF m pc L K) := by
  subst hp hst has
  obtain ⟨locs, k0, X, eT, hZ, hown, hS, hk, hC, hF, hO, h0, h2, hE⟩ := S
  obtain ⟨cq, kq, qa, qb, qc⟩ := isOf (s := s.setVm vm) hZ eT E
  obtain ⟨v, vm1, ⟨T', L', k', n'⟩, -, X', ⟨Lc, hq, l', y', z'⟩, st⟩ := X.virtualBack hx hown (mvT (s := s.setVm vm) hZ w1) (mvT (s := s.setVm vm) hZ w2) nf (mvT (s := s.setVm vm) hZ w5) (mvT (s := s.setVm vm) hZ w6) hy hK qa qc (g := mkF m pc L (argsL.reverse ++ .ref a :: rest)) rfl hml (Steps.refl _) (argsL := argsL) (rest := rest) hlen rfl (by show 2 * 0 + _ ≤ _; omega) hd (fun _ _ => ⟨rfl, eT, hc, hs⟩)
  dsimp only [Pt.U, Pt.locs, Pt.cells, Pt.slots] at X' l' y' z' st hq
  subst l' y' z'
  obtain ⟨r1, r2, r3⟩ := hQ v _ Lc hq
  exact (q v T' T'.heap Lc ⟨_, k0, X', rfl, hZ, hown, hS, Nat.le_trans hk r3.2.1, hC.trans r3, hF.app r1, r2, h0, h2, hE⟩ hq r3).to st
theorem St.callV {sf : List Addr} (S : St md p l e R s m args below meth c own Z EL vm T h cells slots) (hx : p.tables.exec = Jvm.exec) {index : Nat} {a : Addr} {C : String} {x : MethodName} (w1 : (Cond.methodLink own index x).before a0 Z = true) (w2 : (Cond.declares x).before a0 Z = true) (nf : NotFace (s.setVm vm) x) (w5 : (Cond.selects C x y).before a0 Z = true) (w6 : (Cond.instanceMethod y).before a0 Z = true) (hy : x.cls ≠ "java/lang/invoke/MethodHandle" ∧ x.cls ≠ "java/lang/invoke/VarHandle") (E : Exa Z h a C) (wc : (Cond.code y bytes maxL ret).before a0 Z = true) (wz : (Cond.initialized y.cls).before a0 Z = true) (hM : Ct md l Z EL sf y bytes maxL ret rm as' h Q) (hsf : ∀ x ∈ sf, x < h.size ∧ Safe Z EL vm h x) (hf : rm.frames + 1 ≤ R.frames) (hl : W + (maxL + 11) + rm.locals ≤ R.locals) (hml : L.size = c.maxLocals) (argsL rest : List Value) (hlen : ∀ sig, parseMethodDescriptor x.desc = some sig → argsL.length = sig.parameters.length) (hst : K = argsL.reverse ++ .ref a :: rest) (has : (.ref a :: argsL).toArray = as') (hW : (rest.map fun v => v.category).sum ≤ W) (hd : decode c.code pc = .ok (.invokevirtual index, 3)) (hc : cells + rm.cells ≤ R.cells) (hs : slots + rm.slots ≤ R.slots) (p' : Nat) (hp : p' = pc + 3)
    (q : ∀ v vm' T' h', St md p l e R s m args below meth c own Z EL vm' T' h' (cells + rm.cells) (slots + rm.slots) → Q v h' → CHr Z EL vm h vm' h' → Goes p.tables e below P T' (mkF m p' L (v.toList ++ rest))) : Goes p.tables e below P T (mkF m pc L K) := by
  by_cases hmd : md = 0
  · subst hmd
    have hEL : EL = [] := by obtain ⟨_, _, -, -, -, -, -, -, -, -, -, h0, -⟩ := S; exact (h0 rfl).2
    subst hEL
    have hZ := S.warm
    exact St.callVN S hx w1 w2 nf w5 w6 hy E (ctBack (s := s.setVm vm) hM hZ wc wz hf hl) (fun v h' Lc r => ⟨r.2.1, r.2.2.1, chr_nil r.2.2.2⟩) hml argsL rest hlen hst has hW hd hc hs p' hp (fun v T' h' Lc S' r R' => q v vm T' h' S' r.1 R')
  · subst hp hst has
    obtain ⟨locs, k0, X, eT, hZ, hown, hS, hk, hC, hF, hO, h0, h2, a1, hE⟩ := S
    obtain ⟨cq, kq, qa, qb, qc⟩ := isOf (s := s.setVm vm) hZ eT E
    have hK := ctBackS (s := s) (R := R) (p := p) (e := e) (below := below) (args := args) (W := W) (len := 3) hmd hM hZ wc wz hf hl hE.1 hC.1 h2 hsf
    obtain ⟨v, vm1, ⟨T', L', k', n'⟩, -, X', hS2, hgr, ⟨Lc, ⟨hq, r1, r2⟩, l', y', z', hR⟩, st⟩ := X.virtualBackS hx hown (mvT (s := s.setVm vm) hZ w1) (mvT (s := s.setVm vm) hZ w2) nf (mvT (s := s.setVm vm) hZ w5) (mvT (s := s.setVm vm) hZ w6) hy hK qa qc (g := mkF m pc L (argsL.reverse ++ .ref a :: rest)) rfl hml (Steps.refl _) (argsL := argsL) (rest := rest) hlen rfl (by show 2 * 0 + _ ≤ _; omega) hd (fun _ _ => ⟨rfl, eT, hc, hs⟩)
    dsimp only [Pt.U, Pt.locs, Pt.cells, Pt.slots] at X' l' y' z' st hq hS2 hgr hR
    subst l' y' z'
    obtain ⟨Y1, Y2, Y3, Y4⟩ := rebS hS (n1 := T.heap.size) (by rw [eT]; exact hk) X' hS2 hgr hZ hown
    exact (q v T'.vm T' T'.heap ⟨_, _, Y1, rfl, Y3, Y4, Y2, Nat.le_refl _, hC.trans hR, hF.app r1, r2, fun z => absurd z hmd, fun z => ⟨(h2 z).1.alikeC hS2.1.alike, (h2 z).2.alikeC hS2.1.alike⟩, a1, hE⟩ hq hR).to st
theorem St.callUN (S : St md p l e R s m args below meth c own Z EL vm T h cells slots) (hx : p.tables.exec = Jvm.exec) {index : Nat} {a : Addr} {C owner : String} {x : MethodName} (w1 : (Cond.methodLink own index x).before a0 Z = true) (w2 : (Cond.sameMethod x.cls owner x.name x.desc).before a0 Z = true) (w3 : (Cond.declares ⟨owner, x.name, x.desc⟩).before a0 Z = true) (w5 : (Cond.selects C x y).before a0 Z = true) (w6 : (Cond.instanceMethod y).before a0 Z = true) (hy : owner ≠ "java/lang/invoke/MethodHandle" ∧ owner ≠ "java/lang/invoke/VarHandle") (E : Exa Z h a C) {k n : Nat} {QN : Option Value → Heap → List Loc → Prop} (hK : Back l R p e below (s.setVm vm) args y 3 W (PreN R as' h k n) (PostN QN k n)) (hQ : ∀ v h' Lc, QN v h' Lc → Fr Z.heap.size Lc ∧ Old Z Z.heap.size h' ∧ CHr Z EL vm h vm h') (hml : L.size = c.maxLocals) (argsL rest : List Value) (hlen : ∀ sig, parseMethodDescriptor x.desc = some sig → argsL.length = sig.parameters.length) (hst : K = argsL.reverse ++ .ref a :: rest) (has : (.ref a :: argsL).toArray = as') (hW : (rest.map fun v => v.category).sum ≤ W) (hd : decode c.code pc = .ok (.invokevirtual index, 3)) (hc : cells + k ≤ R.cells) (hs : slots + n ≤ R.slots) (p' : Nat) (hp : p' = pc + 3)
    (q : ∀ v T' h' Lc, St md p l e R s m args below meth c own Z EL vm T' h' (cells + k) (slots + n) → QN v h' Lc → CHr Z EL vm h vm h' → Goes p.tables e below P T' (mkF m p' L (v.toList ++ rest))) : Goes p.tables e below P T (mkF m pc L K) := by
  subst hp hst has
  obtain ⟨locs, k0, X, eT, hZ, hown, hS, hk, hC, hF, hO, h0, h2, hE⟩ := S
  obtain ⟨cq, kq, qa, qb, qc⟩ := isOf (s := s.setVm vm) hZ eT E
  obtain ⟨v, vm1, ⟨T', L', k', n'⟩, -, X', ⟨Lc, hq, l', y', z'⟩, st⟩ := X.virtualBackUp hx hown (mvT (s := s.setVm vm) hZ w1) (mvT (s := s.setVm vm) hZ w2) (mvT (s := s.setVm vm) hZ w3) hy (mvT (s := s.setVm vm) hZ w5) (mvT (s := s.setVm vm) hZ w6) hK qa qc (g := mkF m pc L (argsL.reverse ++ .ref a :: rest)) rfl hml (Steps.refl _) (argsL := argsL) (rest := rest) hlen rfl (by show 2 * 0 + _ ≤ _; omega) hd (fun _ _ => ⟨rfl, eT, hc, hs⟩)
  dsimp only [Pt.U, Pt.locs, Pt.cells, Pt.slots] at X' l' y' z' st hq
  subst l' y' z'
  obtain ⟨r1, r2, r3⟩ := hQ v _ Lc hq
  exact (q v T' T'.heap Lc ⟨_, k0, X', rfl, hZ, hown, hS, Nat.le_trans hk r3.2.1, hC.trans r3, hF.app r1, r2, h0, h2, hE⟩ hq r3).to st
theorem St.callU {sf : List Addr} (S : St md p l e R s m args below meth c own Z EL vm T h cells slots) (hx : p.tables.exec = Jvm.exec) {index : Nat} {a : Addr} {C owner : String} {x : MethodName} (w1 : (Cond.methodLink own index x).before a0 Z = true) (w2 : (Cond.sameMethod x.cls owner x.name x.desc).before a0 Z = true) (w3 : (Cond.declares ⟨owner, x.name, x.desc⟩).before a0 Z = true) (w5 : (Cond.selects C x y).before a0 Z = true) (w6 : (Cond.instanceMethod y).before a0 Z = true) (hy : owner ≠ "java/lang/invoke/MethodHandle" ∧ owner ≠ "java/lang/invoke/VarHandle") (E : Exa Z h a C) (wc : (Cond.code y bytes maxL ret).before a0 Z = true) (wz : (Cond.initialized y.cls).before a0 Z = true) (hM : Ct md l Z EL sf y bytes maxL ret rm as' h Q) (hsf : ∀ x ∈ sf, x < h.size ∧ Safe Z EL vm h x) (hf : rm.frames + 1 ≤ R.frames) (hl : W + (maxL + 11) + rm.locals ≤ R.locals) (hml : L.size = c.maxLocals) (argsL rest : List Value) (hlen : ∀ sig, parseMethodDescriptor x.desc = some sig → argsL.length = sig.parameters.length) (hst : K = argsL.reverse ++ .ref a :: rest) (has : (.ref a :: argsL).toArray = as') (hW : (rest.map fun v => v.category).sum ≤ W) (hd : decode c.code pc = .ok (.invokevirtual index, 3)) (hc : cells + rm.cells ≤ R.cells) (hs : slots + rm.slots ≤ R.slots) (p' : Nat) (hp : p' = pc + 3)
    (q : ∀ v vm' T' h', St md p l e R s m args below meth c own Z EL vm' T' h' (cells + rm.cells) (slots + rm.slots) → Q v h' → CHr Z EL vm h vm' h' → Goes p.tables e below P T' (mkF m p' L (v.toList ++ rest))) : Goes p.tables e below P T (mkF m pc L K) := by
  by_cases hmd : md = 0
  · subst hmd
    have hEL : EL = [] := by obtain ⟨_, _, -, -, -, -, -, -, -, -, -, h0, -⟩ := S; exact (h0 rfl).2
    subst hEL
    have hZ := S.warm
    exact St.callUN S hx w1 w2 w3 w5 w6 hy E (ctBack (s := s.setVm vm) hM hZ wc wz hf hl) (fun v h' Lc r => ⟨r.2.1, r.2.2.1, chr_nil r.2.2.2⟩) hml argsL rest hlen hst has hW hd hc hs p' hp (fun v T' h' Lc S' r R' => q v vm T' h' S' r.1 R')
  · subst hp hst has
    obtain ⟨locs, k0, X, eT, hZ, hown, hS, hk, hC, hF, hO, h0, h2, a1, hE⟩ := S
    obtain ⟨cq, kq, qa, qb, qc⟩ := isOf (s := s.setVm vm) hZ eT E
    have hK := ctBackS (s := s) (R := R) (p := p) (e := e) (below := below) (args := args) (W := W) (len := 3) hmd hM hZ wc wz hf hl hE.1 hC.1 h2 hsf
    obtain ⟨v, vm1, ⟨T', L', k', n'⟩, -, X', hS2, hgr, ⟨Lc, ⟨hq, r1, r2⟩, l', y', z', hR⟩, st⟩ := virtualBackUpS X hx hown (mvT (s := s.setVm vm) hZ w1) (mvT (s := s.setVm vm) hZ w2) (mvT (s := s.setVm vm) hZ w3) hy (mvT (s := s.setVm vm) hZ w5) (mvT (s := s.setVm vm) hZ w6) hK qa qc (g := mkF m pc L (argsL.reverse ++ .ref a :: rest)) rfl hml (Steps.refl _) (argsL := argsL) (rest := rest) hlen rfl (by show 2 * 0 + _ ≤ _; omega) hd (fun _ _ => ⟨rfl, eT, hc, hs⟩)
    dsimp only [Pt.U, Pt.locs, Pt.cells, Pt.slots] at X' l' y' z' st hq hS2 hgr hR
    subst l' y' z'
    obtain ⟨Y1, Y2, Y3, Y4⟩ := rebS hS (n1 := T.heap.size) (by rw [eT]; exact hk) X' hS2 hgr hZ hown
    exact (q v T'.vm T' T'.heap ⟨_, _, Y1, rfl, Y3, Y4, Y2, Nat.le_refl _, hC.trans hR, hF.app r1, r2, fun z => absurd z hmd, fun z => ⟨(h2 z).1.alikeC hS2.1.alike, (h2 z).2.alikeC hS2.1.alike⟩, a1, hE⟩ hq hR).to st
theorem St.callPN (S : St md p l e R s m args below meth c own Z EL vm T h cells slots) (hx : p.tables.exec = Jvm.exec) {index : Nat} {a : Addr} (w1 : (Cond.methodLink own index y).before a0 Z = true) (w6 : (Cond.instanceMethod y).before a0 Z = true) (w5 : (Cond.selects y.cls y y).before a0 Z = true) (w7 : (Cond.privateMethod y).before a0 Z = true) (w4 : (Cond.code y bytes maxL ret).before a0 Z = true) (hy : y.cls ≠ "java/lang/invoke/MethodHandle" ∧ y.cls ≠ "java/lang/invoke/VarHandle") {C : String} (E : Exa Z h a C) {k n : Nat} {QN : Option Value → Heap → List Loc → Prop} (hK : Back l R p e below (s.setVm vm) args y 3 W (PreN R as' h k n) (PostN QN k n)) (hQ : ∀ v h' Lc, QN v h' Lc → Fr Z.heap.size Lc ∧ Old Z Z.heap.size h' ∧ CHr Z EL vm h vm h') (hml : L.size = c.maxLocals) (argsL rest : List Value) (hlen : ∀ sig, parseMethodDescriptor y.desc = some sig → argsL.length = sig.parameters.length) (hst : K = argsL.reverse ++ .ref a :: rest) (has : (.ref a :: argsL).toArray = as') (hW : (rest.map fun v => v.category).sum ≤ W) (hd : decode c.code pc = .ok (.invokevirtual index, 3)) (hc : cells + k ≤ R.cells) (hs : slots + n ≤ R.slots) (p' : Nat) (hp : p' = pc + 3)
    (q : ∀ v T' h' Lc, St md p l e R s m args below meth c own Z EL vm T' h' (cells + k) (slots + n) → QN v h' Lc → CHr Z EL vm h vm h' → Goes p.tables e below P T' (mkF m p' L (v.toList ++ rest))) : Goes p.tables e below P T (mkF m pc L K) := by
  subst hp hst has
  obtain ⟨locs, k0, X, eT, hZ, hown, hS, hk, hC, hF, hO, h0, h2, hE⟩ := S
  obtain ⟨cq, qa, qb⟩ := E.cell
  obtain ⟨v, vm1, ⟨T', L', k', n'⟩, -, X', ⟨Lc, hq, l', y', z'⟩, st⟩ := X.privateBack hx hown (mvT (s := s.setVm vm) hZ w1) (mvT (s := s.setVm vm) hZ w6) (mvT (s := s.setVm vm) hZ w5) (Cond.privateMethod_at (mvP (s := s.setVm vm) hZ w7 (args := #[]))) (mvT (s := s.setVm vm) hZ w4) hy hK (g := mkF m pc L (argsL.reverse ++ .ref a :: rest)) rfl hml (Steps.refl _) (a := a) (by rw [eT]; exact qa) qb (argsL := argsL) (rest := rest) hlen rfl (by show 2 * 0 + _ ≤ _; omega) hd (fun _ _ => ⟨rfl, eT, hc, hs⟩)
  dsimp only [Pt.U, Pt.locs, Pt.cells, Pt.slots] at X' l' y' z' st hq
  subst l' y' z'
  obtain ⟨r1, r2, r3⟩ := hQ v _ Lc hq
  exact (q v T' T'.heap Lc ⟨_, k0, X', rfl, hZ, hown, hS, Nat.le_trans hk r3.2.1, hC.trans r3, hF.app r1, r2, h0, h2, hE⟩ hq r3).to st
theorem St.callP {sf : List Addr} (S : St md p l e R s m args below meth c own Z EL vm T h cells slots) (hx : p.tables.exec = Jvm.exec) {index : Nat} {a : Addr} (w1 : (Cond.methodLink own index y).before a0 Z = true) (w6 : (Cond.instanceMethod y).before a0 Z = true) (w5 : (Cond.selects y.cls y y).before a0 Z = true) (w7 : (Cond.privateMethod y).before a0 Z = true) (w4 : (Cond.code y bytes maxL ret).before a0 Z = true) (hy : y.cls ≠ "java/lang/invoke/MethodHandle" ∧ y.cls ≠ "java/lang/invoke/VarHandle") {C : String} (E : Exa Z h a C) (wz : (Cond.initialized y.cls).before a0 Z = true) (hM : Ct md l Z EL sf y bytes maxL ret rm as' h Q) (hsf : ∀ x ∈ sf, x < h.size ∧ Safe Z EL vm h x) (hf : rm.frames + 1 ≤ R.frames) (hl : W + (maxL + 11) + rm.locals ≤ R.locals) (hml : L.size = c.maxLocals) (argsL rest : List Value) (hlen : ∀ sig, parseMethodDescriptor y.desc = some sig → argsL.length = sig.parameters.length) (hst : K = argsL.reverse ++ .ref a :: rest) (has : (.ref a :: argsL).toArray = as') (hW : (rest.map fun v => v.category).sum ≤ W) (hd : decode c.code pc = .ok (.invokevirtual index, 3)) (hc : cells + rm.cells ≤ R.cells) (hs : slots + rm.slots ≤ R.slots) (p' : Nat) (hp : p' = pc + 3)
    (q : ∀ v vm' T' h', St md p l e R s m args below meth c own Z EL vm' T' h' (cells + rm.cells) (slots + rm.slots) → Q v h' → CHr Z EL vm h vm' h' → Goes p.tables e below P T' (mkF m p' L (v.toList ++ rest))) : Goes p.tables e below P T (mkF m pc L K) := by
  by_cases hmd : md = 0
  · subst hmd
    have hEL : EL = [] := by obtain ⟨_, _, -, -, -, -, -, -, -, -, -, h0, -⟩ := S; exact (h0 rfl).2
    subst hEL
    have hZ := S.warm
    exact St.callPN S hx w1 w6 w5 w7 w4 hy E (ctBack (s := s.setVm vm) hM hZ w4 wz hf hl) (fun v h' Lc r => ⟨r.2.1, r.2.2.1, chr_nil r.2.2.2⟩) hml argsL rest hlen hst has hW hd hc hs p' hp (fun v T' h' Lc S' r R' => q v vm T' h' S' r.1 R')
  · subst hp hst has
    obtain ⟨locs, k0, X, eT, hZ, hown, hS, hk, hC, hF, hO, h0, h2, a1, hE⟩ := S
    obtain ⟨cq, qa, qb⟩ := E.cell
    have hK := ctBackS (s := s) (R := R) (p := p) (e := e) (below := below) (args := args) (W := W) (len := 3) hmd hM hZ w4 wz hf hl hE.1 hC.1 h2 hsf
    obtain ⟨v, vm1, ⟨T', L', k', n'⟩, -, X', hS2, hgr, ⟨Lc, ⟨hq, r1, r2⟩, l', y', z', hR⟩, st⟩ := privateBackS X hx hown (mvT (s := s.setVm vm) hZ w1) (mvT (s := s.setVm vm) hZ w6) (mvT (s := s.setVm vm) hZ w5) (Cond.privateMethod_at (mvP (s := s.setVm vm) hZ w7 (args := #[]))) (mvT (s := s.setVm vm) hZ w4) hy hK (g := mkF m pc L (argsL.reverse ++ .ref a :: rest)) rfl hml (Steps.refl _) (a := a) (by rw [eT]; exact qa) qb (argsL := argsL) (rest := rest) hlen rfl (by show 2 * 0 + _ ≤ _; omega) hd (fun _ _ => ⟨rfl, eT, hc, hs⟩)
    dsimp only [Pt.U, Pt.locs, Pt.cells, Pt.slots] at X' l' y' z' st hq hS2 hgr hR
    subst l' y' z'
    obtain ⟨Y1, Y2, Y3, Y4⟩ := rebS hS (n1 := T.heap.size) (by rw [eT]; exact hk) X' hS2 hgr hZ hown
    exact (q v T'.vm T' T'.heap ⟨_, _, Y1, rfl, Y3, Y4, Y2, Nat.le_refl _, hC.trans hR, hF.app r1, r2, fun z => absurd z hmd, fun z => ⟨(h2 z).1.alikeC hS2.1.alike, (h2 z).2.alikeC hS2.1.alike⟩, a1, hE⟩ hq hR).to st
theorem St.callFN (S : St md p l e R s m args below meth c own Z EL vm T h cells slots) (hx : p.tables.exec = Jvm.exec) {index : Nat} {a : Addr} {C : String} {x : MethodName} {count : Nat} (w1 : (Cond.methodLink own index x).before a0 Z = true) (w2 : (Cond.declares x).before a0 Z = true) (w3 : (Cond.interfaceMethod x.cls x.cls x.name x.desc).before a0 Z = true) (w5 : (Cond.selects C x y).before a0 Z = true) (w6 : (Cond.instanceMethod y).before a0 Z = true) (w7 : (Cond.publicMethod y).before a0 Z = true) (w8 : (Cond.unhidden C x.name x.desc).before a0 Z = true) (w9 : (Cond.castable C x.cls).before a0 Z = true) (hy : x.cls ≠ "java/lang/invoke/MethodHandle" ∧ x.cls ≠ "java/lang/invoke/VarHandle") (E : Exa Z h a C) {k n : Nat} {QN : Option Value → Heap → List Loc → Prop} (hK : Back l R p e below (s.setVm vm) args y 5 W (PreN R as' h k n) (PostN QN k n)) (hQ : ∀ v h' Lc, QN v h' Lc → Fr Z.heap.size Lc ∧ Old Z Z.heap.size h' ∧ CHr Z EL vm h vm h') (hml : L.size = c.maxLocals) (argsL rest : List Value) (hlen : ∀ sig, parseMethodDescriptor x.desc = some sig → argsL.length = sig.parameters.length) (hst : K = argsL.reverse ++ .ref a :: rest) (has : (.ref a :: argsL).toArray = as') (hW : (rest.map fun v => v.category).sum ≤ W) (hd : decode c.code pc = .ok (.invokeinterface index count, 5)) (hc : cells + k ≤ R.cells) (hs : slots + n ≤ R.slots) (p' : Nat) (hp : p' = pc + 5)
    (q : ∀ v T' h' Lc, St md p l e R s m args below meth c own Z EL vm T' h' (cells + k) (slots + n) → QN v h' Lc → CHr Z EL vm h vm h' → Goes p.tables e below P T' (mkF m p' L (v.toList ++ rest))) : Goes p.tables e below P T (mkF m pc L K) := by
  subst hp hst has
  obtain ⟨locs, k0, X, eT, hZ, hown, hS, hk, hC, hF, hO, h0, h2, hE⟩ := S
  obtain ⟨cq, kq, qa, qb, qc⟩ := isOf (s := s.setVm vm) hZ eT E
  obtain ⟨v, vm1, ⟨T', L', k', n'⟩, -, X', ⟨Lc, hq, l', y', z'⟩, st⟩ := X.interfaceBack hx hown (mvT (s := s.setVm vm) hZ w1) (mvT (s := s.setVm vm) hZ w2) (mvT (s := s.setVm vm) hZ w3 (by simp [Cond.onTables, Cond.keepsFace, Cond.keeps, Cond.steady, Cond.faceAtom]; exact hy)) (mvT (s := s.setVm vm) hZ w5) (mvT (s := s.setVm vm) hZ w6) (mvT (s := s.setVm vm) hZ w7) (mvT (s := s.setVm vm) hZ w8) (mvT (s := s.setVm vm) hZ w9) hy hK qa qb qc (g := mkF m pc L (argsL.reverse ++ .ref a :: rest)) rfl hml (Steps.refl _) (argsL := argsL) (rest := rest) hlen rfl (by show 2 * 0 + _ ≤ _; omega) hd (fun _ _ => ⟨rfl, eT, hc, hs⟩)
  dsimp only [Pt.U, Pt.locs, Pt.cells, Pt.slots] at X' l' y' z' st hq
  subst l' y' z'
  obtain ⟨r1, r2, r3⟩ := hQ v _ Lc hq
  exact (q v T' T'.heap Lc ⟨_, k0, X', rfl, hZ, hown, hS, Nat.le_trans hk r3.2.1, hC.trans r3, hF.app r1, r2, h0, h2, hE⟩ hq r3).to st
theorem St.callF {sf : List Addr} (S : St md p l e R s m args below meth c own Z EL vm T h cells slots) (hx : p.tables.exec = Jvm.exec) {index : Nat} {a : Addr} {C : String} {x : MethodName} {count : Nat} (w1 : (Cond.methodLink own index x).before a0 Z = true) (w2 : (Cond.declares x).before a0 Z = true) (w3 : (Cond.interfaceMethod x.cls x.cls x.name x.desc).before a0 Z = true) (w5 : (Cond.selects C x y).before a0 Z = true) (w6 : (Cond.instanceMethod y).before a0 Z = true) (w7 : (Cond.publicMethod y).before a0 Z = true) (w8 : (Cond.unhidden C x.name x.desc).before a0 Z = true) (w9 : (Cond.castable C x.cls).before a0 Z = true) (hy : x.cls ≠ "java/lang/invoke/MethodHandle" ∧ x.cls ≠ "java/lang/invoke/VarHandle") (E : Exa Z h a C) (wc : (Cond.code y bytes maxL ret).before a0 Z = true) (wz : (Cond.initialized y.cls).before a0 Z = true) (hM : Ct md l Z EL sf y bytes maxL ret rm as' h Q) (hsf : ∀ x ∈ sf, x < h.size ∧ Safe Z EL vm h x) (hf : rm.frames + 1 ≤ R.frames) (hl : W + (maxL + 11) + rm.locals ≤ R.locals) (hml : L.size = c.maxLocals) (argsL rest : List Value) (hlen : ∀ sig, parseMethodDescriptor x.desc = some sig → argsL.length = sig.parameters.length) (hst : K = argsL.reverse ++ .ref a :: rest) (has : (.ref a :: argsL).toArray = as') (hW : (rest.map fun v => v.category).sum ≤ W) (hd : decode c.code pc = .ok (.invokeinterface index count, 5)) (hc : cells + rm.cells ≤ R.cells) (hs : slots + rm.slots ≤ R.slots) (p' : Nat) (hp : p' = pc + 5)
    (q : ∀ v vm' T' h', St md p l e R s m args below meth c own Z EL vm' T' h' (cells + rm.cells) (slots + rm.slots) → Q v h' → CHr Z EL vm h vm' h' → Goes p.tables e below P T' (mkF m p' L (v.toList ++ rest))) : Goes p.tables e below P T (mkF m pc L K) := by
  by_cases hmd : md = 0
  · subst hmd
    have hEL : EL = [] := by obtain ⟨_, _, -, -, -, -, -, -, -, -, -, h0, -⟩ := S; exact (h0 rfl).2
    subst hEL
    have hZ := S.warm
    exact St.callFN S hx w1 w2 w3 w5 w6 w7 w8 w9 hy E (ctBack (s := s.setVm vm) hM hZ wc wz hf hl) (fun v h' Lc r => ⟨r.2.1, r.2.2.1, chr_nil r.2.2.2⟩) hml argsL rest hlen hst has hW hd hc hs p' hp (fun v T' h' Lc S' r R' => q v vm T' h' S' r.1 R')
  · subst hp hst has
    obtain ⟨locs, k0, X, eT, hZ, hown, hS, hk, hC, hF, hO, h0, h2, a1, hE⟩ := S
    obtain ⟨cq, kq, qa, qb, qc⟩ := isOf (s := s.setVm vm) hZ eT E
    have hK := ctBackS (s := s) (R := R) (p := p) (e := e) (below := below) (args := args) (W := W) (len := 5) hmd hM hZ wc wz hf hl hE.1 hC.1 h2 hsf
    obtain ⟨v, vm1, ⟨T', L', k', n'⟩, -, X', hS2, hgr, ⟨Lc, ⟨hq, r1, r2⟩, l', y', z', hR⟩, st⟩ := X.interfaceBackS hx hown (mvT (s := s.setVm vm) hZ w1) (mvT (s := s.setVm vm) hZ w2) (mvT (s := s.setVm vm) hZ w3 (by simp [Cond.onTables, Cond.keepsFace, Cond.keeps, Cond.steady, Cond.faceAtom]; exact hy)) (mvT (s := s.setVm vm) hZ w5) (mvT (s := s.setVm vm) hZ w6) (mvT (s := s.setVm vm) hZ w7) (mvT (s := s.setVm vm) hZ w8) (mvT (s := s.setVm vm) hZ w9) hy hK qa qb qc (g := mkF m pc L (argsL.reverse ++ .ref a :: rest)) rfl hml (Steps.refl _) (argsL := argsL) (rest := rest) hlen rfl (by show 2 * 0 + _ ≤ _; omega) hd (fun _ _ => ⟨rfl, eT, hc, hs⟩)
    dsimp only [Pt.U, Pt.locs, Pt.cells, Pt.slots] at X' l' y' z' st hq hS2 hgr hR
    subst l' y' z'
    obtain ⟨Y1, Y2, Y3, Y4⟩ := rebS hS (n1 := T.heap.size) (by rw [eT]; exact hk) X' hS2 hgr hZ hown
    exact (q v T'.vm T' T'.heap ⟨_, _, Y1, rfl, Y3, Y4, Y2, Nat.le_refl _, hC.trans hR, hF.app r1, r2, fun z => absurd z hmd, fun z => ⟨(h2 z).1.alikeC hS2.1.alike, (h2 z).2.alikeC hS2.1.alike⟩, a1, hE⟩ hq hR).to st
/-- a String constant, whatever it says -/
theorem St.ldcO (S : St md p l e R s m args below meth c own Z EL vm T h cells slots) (hx : p.tables.exec = Jvm.exec) (hmd : md ≠ 0) {index : Nat} {text : String} (w : (Cond.stringLink own index text).before a0 Z = true) (wS : ∀ a ∈ Bundle.stringAtoms, a.before a0 Z = true) (hd : decode c.code pc = .ok (.ldc index, 2)) {n : Nat} (hn : 4 * text.toList.length ≤ n) (hbig : n ≤ 536870912) (hc : cells + 2 ≤ R.cells) (hl : slots + (n + 4) ≤ R.slots) (p' : Nat) (hp : p' = pc + 2)
    (q : ∀ vm' T' h' a, St md p l e R s m args below meth c own Z EL vm' T' h' (cells + 2) (slots + (n + 4)) → Ext h h' → CHr Z EL vm h vm' h' → Goes p.tables e below P T' (mkF m p' L (.ref a :: K))) : Goes p.tables e below P T (mkF m pc L K) := by
  subst hp
  obtain ⟨locs, k0, X, eT, hZ, hown, hS, hk, hC, hF, hO, h0, h2, a1, hE⟩ := S
  obtain ⟨a, T', h', k1, X', e', E', hS', hk', hZ', hown', hR, -, st⟩ := ldcOH X hx hZ hown w wS eT hS hk hE.1 hC.1 (g := mkF m pc L K) rfl hd hn hbig hc hl
  have hal : vm.Alike T'.vm := hZ.alike.symm.trans hZ'.alike
  exact (q T'.vm T' h' a ⟨locs, k1, X', e', hZ', hown', hS', hk', hC.trans hR, hF, hO.ext E', fun z => absurd z hmd, fun z => ⟨(h2 z).1.alikeC hal, (h2 z).2.alikeC hal⟩, a1, hE⟩ E' hR).via st
/-- a String constant of the list, read -/
theorem St.ldcC (S : St md p l e R s m args below meth c own Z EL vm T h cells slots) (hx : p.tables.exec = Jvm.exec) (hmd : md ≠ 0) {index : Nat} {text : String} (w : (Cond.stringLink own index text).before a0 Z = true) (wS : ∀ a ∈ Bundle.stringAtoms, a.before a0 Z = true) (hmem : (own, index) ∈ EL) {vs : List Value} {z : Int32} (ht : (∀ c ∈ text.toList, c.toNat < 256) ∧ text.toList.map (fun c => Value.int (Jvm.Lit.byteI c.toNat.toUInt16)) = vs) (hz : ¬ z < 0) (hzl : z.toNatClampNeg = vs.length)
    (hd : decode c.code pc = .ok (.ldc index, 2)) {n : Nat} (hn : 4 * text.toList.length ≤ n) (hbig : n ≤ 536870912) (hc : cells + 2 ≤ R.cells) (hl : slots + (n + 4) ≤ R.slots) (p' : Nat) (hp : p' = pc + 2)
    (q : ∀ vm' T' h' a b k, St md p l e R s m args below meth c own Z EL vm' T' h' (cells + 2) (slots + (n + 4)) → Ext h h' → CHr Z EL vm h vm' h' → Exa Z h' a "java/lang/String" → Fld Z h' a "java/lang/String" "coder" "B" (.int 0) → Fld Z h' a "java/lang/String" "value" "[B" (.ref b) → Arv Z h' b k .byte z vs (.int 0) → (∀ x, Safe Z EL vm' h' x → x ≠ a ∧ x ≠ b) → Goes p.tables e below P T' (mkF m p' L (.ref a :: K))) : Goes p.tables e below P T (mkF m pc L K) := by
  subst hp
  obtain ⟨locs, k0, X, eT, hZ, hown, hS, hk, hC, hF, hO, h0, h2, a1, hE⟩ := S
  obtain ⟨a, T', h', k1, b, k, X', e', E', hS', hk', hZ', hown', q1, q2, q3, q4, -, -, hR, -, hne, st⟩ := ldcCH X hx hZ hown w wS eT hS hk hE.1 hmem hC.1 ht hz hzl (g := mkF m pc L K) rfl hd hn hbig hc hl
  have hal : vm.Alike T'.vm := hZ.alike.symm.trans hZ'.alike
  exact (q T'.vm T' h' a b k ⟨locs, k1, X', e', hZ', hown', hS', hk', hC.trans hR, hF, hO.ext E', fun z => absurd z hmd, fun z => ⟨(h2 z).1.alikeC hal, (h2 z).2.alikeC hal⟩, a1, hE⟩ E' hR q1 q2 q3 q4 hne).via st
/-- the end of a body -/
theorem St.leave' (S : St md p l e R s m args below meth c own Z EL vm T h cells slots) (hlk : meth.locks = false) {v : Option Value} (hv : meth.sig.returnType = none → v = none) (hq : Q v h) (hc : cells ≤ R.cells) (hs : slots ≤ R.slots) {F : JFrame}
    (step : ∀ (locs : List Loc) (fs : List Frame), Stand p l e R (s.setVm vm) m args below meth c T locs cells slots → (∀ (f : JFrame) (acts : List Action), f.method = m → f.locked = none → f.entered = [] → (doReturn e (T.setTop f) acts v).1 = T.setFrames fs) → Steps p.tables e below (T.setTop F) (T.setFrames fs)) :
    Goes p.tables e below (Pof md Z EL s R Q) T F := by
  obtain ⟨locs, k0, X, eT, hZ, hown, hS, hk, hC, hF, hO, h0, h2, a1, hE⟩ := S
  have hR := CHv.at X hZ hE.1 hC.1
  by_cases hmd : md = 0
  · obtain ⟨rfl, rfl⟩ := h0 hmd
    obtain ⟨fs, hr, hrun, hended, hW, hsame⟩ := X.leave hv
    exact ⟨_, _, step locs fs X hr, hrun, hended, v, locs, rfl, ⟨by show Q v T.heap; rw [eT]; exact hq, hF, by show Old Z _ T.heap; rw [eT]; exact hO⟩, by show CHr Z _ _ _ T.vm T.heap; rw [eT]; exact hC.trans hR, fun _ => ⟨⟨_, rfl⟩, hW, hsame.mono hc hs⟩, fun q => absurd hmd q⟩
  · obtain ⟨fs, hr, hrun, hended, r1, r2, r3, r4⟩ := leaveW X hS (by rw [eT]; exact hk) hv hlk
    exact ⟨_, _, step locs fs X hr, hrun, hended, v, locs, rfl, ⟨by show Q v T.heap; rw [eT]; exact hq, hF, by show Old Z _ T.heap; rw [eT]; exact hO⟩, by show CHr Z _ _ _ T.vm T.heap; rw [eT]; exact hC.trans hR, fun q => absurd q hmd, fun _ => ⟨r1, r2, r3, r4.mono hc hs⟩⟩
theorem St.iret (S : St md p l e R s m args below meth c own Z EL vm T h cells slots) (hx : p.tables.exec = Jvm.exec) (hlk : meth.locks = false) {t : FieldType} {z : Int32} (hret : meth.sig.returnType = some t) (ht : t = .int ∨ t = .boolean ∨ t = .byte ∨ t = .char ∨ t = .short) (hn : narrow t (.int z) = .int z) (hd : decode c.code pc = .ok (.ireturn, 1)) (hq : Q (some (.int z)) h) (hc : cells ≤ R.cells) (hs : slots ≤ R.slots) : Goes p.tables e below (Pof md Z EL s R Q) T (mkF m pc L (.int z :: K)) :=
  S.leave' hlk (fun q => by rw [hret] at q; cases q) hq hc hs fun locs fs X hr => retOut X hx hret hn (Or.inl ⟨rfl, ht, z, rfl⟩) hd hr
theorem St.lret (S : St md p l e R s m args below meth c own Z EL vm T h cells slots) (hx : p.tables.exec = Jvm.exec) (hlk : meth.locks = false) {z : Int64} (hret : meth.sig.returnType = some .long) (hd : decode c.code pc = .ok (.lreturn, 1)) (hq : Q (some (.long z)) h) (hc : cells ≤ R.cells) (hs : slots ≤ R.slots) : Goes p.tables e below (Pof md Z EL s R Q) T (mkF m pc L (.long z :: K)) :=
  S.leave' hlk (fun q => by rw [hret] at q; cases q) hq hc hs fun locs fs X hr => retOut X hx hret rfl (Or.inr (Or.inl ⟨rfl, rfl, z, rfl⟩)) hd hr
theorem St.aret (S : St md p l e R s m args below meth c own Z EL vm T h cells slots) (hx : p.tables.exec = Jvm.exec) (hlk : meth.locks = false) {t : FieldType} {v : Value} (hret : meth.sig.returnType = some t) (ht : t.isReference = true) (hv : v.isRef = true) (hn : narrow t v = v) (hd : decode c.code pc = .ok (.areturn, 1)) (hq : Q (some v) h) (hc : cells ≤ R.cells) (hs : slots ≤ R.slots) : Goes p.tables e below (Pof md Z EL s R Q) T (mkF m pc L (v :: K)) :=
  S.leave' hlk (fun q => by rw [hret] at q; cases q) hq hc hs fun locs fs X hr => retOut X hx hret hn (Or.inr (Or.inr (Or.inr (Or.inr ⟨rfl, ht, hv⟩)))) hd hr
theorem St.vret (S : St md p l e R s m args below meth c own Z EL vm T h cells slots) (hx : p.tables.exec = Jvm.exec) (hlk : meth.locks = false) (hret : meth.sig.returnType = none) (hd : decode c.code pc = .ok (.return_, 1)) (hq : Q none h) (hc : cells ≤ R.cells) (hs : slots ≤ R.slots) : Goes p.tables e below (Pof md Z EL s R Q) T (mkF m pc L []) :=
  S.leave' hlk (fun _ => rfl) hq hc hs fun locs fs X hr => X.returnOut hx hret hd hr
end C

/-! part E: more steps -/
section E
variable {md : Nat} {p : Program} {l : Launch} {e : Env} {R : Room} {s : State} {m : MethodId} {args : Array Value} {below : List Frame} {meth : Method} {c : Code} {own : String} {Z : State} {EL : List (String × Nat)} {vm : Vm} {T : State} {h : Heap} {cells slots : Nat} {P : Outcome → State → Prop} {pc : Nat} {L : Array Slot} {K : List Value} {a0 : Array Value}
theorem St.initO (S : St md p l e R s m args below meth c own Z EL vm T h cells slots) (hx : p.tables.exec = Jvm.exec) {index : Nat} (w1 : (Cond.methodLink own index Lib.objectInit).before a0 Z = true) (w2 : (Cond.instanceMethod Lib.objectInit).before a0 Z = true) (w3 : (Cond.code Lib.objectInit ⟨#[0xb1]⟩ 1 none).before a0 Z = true) (hml : L.size = c.maxLocals) {a : Addr} {W : Nat} (hf : 1 ≤ R.frames) (hW : (K.map fun v => v.category).sum ≤ W) (hl : W + 12 ≤ R.locals) (hd : decode c.code pc = .ok (.invokespecial index, 3)) (p' : Nat) (hp : p' = pc + 3)
    (q : ∀ T', St md p l e R s m args below meth c own Z EL vm T' h cells slots → Goes p.tables e below P T' (mkF m p' L K)) : Goes p.tables e below P T (mkF m pc L (.ref a :: K)) := by
  subst hp
  obtain ⟨locs, k, X, eT, hZ, hown, r⟩ := S
  obtain ⟨T', X', e', st⟩ := RoadKit.initO X hx hZ hown w1 w2 w3 eT (g := mkF m pc L (.ref a :: K)) rfl hml rfl hd hf (W := W) (by show 2 * 0 + _ ≤ _; omega) hl
  exact (q T' ⟨locs, k, X', e', hZ, hown, r⟩).via st
theorem St.instNull (S : St md p l e R s m args below meth c own Z EL vm T h cells slots) (hx : p.tables.exec = Jvm.exec) {index : Nat} (hd : decode c.code pc = .ok (.instanceof index, 3)) (p' : Nat) (hp : p' = pc + 3)
    (q : Goes p.tables e below P T (mkF m p' L (.int 0 :: K))) : Goes p.tables e below P T (mkF m pc L (.null :: K)) := by
  subst hp
  obtain ⟨locs, k, X, eT, hZ, hown, r⟩ := S
  exact q.via fun t k => X.instanceofNull hx (g := mkF m pc L (.null :: K)) rfl rfl hd t k
theorem St.acmp (S : St md p l e R s m args below meth c own Z EL vm T h cells slots) (hx : p.tables.exec = Jvm.exec) {cd : ACond} {x y : Value} {o : Int} (hd : decode c.code pc = .ok (.if_acmp cd o, 3)) (h1 : x.isRef = true) (h2 : y.isRef = true) (same : Bool) (hq : decide (x = y) = same) (ho : 0 ≤ (pc : Int) + o) (p' : Nat) (hp : p' = if acV cd same = true then ((pc : Int) + o).toNat else pc + 3)
    (q : Goes p.tables e below P T (mkF m p' L K)) : Goes p.tables e below P T (mkF m pc L (y :: x :: K)) := by
  obtain ⟨locs, k, X, eT, hZ, hown, r⟩ := S
  exact q.via fun t k => RoadKit.acmp X hx (g := mkF m pc L (y :: x :: K)) rfl h1 h2 rfl hd rfl hq ho hp k
theorem Arv.at' {a : Addr} {k : ClassId} {ty : FieldType} {z j : Int32} {vs : List Value} {dv v : Value} (A : Arv Z h a k ty z vs dv) (hj : ¬ j < 0 ∧ j < z) (hv : vs.getD j.toNatClampNeg dv = v) : ∃ cl : Cell, Arr Z h a cl ty ∧ ¬ (j < 0 ∨ cl.slots.size ≤ j.toNatClampNeg) ∧ cl.slots[j.toNatClampNeg]? = some v := by
  obtain ⟨cl, A1, A2, A3, A4, A5, A6⟩ := A
  exact ⟨cl, A1, inb_of A3 hj, A5.at (inb_of A3 hj) hv⟩
theorem St.aald (S : St md p l e R s m args below meth c own Z EL vm T h cells slots) (hx : p.tables.exec = Jvm.exec) {a : Addr} {k : ClassId} {ty : FieldType} {z j : Int32} {vs : List Value} {dv v : Value} (A : Arv Z h a k ty z vs dv) (hty : ty.isReference = true) (hj : ¬ j < 0 ∧ j < z) (hv : vs.getD j.toNatClampNeg dv = v) (hd : decode c.code pc = .ok (.aaload, 1)) (p' : Nat) (hp : p' = pc + 1)
    (q : Goes p.tables e below P T (mkF m p' L (v :: K))) : Goes p.tables e below P T (mkF m pc L (.int j :: .ref a :: K)) := by
  subst hp
  obtain ⟨locs, kk, X, eT, hZ, hown, r⟩ := S
  obtain ⟨cl, A1, A2, A3⟩ := Arv.at' A hj hv
  exact q.via fun t k => X.aaload hx (j := j) (v := v) (by rw [eT]; exact A1.1) (State.isArrayOf_alike (T := s.setVm vm) hZ.alike A1.2.1) hty A1.2.2 A2 A3 (g := mkF m pc L (.int j :: .ref a :: K)) rfl rfl hd t k
theorem St.cald (S : St md p l e R s m args below meth c own Z EL vm T h cells slots) (hx : p.tables.exec = Jvm.exec) {a : Addr} {k : ClassId} {z j : Int32} {vs : List Value} {dv v : Value} (A : Arv Z h a k .char z vs dv) (hj : ¬ j < 0 ∧ j < z) (hv : vs.getD j.toNatClampNeg dv = v) (hd : decode c.code pc = .ok (.caload, 1)) (p' : Nat) (hp : p' = pc + 1)
    (q : Goes p.tables e below P T (mkF m p' L (v :: K))) : Goes p.tables e below P T (mkF m pc L (.int j :: .ref a :: K)) := by
  subst hp
  obtain ⟨locs, kk, X, eT, hZ, hown, r⟩ := S
  obtain ⟨cl, A1, A2, A3⟩ := Arv.at' A hj hv
  exact q.via fun t k => X.caload hx (j := j) (v := v) (by rw [eT]; exact A1.1) (State.isArrayOf_alike (T := s.setVm vm) hZ.alike A1.2.1) A1.2.2 A2 A3 (g := mkF m pc L (.int j :: .ref a :: K)) rfl rfl hd t k
theorem St.bald (S : St md p l e R s m args below meth c own Z EL vm T h cells slots) (hx : p.tables.exec = Jvm.exec) {a : Addr} {k : ClassId} {z j : Int32} {vs : List Value} {dv v : Value} (A : Arv Z h a k .byte z vs dv) (hj : ¬ j < 0 ∧ j < z) (hv : vs.getD j.toNatClampNeg dv = v) (hd : decode c.code pc = .ok (.baload, 1)) (p' : Nat) (hp : p' = pc + 1)
    (q : Goes p.tables e below P T (mkF m p' L (v :: K))) : Goes p.tables e below P T (mkF m pc L (.int j :: .ref a :: K)) := by
  subst hp
  obtain ⟨locs, kk, X, eT, hZ, hown, r⟩ := S
  obtain ⟨cl, A1, A2, A3⟩ := Arv.at' A hj hv
  exact q.via fun t k => X.baloadBytes hx (j := j) (v := v) (by rw [eT]; exact A1.1) (State.isArrayOf_alike (T := s.setVm vm) hZ.alike A1.2.1) A1.2.2 A2 A3 (g := mkF m pc L (.int j :: .ref a :: K)) rfl rfl hd t k
theorem St.clone (S : St md p l e R s m args below meth c own Z EL vm T h cells slots) (hx : p.tables.exec = Jvm.exec) {ad : String} {index : Nat} (w1 : (Cond.methodLink own index ⟨ad, "clone", "()Ljava/lang/Object;"⟩).before a0 Z = true) (w2 : (Cond.sameMethod ad "java/lang/Object" "clone" "()Ljava/lang/Object;").before a0 Z = true) (w3 : (Cond.native ⟨"java/lang/Object", "clone", "()Ljava/lang/Object;"⟩).before a0 Z = true)
    (w4 : (Cond.instanceMethod ⟨"java/lang/Object", "clone", "()Ljava/lang/Object;"⟩).before a0 Z = true) (w5 : (Cond.selects ad ⟨ad, "clone", "()Ljava/lang/Object;"⟩ ⟨"java/lang/Object", "clone", "()Ljava/lang/Object;"⟩).before a0 Z = true) (w6 : (Cond.castable ad "java/lang/Cloneable").before a0 Z = true)
    {a : Addr} {k : ClassId} {ty : FieldType} {z : Int32} {vs : List Value} {dv : Value} (F : Arv Z h a k ty z vs dv) (E : Exa Z h a ad) (hml : L.size = c.maxLocals) {W cap : Nat} (hf : 1 ≤ R.frames) (hW : (K.map fun v => v.category).sum ≤ W) (hl : W + 14 ≤ R.locals) (hcap : z.toNatClampNeg ≤ cap) (hc : cells + 1 ≤ R.cells) (hsl : slots + cap ≤ R.slots) (hd : decode c.code pc = .ok (.invokevirtual index, 3)) (p' : Nat) (hp : p' = pc + 3)
    (q : ∀ T' h' b, St md p l e R s m args below meth c own Z EL vm T' h' (cells + 1) (slots + cap) → b = h.size → Ext h h' → Arv Z h' b k ty z vs dv → Exa Z h' b ad → Goes p.tables e below P T' (mkF m p' L (.ref b :: K))) : Goes p.tables e below P T (mkF m pc L (.ref a :: K)) := by
  subst hp
  obtain ⟨locs, k0, X, eT, hZ, hown, hS, hk, hC, hF, hO, h0, h2, hE⟩ := S
  obtain ⟨T', h', X', e', E', A', B', st⟩ := cloneH X hx hZ hown w1 w2 w3 w4 w5 w6 eT F.arh E (g := mkF m pc L (.ref a :: K)) rfl hml rfl hd hf (W := W) (by show 2 * 0 + _ ≤ _; omega) hl hcap hc hsl
  exact (q T' h' h.size ⟨locs, k0, X', e', hZ, hown, hS, Nat.le_trans hk E'.1, hC.trans (CHr.ext E' hC.1), hF, hO.ext E', h0, h2, hE⟩ rfl E' A' B').via st
/-- anewarray of a class -/
theorem St.newR (S : St md p l e R s m args below meth c own Z EL vm T h cells slots) (hx : p.tables.exec = Jvm.exec) {C : String} {index : Nat} (w1 : (Cond.classLink own index C).before a0 Z = true) (w2 : (Cond.arrayOver (.object C)).before a0 Z = true) {n : Int32} (hn : ¬ n < 0) {cap : Nat} (hcap : n.toNatClampNeg ≤ cap) (hb : cap * 8 ≤ 536870912) (hd : decode c.code pc = .ok (.anewarray index, 3)) (hc : cells + 1 ≤ R.cells) (hl : slots + cap ≤ R.slots) (p' : Nat) (hp : p' = pc + 3)
    (q : ∀ T' h' a k, St md p l e R s m args below meth c own Z EL vm T' h' (cells + 1) (slots + cap) → a = h.size → Ext h h' → Arv Z h' a k (.object C) n (List.replicate cap .null) .null → Ovr Z k C → CHr Z EL vm h vm h' → Goes p.tables e below P T' (mkF m p' L (.ref a :: K))) : Goes p.tables e below P T (mkF m pc L (.int n :: K)) := by
  subst hp
  obtain ⟨locs, k, X, eT, hZ, hown, hS, hk, hC, hF, hO, h0, h2, hE⟩ := S
  obtain ⟨T', h', cA, X', e', E', A', O', st⟩ := RoadKit.newR X hx hZ hown w1 w2 eT (g := mkF m pc L (.int n :: K)) rfl hd rfl hn hcap hb hc hl
  exact (q T' h' h.size cA ⟨locs, k, X', e', hZ, hown, hS, Nat.le_trans hk E'.1, hC.trans (CHr.ext E' hC.1), hF, hO.ext E', h0, h2, hE⟩ rfl E' ((Arv.new A' hn).pad (pad_rep [] _ cap)) O' (CHr.ext E' hC.1)).via st
/-- aastore -/
theorem St.stR (S : St md p l e R s m args below meth c own Z EL vm T h cells slots) (hx : p.tables.exec = Jvm.exec) {a : Addr} {k : ClassId} {ty : FieldType} {z j : Int32} {vs : List Value} {dv v : Value} (A : Arv Z h a k ty z vs dv) (hty : ty.isReference = true) (hf : fits ty v = true) (i : Nat) (hj : ¬ j < 0 ∧ j < z) (hi : j.toNatClampNeg = i) (hv : i < vs.length) (ga : Z.heap.size ≤ a) (F : Sto Z h a v) (sf : Safe Z EL vm h a) (hd : decode c.code pc = .ok (.aastore, 1)) (p' : Nat) (hp : p' = pc + 1)
    (q : ∀ T' h', St md p l e R s m args below meth c own Z EL vm T' h' cells slots → Wr h h' a i v → Arv Z h' a k ty z (vs.set i v) dv → CHr Z EL vm h vm h' → Goes p.tables e below P T' (mkF m p' L K)) : Goes p.tables e below P T (mkF m pc L (v :: .int j :: .ref a :: K)) := by
  subst hp
  obtain ⟨locs, kk, X, eT, hZ, hown, hS, hk, hC, hF, hO, h0, h2, hE⟩ := S
  obtain ⟨cl, A1, A2, A3, A4, A5, A6⟩ := A
  obtain ⟨T', h', X', e', W', st⟩ := RoadKit.stR X hx hZ eT A1 (j := j) (inb_of A3 hj) hty F (g := mkF m pc L (v :: .int j :: .ref a :: K)) rfl rfl hd
  have hR := CHr.wr W' sf hC.1
  exact (q T' h' ⟨_, kk, X', e', hZ, hown, hS, Nat.le_trans hk hR.2.1, hC.trans hR, Fr.snoc X' hF ga, hO.wr W' ga, h0, h2, hE⟩ (by rw [← hi]; exact W') (Arv.set A1 A2 A3 A4 A5 A6 hf W' i hi hv) hR).via st
/-- bastore into a byte[] -/
theorem St.stB (S : St md p l e R s m args below meth c own Z EL vm T h cells slots) (hx : p.tables.exec = Jvm.exec) {a : Addr} {k : ClassId} {z j x : Int32} {vs : List Value} {dv : Value} (A : Arv Z h a k .byte z vs dv) (i : Nat) (hj : ¬ j < 0 ∧ j < z) (hi : j.toNatClampNeg = i) (hv : i < vs.length) (ga : Z.heap.size ≤ a) (sf : Safe Z EL vm h a) (hd : decode c.code pc = .ok (.bastore, 1)) (p' : Nat) (hp : p' = pc + 1)
    (q : ∀ T' h', St md p l e R s m args below meth c own Z EL vm T' h' cells slots → Wr h h' a i (.int x.toInt8.toInt32) → Arv Z h' a k .byte z (vs.set i (.int x.toInt8.toInt32)) dv → CHr Z EL vm h vm h' → Goes p.tables e below P T' (mkF m p' L K)) : Goes p.tables e below P T (mkF m pc L (.int x :: .int j :: .ref a :: K)) := by
  subst hp
  obtain ⟨locs, kk, X, eT, hZ, hown, hS, hk, hC, hF, hO, h0, h2, hE⟩ := S
  obtain ⟨cl, A1, A2, A3, A4, A5, A6⟩ := A
  obtain ⟨T', h', X', e', W', st⟩ := RoadKit.stB X hx hZ eT A1 (j := j) (inb_of A3 hj) (g := mkF m pc L (.int x :: .int j :: .ref a :: K)) rfl rfl hd
  have hR := CHr.wr W' sf hC.1
  exact (q T' h' ⟨_, kk, X', e', hZ, hown, hS, Nat.le_trans hk hR.2.1, hC.trans hR, Fr.snoc X' hF ga, hO.wr W' ga, h0, h2, hE⟩ (by rw [← hi]; exact W') (Arv.set A1 A2 A3 A4 A5 A6 (fits_nar_byte x) W' i hi hv) hR).via st
/-- super(message) of a Throwable's subclass, the stack trace filled in -/
theorem St.exc1 (S : St 2 p l e R s m args below meth c own Z EL vm T h cells slots) (hx : p.tables.exec = Jvm.exec) (hl : l.stackTraces = true) {rc : String} {links : List Free.Exc.Link} {ic n : Nat} (hok : Free.Exc.linksOk 1 links = true) (w1 : (Cond.methodLink own ic (Free.Exc.ctor 1 (Free.Exc.headName links))).before a0 Z = true) (w2 : (Cond.instanceMethod (Free.Exc.ctor 1 (Free.Exc.headName links))).before a0 Z = true) (wT : (Free.Exc.chainTab 1 rc links).before a0 Z = true) (wi : (Cond.instantiable rc n).before a0 Z = true) (r : ∀ d ∈ twoRefs, d.before a0 Z = true)
    {a : Addr} (E : Exa Z h a rc) (N : Unt h a) (B : Fld Z h a "java/lang/Throwable" "backtrace" "Ljava/lang/Object;" .null) (B2 : Fld Z h a "java/lang/Throwable" "detailMessage" "Ljava/lang/String;" .null) {msg : Value} (hmsg : msg.isRef = true) (sf : Safe Z EL vm h a) (ga : Z.heap.size ≤ a) (hml : L.size = c.maxLocals) (hd : decode c.code pc = .ok (.invokespecial ic, 3))
    (hf : 4 + links.length ≤ R.frames) (hlo : (K.map fun v => v.category).sum + (56 + 14 * links.length) ≤ R.locals) (hc : cells + 1 ≤ R.cells) (hsl : slots + 2752 ≤ R.slots) (p' : Nat) (hp : p' = pc + 3)
    (q : ∀ T' h', St 2 p l e R s m args below meth c own Z EL vm T' h' (cells + 1) (slots + 2752) → Kp Z h h' a → Exa Z h' a rc → Fld Z h' a "java/lang/Throwable" "detailMessage" "Ljava/lang/String;" msg → CHr Z EL vm h vm h' → Goes p.tables e below P T' (mkF m p' L K)) : Goes p.tables e below P T (mkF m pc L (msg :: .ref a :: K)) := by
  subst hp
  obtain ⟨locs, k0, X, eT, hZ, hown, hS, hk, hC, hF, hO, h0, h2, a1, hE, hOs⟩ := S
  have hT0 : ThS Z (s.setVm vm).heap := ThS.start.ext hOs.2
  obtain ⟨T', h', X', e', K', E', -, M', -, -, st⟩ := excL1 X hx hl hZ hown hok w1 w2 wT wi r hT0 (ThS.start.ext hO.2) (h2 rfl).1 (h2 rfl).2 eT E N B B2 hmsg (g := mkF m pc L (msg :: .ref a :: K)) rfl hml rfl hd hf (by show 2 * 0 + _ + _ ≤ _; omega) hc hsl
  have hKe := keep_of_kp K'
  have hR : CHr Z EL vm h vm h' := CHr.keep hKe (fun x hx => by cases List.mem_singleton.mp hx; exact sf) hC.1
  exact (q T' h' ⟨_, k0, X', e', hZ, hown, hS, Nat.le_trans hk hR.2.1, hC.trans hR, Fr.six hF ga, hO.keep hKe (fun x hx => by cases List.mem_singleton.mp hx; exact ga), h0, h2, a1, hE, hOs⟩ K' E' M' hR).via st
theorem St.more (S : St md p l e R s m args below meth c own Z EL vm T h cells slots) {k n : Nat} (h1 : cells ≤ k) (h2 : slots ≤ n) : St md p l e R s m args below meth c own Z EL vm T h k n := by
  obtain ⟨locs, k0, X, r⟩ := S
  exact ⟨locs, k0, X.more h1 h2, r⟩
end E

end Jvm.Own

namespace Jvm.Own
open Sem ClassFile Op Lib Jvm.Stand Jvm.Free Jvm.LawKit Jvm.RoadKit
/-! part F: the super call, arraycopy -/
section F
variable {md : Nat} {p : Program} {l : Launch} {e : Env} {R : Room} {s : State} {m : MethodId} {args : Array Value} {below : List Frame} {meth : Method} {c : Code} {own : String} {Z : State} {EL : List (String × Nat)} {vm : Vm} {T : State} {h : Heap} {cells slots : Nat} {P : Outcome → State → Prop} {pc : Nat} {L : Array Slot} {K : List Value} {a0 : Array Value} {y : MethodName} {bytes : ByteArray} {maxL : Nat} {ret : Option FieldType} {rm : Room} {as' : Array Value} {Q : Option Value → Heap → Prop} {W len : Nat}
theorem own_nf {U : State} {x y' : MethodName} {aa : Array Value} (hc : x.cls = y'.cls) (w : (Cond.instanceMethod y').before aa U = true) (nf : NotFace U y') : NotFace U x := fun r0 h0 => by
  obtain ⟨r1, _, h1, -⟩ := Cond.instanceMethod_spec w
  obtain ⟨kr, q1, q2⟩ := nf r1 h1
  have e0 := findClass_of_methodNamed h0
  have e1 := findClass_of_methodNamed h1
  rw [hc] at e0
  have e2 : r0.cls = r1.cls := Option.some.inj (e0.symm.trans e1)
  exact ⟨kr, by rw [e2]; exact q1, q2⟩
theorem own_same {U : State} {x : MethodName} {aa : Array Value} (w : (Cond.instanceMethod x).before aa U = true) (nf : NotFace U x) (hx : x.cls ≠ "java/lang/invoke/MethodHandle" ∧ x.cls ≠ "java/lang/invoke/VarHandle") : (Cond.sameMethod x.cls x.cls x.name x.desc).before aa U = true := by
  obtain ⟨r1, _, h1, -⟩ := Cond.instanceMethod_spec w
  obtain ⟨kr, q1, q2⟩ := nf r1 h1
  have hf := State.methodFound?_of_named h1 hx
  have e1 := findClass_of_methodNamed h1
  have h1' : U.methodNamed? ⟨x.cls, x.name, x.desc⟩ = some r1 := h1
  simp [Cond.before, Cond.holds, Cond.value, e1, hf, h1', q1, q2]
theorem own_decl {U : State} {x : MethodName} {aa : Array Value} (wi : (Cond.instanceMethod x).before aa U = true) (wc : (Cond.code x bytes maxL ret).before aa U = true) : (Cond.declares x).before aa U = true := by
  obtain ⟨mk, methM, hn, hm, hst, -⟩ := Cond.instanceMethod_spec wi
  obtain ⟨m2, cM, q1, -, -, -, -, -, -, hsig⟩ := Cond.code_spec hn wc
  cases hm.symm.trans q1
  simp [Cond.before, Cond.holds, Cond.value, hn, hm, hst, hsig]
theorem St.callXN (S : St md p l e R s m args below meth c own Z EL vm T h cells slots) (hx : p.tables.exec = Jvm.exec) {index : Nat} {a : Addr} {C : String} (w1 : (Cond.methodLink own index y).before a0 Z = true) (w2 : (Cond.sameMethod y.cls y.cls y.name y.desc).before a0 Z = true) (w3 : (Cond.instanceMethod y).before a0 Z = true) (w4 : (Cond.superclass own y.cls).before a0 Z = true) (hn : y.name ≠ "<init>") (F : Ins Z h a C true) (wc : (Cond.code y bytes maxL ret).before a0 Z = true) {k n : Nat} {QN : Option Value → Heap → List Loc → Prop} (hK : Back l R p e below (s.setVm vm) args y 3 W (PreN R as' h k n) (PostN QN k n)) (hQ : ∀ v h' Lc, QN v h' Lc → Fr Z.heap.size Lc ∧ Old Z Z.heap.size h' ∧ CHr Z EL vm h vm h') (hml : L.size = c.maxLocals) (argsL rest : List Value) (hlen : ∀ sig, parseMethodDescriptor y.desc = some sig → argsL.length = sig.parameters.length) (hst : K = argsL.reverse ++ .ref a :: rest) (has : (.ref a :: argsL).toArray = as') (hW : (rest.map fun v => v.category).sum ≤ W) (hd : decode c.code pc = .ok (.invokespecial index, 3)) (hc : cells + k ≤ R.cells) (hs : slots + n ≤ R.slots) (p' : Nat) (hp : p' = pc + 3)
    (q : ∀ v T' h' Lc, St md p l e R s m args below meth c own Z EL vm T' h' (cells + k) (slots + n) → QN v h' Lc → CHr Z EL vm h vm h' → Goes p.tables e below P T' (mkF m p' L (v.toList ++ rest))) : Goes p.tables e below P T (mkF m pc L K) := by
  subst hp hst has
  obtain ⟨locs, k0, X, eT, hZ, hown, hS, hk, hC, hF, hO, h0, h2, hE⟩ := S
  obtain ⟨v, vm1, ⟨T', L', k', n'⟩, -, X', ⟨Lc, hq, l', y', z'⟩, st⟩ := superBack (K := C) X hx hZ hown w1 w2 w3 w4 hn hK eT F (g := mkF m pc L (argsL.reverse ++ .ref a :: rest)) rfl hml wc (argsL := argsL) (rest := rest) hlen rfl (by show 2 * 0 + _ ≤ _; omega) hd (fun _ _ => ⟨rfl, eT, hc, hs⟩)
  dsimp only [Pt.U, Pt.locs, Pt.cells, Pt.slots] at X' l' y' z' st hq
  subst l' y' z'
  obtain ⟨r1, r2, r3⟩ := hQ v _ Lc hq
  exact (q v T' T'.heap Lc ⟨_, k0, X', rfl, hZ, hown, hS, Nat.le_trans hk r3.2.1, hC.trans r3, hF.app r1, r2, h0, h2, hE⟩ hq r3).to st
theorem St.callX0 {sf : List Addr} (S : St 0 p l e R s m args below meth c own Z [] vm T h cells slots) (hx : p.tables.exec = Jvm.exec) {index : Nat} {a : Addr} {C : String} (w1 : (Cond.methodLink own index y).before a0 Z = true) (w2 : (Cond.sameMethod y.cls y.cls y.name y.desc).before a0 Z = true) (w3 : (Cond.instanceMethod y).before a0 Z = true) (w4 : (Cond.superclass own y.cls).before a0 Z = true) (hn : y.name ≠ "<init>") (F : Ins Z h a C true) (wc : (Cond.code y bytes maxL ret).before a0 Z = true) (wz : (Cond.initialized y.cls).before a0 Z = true) (hM : Ct 0 l Z [] sf y bytes maxL ret rm as' h Q) (hf : rm.frames + 1 ≤ R.frames) (hl : W + (maxL + 11) + rm.locals ≤ R.locals) (hml : L.size = c.maxLocals) (argsL rest : List Value) (hlen : ∀ sig, parseMethodDescriptor y.desc = some sig → argsL.length = sig.parameters.length) (hst : K = argsL.reverse ++ .ref a :: rest) (has : (.ref a :: argsL).toArray = as') (hW : (rest.map fun v => v.category).sum ≤ W) (hd : decode c.code pc = .ok (.invokespecial index, 3)) (hc : cells + rm.cells ≤ R.cells) (hs : slots + rm.slots ≤ R.slots) (p' : Nat) (hp : p' = pc + 3)
    (q : ∀ v vm' T' h', St 0 p l e R s m args below meth c own Z [] vm' T' h' (cells + rm.cells) (slots + rm.slots) → Q v h' → CHr Z [] vm h vm' h' → Goes p.tables e below P T' (mkF m p' L (v.toList ++ rest))) : Goes p.tables e below P T (mkF m pc L K) :=
  St.callXN S hx w1 w2 w3 w4 hn F wc (ctBack (s := s.setVm vm) hM S.warm wc wz hf hl) (fun v h' Lc r => ⟨r.2.1, r.2.2.1, chr_nil r.2.2.2⟩) hml argsL rest hlen hst has hW hd hc hs p' hp (fun v T' h' Lc S' r R' => q v vm T' h' S' r.1 R')
/-- System.arraycopy over bytes -/
theorem St.cpB (S : St md p l e R s m args below meth c own Z EL vm T h cells slots) (hx : p.tables.exec = Jvm.exec) {index : Nat} (w1 : (Cond.methodLink own index Jvm.Stand.acN).before a0 Z = true) (w2 : (Cond.native Jvm.Stand.acN).before a0 Z = true) (w3 : (Cond.static Jvm.Stand.acN).before a0 Z = true) (w4 : (Cond.initialized "java/lang/System").before a0 Z = true)
    {a b : Addr} {k k' : ClassId} {z z' sp dp nn : Int32} {vs vd us : List Value} {dv dd : Value} (A : Arv Z h a k .byte z vs dv) (B : Arv Z h b k' .byte z' vd dd) (h1 : ¬ sp < 0) (h2 : ¬ dp < 0) (h3 : ¬ nn < 0) (h4 : sp.toNatClampNeg + nn.toNatClampNeg ≤ z.toNatClampNeg) (h5 : dp.toNatClampNeg + nn.toNatClampNeg ≤ z'.toNatClampNeg)
    (hus : us = (List.range nn.toNatClampNeg).map fun i => vs.getD (sp.toNatClampNeg + i) dv) (hl : dp.toNatClampNeg + nn.toNatClampNeg ≤ vd.length) (ge : Z.heap.size ≤ b) (sf : Safe Z EL vm h b) (hml : L.size = c.maxLocals) (rest : List Value) (hd : decode c.code pc = .ok (.invokestatic index, 3)) (hf : 1 ≤ R.frames) (hW : (rest.map fun v => v.category).sum ≤ W) (hlo : W + 18 ≤ R.locals) (p' : Nat) (hp : p' = pc + 3)
    (q : ∀ T' h', St md p l e R s m args below meth c own Z EL vm T' h' cells slots → Keep h h' [b] → Arv Z h' b k' .byte z' (vd.take dp.toNatClampNeg ++ us ++ vd.drop (dp.toNatClampNeg + nn.toNatClampNeg)) dd → CHr Z EL vm h vm h' → Goes p.tables e below P T' (mkF m p' L rest)) : Goes p.tables e below P T (mkF m pc L (.int nn :: .int dp :: .ref b :: .int sp :: .ref a :: rest)) := by
  subst hp
  obtain ⟨locs, k0, X, eT, hZ, hown, hS, hk, hC, hF, hO, h0, h2', hE⟩ := S
  obtain ⟨T', h', L', X', e', F', K', B', st⟩ := cpA X hx hZ hown w1 w2 w3 w4 eT A B (Or.inl ⟨rfl, rfl⟩) h1 h2 h3 h4 h5 hus hl hF ge (g := mkF m pc L (.int nn :: .int dp :: .ref b :: .int sp :: .ref a :: rest)) rfl hml rfl hd hf (W := W) (by show 2 * 0 + _ ≤ _; omega) hlo
  have hR : CHr Z EL vm h vm h' := CHr.keep K' (fun x hx => by cases List.mem_singleton.mp hx; exact sf) hC.1
  exact (q T' h' ⟨L', k0, X', e', hZ, hown, hS, Nat.le_trans hk hR.2.1, hC.trans hR, F', hO.keep K' (fun x hx => by cases List.mem_singleton.mp hx; exact ge), h0, h2', hE⟩ K' B' hR).via st
/-- newarray of a primitive kind, with its class -/
theorem St.newAE (S : St md p l e R s m args below meth c own Z EL vm T h cells slots) (hx : p.tables.exec = Jvm.exec) {aty : ArrayType} (w : (Cond.arrayClass (newarray.typeOf aty)).before a0 Z = true) {n : Int32} (hn : ¬ n < 0) {cap : Nat} (hcap : n.toNatClampNeg ≤ cap) (hb : cap * 8 ≤ 536870912) (hd : decode c.code pc = .ok (.newarray aty, 2)) (hc : cells + 1 ≤ R.cells) (hl : slots + cap ≤ R.slots) {ad : String} (had : "[" ++ (newarray.typeOf aty).toString = ad) (p' : Nat) (hp : p' = pc + 2)
    (q : ∀ T' h' a k, St md p l e R s m args below meth c own Z EL vm T' h' (cells + 1) (slots + cap) → a = h.size → Ext h h' → Arv Z h' a k (newarray.typeOf aty) n (List.replicate cap (defaultValue (newarray.typeOf aty))) (defaultValue (newarray.typeOf aty)) → Exa Z h' a ad → Safe Z EL vm h' a → CHr Z EL vm h vm h' → Goes p.tables e below P T' (mkF m p' L (.ref a :: K))) : Goes p.tables e below P T (mkF m pc L (.int n :: K)) := by
  subst hp
  obtain ⟨locs, k, X, eT, hZ, hown, hS, hk, hC, hF, hO, h0, h2, hE⟩ := S
  obtain ⟨T', h', cA, X', e', E', A', B', st⟩ := newPE X hx hZ w eT (g := mkF m pc L (.int n :: K)) rfl hd rfl hn hcap hb hc hl had
  exact (q T' h' h.size cA ⟨locs, k, X', e', hZ, hown, hS, Nat.le_trans hk E'.1, hC.trans (CHr.ext E' hC.1), hF, hO.ext E', h0, h2, hE⟩ rfl E' ((Arv.new A' hn).pad (pad_rep [] _ cap)) B' (Safe.ext E' hC.1 (Safe.new (Nat.le_refl _))) (CHr.ext E' hC.1)).via st
/-- the array of a String constant is a byte[] -/
theorem own_exaB {a b : Addr} {k : ClassId} {z : Int32} {vs : List Value} {dv : Value} (N : ∀ x, Safe Z EL vm h x → x ≠ a ∧ x ≠ b) (hal : Z.vm.Alike vm) (A : Arv Z h b k .byte z vs dv) : Exa Z h b "[B" := by
  have B : Bk Z EL vm h b := Classical.byContradiction fun q => (N b q).2 rfl
  obtain ⟨cl, ⟨A1, A2, A3⟩, -⟩ := A
  obtain ⟨A4, kA, hkA, compA, hkindA⟩ := A2
  obtain ⟨p, -, u, a', -, q, -, F, rfl | rfl⟩ := B
  · exfalso
    obtain ⟨kA', hkA', ekA⟩ := hal.2.2 _ _ hkA
    cases (show h[q.sa]? = some q.sC from F.ha).symm.trans A1
    obtain ⟨cS, ⟨-, -, e⟩, ⟨kS, g1, g2, -⟩, -⟩ := F
    subst e
    cases (show vm.classes[q.sC.cls]? = some kS from g1).symm.trans hkA'
    rw [ekA] at g2
    have := hkindA.symm.trans g2
    cases this
  · cases (show h[q.sd]? = some q.SA from F.hd).symm.trans A1
    have Fd : h[q.sd]? = some q.SA := F.hd
    obtain ⟨cS, -, -, f, -⟩ := F
    have f : vm.findClass "[B" = some q.SA.cls := f
    rw [hal.findClass] at f
    refine ⟨q.SA, kA, Fd, f, hkA, ?_, fun r => by rw [hkindA] at r; cases r⟩
    cases hv : q.SA.vm <;> first | rfl | exact absurd hv (A4 _)
end F
end Jvm.Own
/- laws to paste: Road.backV, Road.lenW, Road.eqW, Road.codOf (cut by pick.py; bodies as the Statement names them) -/
namespace Jvm.Pilot.@@N@@
namespace StrChars
open Jvm Sem ClassFile Op Lib Jvm.Stand Jvm.Free.XT Jvm.Free.ALB Jvm.Free.JM Jvm.Free
open Jvm.Lib.Cold (StaticIs)
/-- a char array whose places are chars -/
def Ch (a : Addr) (A : Cell) (U : State) : Prop := Arr .char a A U ∧ Typed .char A
theorem Ch.mv {a : Addr} {A : Cell} {U U' : State} (h : Ch a A U) (hal : U.vm.Alike U'.vm) (hh : U'.heap = U.heap) : Ch a A U' := ⟨h.1.mv hal hh, h.2⟩
theorem Ch.keep {a : Addr} {A : Cell} {U U' : State} (h : Ch a A U) (hal : U.vm.Alike U'.vm) (hk : U'.heap[a]? = some A) : Ch a A U' := ⟨h.1.keep hal hk, h.2⟩
/-- what place i of a char[]'s cell holds -/
def cv (A : Cell) (i : Nat) : Int32 := match A.slots[i]? with | some (.int x) => x | _ => 0
theorem Ch.get {a : Addr} {A : Cell} {U : State} (h : Ch a A U) {i : Nat} (hi : i < A.slots.size) : A.slots[i]? = some (.int (cv A i)) := by
  have e := Array.getElem?_eq_getElem hi
  have f := h.2 i _ e
  unfold cv; rw [e]
  generalize A.slots[i] = v at f
  cases v <;> simp [fits] at f ⊢
/-- the byte that i2b leaves of a char -/
def lo8 (x : Int32) : Int32 := x.toInt8.toInt32
theorem fits_lo8 (y : Int32) : fits .byte (.int (lo8 y)) = true := by
  have h1 := y.toInt8.le_toInt
  have h2 := y.toInt8.toInt_lt
  simp only [lo8, fits, Bool.and_eq_true, decide_eq_true_eq, Int32.le_iff_toInt_le, Int8.toInt_toInt32, show (-128 : Int32).toInt = -128 from by decide, show (127 : Int32).toInt = 127 from by decide]
  omega
/-- A' is A but that each place j of lo .. hi - 1 holds f j -/
def Laid (A A' : Cell) (lo hi : Nat) (f : Nat → Value) : Prop := A'.cls = A.cls ∧ A'.vm = A.vm ∧ A'.slots.size = A.slots.size ∧ ∀ i, A'.slots[i]? = if lo ≤ i ∧ i < hi then some (f i) else A.slots[i]?
theorem Laid.zero (A : Cell) (lo : Nat) (f : Nat → Value) : Laid A A lo (lo + 0) f := ⟨rfl, rfl, rfl, fun i => by rw [if_neg (by omega)]⟩
theorem Laid.step {A Ak : Cell} {lo k : Nat} {f : Nat → Value} {v : Value} (h : Laid A Ak lo k f) (hlo : lo ≤ k) (hk : k < Ak.slots.size) (hv : v = f k) : Laid A (Ak.setSlot k v) lo (k + 1) f := by
  refine ⟨h.1, h.2.1, by simpa [Cell.setSlot] using h.2.2.1, fun i => ?_⟩
  by_cases e : k = i
  · subst e; rw [Cell.slots_setSlot_self v hk, if_pos (by omega), hv]
  · rw [Cell.slots_setSlot_ne v e, h.2.2.2 i]
    by_cases q : lo ≤ i ∧ i < k
    · rw [if_pos q, if_pos (by omega)]
    · rw [if_neg q, if_neg (by omega)]
def U16 : String := "java/lang/StringUTF16"
namespace Cmp5
def yN : MethodName := ⟨"java/lang/StringUTF16", "compress", "([CI[BII)I"⟩
abbrev yB : ByteArray := jdk_52_method_21_code
theorem d0 : decode yB 0 = .ok (.iconst 0, 1) := by decide +kernel
theorem d1 : decode yB 1 = .ok (.istore 5, 2) := by decide +kernel
theorem d3 : decode yB 3 = .ok (.iload 5, 2) := by decide +kernel
theorem d5 : decode yB 5 = .ok (.iload 4, 2) := by decide +kernel
theorem d7 : decode yB 7 = .ok (.if_icmp (.ge) 37, 3) := by decide +kernel
theorem d10 : decode yB 10 = .ok (.aload_n 0, 1) := by decide +kernel
theorem d11 : decode yB 11 = .ok (.iload_n 1, 1) := by decide +kernel
theorem d12 : decode yB 12 = .ok (.caload, 1) := by decide +kernel
theorem d13 : decode yB 13 = .ok (.istore 6, 2) := by decide +kernel
theorem d15 : decode yB 15 = .ok (.iload 6, 2) := by decide +kernel
theorem d17 : decode yB 17 = .ok (.sipush 255, 3) := by decide +kernel
theorem d20 : decode yB 20 = .ok (.if_icmp (.le) 6, 3) := by decide +kernel
theorem d26 : decode yB 26 = .ok (.aload_n 2, 1) := by decide +kernel
theorem d27 : decode yB 27 = .ok (.iload_n 3, 1) := by decide +kernel
theorem d28 : decode yB 28 = .ok (.iload 6, 2) := by decide +kernel
theorem d30 : decode yB 30 = .ok (.i2b, 1) := by decide +kernel
theorem d31 : decode yB 31 = .ok (.bastore, 1) := by decide +kernel
theorem d32 : decode yB 32 = .ok (.iinc 1 1, 3) := by decide +kernel
theorem d35 : decode yB 35 = .ok (.iinc 3 1, 3) := by decide +kernel
theorem d38 : decode yB 38 = .ok (.iinc 5 1, 3) := by decide +kernel
theorem d41 : decode yB 41 = .ok (.goto (-38), 3) := by decide +kernel
theorem d44 : decode yB 44 = .ok (.iload 4, 2) := by decide +kernel
theorem d46 : decode yB 46 = .ok (.ireturn, 1) := by decide +kernel
def site : List Cond := []
def tab : Cond := tabOf yN yB 7 (some .int) site
def P (b : Addr) (A : Cell) (d : Addr) (B : Cell) (o q len : Nat) (args : Array Value) (s : State) : Prop := args = #[.ref b, .int (Int32.ofNat o), .ref d, .int (Int32.ofNat q), .int (Int32.ofNat len)] ∧ Ch b A s ∧ Arr .byte d B s ∧ b ≠ d ∧ o + len ≤ A.slots.size ∧ q + len ≤ B.slots.size ∧ ∀ i, i < len → ¬ 255 < cv A (o + i)
def E (b : Addr) (A : Cell) (d : Addr) (B : Cell) (o q len : Nat) (r : Option Value) (s u : State) : Prop := r = some (.int (Int32.ofNat len)) ∧ ∃ B', Put d B' s u ∧ Laid B B' q (q + len) (fun j => Value.int (lo8 (cv A (o + (j - q)))))
/-- no char of the range above 255: len; the places written hold each char's low byte -/
theorem law (l : Launch) (b : Addr) (A : Cell) (d : Addr) (B : Cell) (o q len : Nat) : Law l yN 5 5 0 0 yB 7 (some .int) site (P b A d B o q len) (E b A d B o q len) (copyLocs d q len) 0 0 := by
  refine Law.of_walk (plainFor_of_name (by decide +kernel)) (by decide +kernel) (by decide +kernel) (by decide) (fun _ _ h => by rw [h.1]; rfl) (fun _ U U' hal hh h => ⟨h.1, h.2.1.mv hal hh, h.2.2.1.mv hal hh, h.2.2.2⟩) (fun r U U' V V' h1 hal h2 h => ⟨h.1, h.2.elim fun B' q => ⟨B', q.1.mv h1 h2, q.2⟩⟩) ?_
  intro p e s m args below meth c s₁ X0 hexec hbytes hml hret hlk hnm hown hh0 W hP
  obtain ⟨rfl, hA, hB, hne, l1, l2, hp⟩ := hP
  have c1 : Steps p.tables e below (s₁.setTop (entryFrame m #[.ref b, .int (Int32.ofNat o), .ref d, .int (Int32.ofNat q), .int (Int32.ofNat len)] 7)) (s₁.setTop (mkF m 0 #[.val (.ref b), .val (.int (Int32.ofNat o)), .val (.ref d), .val (.int (Int32.ofNat q)), .val (.int (Int32.ofNat len)), .unset, .unset] [])) := entry rfl
  have hA0 := hA.1.mv X0.warmed.alike hh0
  have hB0 := hB.mv X0.warmed.alike hh0
  have a31 := hA.1.2.2.2
  have c2 : Steps p.tables e below (s₁.setTop (entryFrame m #[.ref b, .int (Int32.ofNat o), .ref d, .int (Int32.ofNat q), .int (Int32.ofNat len)] 7)) (s₁.setTop (mkF m 3 #[.val (.ref b), .val (.int (Int32.ofNat o)), .val (.ref d), .val (.int (Int32.ofNat q)), .val (.int (Int32.ofNat len)), .val (.int 0), .unset] [])) := c1.trans (by
    refine iconstV X0.here hexec rfl 0 (hb hbytes d0) (by decide) ?_
    refine XS.istore X0.here hexec rfl (hb hbytes d1) rfl rfl ?_
    exact Steps.refl _)
  have loop : ∀ (r i : Nat), i + r = len → ∀ (z : Slot), (z = .unset ∨ ∃ w, z = .val w ∧ w.category = 1) → ∀ (Tl : State) (Bk : Cell), Stand p l e { frames := 0, locals := 0, cells := 0, slots := 0 } s m #[.ref b, .int (Int32.ofNat o), .ref d, .int (Int32.ofNat q), .int (Int32.ofNat len)] below meth c Tl ([] ++ copyLocs d q i) 0 0 → Put d Bk s₁ Tl → Laid B Bk q (q + i) (fun j => Value.int (lo8 (cv A (o + (j - q))))) →
      Steps p.tables e below (s₁.setTop (entryFrame m #[.ref b, .int (Int32.ofNat o), .ref d, .int (Int32.ofNat q), .int (Int32.ofNat len)] 7)) (Tl.setTop (mkF m 3 #[.val (.ref b), .val (.int (Int32.ofNat (o + i))), .val (.ref d), .val (.int (Int32.ofNat (q + i))), .val (.int (Int32.ofNat len)), .val (.int (Int32.ofNat i)), z] [])) → ∃ (T' : State) (B' : Cell) (z' : Slot), Stand p l e { frames := 0, locals := 0, cells := 0, slots := 0 } s m #[.ref b, .int (Int32.ofNat o), .ref d, .int (Int32.ofNat q), .int (Int32.ofNat len)] below meth c T' ([] ++ copyLocs d q len) 0 0 ∧ Put d B' s₁ T' ∧ Laid B B' q (q + len) (fun j => Value.int (lo8 (cv A (o + (j - q))))) ∧
      Steps p.tables e below (s₁.setTop (entryFrame m #[.ref b, .int (Int32.ofNat o), .ref d, .int (Int32.ofNat q), .int (Int32.ofNat len)] 7)) (T'.setTop (mkF m 3 #[.val (.ref b), .val (.int (Int32.ofNat (o + len))), .val (.ref d), .val (.int (Int32.ofNat (q + len))), .val (.int (Int32.ofNat len)), .val (.int (Int32.ofNat len)), z'] [])) := by
    intro r
    induction r with
    | zero =>
      intro i hi z hz Tl Bk Xl pl fl cl
      have hil : i = len := by omega
      rw [hil] at Xl fl cl
      exact ⟨Tl, Bk, z, Xl, pl, fl, cl⟩
    | succ r ih =>
      intro i hi z hz Tl Bk Xl pl fl cl
      have all := X0.warmed.alike.symm.trans Xl.warmed.alike
      have hAl := hA0.keep all (pl.other hne hA0.1)
      have hBk := hB0.like all pl.1 fl.1 fl.2.1 fl.2.2.1
      have hlt : q + i < Bk.slots.size := by rw [fl.2.2.1]; omega
      have c3 : Steps p.tables e below (s₁.setTop (entryFrame m #[.ref b, .int (Int32.ofNat o), .ref d, .int (Int32.ofNat q), .int (Int32.ofNat len)] 7)) (Tl.setTop (mkF m 12 #[.val (.ref b), .val (.int (Int32.ofNat (o + i))), .val (.ref d), .val (.int (Int32.ofNat (q + i))), .val (.int (Int32.ofNat len)), .val (.int (Int32.ofNat i)), z] [.int (Int32.ofNat (o + i)), .ref b])) := cl.trans (by
        refine XS.iload Xl.here hexec rfl (hb hbytes d3) rfl ?_
        refine XS.iload Xl.here hexec rfl (hb hbytes d5) rfl ?_
        refine XS.icmpNo Xl.here hexec rfl (hb hbytes d7) rfl (ii_ge_f (lt32 (by omega) (by omega))) ?_
        refine XS.aloadN Xl.here hexec rfl (hb hbytes d10) rfl rfl ?_
        refine XS.iloadN Xl.here hexec rfl (hb hbytes d11) rfl ?_
        exact Steps.refl _)
      have c4 : Steps p.tables e below (s₁.setTop (entryFrame m #[.ref b, .int (Int32.ofNat o), .ref d, .int (Int32.ofNat q), .int (Int32.ofNat len)] 7)) (Tl.setTop (mkF m 13 #[.val (.ref b), .val (.int (Int32.ofNat (o + i))), .val (.ref d), .val (.int (Int32.ofNat (q + i))), .val (.int (Int32.ofNat len)), .val (.int (Int32.ofNat i)), z] [.int (cv A (o + i))])) := c3.trans (by
        refine Xl.aget hexec hAl rfl (hA.get (i := o + i) (by omega)) rfl rfl (hb hbytes d12) ?_
        exact Steps.refl _)
      have c5 : Steps p.tables e below (s₁.setTop (entryFrame m #[.ref b, .int (Int32.ofNat o), .ref d, .int (Int32.ofNat q), .int (Int32.ofNat len)] 7)) (Tl.setTop (mkF m 15 #[.val (.ref b), .val (.int (Int32.ofNat (o + i))), .val (.ref d), .val (.int (Int32.ofNat (q + i))), .val (.int (Int32.ofNat len)), .val (.int (Int32.ofNat i)), .val (.int (cv A (o + i)))] [])) := c4.trans (by
        refine XS.istoreS Xl.here hexec rfl (hb hbytes d13) rfl rfl hz ?_
        exact Steps.refl _)
      have c6 : Steps p.tables e below (s₁.setTop (entryFrame m #[.ref b, .int (Int32.ofNat o), .ref d, .int (Int32.ofNat q), .int (Int32.ofNat len)] 7)) (Tl.setTop (mkF m 31 #[.val (.ref b), .val (.int (Int32.ofNat (o + i))), .val (.ref d), .val (.int (Int32.ofNat (q + i))), .val (.int (Int32.ofNat len)), .val (.int (Int32.ofNat i)), .val (.int (cv A (o + i)))] [.int (lo8 (cv A (o + i))), .int (Int32.ofNat (q + i)), .ref d])) := c5.trans (by
        refine XS.iload Xl.here hexec rfl (hb hbytes d15) rfl ?_
        refine sipushV Xl.here hexec rfl 255 (hb hbytes d17) (by decide) ?_
        refine XS.icmpYes Xl.here hexec rfl (pc0 := 20) rfl (hb hbytes d20) rfl (ii_le_t (hp i (by omega))) (by decide) rfl ?_
        refine XS.aloadN Xl.here hexec rfl (hb hbytes d26) rfl rfl ?_
        refine XS.iloadN Xl.here hexec rfl (hb hbytes d27) rfl ?_
        refine XS.iload Xl.here hexec rfl (hb hbytes d28) rfl ?_
        refine i2b Xl.here hexec rfl (hb hbytes d30) rfl ?_
        exact Steps.refl _)
      obtain ⟨T7, X7, p7, st7⟩ := Xl.aput hexec hBk rfl hlt rfl (fits_lo8 (cv A (o + i))) (g := (mkF m 31 #[.val (.ref b), .val (.int (Int32.ofNat (o + i))), .val (.ref d), .val (.int (Int32.ofNat (q + i))), .val (.int (Int32.ofNat len)), .val (.int (Int32.ofNat i)), .val (.int (cv A (o + i)))] [.int (lo8 (cv A (o + i))), .int (Int32.ofNat (q + i)), .ref d])) rfl (rest := []) rfl (hb hbytes d31)
      have c8 : Steps p.tables e below (s₁.setTop (entryFrame m #[.ref b, .int (Int32.ofNat o), .ref d, .int (Int32.ofNat q), .int (Int32.ofNat len)] 7)) (T7.setTop (mkF m 32 #[.val (.ref b), .val (.int (Int32.ofNat (o + i))), .val (.ref d), .val (.int (Int32.ofNat (q + i))), .val (.int (Int32.ofNat len)), .val (.int (Int32.ofNat i)), .val (.int (cv A (o + i)))] [])) := c6.trans (st7 _ (Steps.refl _))
      have c9 : Steps p.tables e below (s₁.setTop (entryFrame m #[.ref b, .int (Int32.ofNat o), .ref d, .int (Int32.ofNat q), .int (Int32.ofNat len)] 7)) (T7.setTop (mkF m 3 #[.val (.ref b), .val (.int (Int32.ofNat (o + i) + 1)), .val (.ref d), .val (.int (Int32.ofNat (q + i) + 1)), .val (.int (Int32.ofNat len)), .val (.int (Int32.ofNat i + 1)), .val (.int (cv A (o + i)))] [])) := c8.trans (by
        refine iincV X7.here hexec rfl 1 (hb hbytes d32) (by decide) rfl rfl ?_
        refine iincV X7.here hexec rfl 1 (hb hbytes d35) (by decide) rfl rfl ?_
        refine iincV X7.here hexec rfl 1 (hb hbytes d38) (by decide) rfl rfl ?_
        refine XS.goto X7.here hexec rfl (pc0 := 41) rfl (hb hbytes d41) (by decide) rfl ?_
        exact Steps.refl _)
      have c10 : Steps p.tables e below (s₁.setTop (entryFrame m #[.ref b, .int (Int32.ofNat o), .ref d, .int (Int32.ofNat q), .int (Int32.ofNat len)] 7)) (T7.setTop (mkF m 3 #[.val (.ref b), .val (.int (Int32.ofNat (o + (i + 1)))), .val (.ref d), .val (.int (Int32.ofNat (q + (i + 1)))), .val (.int (Int32.ofNat len)), .val (.int (Int32.ofNat (i + 1))), .val (.int (cv A (o + i)))] [])) := by
        have := c9
        rw [succ32, succ32, succ32] at this
        exact this
      exact ih (i + 1) (by omega) _ (Or.inr ⟨_, rfl, rfl⟩) T7 _ (by rw [copyLocs_step, ← List.append_assoc]; exact X7) (pl.trans p7) (fl.step (by omega) hlt (by simp)) c10
  obtain ⟨T9, B9, z9, X9, p9, f9, g9⟩ := loop len 0 (by omega) .unset (Or.inl rfl) s₁ B (by simpa [copyLocs] using X0) ⟨hB0.1, fun _ _ => rfl, rfl⟩ (Laid.zero _ _ _) c2
  have c11 : Steps p.tables e below (s₁.setTop (entryFrame m #[.ref b, .int (Int32.ofNat o), .ref d, .int (Int32.ofNat q), .int (Int32.ofNat len)] 7)) (T9.setTop (mkF m 46 #[.val (.ref b), .val (.int (Int32.ofNat (o + len))), .val (.ref d), .val (.int (Int32.ofNat (q + len))), .val (.int (Int32.ofNat len)), .val (.int (Int32.ofNat len)), z9] [.int (Int32.ofNat len)])) := g9.trans (by
    refine XS.iload X9.here hexec rfl (hb hbytes d3) rfl ?_
    refine XS.iload X9.here hexec rfl (hb hbytes d5) rfl ?_
    refine XS.icmpYes X9.here hexec rfl (pc0 := 7) rfl (hb hbytes d7) rfl (ii_ge_t (nlt32 (by omega) (Nat.le_refl _))) (by decide) rfl ?_
    refine XS.iload X9.here hexec rfl (hb hbytes d44) rfl ?_
    exact Steps.refl _)
  exact ⟨T9, some (.int (Int32.ofNat len)), _, _, _, X9, by simp, rfl, rfl, (fun h => by cases h), ⟨rfl, B9, p9.from hh0, f9⟩, fun fs hl => c11.trans (X9.ireturnOut hexec hret rfl (Or.inl rfl) (hb hbytes d46) hl)⟩
end Cmp5
namespace Cmp3
def yN : MethodName := ⟨"java/lang/StringUTF16", "compress", "([CII)[B"⟩
abbrev yB : ByteArray := jdk_52_method_16_code
theorem d0 : decode yB 0 = .ok (.iload_n 2, 1) := by decide +kernel
theorem d1 : decode yB 1 = .ok (.newarray .byte, 2) := by decide +kernel
theorem d3 : decode yB 3 = .ok (.astore_n 3, 1) := by decide +kernel
theorem d4 : decode yB 4 = .ok (.aload_n 0, 1) := by decide +kernel
theorem d5 : decode yB 5 = .ok (.iload_n 1, 1) := by decide +kernel
theorem d6 : decode yB 6 = .ok (.aload_n 3, 1) := by decide +kernel
theorem d7 : decode yB 7 = .ok (.iconst 0, 1) := by decide +kernel
theorem d8 : decode yB 8 = .ok (.iload_n 2, 1) := by decide +kernel
theorem d9 : decode yB 9 = .ok (.invokestatic 115, 3) := by decide +kernel
theorem d12 : decode yB 12 = .ok (.istore 4, 2) := by decide +kernel
theorem d14 : decode yB 14 = .ok (.iload 4, 2) := by decide +kernel
theorem d16 : decode yB 16 = .ok (.iload_n 2, 1) := by decide +kernel
theorem d17 : decode yB 17 = .ok (.if_icmp (.eq) 40, 3) := by decide +kernel
theorem d57 : decode yB 57 = .ok (.aload_n 3, 1) := by decide +kernel
theorem d58 : decode yB 58 = .ok (.areturn, 1) := by decide +kernel
def site : List Cond := [.arrayClass .byte, Cmp5.tab] ++ staticW U16 115 Cmp5.yN
def tab : Cond := tabOf yN yB 6 (some (.array .byte)) site
def P (b : Addr) (A : Cell) (o len : Nat) (args : Array Value) (s : State) : Prop := args = #[.ref b, .int (Int32.ofNat o), .int (Int32.ofNat len)] ∧ Ch b A s ∧ o + len ≤ A.slots.size ∧ len ≤ 536870912 ∧ ∀ i, i < len → ¬ 255 < cv A (o + i)
def E (b : Addr) (A : Cell) (o len : Nat) (r : Option Value) (s u : State) : Prop := NewArr .byte "[B" len (fun j => .int (lo8 (cv A (o + j)))) r s u ∧ u.heap.size = s.heap.size + 1
/-- no char of the range above 255: a new byte[] of their low bytes -/
theorem law (l : Launch) (b : Addr) (A : Cell) (o len : Nat) : Law l yN 3 3 1 18 yB 6 (some (.array .byte)) site (P b A o len) (E b A o len) [] 1 len := by
  refine Law.of_walk (plainFor_of_name (by decide +kernel)) (by decide +kernel) (by decide +kernel) (by decide) (fun _ _ h => by rw [h.1]; rfl) (fun _ U U' hal hh h => ⟨h.1, h.2.1.mv hal hh, h.2.2⟩) (fun r U U' V V' h1 hal h2 h => ⟨NewArr.mv r U U' V V' h1 hal h2 h.1, by rw [h1, h2]; exact h.2⟩) ?_
  intro p e s m args below meth c s₁ X0 hexec hbytes hml hret hlk hnm hown hh0 W hP
  obtain ⟨rfl, hA, l1, l2, hp⟩ := hP
  have a31 := hA.1.2.2.2
  have c1 : Steps p.tables e below (s₁.setTop (entryFrame m #[.ref b, .int (Int32.ofNat o), .int (Int32.ofNat len)] 6)) (s₁.setTop (mkF m 0 #[.val (.ref b), .val (.int (Int32.ofNat o)), .val (.int (Int32.ofNat len)), .unset, .unset, .unset] [])) := entry rfl
  have c2 : Steps p.tables e below (s₁.setTop (entryFrame m #[.ref b, .int (Int32.ofNat o), .int (Int32.ofNat len)] 6)) (s₁.setTop (mkF m 1 #[.val (.ref b), .val (.int (Int32.ofNat o)), .val (.int (Int32.ofNat len)), .unset, .unset, .unset] [.int (Int32.ofNat len)])) := c1.trans (by
    refine XS.iloadN X0.here hexec rfl (hb hbytes d0) rfl ?_
    exact Steps.refl _)
  obtain ⟨T3, B3, X3, ba3, bs3, bv3, bh3, bf3, st3⟩ := X0.anew hexec (atype := .byte) (wk W (.arrayClass .byte)) rfl (by show len * 1 ≤ _; omega) (by omega) (g := (mkF m 1 #[.val (.ref b), .val (.int (Int32.ofNat o)), .val (.int (Int32.ofNat len)), .unset, .unset, .unset] [.int (Int32.ofNat len)])) rfl (hb hbytes d1) (rest := []) rfl (Nat.le_refl _) (by show 0 + len ≤ len; omega)
  rw [hh0] at ba3 st3
  have kp3 : XT.Kept s T3 := (XT.Kept.of_eq hh0).push bh3
  have hA3 := hA.keep X3.warmed.alike (kp3 _ _ hA.1.1)
  have hne : b ≠ s.heap.size := hA.1.ne
  have c4 : Steps p.tables e below (s₁.setTop (entryFrame m #[.ref b, .int (Int32.ofNat o), .int (Int32.ofNat len)] 6)) (T3.setTop (mkF m 3 #[.val (.ref b), .val (.int (Int32.ofNat o)), .val (.int (Int32.ofNat len)), .unset, .unset, .unset] [.ref s.heap.size])) := c2.trans (st3 _ (Steps.refl _))
  have c5 : Steps p.tables e below (s₁.setTop (entryFrame m #[.ref b, .int (Int32.ofNat o), .int (Int32.ofNat len)] 6)) (T3.setTop (mkF m 9 #[.val (.ref b), .val (.int (Int32.ofNat o)), .val (.int (Int32.ofNat len)), .val (.ref s.heap.size), .unset, .unset] [.int (Int32.ofNat len), .int 0, .ref s.heap.size, .int (Int32.ofNat o), .ref b])) := c4.trans (by
    refine XS.astoreN X3.here hexec rfl (hb hbytes d3) rfl rfl rfl ?_
    refine XS.aloadN X3.here hexec rfl (hb hbytes d4) rfl rfl ?_
    refine XS.iloadN X3.here hexec rfl (hb hbytes d5) rfl ?_
    refine XS.aloadN X3.here hexec rfl (hb hbytes d6) rfl rfl ?_
    refine iconstV X3.here hexec rfl 0 (hb hbytes d7) (by decide) ?_
    refine XS.iloadN X3.here hexec rfl (hb hbytes d8) rfl ?_
    exact Steps.refl _)
  obtain ⟨v6, T6, X6, E6, g6⟩ := X3.callS hexec (Cmp5.law l b A s.heap.size B3 o 0 len) hown (wks W (staticW U16 115 Cmp5.yN)) (wk W Cmp5.tab) (W := 0) (Nat.le_of_ble_eq_true rfl) (Nat.le_of_ble_eq_true rfl) (Nat.le_refl _) (by show 0 + len + 0 ≤ len; omega) (g := (mkF m 9 #[.val (.ref b), .val (.int (Int32.ofNat o)), .val (.int (Int32.ofNat len)), .val (.ref s.heap.size), .unset, .unset] [.int (Int32.ofNat len), .int (Int32.ofNat 0), .ref s.heap.size, .int (Int32.ofNat o), .ref b])) rfl (by rw [hml]; rfl) c5 (argsL := [.ref b, .int (Int32.ofNat o), .ref s.heap.size, .int (Int32.ofNat 0), .int (Int32.ofNat len)]) (rest := []) rfl rfl (by show 2 * 0 + 0 ≤ _; decide) (hb hbytes d9) (⟨rfl, hA3, ba3, hne, l1, by rw [bs3]; simp, hp⟩)
  obtain ⟨rfl, B6, p6, f6⟩ := E6
  have c7 : Steps p.tables e below (s₁.setTop (entryFrame m #[.ref b, .int (Int32.ofNat o), .int (Int32.ofNat len)] 6)) (T6.setTop (mkF m 12 #[.val (.ref b), .val (.int (Int32.ofNat o)), .val (.int (Int32.ofNat len)), .val (.ref s.heap.size), .unset, .unset] [.int (Int32.ofNat len)])) := g6
  have c8 : Steps p.tables e below (s₁.setTop (entryFrame m #[.ref b, .int (Int32.ofNat o), .int (Int32.ofNat len)] 6)) (T6.setTop (mkF m 58 #[.val (.ref b), .val (.int (Int32.ofNat o)), .val (.int (Int32.ofNat len)), .val (.ref s.heap.size), .val (.int (Int32.ofNat len)), .unset] [.ref s.heap.size])) := c7.trans (by
    refine XS.istore X6.here hexec rfl (hb hbytes d12) rfl rfl ?_
    refine XS.iload X6.here hexec rfl (hb hbytes d14) rfl ?_
    refine XS.iloadN X6.here hexec rfl (hb hbytes d16) rfl ?_
    refine XS.icmpYes X6.here hexec rfl (pc0 := 17) rfl (hb hbytes d17) rfl (ii_eq_t rfl) (by decide) rfl ?_
    refine XS.aloadN X6.here hexec rfl (hb hbytes d57) rfl rfl ?_
    exact Steps.refl _)
  have X8 := X6.wide (L' := []) (cells' := 1) (slots' := len) (fun x hx hlt => by
    simp only [List.nil_append, copyLocs, List.mem_map, List.mem_range] at hx
    obtain ⟨i, -, rfl⟩ := hx
    exact absurd hlt (Nat.lt_irrefl _)) (Nat.le_refl _) (by omega)
  exact ⟨T6, some (.ref s.heap.size), _, _, _, X8, rfl, rfl, rfl, (fun h => by cases h), ⟨⟨rfl, B6, ba3.like (X3.warmed.alike.symm.trans X6.warmed.alike) p6.1 f6.1 f6.2.1 f6.2.2.1, f6.2.1.trans bv3, by rw [X6.warmed.alike.findClass, f6.1]; exact bf3, by rw [f6.2.2.1, bs3]; simp, fun j hj => by rw [f6.2.2.2 j, if_pos (by omega)]; rfl, kp3.put p6 (Nat.le_refl _)⟩, by rw [p6.2.2, bh3, hh0]; simp⟩, fun fs hl => c8.trans (X8.areturnOut hexec rfl hret rfl (hb hbytes d58) hl)⟩
end Cmp3
namespace CodL
def yN : MethodName := ⟨"java/lang/StringUTF16", "coderFromArrayLen", "([BI)B"⟩
abbrev yB : ByteArray := jdk_52_method_15_code
theorem d0 : decode yB 0 = .ok (.iload_n 1, 1) := by decide +kernel
theorem d1 : decode yB 1 = .ok (.aload_n 0, 1) := by decide +kernel
theorem d2 : decode yB 2 = .ok (.arraylength, 1) := by decide +kernel
theorem d3 : decode yB 3 = .ok (.isub, 1) := by decide +kernel
theorem d4 : decode yB 4 = .ok (.bipush 31, 2) := by decide +kernel
theorem d6 : decode yB 6 = .ok (.iushr, 1) := by decide +kernel
theorem d7 : decode yB 7 = .ok (.i2b, 1) := by decide +kernel
theorem d8 : decode yB 8 = .ok (.ireturn, 1) := by decide +kernel
def site : List Cond := []
def tab : Cond := tabOf yN yB 2 (some .byte) site
def P (d : Addr) (B : Cell) (args : Array Value) (s : State) : Prop := args = #[.ref d, .int (Int32.ofNat B.slots.size)] ∧ Arr .byte d B s
def E (r : Option Value) (s u : State) : Prop := XT.PureE (some (.int 0)) r s u
/-- an array as long as the number of chars: LATIN1 -/
theorem law (l : Launch) (d : Addr) (B : Cell) : Law l yN 2 2 0 0 yB 2 (some .byte) site (P d B) E [] 0 0 := by
  refine Law.of_walk (plainFor_of_name (by decide +kernel)) (by decide +kernel) (by decide +kernel) (by decide) (fun _ _ h => by rw [h.1]; rfl) (fun _ U U' hal hh h => ⟨h.1, h.2.mv hal hh⟩) (fun r U U' V V' h1 hal h2 h => XT.PureE.mv r U U' V V' h1 hal h2 h) ?_
  intro p e s m args below meth c s₁ X0 hexec hbytes hml hret hlk hnm hown hh0 W hP
  obtain ⟨rfl, hB⟩ := hP
  have hB0 := hB.mv X0.warmed.alike hh0
  have c1 : Steps p.tables e below (s₁.setTop (entryFrame m #[.ref d, .int (Int32.ofNat B.slots.size)] 2)) (s₁.setTop (mkF m 0 #[.val (.ref d), .val (.int (Int32.ofNat B.slots.size))] [])) := entry rfl
  have c2 : Steps p.tables e below (s₁.setTop (entryFrame m #[.ref d, .int (Int32.ofNat B.slots.size)] 2)) (s₁.setTop (mkF m 2 #[.val (.ref d), .val (.int (Int32.ofNat B.slots.size))] [.ref d, .int (Int32.ofNat B.slots.size)])) := c1.trans (by
    refine XS.iloadN X0.here hexec rfl (hb hbytes d0) rfl ?_
    refine XS.aloadN X0.here hexec rfl (hb hbytes d1) rfl rfl ?_
    exact Steps.refl _)
  have c3 : Steps p.tables e below (s₁.setTop (entryFrame m #[.ref d, .int (Int32.ofNat B.slots.size)] 2)) (s₁.setTop (mkF m 8 #[.val (.ref d), .val (.int (Int32.ofNat B.slots.size))] [.int (lo8 (ushr (Int32.ofNat B.slots.size - Int32.ofNat B.slots.size) 31))])) := c2.trans (by
    refine X0.alen hexec hB0 rfl rfl (hb hbytes d2) ?_
    refine XS.isub X0.here hexec rfl (hb hbytes d3) rfl ?_
    refine bipushV X0.here hexec rfl 31 (hb hbytes d4) (by decide) ?_
    refine iushr X0.here hexec rfl (hb hbytes d6) rfl ?_
    refine i2b X0.here hexec rfl (hb hbytes d7) rfl ?_
    exact Steps.refl _)
  have e0 : lo8 (ushr (Int32.ofNat B.slots.size - Int32.ofNat B.slots.size) 31) = 0 := by rw [Int32.sub_self]; decide
  rw [e0] at c3
  exact ⟨s₁, some (.int 0), _, _, _, X0, rfl, rfl, rfl, (fun h => by cases h), ⟨rfl, hh0⟩, fun fs hl => c3.trans (X0.ireturnOut hexec hret rfl (Or.inr (Or.inr (Or.inl rfl))) (hb hbytes d8) hl)⟩
end CodL
/-- the String at a is Latin-1 over a new byte[] (the heap's one new cell): the low bytes of the len chars of A from o on; every cell but a is kept -/
def Got (a : Addr) (D : Cell) (fV fC : Field) (A : Cell) (o len : Nat) (r : Option Value) (s u : State) : Prop := r = none ∧ ∃ D' V : Cell, Blank "java/lang/String" a D' u ∧ Same D D' [fV.slot, fC.slot] ∧ D'.slots[fV.slot]? = some (.ref s.heap.size) ∧ D'.slots[fC.slot]? = some (.int 0) ∧ Arr .byte s.heap.size V u ∧ V.vm = .none ∧ u.vm.findClass "[B" = some V.cls ∧ V.slots.size = len ∧ (∀ j, j < len → V.slots[j]? = some (.int (lo8 (cv A (o + j))))) ∧ (∀ (y : Addr) (c : Cell), y ≠ a → s.heap[y]? = some c → u.heap[y]? = some c) ∧ u.heap.size = s.heap.size + 1
theorem Got.mv {a : Addr} {D A : Cell} {fV fC : Field} {o len : Nat} : ∀ r (U U' V V' : State), U'.heap = U.heap → V.vm.Alike V'.vm → V'.heap = V.heap → Got a D fV fC A o len r U V → Got a D fV fC A o len r U' V' :=
  fun r U U' V V' h1 hal h2 ⟨e0, D', X, a1, a2, a3, a4, a5, a6, a7, a8, a9, a10, a11⟩ => ⟨e0, D', X, a1.mv hal h2, a2, by rw [h1]; exact a3, a4, by rw [h1]; exact a5.mv hal h2, a6, by rw [hal.findClass]; exact a7, a8, a9, by rw [h1, h2]; exact a10, by rw [h1, h2]; exact a11⟩
namespace New4
def yN : MethodName := ⟨"java/lang/String", "<init>", "([CIILjava/lang/Void;)V"⟩
abbrev yB : ByteArray := jdk_42_method_149_code
theorem d0 : decode yB 0 = .ok (.aload_n 0, 1) := by decide +kernel
theorem d1 : decode yB 1 = .ok (.invokespecial 1, 3) := by decide +kernel
theorem d4 : decode yB 4 = .ok (.iload_n 3, 1) := by decide +kernel
theorem d5 : decode yB 5 = .ok (.ifCond (.ne) 22, 3) := by decide +kernel
theorem d27 : decode yB 27 = .ok (.getstatic 38, 3) := by decide +kernel
theorem d30 : decode yB 30 = .ok (.ifCond (.eq) 28, 3) := by decide +kernel
theorem d33 : decode yB 33 = .ok (.aload_n 1, 1) := by decide +kernel
theorem d34 : decode yB 34 = .ok (.iload_n 2, 1) := by decide +kernel
theorem d35 : decode yB 35 = .ok (.iload_n 3, 1) := by decide +kernel
theorem d36 : decode yB 36 = .ok (.invokestatic 177, 3) := by decide +kernel
theorem d39 : decode yB 39 = .ok (.astore 5, 2) := by decide +kernel
theorem d41 : decode yB 41 = .ok (.aload_n 0, 1) := by decide +kernel
theorem d42 : decode yB 42 = .ok (.aload 5, 2) := by decide +kernel
theorem d44 : decode yB 44 = .ok (.iload_n 3, 1) := by decide +kernel
theorem d45 : decode yB 45 = .ok (.invokestatic 47, 3) := by decide +kernel
theorem d48 : decode yB 48 = .ok (.putfield 15, 3) := by decide +kernel
theorem d51 : decode yB 51 = .ok (.aload_n 0, 1) := by decide +kernel
theorem d52 : decode yB 52 = .ok (.aload 5, 2) := by decide +kernel
theorem d54 : decode yB 54 = .ok (.putfield 9, 3) := by decide +kernel
theorem d57 : decode yB 57 = .ok (.return_, 1) := by decide +kernel
def site : List Cond := [.fieldLink "java/lang/String" 38 "java/lang/String" "COMPACT_STRINGS" "Z", Cmp3.tab, CodL.tab, .laysFinal "java/lang/String" "java/lang/String" "value" "[B", .fieldLink "java/lang/String" 9 "java/lang/String" "value" "[B", .laysFinal "java/lang/String" "java/lang/String" "coder" "B", .fieldLink "java/lang/String" 15 "java/lang/String" "coder" "B"] ++ objW "java/lang/String" 1 ++ staticW "java/lang/String" 177 Cmp3.yN ++ staticW "java/lang/String" 47 CodL.yN
def tab : Cond := tabOf yN yB 6 none site
def P (a : Addr) (D : Cell) (fV fC : Field) (b : Addr) (A : Cell) (z : Int32) (o len : Nat) (args : Array Value) (s : State) : Prop := args = #[.ref a, .ref b, .int (Int32.ofNat o), .int (Int32.ofNat len), .null] ∧ Blank "java/lang/String" a D s ∧ Found "java/lang/String" "value" "[B" fV s ∧ Found "java/lang/String" "coder" "B" fC s ∧ Ch b A s ∧ StaticIs s "java/lang/String" "COMPACT_STRINGS" "Z" (.int z) ∧ ¬ z = 0 ∧ 0 < len ∧ o + len ≤ A.slots.size ∧ len ≤ 536870912 ∧ ∀ i, i < len → ¬ 255 < cv A (o + i)
def E (a : Addr) (D : Cell) (fV fC : Field) (A : Cell) (o len : Nat) (r : Option Value) (s u : State) : Prop := Got a D fV fC A o len r s u
/-- len > 0, no char of the range above 255: a Latin-1 String of their low bytes -/
theorem law (l : Launch) (a : Addr) (D : Cell) (fV fC : Field) (b : Addr) (A : Cell) (z : Int32) (o len : Nat) : Law l yN 5 4 2 35 yB 6 none site (P a D fV fC b A z o len) (E a D fV fC A o len) [⟨a, fC.slot⟩, ⟨a, fV.slot⟩] 1 len := by
  refine Law.of_walk (plainFor_of_name (by decide +kernel)) (by decide +kernel) (by decide +kernel) (by decide) (fun _ _ h => by rw [h.1]; rfl) (fun _ U U' hal hh h => ⟨h.1, h.2.1.mv hal hh, h.2.2.1.al hal, h.2.2.2.1.al hal, h.2.2.2.2.1.mv hal hh, h.2.2.2.2.2.1.there hal hh, h.2.2.2.2.2.2⟩) (fun r U U' V V' h1 hal h2 h => Got.mv r U U' V V' h1 hal h2 h) ?_
  intro p e s m args below meth c s₁ X0 hexec hbytes hml hret hlk hnm hown hh0 W hP
  obtain ⟨rfl, hB, f1, f2, hA, s1, hz, l0, l1, l2, hp⟩ := hP
  have a31 := hA.1.2.2.2
  have c1 : Steps p.tables e below (s₁.setTop (entryFrame m #[.ref a, .ref b, .int (Int32.ofNat o), .int (Int32.ofNat len), .null] 6)) (s₁.setTop (mkF m 0 #[.val (.ref a), .val (.ref b), .val (.int (Int32.ofNat o)), .val (.int (Int32.ofNat len)), .val .null, .unset] [])) := entry rfl
  have c2 : Steps p.tables e below (s₁.setTop (entryFrame m #[.ref a, .ref b, .int (Int32.ofNat o), .int (Int32.ofNat len), .null] 6)) (s₁.setTop (mkF m 1 #[.val (.ref a), .val (.ref b), .val (.int (Int32.ofNat o)), .val (.int (Int32.ofNat len)), .val .null, .unset] [.ref a])) := c1.trans (by
    refine XS.aloadN X0.here hexec rfl (hb hbytes d0) rfl rfl ?_
    exact Steps.refl _)
  obtain ⟨T3, X3, q3, st3⟩ := X0.oinit hexec hown (wks W (objW "java/lang/String" 1)) (g := (mkF m 1 #[.val (.ref a), .val (.ref b), .val (.int (Int32.ofNat o)), .val (.int (Int32.ofNat len)), .val .null, .unset] [.ref a])) rfl (by rw [hml]; rfl) (rest := []) rfl (hb hbytes d1) (W := 0) (by show 2 * 0 + 0 ≤ _; decide) (Nat.le_of_ble_eq_true rfl) (Nat.le_of_ble_eq_true rfl)
  have hh3 := q3.trans hh0
  have c4 : Steps p.tables e below (s₁.setTop (entryFrame m #[.ref a, .ref b, .int (Int32.ofNat o), .int (Int32.ofNat len), .null] 6)) (T3.setTop (mkF m 27 #[.val (.ref a), .val (.ref b), .val (.int (Int32.ofNat o)), .val (.int (Int32.ofNat len)), .val .null, .unset] [])) := (c2.trans (st3 _ (Steps.refl _))).trans (by
    refine XS.iloadN X3.here hexec rfl (hb hbytes d4) rfl ?_
    refine XS.ifYes X3.here hexec rfl (pc0 := 5) rfl (hb hbytes d5) rfl (i0_ne_t (nz32 (by omega) l0)) (by decide) rfl ?_
    exact Steps.refl _)
  obtain ⟨T5, X5, q5, st5⟩ := X3.sget hexec hown (wk W (.fieldLink "java/lang/String" 38 "java/lang/String" "COMPACT_STRINGS" "Z")) s1 (fun _ _ h => by rw [hh3]; exact h) (g := (mkF m 27 #[.val (.ref a), .val (.ref b), .val (.int (Int32.ofNat o)), .val (.int (Int32.ofNat len)), .val .null, .unset] [])) rfl (hb hbytes d27)
  have hh5 := q5.trans hh3
  have c6 : Steps p.tables e below (s₁.setTop (entryFrame m #[.ref a, .ref b, .int (Int32.ofNat o), .int (Int32.ofNat len), .null] 6)) (T5.setTop (mkF m 30 #[.val (.ref a), .val (.ref b), .val (.int (Int32.ofNat o)), .val (.int (Int32.ofNat len)), .val .null, .unset] [.int z])) := c4.trans (st5 _ (Steps.refl _))
  have c7 : Steps p.tables e below (s₁.setTop (entryFrame m #[.ref a, .ref b, .int (Int32.ofNat o), .int (Int32.ofNat len), .null] 6)) (T5.setTop (mkF m 36 #[.val (.ref a), .val (.ref b), .val (.int (Int32.ofNat o)), .val (.int (Int32.ofNat len)), .val .null, .unset] [.int (Int32.ofNat len), .int (Int32.ofNat o), .ref b])) := c6.trans (by
    refine XS.ifNo X5.here hexec rfl (hb hbytes d30) rfl (i0_eq_f hz) ?_
    refine XS.aloadN X5.here hexec rfl (hb hbytes d33) rfl rfl ?_
    refine XS.iloadN X5.here hexec rfl (hb hbytes d34) rfl ?_
    refine XS.iloadN X5.here hexec rfl (hb hbytes d35) rfl ?_
    exact Steps.refl _)
  obtain ⟨v8, T8, X8, E8, g8⟩ := X5.callS hexec (Cmp3.law l b A o len) hown (wks W (staticW "java/lang/String" 177 Cmp3.yN)) (wk W Cmp3.tab) (W := 0) (Nat.le_of_ble_eq_true rfl) (Nat.le_of_ble_eq_true rfl) (Nat.le_refl _) (by show 0 + len ≤ len; omega) (g := (mkF m 36 #[.val (.ref a), .val (.ref b), .val (.int (Int32.ofNat o)), .val (.int (Int32.ofNat len)), .val .null, .unset] [.int (Int32.ofNat len), .int (Int32.ofNat o), .ref b])) rfl (by rw [hml]; rfl) c7 (argsL := [.ref b, .int (Int32.ofNat o), .int (Int32.ofNat len)]) (rest := []) rfl rfl (by show 2 * 0 + 0 ≤ _; decide) (hb hbytes d36) (⟨rfl, hA.mv X5.warmed.alike hh5, l1, l2, hp⟩)
  obtain ⟨e8, z8⟩ := E8
  obtain ⟨rfl, N, n1, n2, n3, n4, n5, n6⟩ := NewArr.mv _ T5 s _ _ hh5.symm (Vm.Alike.refl _) rfl e8
  rw [hh5] at z8
  have hB1 := hB.keep X8.warmed.alike (n6 _ _ hB.1)
  have hne : s.heap.size ≠ a := (Nat.ne_of_lt (Array.getElem?_eq_some_iff.mp hB.1).1).symm
  have c9 : Steps p.tables e below (s₁.setTop (entryFrame m #[.ref a, .ref b, .int (Int32.ofNat o), .int (Int32.ofNat len), .null] 6)) (T8.setTop (mkF m 39 #[.val (.ref a), .val (.ref b), .val (.int (Int32.ofNat o)), .val (.int (Int32.ofNat len)), .val .null, .unset] [.ref s.heap.size])) := g8
  have c10 : Steps p.tables e below (s₁.setTop (entryFrame m #[.ref a, .ref b, .int (Int32.ofNat o), .int (Int32.ofNat len), .null] 6)) (T8.setTop (mkF m 45 #[.val (.ref a), .val (.ref b), .val (.int (Int32.ofNat o)), .val (.int (Int32.ofNat len)), .val .null, .val (.ref s.heap.size)] [.int (Int32.ofNat N.slots.size), .ref s.heap.size, .ref a])) := by
    have hc : Steps p.tables e below (s₁.setTop (entryFrame m #[.ref a, .ref b, .int (Int32.ofNat o), .int (Int32.ofNat len), .null] 6)) (T8.setTop (mkF m 45 #[.val (.ref a), .val (.ref b), .val (.int (Int32.ofNat o)), .val (.int (Int32.ofNat len)), .val .null, .val (.ref s.heap.size)] [.int (Int32.ofNat len), .ref s.heap.size, .ref a])) := c9.trans (by
      refine XS.astore X8.here hexec rfl (hb hbytes d39) rfl rfl rfl ?_
      refine XS.aloadN X8.here hexec rfl (hb hbytes d41) rfl rfl ?_
      refine XS.aload X8.here hexec rfl (hb hbytes d42) rfl rfl ?_
      refine XS.iloadN X8.here hexec rfl (hb hbytes d44) rfl ?_
      exact Steps.refl _)
    rw [n4]; exact hc
  obtain ⟨v11, T11, X11, E11, g11⟩ := X8.callS hexec (CodL.law l s.heap.size N) hown (wks W (staticW "java/lang/String" 47 CodL.yN)) (wk W CodL.tab) (W := 1) (Nat.le_of_ble_eq_true rfl) (Nat.le_of_ble_eq_true rfl) (Nat.le_refl _) (by show 0 + len + 0 ≤ len; omega) (g := (mkF m 45 #[.val (.ref a), .val (.ref b), .val (.int (Int32.ofNat o)), .val (.int (Int32.ofNat len)), .val .null, .val (.ref s.heap.size)] [.int (Int32.ofNat N.slots.size), .ref s.heap.size, .ref a])) rfl (by rw [hml]; rfl) c10 (argsL := [.ref s.heap.size, .int (Int32.ofNat N.slots.size)]) (rest := [.ref a]) rfl rfl (by show 2 * 0 + (1 + 0) ≤ _; decide) (hb hbytes d45) (⟨rfl, n1⟩)
  obtain ⟨rfl, q11⟩ := E11
  have hB11 := hB1.mv (X8.warmed.alike.symm.trans X11.warmed.alike) q11
  have c12 : Steps p.tables e below (s₁.setTop (entryFrame m #[.ref a, .ref b, .int (Int32.ofNat o), .int (Int32.ofNat len), .null] 6)) (T11.setTop (mkF m 48 #[.val (.ref a), .val (.ref b), .val (.int (Int32.ofNat o)), .val (.int (Int32.ofNat len)), .val .null, .val (.ref s.heap.size)] [.int 0, .ref a])) := g11
  obtain ⟨T13, X13, p13, bl13, sl13, st13⟩ := X11.finit hexec hown (wk W (.fieldLink "java/lang/String" 15 "java/lang/String" "coder" "B")) (Or.inr ⟨_, (wk W (.laysFinal "java/lang/String" "java/lang/String" "coder" "B"))⟩) (Or.inl ⟨rfl, hnm⟩) f2 (Or.inl rfl) hB11 (t := .byte) (by decide +kernel) rfl (g := (mkF m 48 #[.val (.ref a), .val (.ref b), .val (.int (Int32.ofNat o)), .val (.int (Int32.ofNat len)), .val .null, .val (.ref s.heap.size)] [.int 0, .ref a])) rfl (rest := []) rfl (hb hbytes d48)
  have c14 : Steps p.tables e below (s₁.setTop (entryFrame m #[.ref a, .ref b, .int (Int32.ofNat o), .int (Int32.ofNat len), .null] 6)) (T13.setTop (mkF m 54 #[.val (.ref a), .val (.ref b), .val (.int (Int32.ofNat o)), .val (.int (Int32.ofNat len)), .val .null, .val (.ref s.heap.size)] [.ref s.heap.size, .ref a])) := (c12.trans (st13 _ (Steps.refl _))).trans (by
    refine XS.aloadN X13.here hexec rfl (hb hbytes d51) rfl rfl ?_
    refine XS.aload X13.here hexec rfl (hb hbytes d52) rfl rfl ?_
    exact Steps.refl _)
  obtain ⟨T15, X15, p15, bl15, sl15, st15⟩ := X13.finit hexec hown (wk W (.fieldLink "java/lang/String" 9 "java/lang/String" "value" "[B")) (Or.inr ⟨_, (wk W (.laysFinal "java/lang/String" "java/lang/String" "value" "[B"))⟩) (Or.inl ⟨rfl, hnm⟩) f1 (Or.inl rfl) bl13 (t := (.array .byte)) (by decide +kernel) rfl (g := (mkF m 54 #[.val (.ref a), .val (.ref b), .val (.int (Int32.ofNat o)), .val (.int (Int32.ofNat len)), .val .null, .val (.ref s.heap.size)] [.ref s.heap.size, .ref a])) rfl (rest := []) rfl (hb hbytes d54)
  have c16 : Steps p.tables e below (s₁.setTop (entryFrame m #[.ref a, .ref b, .int (Int32.ofNat o), .int (Int32.ofNat len), .null] 6)) (T15.setTop (mkF m 57 #[.val (.ref a), .val (.ref b), .val (.int (Int32.ofNat o)), .val (.int (Int32.ofNat len)), .val .null, .val (.ref s.heap.size)] [])) := c14.trans (st15 _ (Steps.refl _))
  have ap := apart (Or.inr ⟨_, (wk W (.laysFinal "java/lang/String" "java/lang/String" "value" "[B"))⟩) (Or.inr ⟨_, (wk W (.laysFinal "java/lang/String" "java/lang/String" "coder" "B"))⟩) f1 f2 (t₁ := .array .byte) (t₂ := .byte) (by decide +kernel) (by decide +kernel) (by decide)
  have al := X8.warmed.alike.symm.trans X15.warmed.alike
  have n7 : T11.heap[s.heap.size]? = some N := by rw [q11]; exact n1.1
  exact ⟨T15, none, _, _, _, X15, by simp, rfl, by omega, (fun _ => rfl), ⟨rfl, _, N, bl15, ((Same.refl D _).set _ (by simp)).set _ (by simp), sl15, (Cell.slots_setSlot_ne _ ap).trans sl13, n1.keep al (p15.other hne (p13.other hne n7)), n2, by rw [al.findClass]; exact n3, n4, n5, fun y c h1 h2 => p15.other h1 (p13.other h1 (by rw [q11]; exact n6 y c h2)), by rw [p15.2.2, p13.2.2, q11]; exact z8⟩, fun fs hl => c16.trans (X15.returnOut hexec hret (hb hbytes d57) hl)⟩
end New4
namespace New1
def yN : MethodName := ⟨"java/lang/String", "<init>", "([C)V"⟩
abbrev yB : ByteArray := jdk_42_method_3_code
theorem d0 : decode yB 0 = .ok (.aload_n 0, 1) := by decide +kernel
theorem d1 : decode yB 1 = .ok (.aload_n 1, 1) := by decide +kernel
theorem d2 : decode yB 2 = .ok (.iconst 0, 1) := by decide +kernel
theorem d3 : decode yB 3 = .ok (.aload_n 1, 1) := by decide +kernel
theorem d4 : decode yB 4 = .ok (.arraylength, 1) := by decide +kernel
theorem d5 : decode yB 5 = .ok (.aconst_null, 1) := by decide +kernel
theorem d6 : decode yB 6 = .ok (.invokespecial 27, 3) := by decide +kernel
theorem d9 : decode yB 9 = .ok (.return_, 1) := by decide +kernel
def site : List Cond := [New4.tab] ++ initW "java/lang/String" 27 New4.yN
def tab : Cond := tabOf yN yB 2 none site
def P (a : Addr) (D : Cell) (fV fC : Field) (b : Addr) (A : Cell) (z : Int32) (args : Array Value) (s : State) : Prop := args = #[.ref a, .ref b] ∧ Blank "java/lang/String" a D s ∧ Found "java/lang/String" "value" "[B" fV s ∧ Found "java/lang/String" "coder" "B" fC s ∧ Ch b A s ∧ StaticIs s "java/lang/String" "COMPACT_STRINGS" "Z" (.int z) ∧ ¬ z = 0 ∧ 0 < A.slots.size ∧ A.slots.size ≤ 536870912 ∧ ∀ i, i < A.slots.size → ¬ 255 < cv A i
def E (a : Addr) (D : Cell) (fV fC : Field) (A : Cell) (r : Option Value) (s u : State) : Prop := Got a D fV fC A 0 A.slots.size r s u
/-- new String(chars), not empty, no char above 255: a Latin-1 String of their low bytes -/
theorem law (l : Launch) (a : Addr) (D : Cell) (fV fC : Field) (b : Addr) (A : Cell) (z : Int32) : Law l yN 2 1 3 52 yB 2 none site (P a D fV fC b A z) (E a D fV fC A) [⟨a, fC.slot⟩, ⟨a, fV.slot⟩] 1 A.slots.size := by
  refine Law.of_walk (plainFor_of_name (by decide +kernel)) (by decide +kernel) (by decide +kernel) (by decide) (fun _ _ h => by rw [h.1]; rfl) (fun _ U U' hal hh h => ⟨h.1, h.2.1.mv hal hh, h.2.2.1.al hal, h.2.2.2.1.al hal, h.2.2.2.2.1.mv hal hh, h.2.2.2.2.2.1.there hal hh, h.2.2.2.2.2.2⟩) (fun r U U' V V' h1 hal h2 h => Got.mv r U U' V V' h1 hal h2 h) ?_
  intro p e s m args below meth c s₁ X0 hexec hbytes hml hret hlk hnm hown hh0 W hP
  obtain ⟨rfl, hB, f1, f2, hA, s1, hz, l0, l2, hp⟩ := hP
  have c1 : Steps p.tables e below (s₁.setTop (entryFrame m #[.ref a, .ref b] 2)) (s₁.setTop (mkF m 0 #[.val (.ref a), .val (.ref b)] [])) := entry rfl
  have c2 : Steps p.tables e below (s₁.setTop (entryFrame m #[.ref a, .ref b] 2)) (s₁.setTop (mkF m 6 #[.val (.ref a), .val (.ref b)] [.null, .int (Int32.ofNat A.slots.size), .int 0, .ref b, .ref a])) := c1.trans (by
    refine XS.aloadN X0.here hexec rfl (hb hbytes d0) rfl rfl ?_
    refine XS.aloadN X0.here hexec rfl (hb hbytes d1) rfl rfl ?_
    refine iconstV X0.here hexec rfl 0 (hb hbytes d2) (by decide) ?_
    refine XS.aloadN X0.here hexec rfl (hb hbytes d3) rfl rfl ?_
    refine X0.alen hexec (hA.1.mv X0.warmed.alike hh0) rfl rfl (hb hbytes d4) ?_
    refine XS.aconstNull X0.here hexec rfl (hb hbytes d5) ?_
    exact Steps.refl _)
  obtain ⟨v3, T3, X3, E3, g3⟩ := X0.callN hexec (New4.law l a D fV fC b A z 0 A.slots.size) rfl hown (wks W (initW "java/lang/String" 27 New4.yN)) (W New4.tab (by simp only [site, List.mem_cons, List.mem_append, true_or, or_true])) (W := 0) (Nat.le_of_ble_eq_true rfl) (Nat.le_of_ble_eq_true rfl) (Nat.le_refl _) (by show 0 + A.slots.size ≤ A.slots.size; omega) (g := (mkF m 6 #[.val (.ref a), .val (.ref b)] [.null, .int (Int32.ofNat A.slots.size), .int (Int32.ofNat 0), .ref b, .ref a])) rfl (by rw [hml]; rfl) c2 (argsL := [.ref b, .int (Int32.ofNat 0), .int (Int32.ofNat A.slots.size), .null]) (rest := []) rfl rfl (by show 2 * 0 + 0 ≤ _; decide) (hb hbytes d6) (⟨rfl, hB.mv X0.warmed.alike hh0, f1.al X0.warmed.alike, f2.al X0.warmed.alike, hA.mv X0.warmed.alike hh0, s1.there X0.warmed.alike hh0, hz, l0, by omega, l2, fun i hi => by rw [Nat.zero_add]; exact hp i hi⟩)
  have e0 := Got.mv _ s₁ s _ _ hh0.symm (Vm.Alike.refl _) rfl E3
  obtain rfl := e0.1
  have c4 : Steps p.tables e below (s₁.setTop (entryFrame m #[.ref a, .ref b] 2)) (T3.setTop (mkF m 9 #[.val (.ref a), .val (.ref b)] [])) := g3
  exact ⟨T3, none, _, _, _, X3, by simp, rfl, by omega, (fun _ => rfl), e0, fun fs hl => c4.trans (X3.returnOut hexec hret (hb hbytes d9) hl)⟩
theorem pays {l : Launch} {R : Room} {p : Program} {e : Env} {below : List Frame} {s : State} {sargs : Array Value} {len W : Nat} (a : Addr) (D : Cell) (fV fC : Field) (b : Addr) (A : Cell) (z : Int32) (htab : tab.before sargs s = true) (hfr : 4 ≤ R.frames) (hlo : W + 65 ≤ R.locals) :
    Back l R p e below s sargs yN len W (fun A₁ a₁ => A₁.cells + 1 ≤ R.cells ∧ A₁.slots + A.slots.size ≤ R.slots ∧ P a D fV fC b A z a₁ A₁.U) (fun A₁ _ v₁ B₁ => E a D fV fC A v₁ A₁.U B₁.U ∧ B₁.locs = A₁.locs ++ [⟨a, fC.slot⟩, ⟨a, fV.slot⟩] ∧ B₁.cells = A₁.cells + 1 ∧ B₁.slots = A₁.slots + A.slots.size) :=
  (law l a D fV fC b A z).pays htab hfr (by omega)
end New1
/-- the byte, read back as charAt reads it, is the char -/
theorem lo8_mask {x : Int32} (h0 : ¬ x < 0) (h1 : ¬ 255 < x) : lo8 x &&& 255 = x := by
  have t : ∀ k : Fin 256, lo8 (Int32.ofNat k.val) &&& 255 = Int32.ofNat k.val := by decide +kernel
  rw [Int32.lt_iff_toInt_lt] at h0 h1
  have e0 : (0 : Int32).toInt = 0 := rfl
  have e1 : (255 : Int32).toInt = 255 := rfl
  obtain ⟨k, hk⟩ : ∃ k : Nat, x.toInt = k := ⟨x.toInt.toNat, by omega⟩
  have hx : x = Int32.ofNat k := Int32.toInt_inj.mp (by rw [hk, Int32.toInt_ofNat_small (by omega)])
  rw [hx]
  exact t ⟨k, by omega⟩
end StrChars
namespace StrChars.Road
open Jvm Sem ClassFile Op Lib Jvm.Stand Jvm.Free Jvm.Free.XT
open Jvm.Lib.Cold (StaticIs)
abbrev ST : String := "java/lang/String"
/-- every table word that New1's law asks, flat -/
abbrev words : List Jvm.Cond := [.code New1.yN New1.yB 2 none, .initialized ST, .methodLink ST 27 New4.yN, .instanceMethod New4.yN,
  .code New4.yN New4.yB 6 none, .fieldLink ST 38 ST "COMPACT_STRINGS" "Z", .laysFinal ST ST "value" "[B", .fieldLink ST 9 ST "value" "[B", .laysFinal ST ST "coder" "B", .fieldLink ST 15 ST "coder" "B",
  .methodLink ST 1 Lib.objectInit, .instanceMethod Lib.objectInit, .code Lib.objectInit ⟨#[0xb1]⟩ 1 none, .methodLink ST 177 Cmp3.yN, .static Cmp3.yN, .methodLink ST 47 CodL.yN, .static CodL.yN,
  .code Cmp3.yN Cmp3.yB 6 (some (.array .byte)), .initialized U16, .arrayClass .byte, .methodLink U16 115 Cmp5.yN, .static Cmp5.yN, .code Cmp5.yN Cmp5.yB 7 (some .int), .code CodL.yN CodL.yB 2 (some .byte)]
theorem tab_of {a : Array Value} {s : State} (h : ∀ w ∈ words, w.before a s = true) : New1.tab.before a s = true := by
  have h5 : Cmp5.tab.before a s = true := unparts (wk h (.code Cmp5.yN Cmp5.yB 7 (some .int))) (wks h (.initialized Cmp5.yN.cls :: Cmp5.site))
  have hc : CodL.tab.before a s = true := unparts (wk h (.code CodL.yN CodL.yB 2 (some .byte))) (wks h (.initialized CodL.yN.cls :: CodL.site))
  have q5 : ∀ w ∈ Cmp5.tab :: words, w.before a s = true := fun w hw => (List.mem_cons.mp hw).elim (fun e => e ▸ h5) (h w)
  have h3 : Cmp3.tab.before a s = true := unparts (wk q5 (.code Cmp3.yN Cmp3.yB 6 (some (.array .byte)))) (wks q5 (.initialized Cmp3.yN.cls :: Cmp3.site))
  have q3 : ∀ w ∈ Cmp3.tab :: CodL.tab :: words, w.before a s = true := fun w hw => (List.mem_cons.mp hw).elim (fun e => e ▸ h3) fun hw => (List.mem_cons.mp hw).elim (fun e => e ▸ hc) (h w)
  have h4 : New4.tab.before a s = true := unparts (wk q3 (.code New4.yN New4.yB 6 none)) (wks q3 (.initialized New4.yN.cls :: New4.site))
  have q4 : ∀ w ∈ New4.tab :: words, w.before a s = true := fun w hw => (List.mem_cons.mp hw).elim (fun e => e ▸ h4) (h w)
  exact unparts (wk q4 (.code New1.yN New1.yB 2 none)) (wks q4 (.initialized New1.yN.cls :: New1.site))
/-- the words ride from the start Z to the walk's own state -/
theorem moved {Z s : State} {a0 args : Array Value} (hZ : Z.Warmed39 s.vm) (hw : ∀ d ∈ words, d.before a0 Z = true) : ∀ d ∈ words, d.before args s = true := fun d hd => by
  have q := hw d hd
  have t : ∀ d ∈ words, d = .arrayClass .byte ∨ (d.onTables && d.keepsFace) = true := by decide +kernel
  rcases t d hd with rfl | t
  · exact RoadKit.mvA hZ q
  · exact RoadKit.mv hZ q t
/-- WHAT COMES BACK, over the tables of the start Z: h the heap at the call, h' behind it -/
def Q (Z : State) (x : Addr) (A : Cell) (h : Heap) (v : Option Value) (h' : Heap) (L : List Loc) : Prop := v = none ∧ (∀ y ∈ L, y.base = x) ∧ RoadKit.Keep h h' [x] ∧ h'.size = h.size + 1 ∧ RoadKit.Exa Z h' x ST ∧ RoadKit.Fld Z h' x ST "value" "[B" (.ref h.size) ∧ RoadKit.Fld Z h' x ST "coder" "B" (.int 0) ∧
  (∃ V : Cell, RoadKit.Arr Z h' h.size V .byte ∧ V.vm = .none ∧ Z.vm.findClass "[B" = some V.cls ∧ V.slots.size = A.slots.size ∧ ∀ j, j < A.slots.size → V.slots[j]? = some (.int (lo8 (cv A j)))) ∧
  ∀ (O n d : String) (w : Value), RoadKit.Fld Z h x O n d w → RoadKit.slotOf Z O n d ≠ RoadKit.slotOf Z ST "value" "[B" → RoadKit.slotOf Z O n d ≠ RoadKit.slotOf Z ST "coder" "B" → RoadKit.Fld Z h' x O n d w
/-- **new String(chars) AT A CALL, IN THE ROAD'S FORM**: for specialBack behind newO: x the fresh String, b the char[] with the cell A -/
theorem back {p : Program} {l : Launch} {e : Env} {R : Room} {s : State} {args : Array Value} {below : List Frame} {len W : Nat} {Z : State} {a0 : Array Value} {h : Heap} (hZ : Z.Warmed39 s.vm) (hw : ∀ d ∈ words, d.before a0 Z = true) {kI : Nat} (wi : (Jvm.Cond.instantiable ST kI).before a0 Z = true)
    {x b : Addr} {A : Cell} {z : Int32} {v0 c0 : Value} (E : RoadKit.Exa Z h x ST) (V : RoadKit.Fld Z h x ST "value" "[B" v0) (C : RoadKit.Fld Z h x ST "coder" "B" c0) (K : RoadKit.Arr Z h b A .char) (hty : Typed .char A) (S : RoadKit.Sta Z h ST "COMPACT_STRINGS" "Z" (.int z)) (hz : ¬ z = 0)
    (l0 : 0 < A.slots.size) (l2 : A.slots.size ≤ 536870912) (hp : ∀ i, i < A.slots.size → ¬ 255 < cv A i) (hfr : 4 ≤ R.frames) (hlo : W + 65 ≤ R.locals) :
    Back l R p e below s args New1.yN len W (fun P a => a = #[.ref x, .ref b] ∧ P.U.heap = h ∧ P.cells + 1 ≤ R.cells ∧ P.slots + A.slots.size ≤ R.slots)
      (fun P _ v B => ∃ L, Q Z x A h v B.U.heap L ∧ B.locs = P.locs ++ L ∧ B.cells = P.cells + 1 ∧ B.slots = P.slots + A.slots.size) := by
  intro m meth c P g ig mk a X hg hsize hdg hW hn hp'
  obtain ⟨rfl, rfl, r1, r2⟩ := hp'
  have al : Z.vm.Alike P.U.vm := hZ.alike.trans X.warmed.alike
  obtain ⟨D, cfV, kV, iV, fV, hD, gV, stV, knV, obV, asV, slV⟩ := id V
  obtain ⟨D', cfC, kC, iC, fC, hD', gC, stC, -, -, asC, slC⟩ := id C
  cases hD.symm.trans hD'
  obtain ⟨D2, kD, e1, e2, e3, e4, e5⟩ := id E
  cases hD.symm.trans e1
  obtain ⟨c2, k2, i1, i2, i3, -⟩ := Cond.instantiable_spec wi
  cases e2.symm.trans i1
  cases e3.symm.trans i2
  obtain ⟨kU, u1, u2⟩ := al.2.2 _ _ e3
  have hB : Blank ST x D P.U := ⟨hD, ⟨knV, fun q hq => by rw [hq] at obV; cases obV⟩, by rw [al.findClass]; exact e2, kU, u1, by rw [u2]; exact i3, by rw [u2]; exact e5 i3⟩
  have F1 : Found ST "value" "[B" fV P.U := ⟨SBG.found_only al ⟨cfV, kV, iV, gV⟩, stV⟩
  have F2 : Found ST "coder" "B" fC P.U := ⟨SBG.found_only al ⟨cfC, kC, iC, gC⟩, stC⟩
  have hA : Ch b A P.U := ⟨⟨K.1, State.isArrayOf_alike al K.2.1, K.2.2, by omega⟩, hty⟩
  have hS : StaticIs P.U ST "COMPACT_STRINGS" "Z" (.int z) := by
    obtain ⟨cfS, iS, kS, fS, st, cS, t1, t2, t3, t4, t5, t6, t7⟩ := S
    exact StaticIs.there (s := { Z with heap := P.U.heap }) ⟨cfS, iS, kS, fS, st, cS, t1, t2, t3, t4, t5, (fun q => by rw [q] at t6; cases t6), t7⟩ al rfl
  obtain ⟨v, B, X', ⟨⟨hv, E', V', q1, q2, q3, q4, q5, q6, q7, q8, q9, q10, q11⟩, hl, hc, hs⟩, st⟩ := New1.pays x D fV fC b A z (tab_of (moved hZ hw)) hfr hlo m meth c P g ig mk _ X hg hsize hdg hW hn ⟨r1, r2, rfl, hB, F1, F2, hA, hS, hz, l0, l2, hp⟩
  have al' : Z.vm.Alike B.U.vm := hZ.alike.trans X'.warmed.alike
  have hsz : E'.slots.size = D.slots.size := by
    obtain ⟨-, -, -, kB, w1, w2, w3⟩ := q1
    obtain ⟨kB', y1, y2⟩ := al'.2.2 _ _ e3
    rw [q2.2.1] at w1
    cases w1.symm.trans y1
    rw [w3, e5 i3, y2]
  refine ⟨v, B, X', ⟨_, ⟨hv, ?_, ⟨by omega, fun y cy hy hn' => q10 y cy (by simpa using hn') hy, fun y cy hy => ?_⟩, q11, ⟨E', _, q1.1, by rw [q2.2.1]; exact e2, by rw [q2.2.1]; exact e3, by rw [q2.1]; exact obV, fun _ => by rw [hsz]; exact e5 i3⟩,
    ⟨E', cfV, kV, iV, fV, q1.1, gV, stV, by rw [q2.1]; exact knV, by rw [q2.1]; exact obV, by rw [q2.2.1]; exact asV, q3⟩, ⟨E', cfC, kC, iC, fC, q1.1, gC, stC, by rw [q2.1]; exact knV, by rw [q2.1]; exact obV, by rw [q2.2.1]; exact asC, q4⟩,
    ⟨V', ⟨q5.1, State.isArrayOf_alike al'.symm q5.2.1, q5.2.2.1⟩, q6, by rw [← al'.findClass]; exact q7, q8, fun j hj => by have := q9 j hj; rwa [Nat.zero_add] at this⟩, fun O n d w F n1 n2 => ?_⟩, hl, hc, hs⟩, st⟩
  · intro y hy
    simp only [List.mem_cons, List.not_mem_nil, or_false] at hy
    rcases hy with rfl | rfl <;> rfl
  · by_cases q : y = x
    · subst q
      cases hD.symm.trans hy
      exact ⟨E', q1.1, q2.2.1, q2.1, hsz⟩
    · exact ⟨cy, q10 y cy q hy, rfl, rfl, rfl⟩
  · obtain ⟨D3, cf, k, i, f, g1, g2, g3, g4, g5, g6, g7⟩ := F
    cases hD.symm.trans g1
    simp only [RoadKit.slotOf, g2, gV, gC, Option.map_some, Option.getD_some] at n1 n2
    exact ⟨E', cf, k, i, f, q1.1, g2, g3, by rw [q2.1]; exact g4, by rw [q2.1]; exact g5, by rw [q2.2.1]; exact g6, by rw [q2.2.2 f.slot (by simp [n1, n2])]; exact g7⟩
end StrChars.Road
namespace StrChars.Road
open Jvm Sem ClassFile Op Lib Jvm.Stand Jvm.Free Jvm.Free.XT
/-- WHAT COMES BACK, the byte[] as a list of values -/
def QA (Z : State) (x : Addr) (zn : Int32) (cs : List Int32) (h : Heap) (v : Option Value) (h' : Heap) (L : List Loc) : Prop := v = none ∧ (∀ y ∈ L, y.base = x) ∧ RoadKit.Keep h h' [x] ∧ h'.size = h.size + 1 ∧ RoadKit.Exa Z h' x ST ∧ RoadKit.Fld Z h' x ST "value" "[B" (.ref h.size) ∧ RoadKit.Fld Z h' x ST "coder" "B" (.int 0) ∧
  (∃ kb, Z.vm.findClass "[B" = some kb ∧ RoadKit.Arv Z h' h.size kb .byte zn (cs.map fun c => .int (lo8 c)) (.int 0)) ∧
  ∀ (O n d : String) (w : Value), RoadKit.Fld Z h x O n d w → RoadKit.slotOf Z O n d ≠ RoadKit.slotOf Z ST "value" "[B" → RoadKit.slotOf Z O n d ≠ RoadKit.slotOf Z ST "coder" "B" → RoadKit.Fld Z h' x O n d w
/-- **new String(chars) AT A CALL, THE ARRAYS AS LISTS**: the char[] at b holds cs, not empty, no char above 255 -/
theorem backArv {p : Program} {l : Launch} {e : Env} {R : Room} {s : State} {args : Array Value} {below : List Frame} {len W : Nat} {Z : State} {a0 : Array Value} {h : Heap} (hZ : Z.Warmed39 s.vm) (hw : ∀ d ∈ words, d.before a0 Z = true) {kI : Nat} (wi : (Jvm.Cond.instantiable ST kI).before a0 Z = true)
    {x b : Addr} {k : ClassId} {zn z : Int32} {cs : List Int32} {dv v0 c0 : Value} (E : RoadKit.Exa Z h x ST) (V : RoadKit.Fld Z h x ST "value" "[B" v0) (C : RoadKit.Fld Z h x ST "coder" "B" c0) (K : RoadKit.Arv Z h b k .char zn (cs.map Value.int) dv) (S : RoadKit.Sta Z h ST "COMPACT_STRINGS" "Z" (.int z)) (hz : ¬ z = 0)
    (hlen : zn.toNatClampNeg = cs.length) (h0 : 0 < cs.length) (hbig : cs.length ≤ 536870912) (hall : ∀ c ∈ cs, ¬ 255 < c) (hfr : 4 ≤ R.frames) (hlo : W + 65 ≤ R.locals) :
    Back l R p e below s args New1.yN len W (fun P a => a = #[.ref x, .ref b] ∧ P.U.heap = h ∧ P.cells + 1 ≤ R.cells ∧ P.slots + cs.length ≤ R.slots)
      (fun P _ v B => ∃ L, QA Z x zn cs h v B.U.heap L ∧ B.locs = P.locs ++ L ∧ B.cells = P.cells + 1 ∧ B.slots = P.slots + cs.length) := by
  obtain ⟨A, K1, K2, K3, K4, K5, K6⟩ := K
  have e : A.slots.size = cs.length := K3.trans hlen
  have hat : ∀ (i : Nat) (hi : i < cs.length), A.slots[i]? = some (.int cs[i]) := fun i hi => by rw [K5 i (by omega)]; simp [List.getD_eq_getElem?_getD, hi]
  have hcv : ∀ (i : Nat) (hi : i < cs.length), cv A i = cs[i] := fun i hi => by unfold cv; rw [hat i hi]
  have hty : Typed .char A := fun i v hv => by
    have hi : i < A.slots.size := (Array.getElem?_eq_some_iff.mp hv).1
    have q := K5 i hi
    rw [hv] at q
    rw [Option.some.inj q]
    exact K6 i hi
  refine Back.mono (back hZ hw wi E V C K1 hty S hz (by omega) (by omega) (fun i hi => by rw [hcv i (by omega)]; exact hall _ (List.getElem_mem _)) hfr hlo) (fun P a hp => ⟨hp.1, hp.2.1, hp.2.2.1, by rw [e]; exact hp.2.2.2⟩) (fun P a v B hp hq => ?_)
  obtain ⟨L, ⟨q1, q2, q3, q4, q5, q6, q7, ⟨V', v1, v2, v3, v4, v5⟩, q9⟩, hl, hc, hs⟩ := hq
  refine ⟨L, ⟨q1, q2, q3, q4, q5, q6, q7, ⟨V'.cls, v3, V', v1, rfl, by rw [v4, e, hlen], K4, fun i hi => ?_, fun i hi => ?_⟩, q9⟩, hl, hc, by rw [hs, e]⟩
  · have hi' : i < cs.length := by omega
    rw [v5 i (by omega), hcv i hi']; simp [List.getD_eq_getElem?_getD, hi']
  · have hi' : i < cs.length := by omega
    simp only [List.getD_eq_getElem?_getD, List.getElem?_map, List.getElem?_eq_getElem hi', Option.map_some, Option.getD_some]
    exact fits_lo8 _
end StrChars.Road
namespace StrChars.Road
open Jvm Sem ClassFile Op Lib Jvm.Stand Jvm.Free Jvm.Free.XT
/-- WHAT COMES BACK, in the writer's own shape -/
def QV (Z : State) (x : Addr) (N : Int32) (bs : List Int32) (h : Heap) (n0 : Nat) (v : Option Value) (h' : Heap) (L : List Loc) : Prop := v = none ∧ RoadKit.Fr n0 L ∧ RoadKit.Keep h h' [x] ∧ RoadKit.Exa Z h' x ST ∧ RoadKit.Fld Z h' x ST "coder" "B" (.int 0) ∧
  ∃ (t : Addr) (kb : ClassId), n0 ≤ t ∧ h.size ≤ t ∧ ¬ t = x ∧ RoadKit.Fld Z h' x ST "value" "[B" (.ref t) ∧ RoadKit.Arv Z h' t kb .byte N (bs.map Value.int) (.int 0)
/-- **new String(chars) AT A CALL, FOR THE WRITER**: a char[] of n known ints, each 0 to 255 -/
theorem backV {p : Program} {l : Launch} {e : Env} {R : Room} {s : State} {args : Array Value} {below : List Frame} {len W : Nat} {Z : State} {a0 : Array Value} {h : Heap} (hZ : Z.Warmed39 s.vm) (hw : ∀ d ∈ words, d.before a0 Z = true) {kI : Nat} (wi : (Jvm.Cond.instantiable ST kI).before a0 Z = true)
    {x b : Addr} {kC : ClassId} {cs bs : List Int32} {d v0 c0 : Value} {z N : Int32} {n n0 : Nat} (hx0 : n0 ≤ x) (hh0 : n0 ≤ h.size) (E : RoadKit.Exa Z h x ST) (V : RoadKit.Fld Z h x ST "value" "[B" v0) (C : RoadKit.Fld Z h x ST "coder" "B" c0) (K : RoadKit.Arv Z h b kC .char N (cs.map Value.int) d) (S : RoadKit.Sta Z h ST "COMPACT_STRINGS" "Z" (.int z)) (hz : ¬ z = 0)
    (hn : cs.length = n) (hN : N = Int32.ofNat n) (l0 : 0 < n) (l2 : n ≤ 4000) (hp : ∀ c ∈ cs, ¬ c < 0 ∧ ¬ (255 : Int32) < c) (hb : bs = cs.map (fun c => c.toInt8.toInt32)) (hfr : 4 ≤ R.frames) (hlo : W + 65 ≤ R.locals) :
    Back l R p e below s args (⟨"java/lang/String", "<init>", "([C)V"⟩ : MethodName) len W (fun P a => a = #[.ref x, .ref b] ∧ P.U.heap = h ∧ P.cells + 1 ≤ R.cells ∧ P.slots + n ≤ R.slots)
      (fun P _ v B => ∃ L, QV Z x N bs h n0 v B.U.heap L ∧ B.locs = P.locs ++ L ∧ B.cells = P.cells + 1 ∧ B.slots = P.slots + n) := by
  subst hn hN hb
  refine Back.mono (backArv hZ hw wi E V C K S hz (n32 (by omega)) l0 (by omega) (fun c hc => (hp c hc).2) hfr hlo) (fun P a hp => hp) (fun P a v B hp hq => ?_)
  obtain ⟨L, ⟨q1, q2, q3, q4, q5, q6, q7, ⟨kb, v1, v2⟩, q9⟩, hl, hc, hs⟩ := hq
  exact ⟨L, ⟨q1, fun y hy => by rw [q2 y hy]; exact hx0, q3, q5, q7, h.size, kb, hh0, Nat.le_refl _, Nat.ne_of_gt E.lt, q6, by rw [List.map_map]; exact v2⟩, hl, hc, hs⟩
end StrChars.Road
namespace StrChars
open Jvm Sem ClassFile Op Lib Jvm.Stand Jvm.Free.XT Jvm.Free.ALB Jvm.Free.JM Jvm.Free
open Jvm.Lib.Cold (StaticIs)
def hi8 (x : Int32) : Int32 := lo8 (x >>> ((8 : Int32) &&& 31))
/-- what StringUTF16.getChar makes of two bytes -/
def pairCh (u v : Int32) : Int32 := (((u &&& 255) <<< ((0 : Int32) &&& 31)) ||| ((v &&& 255) <<< ((8 : Int32) &&& 31))).toUInt32.toUInt16.toUInt32.toInt32
theorem shr0 (c : Int32) : c >>> ((0 : Int32) &&& 31) = c := by
  have e : ((0 : Int32) &&& 31) = 0 := by decide
  rw [e]
  apply Int32.toBitVec_inj.mp
  rw [Int32.toBitVec_shiftRight]
  have e1 : ((0 : Int32).toBitVec.smod 32) = 0#32 := by decide
  rw [e1, BitVec.sshiftRight_eq']
  exact BitVec.sshiftRight_zero
theorem lo8_and (x : Int32) : (lo8 x &&& 255).toBitVec.toNat = x.toBitVec.toNat % 256 := by
  have h : (lo8 x).toBitVec = (x.toBitVec.signExtend 8).signExtend 32 := by rw [lo8, Int8.toBitVec_toInt32, Int32.toBitVec_toInt8]
  rw [Int32.toBitVec_and, BitVec.toNat_and, h]
  have e : ((x.toBitVec.signExtend 8).signExtend 32).toNat % 256 = x.toBitVec.toNat % 256 := by
    rw [BitVec.toNat_signExtend]
    have hlt := x.toBitVec.isLt
    simp only [BitVec.toNat_setWidth, BitVec.toNat_signExtend]
    split <;> split <;> omega
  rw [← e]
  exact Nat.and_two_pow_sub_one_eq_mod _ 8
theorem pair_says {c : Int32} (h0 : ¬ c < 0) (h1 : ¬ 65535 < c) : pairCh (lo8 c) (hi8 c) = c := by
  rw [Int32.lt_iff_toInt_lt] at h0 h1
  have e0 : (0 : Int32).toInt = 0 := rfl
  have e1 : (65535 : Int32).toInt = 65535 := rfl
  have hc : c.toInt = c.toBitVec.toNat := by
    have := c.toBitVec.isLt
    have e : c.toInt = c.toBitVec.toInt := rfl
    rw [e] at h0 h1
    rw [e]
    rw [BitVec.toInt_eq_toNat_cond] at h0 h1 ⊢
    split at h0 <;> split <;> omega
  have hn : c.toBitVec.toNat < 65536 := by omega
  have a1 := lo8_and c
  have a2 : (hi8 c &&& 255).toBitVec.toNat = c.toBitVec.toNat / 256 := by
    rw [hi8, lo8_and]
    have e : ((8 : Int32) &&& 31) = 8 := by decide
    rw [e, Int32.toBitVec_shiftRight]
    have e2 : ((8 : Int32).toBitVec.smod 32) = 8#32 := by decide
    rw [e2, BitVec.sshiftRight_eq', BitVec.toNat_sshiftRight_of_msb_false (by rw [BitVec.msb_eq_false_iff_two_mul_lt]; omega)]
    show c.toBitVec.toNat >>> 8 % 256 = _
    rw [Nat.shiftRight_eq_div_pow]
    omega
  unfold pairCh
  apply Int32.toBitVec_inj.mp
  apply BitVec.eq_of_toNat_eq
  have f0 : ((0 : Int32) &&& 31) = 0 := by decide
  have f8 : ((8 : Int32) &&& 31) = 8 := by decide
  rw [f0, f8]
  have g : (((lo8 c &&& 255) <<< (0 : Int32)) ||| ((hi8 c &&& 255) <<< (8 : Int32))).toBitVec.toNat = c.toBitVec.toNat := by
    rw [Int32.toBitVec_or, Int32.toBitVec_shiftLeft, Int32.toBitVec_shiftLeft]
    have s0 : ((0 : Int32).toBitVec.smod 32) = 0#32 := by decide
    have s8 : ((8 : Int32).toBitVec.smod 32) = 8#32 := by decide
    rw [s0, s8, BitVec.toNat_or]
    simp only [BitVec.shiftLeft_eq', BitVec.toNat_shiftLeft, a1, a2]
    show (c.toBitVec.toNat % 256) <<< 0 % 2 ^ 32 ||| (c.toBitVec.toNat / 256) <<< 8 % 2 ^ 32 = _
    rw [Nat.shiftLeft_zero, Nat.mod_eq_of_lt (show c.toBitVec.toNat % 256 < 2 ^ 32 by omega), Nat.mod_eq_of_lt (show (c.toBitVec.toNat / 256) <<< 8 < 2 ^ 32 by rw [Nat.shiftLeft_eq]; omega), Nat.or_comm, ← Nat.shiftLeft_add_eq_or_of_lt (by omega), Nat.shiftLeft_eq]
    omega
  show BitVec.toNat (((((lo8 c &&& 255) <<< (0 : Int32)) ||| ((hi8 c &&& 255) <<< (8 : Int32))).toBitVec.setWidth 16).setWidth 32) = _
  rw [BitVec.toNat_setWidth, BitVec.toNat_setWidth, g]
  omega
end StrChars
namespace StrChars
open Jvm Sem ClassFile Op Lib Jvm.Stand Jvm.Free.XT Jvm.Free.ALB Jvm.Free.JM Jvm.Free
open Jvm.Lib.Cold (StaticIs)
theorem shr1 {n : Nat} (h : 2 * n < 2 ^ 31) : Int32.ofNat (2 * n) >>> ((1 : Int32) &&& 31) = Int32.ofNat n := by
  have e : ((1 : Int32) &&& 31) = 1 := by decide
  rw [e]
  apply Int32.toBitVec_inj.mp
  rw [Int32.toBitVec_shiftRight]
  have e1 : ((1 : Int32).toBitVec.smod 32) = 1#32 := by decide
  have hm : (BitVec.ofNat 32 (2 * n)).toNat = 2 * n := by rw [BitVec.toNat_ofNat, Nat.mod_eq_of_lt (by omega)]
  rw [e1, BitVec.sshiftRight_eq']
  apply BitVec.eq_of_toNat_eq
  show ((BitVec.ofNat 32 (2 * n)).sshiftRight 1).toNat = (BitVec.ofNat 32 n).toNat
  rw [BitVec.toNat_sshiftRight_of_msb_false (by rw [BitVec.msb_eq_false_iff_two_mul_lt, hm]; omega), hm, BitVec.toNat_ofNat, Nat.shiftRight_eq_div_pow]
  omega
/-- the array's cell V codes the n chars f 0 .. f (n - 1) by the coder cd, as the JDK does: coder 1 just where some char is above 255 -/
def Cod (cd : Int32) (n : Nat) (f : Nat → Int32) (V : Cell) : Prop := (cd = 0 ∧ V.slots.size = n ∧ ∀ j, j < n → V.slots[j]? = some (.int (lo8 (f j))) ∧ ¬ 255 < f j) ∨ (cd = 1 ∧ V.slots.size = 2 * n ∧ (∀ j, j < n → V.slots[2 * j]? = some (.int (lo8 (f j))) ∧ V.slots[2 * j + 1]? = some (.int (hi8 (f j)))) ∧ ∃ j, j < n ∧ 255 < f j)
theorem Cod.cd {cd : Int32} {n : Nat} {f : Nat → Int32} {V : Cell} (h : Cod cd n f V) : cd = 0 ∨ cd = 1 := h.imp (fun q => q.1) fun q => q.1
theorem Cod.len {cd : Int32} {n : Nat} {f : Nat → Int32} {V : Cell} (h : Cod cd n f V) (hs : V.slots.size < 2 ^ 31) : Int32.ofNat V.slots.size >>> (cd &&& 31) = Int32.ofNat n := by
  rcases h with ⟨rfl, h, -⟩ | ⟨rfl, h, -⟩
  · rw [shr0, h]
  · rw [h, shr1 (by omega)]
/-- **x is a String of the n chars f 0 .. f (n - 1)**, Latin-1 or UTF-16; its array at t has the cell V -/
def Txt (x t : Addr) (V : Cell) (cd : Int32) (n : Nat) (f : Nat → Int32) (U : State) : Prop := Exact "java/lang/String" x U ∧ Has x "java/lang/String" "value" "[B" (.ref t) U ∧ Has x "java/lang/String" "coder" "B" (.int cd) U ∧ XT.Arr .byte t V U ∧ Cod cd n f V ∧ ∀ j, j < n → ¬ f j < 0 ∧ ¬ 65535 < f j
theorem Txt.mv {x t : Addr} {V : Cell} {cd : Int32} {n : Nat} {f : Nat → Int32} {U U' : State} (h : Txt x t V cd n f U) (hal : U.vm.Alike U'.vm) (hh : U'.heap = U.heap) : Txt x t V cd n f U' := ⟨h.1.mv hal hh, h.2.1.mv hal hh, h.2.2.1.mv hal hh, h.2.2.2.1.mv hal hh, h.2.2.2.2⟩
namespace Cdr
def yN : MethodName := ⟨"java/lang/String", "coder", "()B"⟩
abbrev yB : ByteArray := jdk_42_method_152_code
theorem d0 : decode yB 0 = .ok (.getstatic 38, 3) := by decide +kernel
theorem d3 : decode yB 3 = .ok (.ifCond (.eq) 10, 3) := by decide +kernel
theorem d6 : decode yB 6 = .ok (.aload_n 0, 1) := by decide +kernel
theorem d7 : decode yB 7 = .ok (.getfield 15, 3) := by decide +kernel
theorem d10 : decode yB 10 = .ok (.goto 4, 3) := by decide +kernel
theorem d14 : decode yB 14 = .ok (.ireturn, 1) := by decide +kernel
def site : List Cond := [.fieldLink "java/lang/String" 38 "java/lang/String" "COMPACT_STRINGS" "Z", .fieldLink "java/lang/String" 15 "java/lang/String" "coder" "B"]
def tab : Cond := tabOf yN yB 1 (some .byte) site
def P (x : Addr) (cd z : Int32) (args : Array Value) (s : State) : Prop := args = #[.ref x] ∧ Has x "java/lang/String" "coder" "B" (.int cd) s ∧ (cd = 0 ∨ cd = 1) ∧ StaticIs s "java/lang/String" "COMPACT_STRINGS" "Z" (.int z) ∧ ¬ z = 0
def E (cd : Int32) (r : Option Value) (s u : State) : Prop := XT.PureE (some (.int cd)) r s u
theorem law (l : Launch) (x : Addr) (cd z : Int32) : Law l yN 1 0 0 0 yB 1 (some .byte) site (P x cd z) (E cd) [] 0 0 := by
  refine Law.of_walk (plainFor_of_name (by decide +kernel)) (by decide +kernel) (by decide +kernel) (by decide) (fun _ _ h => by rw [h.1]; rfl) (fun _ U U' hal hh h => ⟨h.1, h.2.1.mv hal hh, h.2.2.1, h.2.2.2.1.there hal hh, h.2.2.2.2⟩) (fun r U U' V V' h1 hal h2 h => XT.PureE.mv r U U' V V' h1 hal h2 h) ?_
  intro p e s m args below meth c s₁ X0 hexec hbytes hml hret hlk hnm hown hh0 W hP
  obtain ⟨rfl, hx, hc, s1, hz⟩ := hP
  have c1 : Steps p.tables e below (s₁.setTop (entryFrame m #[.ref x] 1)) (s₁.setTop (mkF m 0 #[.val (.ref x)] [])) := entry rfl
  obtain ⟨T2, X2, q2, st2⟩ := X0.sget hexec hown (wk W (.fieldLink "java/lang/String" 38 "java/lang/String" "COMPACT_STRINGS" "Z")) s1 (fun _ _ h => by rw [hh0]; exact h) (g := (mkF m 0 #[.val (.ref x)] [])) rfl (hb hbytes d0)
  have hh2 := q2.trans hh0
  have c3 : Steps p.tables e below (s₁.setTop (entryFrame m #[.ref x] 1)) (T2.setTop (mkF m 7 #[.val (.ref x)] [.ref x])) := (c1.trans (st2 _ (Steps.refl _))).trans (by
    refine XS.ifNo X2.here hexec rfl (hb hbytes d3) rfl (i0_eq_f hz) ?_
    refine XS.aloadN X2.here hexec rfl (hb hbytes d6) rfl rfl ?_
    exact Steps.refl _)
  obtain ⟨T4, X4, q4, st4⟩ := X2.hget hexec hown (wk W (.fieldLink "java/lang/String" 15 "java/lang/String" "coder" "B")) (hx.mv X2.warmed.alike hh2) (g := (mkF m 7 #[.val (.ref x)] [.ref x])) rfl (rest := []) rfl (hb hbytes d7)
  have c5 : Steps p.tables e below (s₁.setTop (entryFrame m #[.ref x] 1)) (T4.setTop (mkF m 14 #[.val (.ref x)] [.int cd])) := (c3.trans (st4 _ (Steps.refl _))).trans (by
    refine XS.goto X4.here hexec rfl (pc0 := 10) rfl (hb hbytes d10) (by decide) rfl ?_
    exact Steps.refl _)
  exact ⟨T4, some (.int cd), _, _, _, X4, rfl, rfl, rfl, (fun h => by cases h), ⟨rfl, q4.trans hh2⟩, fun fs hl => c5.trans (X4.ireturnOut hexec hret (by rcases hc with rfl | rfl <;> rfl) (Or.inr (Or.inr (Or.inl rfl))) (hb hbytes d14) hl)⟩
end Cdr
namespace Len
def yN : MethodName := ⟨"java/lang/String", "length", "()I"⟩
abbrev yB : ByteArray := jdk_42_method_54_code
theorem d0 : decode yB 0 = .ok (.aload_n 0, 1) := by decide +kernel
theorem d1 : decode yB 1 = .ok (.getfield 9, 3) := by decide +kernel
theorem d4 : decode yB 4 = .ok (.arraylength, 1) := by decide +kernel
theorem d5 : decode yB 5 = .ok (.aload_n 0, 1) := by decide +kernel
theorem d6 : decode yB 6 = .ok (.invokevirtual 335, 3) := by decide +kernel
theorem d9 : decode yB 9 = .ok (.ishr, 1) := by decide +kernel
theorem d10 : decode yB 10 = .ok (.ireturn, 1) := by decide +kernel
def site : List Cond := [.fieldLink "java/lang/String" 9 "java/lang/String" "value" "[B", Cdr.tab] ++ virtW "java/lang/String" 335 "java/lang/String" Cdr.yN Cdr.yN
def tab : Cond := tabOf yN yB 1 (some .int) site
def P (x t : Addr) (V : Cell) (cd : Int32) (n : Nat) (f : Nat → Int32) (z : Int32) (args : Array Value) (s : State) : Prop := args = #[.ref x] ∧ Txt x t V cd n f s ∧ StaticIs s "java/lang/String" "COMPACT_STRINGS" "Z" (.int z) ∧ ¬ z = 0
def E (n : Nat) (r : Option Value) (s u : State) : Prop := XT.PureE (some (.int (Int32.ofNat n))) r s u
/-- length() of a String of n chars, in either coding -/
theorem law (l : Launch) (x t : Addr) (V : Cell) (cd : Int32) (n : Nat) (f : Nat → Int32) (z : Int32) : Law l yN 1 0 1 13 yB 1 (some .int) site (P x t V cd n f z) (E n) [] 0 0 := by
  refine Law.of_walk (plainFor_of_name (by decide +kernel)) (by decide +kernel) (by decide +kernel) (by decide) (fun _ _ h => by rw [h.1]; rfl) (fun _ U U' hal hh h => ⟨h.1, h.2.1.mv hal hh, h.2.2.1.there hal hh, h.2.2.2⟩) (fun r U U' V V' h1 hal h2 h => XT.PureE.mv r U U' V V' h1 hal h2 h) ?_
  intro p e s m args below meth c s₁ X0 hexec hbytes hml hret hlk hnm hown hh0 W hP
  obtain ⟨rfl, hx, s1, hz⟩ := hP
  have v31 := hx.2.2.2.1.2.2.2
  have c1 : Steps p.tables e below (s₁.setTop (entryFrame m #[.ref x] 1)) (s₁.setTop (mkF m 1 #[.val (.ref x)] [.ref x])) := Steps.trans (entry rfl) (by
    show Steps p.tables e below (s₁.setTop (mkF m 0 #[.val (.ref x)] [])) _
    refine XS.aloadN X0.here hexec rfl (hb hbytes d0) rfl rfl ?_
    exact Steps.refl _)
  obtain ⟨T2, X2, q2, st2⟩ := X0.hget hexec hown (wk W (.fieldLink "java/lang/String" 9 "java/lang/String" "value" "[B")) (hx.mv X0.warmed.alike hh0).2.1 (g := (mkF m 1 #[.val (.ref x)] [.ref x])) rfl (rest := []) rfl (hb hbytes d1)
  have hh2 := q2.trans hh0
  have hx2 := hx.mv X2.warmed.alike hh2
  have c3 : Steps p.tables e below (s₁.setTop (entryFrame m #[.ref x] 1)) (T2.setTop (mkF m 6 #[.val (.ref x)] [.ref x, .int (Int32.ofNat V.slots.size)])) := (c1.trans (st2 _ (Steps.refl _))).trans (by
    refine X2.alen hexec hx2.2.2.2.1 rfl rfl (hb hbytes d4) ?_
    refine XS.aloadN X2.here hexec rfl (hb hbytes d5) rfl rfl ?_
    exact Steps.refl _)
  obtain ⟨v4, T4, X4, E4, g4⟩ := X2.callV hexec (Cdr.law l x cd z) hown (wks W (virtW "java/lang/String" 335 "java/lang/String" Cdr.yN Cdr.yN)) rfl (by decide) (wk W Cdr.tab) (W := 1) (Nat.le_of_ble_eq_true rfl) (Nat.le_of_ble_eq_true rfl) (Nat.le_refl _) (Nat.le_refl _) (hx2.1.fc X2.warmed.alike) hx2.1.is (g := (mkF m 6 #[.val (.ref x)] [.ref x, .int (Int32.ofNat V.slots.size)])) rfl (by rw [hml]; rfl) c3 (argsL := []) (rest := [.int (Int32.ofNat V.slots.size)]) rfl rfl (by show 2 * 0 + (1 + 0) ≤ _; decide) (hb hbytes d6) (⟨rfl, hx2.2.2.1, hx.2.2.2.2.1.cd, s1.there X2.warmed.alike hh2, hz⟩)
  obtain ⟨rfl, q4⟩ := E4
  have c5 : Steps p.tables e below (s₁.setTop (entryFrame m #[.ref x] 1)) (T4.setTop (mkF m 10 #[.val (.ref x)] [.int (Int32.ofNat V.slots.size >>> (cd &&& 31))])) := Steps.trans g4 (by
    refine ishr X4.here hexec rfl (hb hbytes d9) rfl ?_
    exact Steps.refl _)
  rw [hx.2.2.2.2.1.len v31] at c5
  exact ⟨T4, some (.int (Int32.ofNat n)), _, _, _, X4, rfl, rfl, rfl, (fun h => by cases h), ⟨rfl, q4.trans hh2⟩, fun fs hl => c5.trans (X4.ireturnOut hexec hret rfl (Or.inl rfl) (hb hbytes d10) hl)⟩
theorem pays {l : Launch} {R : Room} {p : Program} {e : Env} {below : List Frame} {s : State} {sargs : Array Value} {len W : Nat} (x t : Addr) (V : Cell) (cd : Int32) (n : Nat) (f : Nat → Int32) (z : Int32) (htab : tab.before sargs s = true) (hfr : 2 ≤ R.frames) (hlo : W + 25 ≤ R.locals) :
    Back l R p e below s sargs yN len W (fun A₁ a₁ => A₁.cells + 0 ≤ R.cells ∧ A₁.slots + 0 ≤ R.slots ∧ P x t V cd n f z a₁ A₁.U) (fun A₁ _ v₁ B₁ => E n v₁ A₁.U B₁.U ∧ B₁.locs = A₁.locs ++ [] ∧ B₁.cells = A₁.cells + 0 ∧ B₁.slots = A₁.slots + 0) :=
  (law l x t V cd n f z).pays htab hfr (by omega)
end Len
end StrChars
namespace StrChars.Road
open Jvm Sem ClassFile Op Lib Jvm.Stand Jvm.Free Jvm.Free.XT
open Jvm.Lib.Cold (StaticIs)
theorem consq {a : Array Value} {s : State} {c : Jvm.Cond} {L : List Jvm.Cond} (h0 : c.before a s = true) (h : ∀ w ∈ L, w.before a s = true) : ∀ w ∈ c :: L, w.before a s = true := fun w hw => (List.mem_cons.mp hw).elim (fun e => e ▸ h0) (h w)
/-- the words of String.length(), either coding -/
abbrev wordsLen : List Jvm.Cond := [.code Len.yN Len.yB 1 (some .int), .initialized ST, .fieldLink ST 9 ST "value" "[B", .fieldLink ST 38 ST "COMPACT_STRINGS" "Z", .fieldLink ST 15 ST "coder" "B", .code Cdr.yN Cdr.yB 1 (some .byte), .methodLink ST 335 Cdr.yN, .declares Cdr.yN, .selects ST Cdr.yN Cdr.yN, .instanceMethod Cdr.yN]
theorem tabLen_of {a : Array Value} {s : State} (h : ∀ w ∈ wordsLen, w.before a s = true) : Len.tab.before a s = true := by
  have hc : Cdr.tab.before a s = true := unparts (wk h (.code Cdr.yN Cdr.yB 1 (some .byte))) (wks h (.initialized Cdr.yN.cls :: Cdr.site))
  have q := consq hc h
  exact unparts (wk q (.code Len.yN Len.yB 1 (some .int))) (wks q (.initialized Len.yN.cls :: Len.site))
theorem movedLen {Z s : State} {a0 args : Array Value} (hZ : Z.Warmed39 s.vm) (hw : ∀ d ∈ wordsLen, d.before a0 Z = true) : ∀ d ∈ wordsLen, d.before args s = true := fun d hd => by
  have q := hw d hd
  have t : ∀ d ∈ wordsLen, d = .arrayClass .byte ∨ (d.onTables && d.keepsFace) = true := by decide +kernel
  rcases t d hd with rfl | t
  · exact RoadKit.mvA hZ q
  · exact RoadKit.mv hZ q t
/-- the bytes of the chars cs, low before high -/
def wideBytes : List Int32 → List Value
  | [] => []
  | c :: cs => .int (lo8 c) :: .int (hi8 c) :: wideBytes cs
theorem wide_lo (d : Value) : ∀ (cs : List Int32) (j : Nat), j < cs.length → (wideBytes cs).getD (2 * j) d = .int (lo8 (cs.getD j 0))
  | [], j, h => absurd h (Nat.not_lt_zero j)
  | c :: cs, 0, _ => rfl
  | c :: cs, j + 1, h => by
    have q := wide_lo d cs j (by simpa using h)
    rw [show 2 * (j + 1) = 2 * j + 1 + 1 from by omega]
    simpa [wideBytes] using q
theorem wide_hi (d : Value) : ∀ (cs : List Int32) (j : Nat), j < cs.length → (wideBytes cs).getD (2 * j + 1) d = .int (hi8 (cs.getD j 0))
  | [], j, h => absurd h (Nat.not_lt_zero j)
  | c :: cs, 0, _ => rfl
  | c :: cs, j + 1, h => by
    have q := wide_hi d cs j (by simpa using h)
    rw [show 2 * (j + 1) + 1 = 2 * j + 1 + 1 + 1 from by omega]
    simpa [wideBytes] using q
theorem low_at (d : Value) (cs : List Int32) (j : Nat) (h : j < cs.length) : (cs.map fun c => Value.int (lo8 c)).getD j d = .int (lo8 (cs.getD j 0)) := by
  simp [List.getD_eq_getElem?_getD, h]
/-- an array of N2 bytes vs codes the chars cs by the coder cd -/
def CodA (cs : List Int32) (cd N2 : Int32) (vs : List Value) : Prop := (cd = 0 ∧ N2 = Int32.ofNat cs.length ∧ vs = (cs.map fun c => Value.int (lo8 c)) ∧ ∀ c ∈ cs, ¬ 255 < c) ∨ (cd = 1 ∧ N2 = Int32.ofNat (2 * cs.length) ∧ vs = wideBytes cs ∧ ∃ c ∈ cs, 255 < c)
theorem CodA.cod {cs : List Int32} {cd N2 : Int32} {vs : List Value} {V : Cell} (h : CodA cs cd N2 vs) (hn : 2 * cs.length < 2 ^ 31) (hs : V.slots.size = N2.toNatClampNeg) (hv : RoadKit.Has V vs (.int 0)) : Cod cd cs.length (fun j => cs.getD j 0) V := by
  rcases h with ⟨rfl, rfl, rfl, h⟩ | ⟨rfl, rfl, rfl, c, hc, hw⟩
  · rw [n32 (by omega)] at hs
    exact Or.inl ⟨rfl, hs, fun j hj => ⟨by rw [hv j (by omega), low_at _ _ _ hj], by
      have e : cs.getD j 0 = cs[j] := by simp [List.getD_eq_getElem?_getD, hj]
      show ¬ 255 < cs.getD j 0
      rw [e]; exact h _ (List.getElem_mem _)⟩⟩
  · rw [n32 (by omega)] at hs
    obtain ⟨j, hj, rfl⟩ := List.getElem_of_mem hc
    exact Or.inr ⟨rfl, hs, fun j hj => ⟨by rw [hv _ (by omega), wide_lo _ _ _ hj], by rw [hv _ (by omega), wide_hi _ _ _ hj]⟩, j, hj, by
      have e : cs.getD j 0 = cs[j] := by simp [List.getD_eq_getElem?_getD, hj]
      show 255 < cs.getD j 0
      rw [e]; exact hw⟩
/-- an object of exactly java/lang/String, its two fields found: as the laws ask it -/
theorem strObj {Z U : State} {a0 : Array Value} {kI : Nat} (wi : (Jvm.Cond.instantiable ST kI).before a0 Z = true) (al : Z.vm.Alike U.vm) {x : Addr} {v0 c0 : Value} (E : RoadKit.Exa Z U.heap x ST) (V : RoadKit.Fld Z U.heap x ST "value" "[B" v0) (C : RoadKit.Fld Z U.heap x ST "coder" "B" c0) :
    ∃ (D : Cell) (fV fC : Field), Blank ST x D U ∧ Found ST "value" "[B" fV U ∧ Found ST "coder" "B" fC U ∧ D.slots[fV.slot]? = some v0 ∧ D.slots[fC.slot]? = some c0 ∧ RoadKit.slotOf Z ST "value" "[B" = fV.slot ∧ RoadKit.slotOf Z ST "coder" "B" = fC.slot := by
  obtain ⟨D, cfV, kV, iV, fV, hD, gV, stV, knV, obV, asV, slV⟩ := V
  obtain ⟨D', cfC, kC, iC, fC, hD', gC, stC, -, -, asC, slC⟩ := C
  cases hD.symm.trans hD'
  obtain ⟨D2, kD, e1, e2, e3, e4, e5⟩ := E
  cases hD.symm.trans e1
  obtain ⟨c2, k2, i1, i2, i3, -⟩ := Cond.instantiable_spec wi
  cases e2.symm.trans i1
  cases e3.symm.trans i2
  obtain ⟨kU, u1, u2⟩ := al.2.2 _ _ e3
  exact ⟨D, fV, fC, ⟨hD, ⟨knV, fun q hq => by rw [hq] at obV; cases obV⟩, by rw [al.findClass]; exact e2, kU, u1, by rw [u2]; exact i3, by rw [u2]; exact e5 i3⟩, ⟨SBG.found_only al ⟨cfV, kV, iV, gV⟩, stV⟩, ⟨SBG.found_only al ⟨cfC, kC, iC, gC⟩, stC⟩, slV, slC, by simp [RoadKit.slotOf, gV], by simp [RoadKit.slotOf, gC]⟩
theorem sta_is {Z U : State} (al : Z.vm.Alike U.vm) {C n d : String} {v : Value} (S : RoadKit.Sta Z U.heap C n d v) : StaticIs U C n d v := by
  obtain ⟨cfS, iS, kS, fS, st, cS, t1, t2, t3, t4, t5, t6, t7⟩ := S
  exact StaticIs.there (s := { Z with heap := U.heap }) ⟨cfS, iS, kS, fS, st, cS, t1, t2, t3, t4, t5, (fun q => by rw [q] at t6; cases t6), t7⟩ al rfl
/-- **length() OF SUCH A STRING** -/
theorem lenW {p : Program} {l : Launch} {e : Env} {R : Room} {s : State} {args : Array Value} {below : List Frame} {len W : Nat} {Z : State} {a0 : Array Value} {h : Heap} (hZ : Z.Warmed39 s.vm) (hw : ∀ d ∈ wordsLen, d.before a0 Z = true) {kI : Nat} (wi : (Jvm.Cond.instantiable ST kI).before a0 Z = true)
    {x t : Addr} {kb : ClassId} {cs : List Int32} {cd N2 z : Int32} {vs : List Value} (E : RoadKit.Exa Z h x ST) (V : RoadKit.Fld Z h x ST "value" "[B" (.ref t)) (C : RoadKit.Fld Z h x ST "coder" "B" (.int cd)) (K : RoadKit.Arv Z h t kb .byte N2 vs (.int 0)) (hc : CodA cs cd N2 vs) (hb : ∀ c ∈ cs, ¬ c < 0 ∧ ¬ (65535 : Int32) < c)
    (S : RoadKit.Sta Z h ST "COMPACT_STRINGS" "Z" (.int z)) (hz : ¬ z = 0) (l2 : cs.length ≤ 4000) (hfr : 2 ≤ R.frames) (hlo : W + 25 ≤ R.locals) :
    Back l R p e below s args (⟨"java/lang/String", "length", "()I"⟩ : MethodName) len W (fun P a => a = #[.ref x] ∧ P.U.heap = h ∧ P.cells + 0 ≤ R.cells ∧ P.slots + 0 ≤ R.slots)
      (fun P _ v B => ∃ L, (v = some (.int (Int32.ofNat cs.length)) ∧ L = [] ∧ B.U.heap = h) ∧ B.locs = P.locs ++ L ∧ B.cells = P.cells + 0 ∧ B.slots = P.slots + 0) := by
  obtain ⟨A, K1, K2, K3, K4, K5, K6⟩ := K
  have hcod := hc.cod (by omega) K3 K5
  intro m meth c P g ig mk a X hg hsize hdg hW hn hp'
  obtain ⟨rfl, rfl, r1, r2⟩ := hp'
  have al : Z.vm.Alike P.U.vm := hZ.alike.trans X.warmed.alike
  obtain ⟨D, fV, fC, hB, F1, F2, g1, g2, -, -⟩ := strObj wi al E V C
  have hx : Txt x t A cd cs.length (fun j => cs.getD j 0) P.U := ⟨⟨_, hB.2.2.1, D, hB.1, rfl, by cases q : D.vm <;> first | rfl | exact absurd q (hB.2.1.2 _)⟩, Has.of hB F1 g1, Has.of hB F2 g2, ⟨K1.1, State.isArrayOf_alike al K1.2.1, K1.2.2, by rcases hcod with ⟨-, q, -⟩ | ⟨-, q, -⟩ <;> omega⟩, hcod, fun j hj => by
    have e : cs.getD j 0 = cs[j] := by simp [List.getD_eq_getElem?_getD, hj]
    show ¬ cs.getD j 0 < 0 ∧ ¬ 65535 < cs.getD j 0
    rw [e]; exact hb _ (List.getElem_mem _)⟩
  obtain ⟨v, B, X', ⟨⟨hv, hh⟩, hl, hk, hs⟩, st⟩ := Len.pays x t A cd cs.length (fun j => cs.getD j 0) z (tabLen_of (movedLen hZ hw)) hfr hlo m meth c P g ig mk _ X hg hsize hdg hW hn ⟨r1, r2, rfl, hx, sta_is al S, hz⟩
  exact ⟨v, B, X', ⟨[], ⟨hv, rfl, hh⟩, hl, hk, hs⟩, st⟩
end StrChars.Road
namespace StrChars
open Jvm Sem ClassFile Op Lib Jvm.Stand Jvm.Free.XT Jvm.Free.ALB Jvm.Free.JM Jvm.Free
open Jvm.Lib.Cold (StaticIs)
/-- what place i of a byte[]'s cell holds -/
def yv (A : Cell) (i : Nat) : Int32 := match A.slots[i]? with | some (.int x) => x | _ => 0
theorem yv_get {a : Addr} {A : Cell} {U : State} (h : XT.Arr .byte a A U) (ht : Typed .byte A) {i : Nat} (hi : i < A.slots.size) : A.slots[i]? = some (.int (yv A i)) := by
  have e := Array.getElem?_eq_getElem hi
  have f := ht i _ e
  unfold yv; rw [e]
  generalize A.slots[i] = v at f
  cases v <;> simp [fits] at f ⊢
/-- the two arrays are equal, place for place -/
def EqC (A B : Cell) : Prop := A.slots.size = B.slots.size ∧ ∀ i, i < A.slots.size → yv A i = yv B i
/-- a boolean that says whether p -/
def Says01 (q : Prop) (r : Option Value) (s u : State) : Prop := ∃ v : Int32, r = some (.int v) ∧ u.heap = s.heap ∧ ((v = 1 ∧ q) ∨ (v = 0 ∧ ¬ q))
theorem Says01.mv {q : Prop} : ∀ r (U U' V V' : State), U'.heap = U.heap → V.vm.Alike V'.vm → V'.heap = V.heap → Says01 q r U V → Says01 q r U' V' :=
  fun r U U' V V' h1 _ h2 ⟨v, a, b, c⟩ => ⟨v, a, by rw [h1, h2]; exact b, c⟩
namespace LEq
def yN : MethodName := ⟨"java/lang/StringLatin1", "equals", "([B[B)Z"⟩
abbrev yB : ByteArray := jdk_43_method_13_code
theorem d0 : decode yB 0 = .ok (.aload_n 0, 1) := by decide +kernel
theorem d1 : decode yB 1 = .ok (.arraylength, 1) := by decide +kernel
theorem d2 : decode yB 2 = .ok (.aload_n 1, 1) := by decide +kernel
theorem d3 : decode yB 3 = .ok (.arraylength, 1) := by decide +kernel
theorem d4 : decode yB 4 = .ok (.if_icmp (.ne) 30, 3) := by decide +kernel
theorem d7 : decode yB 7 = .ok (.iconst 0, 1) := by decide +kernel
theorem d8 : decode yB 8 = .ok (.istore_n 2, 1) := by decide +kernel
theorem d9 : decode yB 9 = .ok (.iload_n 2, 1) := by decide +kernel
theorem d10 : decode yB 10 = .ok (.aload_n 0, 1) := by decide +kernel
theorem d11 : decode yB 11 = .ok (.arraylength, 1) := by decide +kernel
theorem d12 : decode yB 12 = .ok (.if_icmp (.ge) 20, 3) := by decide +kernel
theorem d15 : decode yB 15 = .ok (.aload_n 0, 1) := by decide +kernel
theorem d16 : decode yB 16 = .ok (.iload_n 2, 1) := by decide +kernel
theorem d17 : decode yB 17 = .ok (.baload, 1) := by decide +kernel
theorem d18 : decode yB 18 = .ok (.aload_n 1, 1) := by decide +kernel
theorem d19 : decode yB 19 = .ok (.iload_n 2, 1) := by decide +kernel
theorem d20 : decode yB 20 = .ok (.baload, 1) := by decide +kernel
theorem d21 : decode yB 21 = .ok (.if_icmp (.eq) 5, 3) := by decide +kernel
theorem d24 : decode yB 24 = .ok (.iconst 0, 1) := by decide +kernel
theorem d25 : decode yB 25 = .ok (.ireturn, 1) := by decide +kernel
theorem d26 : decode yB 26 = .ok (.iinc 2 1, 3) := by decide +kernel
theorem d29 : decode yB 29 = .ok (.goto (-20), 3) := by decide +kernel
theorem d32 : decode yB 32 = .ok (.iconst 1, 1) := by decide +kernel
theorem d33 : decode yB 33 = .ok (.ireturn, 1) := by decide +kernel
theorem d34 : decode yB 34 = .ok (.iconst 0, 1) := by decide +kernel
theorem d35 : decode yB 35 = .ok (.ireturn, 1) := by decide +kernel
def site : List Cond := []
def tab : Cond := tabOf yN yB 3 (some .boolean) site
def P (a : Addr) (A : Cell) (b : Addr) (B : Cell) (args : Array Value) (s : State) : Prop := args = #[.ref a, .ref b] ∧ XT.Arr .byte a A s ∧ Typed .byte A ∧ XT.Arr .byte b B s ∧ Typed .byte B
/-- whether two byte[] are equal, place for place -/
theorem law (l : Launch) (a : Addr) (A : Cell) (b : Addr) (B : Cell) : Law l yN 2 2 0 0 yB 3 (some .boolean) site (P a A b B) (Says01 (EqC A B)) [] 0 0 := by
  refine Law.of_walk (plainFor_of_name (by decide +kernel)) (by decide +kernel) (by decide +kernel) (by decide) (fun _ _ h => by rw [h.1]; rfl) (fun _ U U' hal hh h => ⟨h.1, h.2.1.mv hal hh, h.2.2.1, h.2.2.2.1.mv hal hh, h.2.2.2.2⟩) (fun r U U' V V' h1 hal h2 h => Says01.mv r U U' V V' h1 hal h2 h) ?_
  intro p e s m args below meth c s₁ X0 hexec hbytes hml hret hlk hnm hown hh0 W hP
  obtain ⟨rfl, hA, tA, hB, tB⟩ := hP
  have a31 := hA.2.2.2
  have b31 := hB.2.2.2
  have hA0 := hA.mv X0.warmed.alike hh0
  have hB0 := hB.mv X0.warmed.alike hh0
  have c1 : Steps p.tables e below (s₁.setTop (entryFrame m #[.ref a, .ref b] 3)) (s₁.setTop (mkF m 0 #[.val (.ref a), .val (.ref b), .unset] [])) := entry rfl
  have c2 : Steps p.tables e below (s₁.setTop (entryFrame m #[.ref a, .ref b] 3)) (s₁.setTop (mkF m 4 #[.val (.ref a), .val (.ref b), .unset] [.int (Int32.ofNat B.slots.size), .int (Int32.ofNat A.slots.size)])) := c1.trans (by
    refine XS.aloadN X0.here hexec rfl (hb hbytes d0) rfl rfl ?_
    refine X0.alen hexec hA0 rfl rfl (hb hbytes d1) ?_
    refine XS.aloadN X0.here hexec rfl (hb hbytes d2) rfl rfl ?_
    refine X0.alen hexec hB0 rfl rfl (hb hbytes d3) ?_
    exact Steps.refl _)
  by_cases hs : A.slots.size = B.slots.size
  · have c3 : Steps p.tables e below (s₁.setTop (entryFrame m #[.ref a, .ref b] 3)) (s₁.setTop (mkF m 9 #[.val (.ref a), .val (.ref b), .val (.int 0)] [])) := c2.trans (by
      refine XS.icmpNo X0.here hexec rfl (hb hbytes d4) rfl (ii_ne_f (by rw [hs])) ?_
      refine iconstV X0.here hexec rfl 0 (hb hbytes d7) (by decide) ?_
      refine XS.istoreN X0.here hexec rfl (hb hbytes d8) rfl rfl ?_
      exact Steps.refl _)
    have loop : ∀ (r i : Nat), i + r = A.slots.size → (∀ j, j < i → yv A j = yv B j) → Steps p.tables e below (s₁.setTop (entryFrame m #[.ref a, .ref b] 3)) (s₁.setTop (mkF m 9 #[.val (.ref a), .val (.ref b), .val (.int (Int32.ofNat i))] [])) → ∃ (pc : Nat) (Ls : Array Slot) (v : Int32), (pc = 25 ∨ pc = 33) ∧ ((v = 1 ∧ EqC A B) ∨ (v = 0 ∧ ¬ EqC A B)) ∧ Steps p.tables e below (s₁.setTop (entryFrame m #[.ref a, .ref b] 3)) (s₁.setTop (mkF m pc Ls [.int v])) := by
      intro r
      induction r with
      | zero =>
        intro i hi he cl
        exact ⟨33, _, 1, Or.inr rfl, Or.inl ⟨rfl, hs, fun j hj => he j (by omega)⟩, cl.trans (by
          refine XS.iloadN X0.here hexec rfl (hb hbytes d9) rfl ?_
          refine XS.aloadN X0.here hexec rfl (hb hbytes d10) rfl rfl ?_
          refine X0.alen hexec hA0 rfl rfl (hb hbytes d11) ?_
          refine XS.icmpYes X0.here hexec rfl (pc0 := 12) rfl (hb hbytes d12) rfl (ii_ge_t (nlt32 (by omega) (by omega))) (by decide) rfl ?_
          refine iconstV X0.here hexec rfl 1 (hb hbytes d32) (by decide) ?_
          exact Steps.refl _)⟩
      | succ r ih =>
        intro i hi he cl
        have c4 : Steps p.tables e below (s₁.setTop (entryFrame m #[.ref a, .ref b] 3)) (s₁.setTop (mkF m 21 #[.val (.ref a), .val (.ref b), .val (.int (Int32.ofNat i))] [.int (yv B i), .int (yv A i)])) := cl.trans (by
          refine XS.iloadN X0.here hexec rfl (hb hbytes d9) rfl ?_
          refine XS.aloadN X0.here hexec rfl (hb hbytes d10) rfl rfl ?_
          refine X0.alen hexec hA0 rfl rfl (hb hbytes d11) ?_
          refine XS.icmpNo X0.here hexec rfl (hb hbytes d12) rfl (ii_ge_f (lt32 (by omega) (by omega))) ?_
          refine XS.aloadN X0.here hexec rfl (hb hbytes d15) rfl rfl ?_
          refine XS.iloadN X0.here hexec rfl (hb hbytes d16) rfl ?_
          refine X0.aget hexec hA0 rfl (yv_get hA tA (i := i) (by omega)) rfl rfl (hb hbytes d17) ?_
          refine XS.aloadN X0.here hexec rfl (hb hbytes d18) rfl rfl ?_
          refine XS.iloadN X0.here hexec rfl (hb hbytes d19) rfl ?_
          refine X0.aget hexec hB0 rfl (yv_get hB tB (i := i) (by omega)) rfl rfl (hb hbytes d20) ?_
          exact Steps.refl _)
        by_cases hv : yv A i = yv B i
        · have c5 : Steps p.tables e below (s₁.setTop (entryFrame m #[.ref a, .ref b] 3)) (s₁.setTop (mkF m 9 #[.val (.ref a), .val (.ref b), .val (.int (Int32.ofNat i + 1))] [])) := c4.trans (by
            refine XS.icmpYes X0.here hexec rfl (pc0 := 21) rfl (hb hbytes d21) rfl (ii_eq_t hv) (by decide) rfl ?_
            refine iincV X0.here hexec rfl 1 (hb hbytes d26) (by decide) rfl rfl ?_
            refine XS.goto X0.here hexec rfl (pc0 := 29) rfl (hb hbytes d29) (by decide) rfl ?_
            exact Steps.refl _)
          rw [succ32] at c5
          exact ih (i + 1) (by omega) (fun j hj => by
            by_cases e : j = i
            · rw [e]; exact hv
            · exact he j (by omega)) c5
        · exact ⟨25, _, 0, Or.inl rfl, Or.inr ⟨rfl, fun q => hv (q.2 i (by omega))⟩, c4.trans (by
            refine XS.icmpNo X0.here hexec rfl (hb hbytes d21) rfl (ii_eq_f hv) ?_
            refine iconstV X0.here hexec rfl 0 (hb hbytes d24) (by decide) ?_
            exact Steps.refl _)⟩
    obtain ⟨pc, Ls, v, hpc, hv, cz⟩ := loop A.slots.size 0 (by omega) (fun j hj => absurd hj (Nat.not_lt_zero j)) c3
    have nv : narrow .boolean (.int v) = .int v := by rcases hv with ⟨rfl, -⟩ | ⟨rfl, -⟩ <;> rfl
    rcases hpc with rfl | rfl
    · exact ⟨s₁, some (.int v), _, _, _, X0, rfl, rfl, rfl, (fun h => by cases h), ⟨v, rfl, hh0, hv⟩, fun fs hl => cz.trans (X0.ireturnOut hexec hret nv (Or.inr (Or.inl rfl)) (hb hbytes d25) hl)⟩
    · exact ⟨s₁, some (.int v), _, _, _, X0, rfl, rfl, rfl, (fun h => by cases h), ⟨v, rfl, hh0, hv⟩, fun fs hl => cz.trans (X0.ireturnOut hexec hret nv (Or.inr (Or.inl rfl)) (hb hbytes d33) hl)⟩
  · have c3 : Steps p.tables e below (s₁.setTop (entryFrame m #[.ref a, .ref b] 3)) (s₁.setTop (mkF m 35 #[.val (.ref a), .val (.ref b), .unset] [.int 0])) := c2.trans (by
      refine XS.icmpYes X0.here hexec rfl (pc0 := 4) rfl (hb hbytes d4) rfl (ii_ne_t (ne32 a31 b31 hs)) (by decide) rfl ?_
      refine iconstV X0.here hexec rfl 0 (hb hbytes d34) (by decide) ?_
      exact Steps.refl _)
    exact ⟨s₁, some (.int 0), _, _, _, X0, rfl, rfl, rfl, (fun h => by cases h), ⟨0, rfl, hh0, Or.inr ⟨rfl, fun q => hs q.1⟩⟩, fun fs hl => c3.trans (X0.ireturnOut hexec hret rfl (Or.inr (Or.inl rfl)) (hb hbytes d35) hl)⟩
end LEq
theorem Cod.ty {cd : Int32} {n : Nat} {f : Nat → Int32} {V : Cell} (h : Cod cd n f V) : Typed .byte V := fun i v hv => by
  have hi : i < V.slots.size := (Array.getElem?_eq_some_iff.mp hv).1
  rcases h with ⟨-, k1, k2⟩ | ⟨-, k1, k2, -⟩
  · rw [(k2 i (by omega)).1] at hv; cases hv; exact fits_lo8 _
  · rcases Nat.mod_two_eq_zero_or_one i with e | e
    · obtain ⟨j, rfl⟩ : ∃ j, i = 2 * j := ⟨i / 2, by omega⟩
      rw [(k2 j (by omega)).1] at hv; cases hv; exact fits_lo8 _
    · obtain ⟨j, rfl⟩ : ∃ j, i = 2 * j + 1 := ⟨i / 2, by omega⟩
      rw [(k2 j (by omega)).2] at hv; cases hv; exact fits_lo8 _
/-- the same text -/
def SameT (n : Nat) (f : Nat → Int32) (k : Nat) (g : Nat → Int32) : Prop := n = k ∧ ∀ j, j < n → f j = g j
theorem lo8_inj {x y : Int32} (h0 : ¬ x < 0) (h1 : ¬ 255 < x) (k0 : ¬ y < 0) (k1 : ¬ 255 < y) (h : lo8 x = lo8 y) : x = y := by
  rw [← lo8_mask h0 h1, ← lo8_mask k0 k1, h]
/-- arrays coded by one coder are equal just where the texts are -/
theorem Cod.eqv {cd : Int32} {n k : Nat} {f g : Nat → Int32} {V V' : Cell} (h : Cod cd n f V) (h' : Cod cd k g V') (hf : ∀ j, j < n → ¬ f j < 0 ∧ ¬ 65535 < f j) (hg : ∀ j, j < k → ¬ g j < 0 ∧ ¬ 65535 < g j) : EqC V V' ↔ SameT n f k g := by
  have yvv : ∀ {W : Cell} {i : Nat} {x : Int32}, W.slots[i]? = some (.int x) → yv W i = x := fun q => by unfold yv; rw [q]
  rcases h with ⟨rfl, k1, k2⟩ | ⟨rfl, k1, k2, -⟩
  · rcases h' with ⟨-, m1, m2⟩ | ⟨e, -⟩
    · constructor
      · rintro ⟨e1, e2⟩
        refine ⟨by omega, fun j hj => ?_⟩
        have q := e2 j (by omega)
        rw [yvv (k2 j hj).1, yvv (m2 j (by omega)).1] at q
        exact lo8_inj (hf j hj).1 (k2 j hj).2 (hg j (by omega)).1 (m2 j (by omega)).2 q
      · rintro ⟨rfl, e2⟩
        refine ⟨by omega, fun j hj => ?_⟩
        rw [yvv (k2 j (by omega)).1, yvv (m2 j (by omega)).1, e2 j (by omega)]
    · exact absurd e (by decide)
  · rcases h' with ⟨e, -⟩ | ⟨-, m1, m2, -⟩
    · exact absurd e (by decide)
    · constructor
      · rintro ⟨e1, e2⟩
        refine ⟨by omega, fun j hj => ?_⟩
        have q1 := e2 (2 * j) (by omega)
        have q2 := e2 (2 * j + 1) (by omega)
        rw [yvv (k2 j hj).1, yvv (m2 j (by omega)).1] at q1
        rw [yvv (k2 j hj).2, yvv (m2 j (by omega)).2] at q2
        rw [← pair_says (hf j hj).1 (hf j hj).2, ← pair_says (hg j (by omega)).1 (hg j (by omega)).2, q1, q2]
      · rintro ⟨rfl, e2⟩
        refine ⟨by omega, fun i hi => ?_⟩
        rcases Nat.mod_two_eq_zero_or_one i with e | e
        · obtain ⟨j, rfl⟩ : ∃ j, i = 2 * j := ⟨i / 2, by omega⟩
          rw [yvv (k2 j (by omega)).1, yvv (m2 j (by omega)).1, e2 j (by omega)]
        · obtain ⟨j, rfl⟩ : ∃ j, i = 2 * j + 1 := ⟨i / 2, by omega⟩
          rw [yvv (k2 j (by omega)).2, yvv (m2 j (by omega)).2, e2 j (by omega)]
/-- two codings differ: so do the texts -/
theorem Cod.dif {cd cd' : Int32} {n k : Nat} {f g : Nat → Int32} {V V' : Cell} (h : Cod cd n f V) (h' : Cod cd' k g V') (hne : ¬ cd = cd') : ¬ SameT n f k g := by
  rintro ⟨rfl, e⟩
  rcases h with ⟨rfl, -, k2⟩ | ⟨rfl, -, -, j, hj, hw⟩
  · rcases h' with ⟨rfl, -⟩ | ⟨-, -, -, j, hj, hw⟩
    · exact hne rfl
    · exact (k2 j hj).2 (by rw [e j hj]; exact hw)
  · rcases h' with ⟨-, -, m2⟩ | ⟨rfl, -⟩
    · exact (m2 j hj).2 (by rw [← e j hj]; exact hw)
    · exact hne rfl
/-- an object of exactly C is an instance of C -/
theorem cinst {p : Program} {l : Launch} {e : Env} {R : Room} {s : State} {m : MethodId} {args : Array Value} {below : List Frame} {meth : Method} {c : Code} {T : State} {locs : List Loc} {cells slots : Nat} (X : Stand p l e R s m args below meth c T locs cells slots) (hexec : p.tables.exec = Jvm.exec) {own C : String} {index : Nat} (hown : s.vm.findClass own = some m.cls) (hlink : (Cond.classLink own index C).before args s = true) {a : Addr} (hE : Exact C a T)
    {g : JFrame} (hg : g.method = m) {rest : List Value} (hstack : g.stack = .ref a :: rest) (hdg : decode c.code g.pc = .ok (.instanceof index, 3)) :
    ∃ T', Stand p l e R s m args below meth c T' locs cells slots ∧ T'.heap = T.heap ∧ ∀ target, Steps p.tables e below (T'.setTop { g with pc := g.pc + 3, stack := .int 1 :: rest }) target → Steps p.tables e below (T.setTop g) target := by
  obtain ⟨cB, h1, D, h2, h3, h4⟩ := hE
  have h1' : s.vm.findClass C = some cB := by rw [← X.warmed.alike.findClass]; exact h1
  obtain ⟨vm', X', st⟩ := X.instanceofYes hexec hown hlink h2 h4 h1' (by rw [h3]; exact Jvm.Free.SB.assignable_self _ _) hg hstack hdg
  exact ⟨_, X', rfl, st⟩
theorem cself {p : Program} {l : Launch} {e : Env} {R : Room} {s : State} {m : MethodId} {args : Array Value} {below : List Frame} {meth : Method} {c : Code} {T : State} {locs : List Loc} {cells slots : Nat} (X : Stand p l e R s m args below meth c T locs cells slots) (hexec : p.tables.exec = Jvm.exec) {own C : String} {index : Nat} (hown : s.vm.findClass own = some m.cls) (hlink : (Cond.classLink own index C).before args s = true) {a : Addr} (hE : Exact C a T)
    {g : JFrame} (hg : g.method = m) {rest : List Value} (hstack : g.stack = .ref a :: rest) (hdg : decode c.code g.pc = .ok (.checkcast index, 3)) :
    ∃ T', Stand p l e R s m args below meth c T' locs cells slots ∧ T'.heap = T.heap ∧ ∀ target, Steps p.tables e below (T'.setTop { g with pc := g.pc + 3, stack := .ref a :: rest }) target → Steps p.tables e below (T.setTop g) target := by
  obtain ⟨cB, h1, D, h2, h3, h4⟩ := hE
  have h1' : s.vm.findClass C = some cB := by rw [← X.warmed.alike.findClass]; exact h1
  obtain ⟨vm', X', st⟩ := X.checkcastYes hexec hown hlink h2 h4 h1' (by rw [h3]; exact Jvm.Free.SB.assignable_self _ _) hg hstack hdg
  exact ⟨_, X', rfl, fun t h => st t (by rw [← hstack] at h; exact h)⟩
namespace SEq
def yN : MethodName := ⟨"java/lang/String", "equals", "(Ljava/lang/Object;)Z"⟩
abbrev yB : ByteArray := jdk_42_method_66_code
theorem d0 : decode yB 0 = .ok (.aload_n 0, 1) := by decide +kernel
theorem d1 : decode yB 1 = .ok (.aload_n 1, 1) := by decide +kernel
theorem d2 : decode yB 2 = .ok (.if_acmp (.ne) 5, 3) := by decide +kernel
theorem d5 : decode yB 5 = .ok (.iconst 1, 1) := by decide +kernel
theorem d6 : decode yB 6 = .ok (.ireturn, 1) := by decide +kernel
theorem d7 : decode yB 7 = .ok (.aload_n 1, 1) := by decide +kernel
theorem d8 : decode yB 8 = .ok (.instanceof 10, 3) := by decide +kernel
theorem d11 : decode yB 11 = .ok (.ifCond (.eq) 43, 3) := by decide +kernel
theorem d14 : decode yB 14 = .ok (.aload_n 1, 1) := by decide +kernel
theorem d15 : decode yB 15 = .ok (.checkcast 10, 3) := by decide +kernel
theorem d18 : decode yB 18 = .ok (.astore_n 2, 1) := by decide +kernel
theorem d19 : decode yB 19 = .ok (.getstatic 38, 3) := by decide +kernel
theorem d22 : decode yB 22 = .ok (.ifCond (.eq) 14, 3) := by decide +kernel
theorem d25 : decode yB 25 = .ok (.aload_n 0, 1) := by decide +kernel
theorem d26 : decode yB 26 = .ok (.getfield 15, 3) := by decide +kernel
theorem d29 : decode yB 29 = .ok (.aload_n 2, 1) := by decide +kernel
theorem d30 : decode yB 30 = .ok (.getfield 15, 3) := by decide +kernel
theorem d33 : decode yB 33 = .ok (.if_icmp (.ne) 21, 3) := by decide +kernel
theorem d36 : decode yB 36 = .ok (.aload_n 0, 1) := by decide +kernel
theorem d37 : decode yB 37 = .ok (.getfield 9, 3) := by decide +kernel
theorem d40 : decode yB 40 = .ok (.aload_n 2, 1) := by decide +kernel
theorem d41 : decode yB 41 = .ok (.getfield 9, 3) := by decide +kernel
theorem d44 : decode yB 44 = .ok (.invokestatic 541, 3) := by decide +kernel
theorem d47 : decode yB 47 = .ok (.ifCond (.eq) 7, 3) := by decide +kernel
theorem d50 : decode yB 50 = .ok (.iconst 1, 1) := by decide +kernel
theorem d51 : decode yB 51 = .ok (.goto 4, 3) := by decide +kernel
theorem d54 : decode yB 54 = .ok (.iconst 0, 1) := by decide +kernel
theorem d55 : decode yB 55 = .ok (.ireturn, 1) := by decide +kernel
def site : List Cond := [.classLink "java/lang/String" 10 "java/lang/String", .fieldLink "java/lang/String" 38 "java/lang/String" "COMPACT_STRINGS" "Z", .fieldLink "java/lang/String" 15 "java/lang/String" "coder" "B", .fieldLink "java/lang/String" 9 "java/lang/String" "value" "[B", LEq.tab] ++ staticW "java/lang/String" 541 LEq.yN
def tab : Cond := tabOf yN yB 3 (some .boolean) site
def P (x t : Addr) (V : Cell) (cd : Int32) (n : Nat) (f : Nat → Int32) (y t' : Addr) (V' : Cell) (cd' : Int32) (k : Nat) (g : Nat → Int32) (z : Int32) (args : Array Value) (s : State) : Prop := args = #[.ref x, .ref y] ∧ Txt x t V cd n f s ∧ Txt y t' V' cd' k g s ∧ StaticIs s "java/lang/String" "COMPACT_STRINGS" "Z" (.int z) ∧ ¬ z = 0
/-- equals(Object) of two Strings: whether the texts are the same -/
theorem law (l : Launch) (x t : Addr) (V : Cell) (cd : Int32) (n : Nat) (f : Nat → Int32) (y t' : Addr) (V' : Cell) (cd' : Int32) (k : Nat) (g : Nat → Int32) (z : Int32) : Law l yN 2 1 1 14 yB 3 (some .boolean) site (P x t V cd n f y t' V' cd' k g z) (Says01 (SameT n f k g)) [] 0 0 := by
  refine Law.of_walk (plainFor_of_name (by decide +kernel)) (by decide +kernel) (by decide +kernel) (by decide) (fun _ _ h => by rw [h.1]; rfl) (fun _ U U' hal hh h => ⟨h.1, h.2.1.mv hal hh, h.2.2.1.mv hal hh, h.2.2.2.1.there hal hh, h.2.2.2.2⟩) (fun r U U' V V' h1 hal h2 h => Says01.mv r U U' V V' h1 hal h2 h) ?_
  intro p e s m args below meth c s₁ X0 hexec hbytes hml hret hlk hnm hown hh0 W hP
  obtain ⟨rfl, hx, hy, s1, hz⟩ := hP
  have c1 : Steps p.tables e below (s₁.setTop (entryFrame m #[.ref x, .ref y] 3)) (s₁.setTop (mkF m 2 #[.val (.ref x), .val (.ref y), .unset] [.ref y, .ref x])) := Steps.trans (entry rfl) (by
    show Steps p.tables e below (s₁.setTop (mkF m 0 #[.val (.ref x), .val (.ref y), .unset] [])) _
    refine XS.aloadN X0.here hexec rfl (hb hbytes d0) rfl rfl ?_
    refine XS.aloadN X0.here hexec rfl (hb hbytes d1) rfl rfl ?_
    exact Steps.refl _)
  by_cases hxy : x = y
  · have c2 : Steps p.tables e below (s₁.setTop (entryFrame m #[.ref x, .ref y] 3)) (s₁.setTop (mkF m 6 #[.val (.ref x), .val (.ref y), .unset] [.int 1])) := c1.trans (by
      refine acmpNo X0.here hexec rfl (hb hbytes d2) rfl rfl rfl (by simp [acmp, hxy]) ?_
      refine iconstV X0.here hexec rfl 1 (hb hbytes d5) (by decide) ?_
      exact Steps.refl _)
    subst hxy
    have ec : cd = cd' := by
      obtain ⟨D, fd, a1, a2, a3⟩ := hx.2.2.1
      obtain ⟨D', fd', b1, b2, b3⟩ := hy.2.2.1
      cases a1.symm.trans b1
      obtain ⟨q1, q2, q3, q4⟩ := a2.1
      obtain ⟨r1, r2, r3, r4⟩ := b2.1
      cases q4.symm.trans r4
      cases a3.symm.trans b3; rfl
    have et : t = t' := by
      obtain ⟨D, fd, a1, a2, a3⟩ := hx.2.1
      obtain ⟨D', fd', b1, b2, b3⟩ := hy.2.1
      cases a1.symm.trans b1
      obtain ⟨q1, q2, q3, q4⟩ := a2.1
      obtain ⟨r1, r2, r3, r4⟩ := b2.1
      cases q4.symm.trans r4
      cases a3.symm.trans b3; rfl
    subst ec et
    have ev : V = V' := by cases hx.2.2.2.1.1.symm.trans hy.2.2.2.1.1; rfl
    subst ev
    have hs : SameT n f k g := (Cod.eqv hx.2.2.2.2.1 hy.2.2.2.2.1 hx.2.2.2.2.2 hy.2.2.2.2.2).mp ⟨rfl, fun _ _ => rfl⟩
    exact ⟨s₁, some (.int 1), _, _, _, X0, rfl, rfl, rfl, (fun h => by cases h), ⟨1, rfl, hh0, Or.inl ⟨rfl, hs⟩⟩, fun fs hl => c2.trans (X0.ireturnOut hexec hret rfl (Or.inr (Or.inl rfl)) (hb hbytes d6) hl)⟩
  · have c2 : Steps p.tables e below (s₁.setTop (entryFrame m #[.ref x, .ref y] 3)) (s₁.setTop (mkF m 8 #[.val (.ref x), .val (.ref y), .unset] [.ref y])) := c1.trans (by
      refine acmpYes X0.here hexec rfl (pc0 := 2) rfl (hb hbytes d2) rfl rfl rfl (by simp [acmp, hxy]) (by decide) rfl ?_
      refine XS.aloadN X0.here hexec rfl (hb hbytes d7) rfl rfl ?_
      exact Steps.refl _)
    obtain ⟨T3, X3, q3, st3⟩ := cinst X0 hexec hown (wk W (.classLink "java/lang/String" 10 "java/lang/String")) (hy.mv X0.warmed.alike hh0).1 (g := (mkF m 8 #[.val (.ref x), .val (.ref y), .unset] [.ref y])) rfl (rest := []) rfl (hb hbytes d8)
    have hh3 := q3.trans hh0
    have c4 : Steps p.tables e below (s₁.setTop (entryFrame m #[.ref x, .ref y] 3)) (T3.setTop (mkF m 15 #[.val (.ref x), .val (.ref y), .unset] [.ref y])) := (c2.trans (st3 _ (Steps.refl _))).trans (by
      refine XS.ifNo X3.here hexec rfl (hb hbytes d11) rfl (i0_eq_f (by decide)) ?_
      refine XS.aloadN X3.here hexec rfl (hb hbytes d14) rfl rfl ?_
      exact Steps.refl _)
    obtain ⟨T5, X5, q5, st5⟩ := cself X3 hexec hown (wk W (.classLink "java/lang/String" 10 "java/lang/String")) (hy.mv X3.warmed.alike hh3).1 (g := (mkF m 15 #[.val (.ref x), .val (.ref y), .unset] [.ref y])) rfl (rest := []) rfl (hb hbytes d15)
    have hh5 := q5.trans hh3
    have c6 : Steps p.tables e below (s₁.setTop (entryFrame m #[.ref x, .ref y] 3)) (T5.setTop (mkF m 19 #[.val (.ref x), .val (.ref y), .val (.ref y)] [])) := (c4.trans (st5 _ (Steps.refl _))).trans (by
      refine XS.astoreN X5.here hexec rfl (hb hbytes d18) rfl rfl rfl ?_
      exact Steps.refl _)
    obtain ⟨T7, X7, q7, st7⟩ := X5.sget hexec hown (wk W (.fieldLink "java/lang/String" 38 "java/lang/String" "COMPACT_STRINGS" "Z")) s1 (fun _ _ h => by rw [hh5]; exact h) (g := (mkF m 19 #[.val (.ref x), .val (.ref y), .val (.ref y)] [])) rfl (hb hbytes d19)
    have hh7 := q7.trans hh5
    have c8 : Steps p.tables e below (s₁.setTop (entryFrame m #[.ref x, .ref y] 3)) (T7.setTop (mkF m 26 #[.val (.ref x), .val (.ref y), .val (.ref y)] [.ref x])) := (c6.trans (st7 _ (Steps.refl _))).trans (by
      refine XS.ifNo X7.here hexec rfl (hb hbytes d22) rfl (i0_eq_f hz) ?_
      refine XS.aloadN X7.here hexec rfl (hb hbytes d25) rfl rfl ?_
      exact Steps.refl _)
    obtain ⟨T9, X9, q9, st9⟩ := X7.hget hexec hown (wk W (.fieldLink "java/lang/String" 15 "java/lang/String" "coder" "B")) (hx.mv X7.warmed.alike hh7).2.2.1 (g := (mkF m 26 #[.val (.ref x), .val (.ref y), .val (.ref y)] [.ref x])) rfl (rest := []) rfl (hb hbytes d26)
    have hh9 := q9.trans hh7
    have c10 : Steps p.tables e below (s₁.setTop (entryFrame m #[.ref x, .ref y] 3)) (T9.setTop (mkF m 30 #[.val (.ref x), .val (.ref y), .val (.ref y)] [.ref y, .int cd])) := (c8.trans (st9 _ (Steps.refl _))).trans (by
      refine XS.aloadN X9.here hexec rfl (hb hbytes d29) rfl rfl ?_
      exact Steps.refl _)
    obtain ⟨T11, X11, q11, st11⟩ := X9.hget hexec hown (wk W (.fieldLink "java/lang/String" 15 "java/lang/String" "coder" "B")) (hy.mv X9.warmed.alike hh9).2.2.1 (g := (mkF m 30 #[.val (.ref x), .val (.ref y), .val (.ref y)] [.ref y, .int cd])) rfl (rest := [.int cd]) rfl (hb hbytes d30)
    have hh11 := q11.trans hh9
    have c12 : Steps p.tables e below (s₁.setTop (entryFrame m #[.ref x, .ref y] 3)) (T11.setTop (mkF m 33 #[.val (.ref x), .val (.ref y), .val (.ref y)] [.int cd', .int cd])) := c10.trans (st11 _ (Steps.refl _))
    by_cases hcd : cd = cd'
    · subst hcd
      have c13 : Steps p.tables e below (s₁.setTop (entryFrame m #[.ref x, .ref y] 3)) (T11.setTop (mkF m 37 #[.val (.ref x), .val (.ref y), .val (.ref y)] [.ref x])) := c12.trans (by
        refine XS.icmpNo X11.here hexec rfl (hb hbytes d33) rfl (ii_ne_f rfl) ?_
        refine XS.aloadN X11.here hexec rfl (hb hbytes d36) rfl rfl ?_
        exact Steps.refl _)
      obtain ⟨T14, X14, q14, st14⟩ := X11.hget hexec hown (wk W (.fieldLink "java/lang/String" 9 "java/lang/String" "value" "[B")) (hx.mv X11.warmed.alike hh11).2.1 (g := (mkF m 37 #[.val (.ref x), .val (.ref y), .val (.ref y)] [.ref x])) rfl (rest := []) rfl (hb hbytes d37)
      have hh14 := q14.trans hh11
      have c15 : Steps p.tables e below (s₁.setTop (entryFrame m #[.ref x, .ref y] 3)) (T14.setTop (mkF m 41 #[.val (.ref x), .val (.ref y), .val (.ref y)] [.ref y, .ref t])) := (c13.trans (st14 _ (Steps.refl _))).trans (by
        refine XS.aloadN X14.here hexec rfl (hb hbytes d40) rfl rfl ?_
        exact Steps.refl _)
      obtain ⟨T16, X16, q16, st16⟩ := X14.hget hexec hown (wk W (.fieldLink "java/lang/String" 9 "java/lang/String" "value" "[B")) (hy.mv X14.warmed.alike hh14).2.1 (g := (mkF m 41 #[.val (.ref x), .val (.ref y), .val (.ref y)] [.ref y, .ref t])) rfl (rest := [.ref t]) rfl (hb hbytes d41)
      have hh16 := q16.trans hh14
      have c17 : Steps p.tables e below (s₁.setTop (entryFrame m #[.ref x, .ref y] 3)) (T16.setTop (mkF m 44 #[.val (.ref x), .val (.ref y), .val (.ref y)] [.ref t', .ref t])) := c15.trans (st16 _ (Steps.refl _))
      obtain ⟨v18, T18, X18, E18, g18⟩ := X16.callS hexec (LEq.law l t V t' V') hown (wks W (staticW "java/lang/String" 541 LEq.yN)) (wk W LEq.tab) (W := 0) (Nat.le_of_ble_eq_true rfl) (Nat.le_of_ble_eq_true rfl) (Nat.le_refl _) (Nat.le_refl _) (g := (mkF m 44 #[.val (.ref x), .val (.ref y), .val (.ref y)] [.ref t', .ref t])) rfl (by rw [hml]; rfl) c17 (argsL := [.ref t, .ref t']) (rest := []) rfl rfl (by show 2 * 0 + 0 ≤ _; decide) (hb hbytes d44) (⟨rfl, hx.2.2.2.1.mv X16.warmed.alike hh16, hx.2.2.2.2.1.ty, hy.2.2.2.1.mv X16.warmed.alike hh16, hy.2.2.2.2.1.ty⟩)
      obtain ⟨v, rfl, q18, hv⟩ := E18
      have iff := Cod.eqv hx.2.2.2.2.1 hy.2.2.2.2.1 hx.2.2.2.2.2 hy.2.2.2.2.2
      rcases hv with ⟨rfl, he⟩ | ⟨rfl, he⟩
      · have c19 : Steps p.tables e below (s₁.setTop (entryFrame m #[.ref x, .ref y] 3)) (T18.setTop (mkF m 55 #[.val (.ref x), .val (.ref y), .val (.ref y)] [.int 1])) := Steps.trans g18 (by
          refine XS.ifNo X18.here hexec rfl (hb hbytes d47) rfl (i0_eq_f (by decide)) ?_
          refine iconstV X18.here hexec rfl 1 (hb hbytes d50) (by decide) ?_
          refine XS.goto X18.here hexec rfl (pc0 := 51) rfl (hb hbytes d51) (by decide) rfl ?_
          exact Steps.refl _)
        exact ⟨T18, some (.int 1), _, _, _, X18, rfl, rfl, rfl, (fun h => by cases h), ⟨1, rfl, q18.trans hh16, Or.inl ⟨rfl, iff.mp he⟩⟩, fun fs hl => c19.trans (X18.ireturnOut hexec hret rfl (Or.inr (Or.inl rfl)) (hb hbytes d55) hl)⟩
      · have c19 : Steps p.tables e below (s₁.setTop (entryFrame m #[.ref x, .ref y] 3)) (T18.setTop (mkF m 55 #[.val (.ref x), .val (.ref y), .val (.ref y)] [.int 0])) := Steps.trans g18 (by
          refine XS.ifYes X18.here hexec rfl (pc0 := 47) rfl (hb hbytes d47) rfl (i0_eq_t rfl) (by decide) rfl ?_
          refine iconstV X18.here hexec rfl 0 (hb hbytes d54) (by decide) ?_
          exact Steps.refl _)
        exact ⟨T18, some (.int 0), _, _, _, X18, rfl, rfl, rfl, (fun h => by cases h), ⟨0, rfl, q18.trans hh16, Or.inr ⟨rfl, fun q => he (iff.mpr q)⟩⟩, fun fs hl => c19.trans (X18.ireturnOut hexec hret rfl (Or.inr (Or.inl rfl)) (hb hbytes d55) hl)⟩
    · have c13 : Steps p.tables e below (s₁.setTop (entryFrame m #[.ref x, .ref y] 3)) (T11.setTop (mkF m 55 #[.val (.ref x), .val (.ref y), .val (.ref y)] [.int 0])) := c12.trans (by
        refine XS.icmpYes X11.here hexec rfl (pc0 := 33) rfl (hb hbytes d33) rfl (ii_ne_t hcd) (by decide) rfl ?_
        refine iconstV X11.here hexec rfl 0 (hb hbytes d54) (by decide) ?_
        exact Steps.refl _)
      exact ⟨T11, some (.int 0), _, _, _, X11, rfl, rfl, rfl, (fun h => by cases h), ⟨0, rfl, hh11, Or.inr ⟨rfl, Cod.dif hx.2.2.2.2.1 hy.2.2.2.2.1 hcd⟩⟩, fun fs hl => c13.trans (X11.ireturnOut hexec hret rfl (Or.inr (Or.inl rfl)) (hb hbytes d55) hl)⟩
theorem pays {l : Launch} {R : Room} {p : Program} {e : Env} {below : List Frame} {s : State} {sargs : Array Value} {len W : Nat} (x t : Addr) (V : Cell) (cd : Int32) (n : Nat) (f : Nat → Int32) (y t' : Addr) (V' : Cell) (cd' : Int32) (k : Nat) (g : Nat → Int32) (z : Int32) (htab : tab.before sargs s = true) (hfr : 2 ≤ R.frames) (hlo : W + 28 ≤ R.locals) :
    Back l R p e below s sargs yN len W (fun A₁ a₁ => A₁.cells + 0 ≤ R.cells ∧ A₁.slots + 0 ≤ R.slots ∧ P x t V cd n f y t' V' cd' k g z a₁ A₁.U) (fun A₁ _ v₁ B₁ => Says01 (SameT n f k g) v₁ A₁.U B₁.U ∧ B₁.locs = A₁.locs ++ [] ∧ B₁.cells = A₁.cells + 0 ∧ B₁.slots = A₁.slots + 0) :=
  (law l x t V cd n f y t' V' cd' k g z).pays htab hfr (by omega)
end SEq
end StrChars
namespace StrChars.Road
open Jvm Sem ClassFile Op Lib Jvm.Stand Jvm.Free Jvm.Free.XT
open Jvm.Lib.Cold (StaticIs)
/-- the words of String.equals(Object) -/
abbrev wordsEq : List Jvm.Cond := [.code SEq.yN SEq.yB 3 (some .boolean), .initialized ST, .classLink ST 10 ST, .fieldLink ST 38 ST "COMPACT_STRINGS" "Z", .fieldLink ST 15 ST "coder" "B", .fieldLink ST 9 ST "value" "[B", .methodLink ST 541 LEq.yN, .static LEq.yN, .code LEq.yN LEq.yB 3 (some .boolean), .initialized "java/lang/StringLatin1"]
theorem tabEq_of {a : Array Value} {s : State} (h : ∀ w ∈ wordsEq, w.before a s = true) : SEq.tab.before a s = true := by
  have hl : LEq.tab.before a s = true := unparts (wk h (.code LEq.yN LEq.yB 3 (some .boolean))) (wks h (.initialized LEq.yN.cls :: LEq.site))
  have q := consq hl h
  exact unparts (wk q (.code SEq.yN SEq.yB 3 (some .boolean))) (wks q (.initialized SEq.yN.cls :: SEq.site))
theorem movedEq {Z s : State} {a0 args : Array Value} (hZ : Z.Warmed39 s.vm) (hw : ∀ d ∈ wordsEq, d.before a0 Z = true) : ∀ d ∈ wordsEq, d.before args s = true := fun d hd => by
  have t : ∀ d ∈ wordsEq, (d.onTables && d.keepsFace) = true := by decide +kernel
  exact RoadKit.mv hZ (hw d hd) (t d hd)
/-- the road's facts of a String, as the laws ask it -/
theorem txt_of {Z U : State} {a0 : Array Value} {kI : Nat} (wi : (Jvm.Cond.instantiable ST kI).before a0 Z = true) (al : Z.vm.Alike U.vm) {x t : Addr} {kb : ClassId} {cs : List Int32} {cd N2 : Int32} {vs : List Value} (E : RoadKit.Exa Z U.heap x ST) (V : RoadKit.Fld Z U.heap x ST "value" "[B" (.ref t)) (C : RoadKit.Fld Z U.heap x ST "coder" "B" (.int cd)) (K : RoadKit.Arv Z U.heap t kb .byte N2 vs (.int 0)) (hc : CodA cs cd N2 vs) (hb : ∀ c ∈ cs, ¬ c < 0 ∧ ¬ (65535 : Int32) < c) (l2 : cs.length ≤ 4000) :
    ∃ A, Txt x t A cd cs.length (fun j => cs.getD j 0) U := by
  obtain ⟨A, K1, K2, K3, K4, K5, K6⟩ := K
  have hcod := hc.cod (by omega) K3 K5
  obtain ⟨D, fV, fC, hB, F1, F2, g1, g2, -, -⟩ := strObj wi al E V C
  exact ⟨A, ⟨_, hB.2.2.1, D, hB.1, rfl, by cases q : D.vm <;> first | rfl | exact absurd q (hB.2.1.2 _)⟩, Has.of hB F1 g1, Has.of hB F2 g2, ⟨K1.1, State.isArrayOf_alike al K1.2.1, K1.2.2, by rcases hcod with ⟨-, q, -⟩ | ⟨-, q, -⟩ <;> omega⟩, hcod, fun j hj => by
    have e : cs.getD j 0 = cs[j] := by simp [List.getD_eq_getElem?_getD, hj]
    show ¬ cs.getD j 0 < 0 ∧ ¬ 65535 < cs.getD j 0
    rw [e]; exact hb _ (List.getElem_mem _)⟩
theorem same_list (cs ds : List Int32) : SameT cs.length (fun j => cs.getD j 0) ds.length (fun j => ds.getD j 0) ↔ cs = ds := by
  constructor
  · rintro ⟨e, q⟩
    refine List.ext_getElem e fun j h1 h2 => ?_
    have := q j h1
    simpa [List.getD_eq_getElem?_getD, h1, h2] using this
  · rintro rfl
    exact ⟨rfl, fun _ _ => rfl⟩
/-- **equals(Object) OF TWO SUCH STRINGS**: 1 just where the chars are the same -/
theorem eqW {p : Program} {l : Launch} {e : Env} {R : Room} {s : State} {args : Array Value} {below : List Frame} {len W : Nat} {Z : State} {a0 : Array Value} {h : Heap} (hZ : Z.Warmed39 s.vm) (hw : ∀ d ∈ wordsEq, d.before a0 Z = true) {kI : Nat} (wi : (Jvm.Cond.instantiable ST kI).before a0 Z = true)
    {x t : Addr} {kb : ClassId} {cs : List Int32} {cd N2 : Int32} {vs : List Value} (E : RoadKit.Exa Z h x ST) (V : RoadKit.Fld Z h x ST "value" "[B" (.ref t)) (C : RoadKit.Fld Z h x ST "coder" "B" (.int cd)) (K : RoadKit.Arv Z h t kb .byte N2 vs (.int 0)) (hc : CodA cs cd N2 vs) (hb : ∀ c ∈ cs, ¬ c < 0 ∧ ¬ (65535 : Int32) < c) (l2 : cs.length ≤ 4000)
    {y t' : Addr} {kb' : ClassId} {ds : List Int32} {cd' N2' : Int32} {vs' : List Value} (E' : RoadKit.Exa Z h y ST) (V' : RoadKit.Fld Z h y ST "value" "[B" (.ref t')) (C' : RoadKit.Fld Z h y ST "coder" "B" (.int cd')) (K' : RoadKit.Arv Z h t' kb' .byte N2' vs' (.int 0)) (hc' : CodA ds cd' N2' vs') (hb' : ∀ c ∈ ds, ¬ c < 0 ∧ ¬ (65535 : Int32) < c) (l2' : ds.length ≤ 4000)
    {z : Int32} (S : RoadKit.Sta Z h ST "COMPACT_STRINGS" "Z" (.int z)) (hz : ¬ z = 0) (hfr : 2 ≤ R.frames) (hlo : W + 28 ≤ R.locals) :
    Back l R p e below s args (⟨"java/lang/String", "equals", "(Ljava/lang/Object;)Z"⟩ : MethodName) len W (fun P a => a = #[.ref x, .ref y] ∧ P.U.heap = h ∧ P.cells + 0 ≤ R.cells ∧ P.slots + 0 ≤ R.slots)
      (fun P _ v B => ∃ L, (((v = some (.int 1) ∧ cs = ds) ∨ (v = some (.int 0) ∧ ¬ cs = ds)) ∧ L = [] ∧ B.U.heap = h) ∧ B.locs = P.locs ++ L ∧ B.cells = P.cells + 0 ∧ B.slots = P.slots + 0) := by
  intro m meth c P g ig mk a X hg hsize hdg hW hn hp'
  obtain ⟨rfl, rfl, r1, r2⟩ := hp'
  have al : Z.vm.Alike P.U.vm := hZ.alike.trans X.warmed.alike
  obtain ⟨A, hx⟩ := txt_of wi al E V C K hc hb l2
  obtain ⟨A', hy⟩ := txt_of wi al E' V' C' K' hc' hb' l2'
  obtain ⟨v, B, X', ⟨⟨w, hv, hh, hq⟩, hl, hk, hs⟩, st⟩ := SEq.pays x t A cd cs.length (fun j => cs.getD j 0) y t' A' cd' ds.length (fun j => ds.getD j 0) z (tabEq_of (movedEq hZ hw)) hfr hlo m meth c P g ig mk _ X hg hsize hdg hW hn ⟨r1, r2, rfl, hx, hy, sta_is al S, hz⟩
  refine ⟨v, B, X', ⟨[], ⟨?_, rfl, hh⟩, hl, hk, hs⟩, st⟩
  rcases hq with ⟨rfl, q⟩ | ⟨rfl, q⟩
  · exact Or.inl ⟨hv, (same_list cs ds).mp q⟩
  · exact Or.inr ⟨hv, fun e => q ((same_list cs ds).mpr e)⟩
end StrChars.Road
namespace StrChars.Road
open Jvm Sem ClassFile Op Lib Jvm.Stand Jvm.Free Jvm.Free.XT
open Jvm.Lib.Cold (StaticIs)
/-- what backV says of its String, as the contracts of this text ask it: cs's low bytes, coder 0 -/
theorem codOf {cs : List Int32} {n : Nat} (hn : cs.length = n) (hb : ∀ c ∈ cs, ¬ 255 < c) : CodA cs 0 (Int32.ofNat n) ((cs.map lo8).map Value.int) := Or.inl ⟨rfl, by rw [hn], by simp [List.map_map, Function.comp_def], hb⟩
end StrChars.Road
end Jvm.Pilot.@@N@@

namespace Jvm.Pilot.@@N@@
open Jvm Jvm.ClassFile Sem Op Lib Jvm.Free Jvm.Stand Jvm.LawKit Jvm.RoadKit Jvm.Own Bundle Jvm.Pilot.@@N@@.Jvm.D
theorem own_q0 {Z : State} {a0 : Array Value} (hw : ∀ d ∈ tables_1, d.before a0 Z = true) : (Jvm.Cond.classLink "com/example/stanchion/stanchion/changelog/SqlDescriptionPinLaw" (9 : Nat) "java/lang/String").before a0 Z = true := hw _ (List.mem_of_getElem? (i := 0) rfl)
theorem own_q1 {Z : State} {a0 : Array Value} (hw : ∀ d ∈ tables_1, d.before a0 Z = true) : (Jvm.Cond.instantiable "java/lang/String" (4 : Nat)).before a0 Z = true := hw _ (List.mem_of_getElem? (i := 1) rfl)
theorem own_q2 {Z : State} {a0 : Array Value} (hw : ∀ d ∈ tables_1, d.before a0 Z = true) : (Jvm.Cond.initialized "java/lang/String").before a0 Z = true := hw _ (List.mem_of_getElem? (i := 2) rfl)
theorem own_q3 {Z : State} {a0 : Array Value} (hw : ∀ d ∈ tables_1, d.before a0 Z = true) : (Jvm.Cond.arrayClass Jvm.ClassFile.FieldType.char).before a0 Z = true := hw _ (List.mem_of_getElem? (i := 3) rfl)
theorem own_q4 {Z : State} {a0 : Array Value} (hw : ∀ d ∈ tables_1, d.before a0 Z = true) : (Jvm.Cond.methodLink "com/example/stanchion/stanchion/changelog/SqlDescriptionPinLaw" (11 : Nat) ({ cls := "java/lang/String", name := "<init>", desc := "([C)V" } : Jvm.MethodName)).before a0 Z = true := hw _ (List.mem_of_getElem? (i := 4) rfl)
theorem own_q5 {Z : State} {a0 : Array Value} (hw : ∀ d ∈ tables_1, d.before a0 Z = true) : (Jvm.Cond.instanceMethod ({ cls := "java/lang/String", name := "<init>", desc := "([C)V" } : Jvm.MethodName)).before a0 Z = true := hw _ (List.mem_of_getElem? (i := 5) rfl)
theorem own_q6 {Z : State} {a0 : Array Value} (hw : ∀ d ∈ tables_1, d.before a0 Z = true) : (Jvm.Cond.code ({ cls := "java/lang/String", name := "<init>", desc := "([C)V" } : Jvm.MethodName) jdk_42_method_3_code (2 : Nat) (Option.none : Option Jvm.ClassFile.FieldType)).before a0 Z = true := hw _ (List.mem_of_getElem? (i := 6) rfl)
theorem own_q7 {Z : State} {a0 : Array Value} (hw : ∀ d ∈ tables_1, d.before a0 Z = true) : (Jvm.Cond.methodLink "java/lang/String" (27 : Nat) ({ cls := "java/lang/String", name := "<init>", desc := "([CIILjava/lang/Void;)V" } : Jvm.MethodName)).before a0 Z = true := hw _ (List.mem_of_getElem? (i := 7) rfl)
theorem own_q8 {Z : State} {a0 : Array Value} (hw : ∀ d ∈ tables_1, d.before a0 Z = true) : (Jvm.Cond.instanceMethod ({ cls := "java/lang/String", name := "<init>", desc := "([CIILjava/lang/Void;)V" } : Jvm.MethodName)).before a0 Z = true := hw _ (List.mem_of_getElem? (i := 8) rfl)
theorem own_q10 {Z : State} {a0 : Array Value} (hw : ∀ d ∈ tables_1, d.before a0 Z = true) : (Jvm.Cond.code ({ cls := "java/lang/String", name := "<init>", desc := "([CIILjava/lang/Void;)V" } : Jvm.MethodName) jdk_42_method_149_code (6 : Nat) (Option.none : Option Jvm.ClassFile.FieldType)).before a0 Z = true := hw _ (List.mem_of_getElem? (i := 10) rfl)
theorem own_q11 {Z : State} {a0 : Array Value} (hw : ∀ d ∈ tables_1, d.before a0 Z = true) : (Jvm.Cond.methodLink "java/lang/String" (1 : Nat) ({ cls := "java/lang/Object", name := "<init>", desc := "()V" } : Jvm.MethodName)).before a0 Z = true := hw _ (List.mem_of_getElem? (i := 11) rfl)
theorem own_q12 {Z : State} {a0 : Array Value} (hw : ∀ d ∈ tables_1, d.before a0 Z = true) : (Jvm.Cond.instanceMethod ({ cls := "java/lang/Object", name := "<init>", desc := "()V" } : Jvm.MethodName)).before a0 Z = true := hw _ (List.mem_of_getElem? (i := 12) rfl)
theorem own_q13 {Z : State} {a0 : Array Value} (hw : ∀ d ∈ tables_1, d.before a0 Z = true) : (Jvm.Cond.code ({ cls := "java/lang/Object", name := "<init>", desc := "()V" } : Jvm.MethodName) object_method_1_code (1 : Nat) (Option.none : Option Jvm.ClassFile.FieldType)).before a0 Z = true := hw _ (List.mem_of_getElem? (i := 13) rfl)
theorem own_q14 {Z : State} {a0 : Array Value} (hw : ∀ d ∈ tables_1, d.before a0 Z = true) : (Jvm.Cond.stringLink "java/lang/String" (7 : Nat) "").before a0 Z = true := hw _ (List.mem_of_getElem? (i := 14) rfl)
theorem own_q15 {Z : State} {a0 : Array Value} (hw : ∀ d ∈ tables_1, d.before a0 Z = true) : (Jvm.Cond.arrayClass Jvm.ClassFile.FieldType.byte).before a0 Z = true := hw _ (List.mem_of_getElem? (i := 15) rfl)
theorem own_q16 {Z : State} {a0 : Array Value} (hw : ∀ d ∈ tables_1, d.before a0 Z = true) : (Jvm.Cond.laysFinal "java/lang/String" "java/lang/String" "value" "[B").before a0 Z = true := hw _ (List.mem_of_getElem? (i := 16) rfl)
theorem own_q17 {Z : State} {a0 : Array Value} (hw : ∀ d ∈ tables_1, d.before a0 Z = true) : (Jvm.Cond.laysFinal "java/lang/String" "java/lang/String" "coder" "B").before a0 Z = true := hw _ (List.mem_of_getElem? (i := 17) rfl)
theorem own_q20 {Z : State} {a0 : Array Value} (hw : ∀ d ∈ tables_1, d.before a0 Z = true) : (Jvm.Cond.fieldLink "java/lang/String" (9 : Nat) "java/lang/String" "value" "[B").before a0 Z = true := hw _ (List.mem_of_getElem? (i := 20) rfl)
theorem own_q21 {Z : State} {a0 : Array Value} (hw : ∀ d ∈ tables_1, d.before a0 Z = true) : (Jvm.Cond.fieldLink "java/lang/String" (15 : Nat) "java/lang/String" "coder" "B").before a0 Z = true := hw _ (List.mem_of_getElem? (i := 21) rfl)
theorem own_q22 {Z : State} {a0 : Array Value} (hw : ∀ d ∈ tables_1, d.before a0 Z = true) : (Jvm.Cond.stringLink "com/example/stanchion/stanchion/changelog/SqlDescriptionPinLaw" (14 : Nat) "sqlFile ").before a0 Z = true := hw _ (List.mem_of_getElem? (i := 22) rfl)
theorem own_q23 {Z : State} {a0 : Array Value} (hw : ∀ d ∈ tables_1, d.before a0 Z = true) : (Jvm.Cond.methodLink "com/example/stanchion/stanchion/changelog/SqlDescriptionPinLaw" (16 : Nat) ({ cls := "java/lang/String", name := "valueOf", desc := "(C)Ljava/lang/String;" } : Jvm.MethodName)).before a0 Z = true := hw _ (List.mem_of_getElem? (i := 23) rfl)
theorem own_q24 {Z : State} {a0 : Array Value} (hw : ∀ d ∈ tables_1, d.before a0 Z = true) : (Jvm.Cond.static ({ cls := "java/lang/String", name := "valueOf", desc := "(C)Ljava/lang/String;" } : Jvm.MethodName)).before a0 Z = true := hw _ (List.mem_of_getElem? (i := 24) rfl)
theorem own_q25 {Z : State} {a0 : Array Value} (hw : ∀ d ∈ tables_1, d.before a0 Z = true) : (Jvm.Cond.code ({ cls := "java/lang/String", name := "valueOf", desc := "(C)Ljava/lang/String;" } : Jvm.MethodName) jdk_42_method_139_code (1 : Nat) (Option.some (Jvm.ClassFile.FieldType.object "java/lang/String"))).before a0 Z = true := hw _ (List.mem_of_getElem? (i := 25) rfl)
theorem own_q26 {Z : State} {a0 : Array Value} (hw : ∀ d ∈ tables_1, d.before a0 Z = true) : (Jvm.Cond.fieldLink "java/lang/String" (38 : Nat) "java/lang/String" "COMPACT_STRINGS" "Z").before a0 Z = true := hw _ (List.mem_of_getElem? (i := 26) rfl)
theorem own_q27 {Z : State} {a0 : Array Value} (hw : ∀ d ∈ tables_1, d.before a0 Z = true) : (Jvm.Cond.methodLink "java/lang/String" (1015 : Nat) ({ cls := "java/lang/StringLatin1", name := "canEncode", desc := "(C)Z" } : Jvm.MethodName)).before a0 Z = true := hw _ (List.mem_of_getElem? (i := 27) rfl)
theorem own_q28 {Z : State} {a0 : Array Value} (hw : ∀ d ∈ tables_1, d.before a0 Z = true) : (Jvm.Cond.static ({ cls := "java/lang/StringLatin1", name := "canEncode", desc := "(C)Z" } : Jvm.MethodName)).before a0 Z = true := hw _ (List.mem_of_getElem? (i := 28) rfl)
theorem own_q29 {Z : State} {a0 : Array Value} (hw : ∀ d ∈ tables_1, d.before a0 Z = true) : (Jvm.Cond.initialized "java/lang/StringLatin1").before a0 Z = true := hw _ (List.mem_of_getElem? (i := 29) rfl)
theorem own_q30 {Z : State} {a0 : Array Value} (hw : ∀ d ∈ tables_1, d.before a0 Z = true) : (Jvm.Cond.code ({ cls := "java/lang/StringLatin1", name := "canEncode", desc := "(C)Z" } : Jvm.MethodName) jdk_43_method_3_code (1 : Nat) (Option.some Jvm.ClassFile.FieldType.boolean)).before a0 Z = true := hw _ (List.mem_of_getElem? (i := 30) rfl)
theorem own_q31 {Z : State} {a0 : Array Value} (hw : ∀ d ∈ tables_1, d.before a0 Z = true) : (Jvm.Cond.classLink "java/lang/String" (10 : Nat) "java/lang/String").before a0 Z = true := hw _ (List.mem_of_getElem? (i := 31) rfl)
theorem own_q32 {Z : State} {a0 : Array Value} (hw : ∀ d ∈ tables_1, d.before a0 Z = true) : (Jvm.Cond.methodLink "java/lang/String" (1018 : Nat) ({ cls := "java/lang/StringLatin1", name := "toBytes", desc := "(C)[B" } : Jvm.MethodName)).before a0 Z = true := hw _ (List.mem_of_getElem? (i := 32) rfl)
theorem own_q33 {Z : State} {a0 : Array Value} (hw : ∀ d ∈ tables_1, d.before a0 Z = true) : (Jvm.Cond.static ({ cls := "java/lang/StringLatin1", name := "toBytes", desc := "(C)[B" } : Jvm.MethodName)).before a0 Z = true := hw _ (List.mem_of_getElem? (i := 33) rfl)
theorem own_q34 {Z : State} {a0 : Array Value} (hw : ∀ d ∈ tables_1, d.before a0 Z = true) : (Jvm.Cond.code ({ cls := "java/lang/StringLatin1", name := "toBytes", desc := "(C)[B" } : Jvm.MethodName) jdk_43_method_46_code (1 : Nat) (Option.some (Jvm.ClassFile.FieldType.array Jvm.ClassFile.FieldType.byte))).before a0 Z = true := hw _ (List.mem_of_getElem? (i := 34) rfl)
theorem own_q35 {Z : State} {a0 : Array Value} (hw : ∀ d ∈ tables_1, d.before a0 Z = true) : (Jvm.Cond.methodLink "java/lang/String" (209 : Nat) ({ cls := "java/lang/String", name := "<init>", desc := "([BB)V" } : Jvm.MethodName)).before a0 Z = true := hw _ (List.mem_of_getElem? (i := 35) rfl)
theorem own_q36 {Z : State} {a0 : Array Value} (hw : ∀ d ∈ tables_1, d.before a0 Z = true) : (Jvm.Cond.instanceMethod ({ cls := "java/lang/String", name := "<init>", desc := "([BB)V" } : Jvm.MethodName)).before a0 Z = true := hw _ (List.mem_of_getElem? (i := 36) rfl)
theorem own_q37 {Z : State} {a0 : Array Value} (hw : ∀ d ∈ tables_1, d.before a0 Z = true) : (Jvm.Cond.code ({ cls := "java/lang/String", name := "<init>", desc := "([BB)V" } : Jvm.MethodName) jdk_42_method_151_code (3 : Nat) (Option.none : Option Jvm.ClassFile.FieldType)).before a0 Z = true := hw _ (List.mem_of_getElem? (i := 37) rfl)
theorem own_q38 {Z : State} {a0 : Array Value} (hw : ∀ d ∈ tables_1, d.before a0 Z = true) : (Jvm.Cond.classLink "com/example/stanchion/stanchion/changelog/SqlDescriptionPinLaw" (20 : Nat) "com/example/stanchion/stanchion/changelog/Sql").before a0 Z = true := hw _ (List.mem_of_getElem? (i := 38) rfl)
theorem own_q39 {Z : State} {a0 : Array Value} (hw : ∀ d ∈ tables_1, d.before a0 Z = true) : (Jvm.Cond.instantiable "com/example/stanchion/stanchion/changelog/Sql" (6 : Nat)).before a0 Z = true := hw _ (List.mem_of_getElem? (i := 39) rfl)
theorem own_q40 {Z : State} {a0 : Array Value} (hw : ∀ d ∈ tables_1, d.before a0 Z = true) : (Jvm.Cond.initialized "com/example/stanchion/stanchion/changelog/Sql").before a0 Z = true := hw _ (List.mem_of_getElem? (i := 40) rfl)
theorem own_q41 {Z : State} {a0 : Array Value} (hw : ∀ d ∈ tables_1, d.before a0 Z = true) : (Jvm.Cond.fieldLink "com/example/stanchion/stanchion/changelog/SqlDescriptionPinLaw" (22 : Nat) "com/example/stanchion/stanchion/changelog/Dbms" "ALL" "Lcom/example/stanchion/stanchion/changelog/Dbms;").before a0 Z = true := hw _ (List.mem_of_getElem? (i := 41) rfl)
theorem own_q42 {Z : State} {a0 : Array Value} (hw : ∀ d ∈ tables_1, d.before a0 Z = true) : (Jvm.Cond.initialized "com/example/stanchion/stanchion/changelog/Dbms").before a0 Z = true := hw _ (List.mem_of_getElem? (i := 42) rfl)
theorem own_q43 {Z : State} {a0 : Array Value} (hw : ∀ d ∈ tables_1, d.before a0 Z = true) : (Jvm.Cond.laysStatic "com/example/stanchion/stanchion/changelog/Dbms" "ALL" "Lcom/example/stanchion/stanchion/changelog/Dbms;").before a0 Z = true := hw _ (List.mem_of_getElem? (i := 43) rfl)
theorem own_q44 {Z : State} {a0 : Array Value} (hw : ∀ d ∈ tables_1, d.before a0 Z = true) : (Jvm.Cond.methodLink "com/example/stanchion/stanchion/changelog/SqlDescriptionPinLaw" (28 : Nat) ({ cls := "com/example/stanchion/stanchion/changelog/Sql", name := "<init>", desc := "(Ljava/lang/String;Ljava/lang/String;ZLjava/lang/String;ZLcom/example/stanchion/stanchion/changelog/Dbms;)V" } : Jvm.MethodName)).before a0 Z = true := hw _ (List.mem_of_getElem? (i := 44) rfl)
theorem own_q45 {Z : State} {a0 : Array Value} (hw : ∀ d ∈ tables_1, d.before a0 Z = true) : (Jvm.Cond.instanceMethod ({ cls := "com/example/stanchion/stanchion/changelog/Sql", name := "<init>", desc := "(Ljava/lang/String;Ljava/lang/String;ZLjava/lang/String;ZLcom/example/stanchion/stanchion/changelog/Dbms;)V" } : Jvm.MethodName)).before a0 Z = true := hw _ (List.mem_of_getElem? (i := 45) rfl)
theorem own_q46 {Z : State} {a0 : Array Value} (hw : ∀ d ∈ tables_1, d.before a0 Z = true) : (Jvm.Cond.code ({ cls := "com/example/stanchion/stanchion/changelog/Sql", name := "<init>", desc := "(Ljava/lang/String;Ljava/lang/String;ZLjava/lang/String;ZLcom/example/stanchion/stanchion/changelog/Dbms;)V" } : Jvm.MethodName) prog_20_method_1_code (7 : Nat) (Option.none : Option Jvm.ClassFile.FieldType)).before a0 Z = true := hw _ (List.mem_of_getElem? (i := 46) rfl)
theorem own_q47 {Z : State} {a0 : Array Value} (hw : ∀ d ∈ tables_1, d.before a0 Z = true) : (Jvm.Cond.methodLink "com/example/stanchion/stanchion/changelog/Sql" (1 : Nat) ({ cls := "java/lang/Record", name := "<init>", desc := "()V" } : Jvm.MethodName)).before a0 Z = true := hw _ (List.mem_of_getElem? (i := 47) rfl)
theorem own_q48 {Z : State} {a0 : Array Value} (hw : ∀ d ∈ tables_1, d.before a0 Z = true) : (Jvm.Cond.instanceMethod ({ cls := "java/lang/Record", name := "<init>", desc := "()V" } : Jvm.MethodName)).before a0 Z = true := hw _ (List.mem_of_getElem? (i := 48) rfl)
theorem own_q50 {Z : State} {a0 : Array Value} (hw : ∀ d ∈ tables_1, d.before a0 Z = true) : (Jvm.Cond.initialized "java/lang/Record").before a0 Z = true := hw _ (List.mem_of_getElem? (i := 50) rfl)
theorem own_q51 {Z : State} {a0 : Array Value} (hw : ∀ d ∈ tables_1, d.before a0 Z = true) : (Jvm.Cond.code ({ cls := "java/lang/Record", name := "<init>", desc := "()V" } : Jvm.MethodName) jdk_30_method_1_code (1 : Nat) (Option.none : Option Jvm.ClassFile.FieldType)).before a0 Z = true := hw _ (List.mem_of_getElem? (i := 51) rfl)
theorem own_q52 {Z : State} {a0 : Array Value} (hw : ∀ d ∈ tables_1, d.before a0 Z = true) : (Jvm.Cond.methodLink "java/lang/Record" (1 : Nat) ({ cls := "java/lang/Object", name := "<init>", desc := "()V" } : Jvm.MethodName)).before a0 Z = true := hw _ (List.mem_of_getElem? (i := 52) rfl)
theorem own_q53 {Z : State} {a0 : Array Value} (hw : ∀ d ∈ tables_1, d.before a0 Z = true) : (Jvm.Cond.stringLink "com/example/stanchion/stanchion/changelog/Sql" (7 : Nat) "text").before a0 Z = true := hw _ (List.mem_of_getElem? (i := 53) rfl)
theorem own_q54 {Z : State} {a0 : Array Value} (hw : ∀ d ∈ tables_1, d.before a0 Z = true) : (Jvm.Cond.methodLink "com/example/stanchion/stanchion/changelog/Sql" (9 : Nat) ({ cls := "java/util/Objects", name := "requireNonNull", desc := "(Ljava/lang/Object;Ljava/lang/String;)Ljava/lang/Object;" } : Jvm.MethodName)).before a0 Z = true := hw _ (List.mem_of_getElem? (i := 54) rfl)
theorem own_q55 {Z : State} {a0 : Array Value} (hw : ∀ d ∈ tables_1, d.before a0 Z = true) : (Jvm.Cond.static ({ cls := "java/util/Objects", name := "requireNonNull", desc := "(Ljava/lang/Object;Ljava/lang/String;)Ljava/lang/Object;" } : Jvm.MethodName)).before a0 Z = true := hw _ (List.mem_of_getElem? (i := 55) rfl)
theorem own_q56 {Z : State} {a0 : Array Value} (hw : ∀ d ∈ tables_1, d.before a0 Z = true) : (Jvm.Cond.initialized "java/util/Objects").before a0 Z = true := hw _ (List.mem_of_getElem? (i := 56) rfl)
theorem own_q57 {Z : State} {a0 : Array Value} (hw : ∀ d ∈ tables_1, d.before a0 Z = true) : (Jvm.Cond.code ({ cls := "java/util/Objects", name := "requireNonNull", desc := "(Ljava/lang/Object;Ljava/lang/String;)Ljava/lang/Object;" } : Jvm.MethodName) jdk_31_method_11_code (2 : Nat) (Option.some (Jvm.ClassFile.FieldType.object "java/lang/Object"))).before a0 Z = true := hw _ (List.mem_of_getElem? (i := 57) rfl)
theorem own_q58 {Z : State} {a0 : Array Value} (hw : ∀ d ∈ tables_1, d.before a0 Z = true) : (Jvm.Cond.stringLink "com/example/stanchion/stanchion/changelog/Sql" (15 : Nat) "endDelimiter").before a0 Z = true := hw _ (List.mem_of_getElem? (i := 58) rfl)
theorem own_q59 {Z : State} {a0 : Array Value} (hw : ∀ d ∈ tables_1, d.before a0 Z = true) : (Jvm.Cond.stringLink "com/example/stanchion/stanchion/changelog/Sql" (17 : Nat) "dbms").before a0 Z = true := hw _ (List.mem_of_getElem? (i := 59) rfl)
theorem own_q60 {Z : State} {a0 : Array Value} (hw : ∀ d ∈ tables_1, d.before a0 Z = true) : (Jvm.Cond.fieldLink "com/example/stanchion/stanchion/changelog/Sql" (19 : Nat) "com/example/stanchion/stanchion/changelog/Sql" "text" "Ljava/lang/String;").before a0 Z = true := hw _ (List.mem_of_getElem? (i := 60) rfl)
theorem own_q61 {Z : State} {a0 : Array Value} (hw : ∀ d ∈ tables_1, d.before a0 Z = true) : (Jvm.Cond.laysFinal "com/example/stanchion/stanchion/changelog/Sql" "com/example/stanchion/stanchion/changelog/Sql" "text" "Ljava/lang/String;").before a0 Z = true := hw _ (List.mem_of_getElem? (i := 61) rfl)
theorem own_q62 {Z : State} {a0 : Array Value} (hw : ∀ d ∈ tables_1, d.before a0 Z = true) : (Jvm.Cond.fieldLink "com/example/stanchion/stanchion/changelog/Sql" (24 : Nat) "com/example/stanchion/stanchion/changelog/Sql" "file" "Ljava/lang/String;").before a0 Z = true := hw _ (List.mem_of_getElem? (i := 62) rfl)
theorem own_q63 {Z : State} {a0 : Array Value} (hw : ∀ d ∈ tables_1, d.before a0 Z = true) : (Jvm.Cond.laysFinal "com/example/stanchion/stanchion/changelog/Sql" "com/example/stanchion/stanchion/changelog/Sql" "file" "Ljava/lang/String;").before a0 Z = true := hw _ (List.mem_of_getElem? (i := 63) rfl)
theorem own_q64 {Z : State} {a0 : Array Value} (hw : ∀ d ∈ tables_1, d.before a0 Z = true) : (Jvm.Cond.fieldLink "com/example/stanchion/stanchion/changelog/Sql" (27 : Nat) "com/example/stanchion/stanchion/changelog/Sql" "splitStatements" "Z").before a0 Z = true := hw _ (List.mem_of_getElem? (i := 64) rfl)
theorem own_q65 {Z : State} {a0 : Array Value} (hw : ∀ d ∈ tables_1, d.before a0 Z = true) : (Jvm.Cond.laysFinal "com/example/stanchion/stanchion/changelog/Sql" "com/example/stanchion/stanchion/changelog/Sql" "splitStatements" "Z").before a0 Z = true := hw _ (List.mem_of_getElem? (i := 65) rfl)
theorem own_q66 {Z : State} {a0 : Array Value} (hw : ∀ d ∈ tables_1, d.before a0 Z = true) : (Jvm.Cond.fieldLink "com/example/stanchion/stanchion/changelog/Sql" (31 : Nat) "com/example/stanchion/stanchion/changelog/Sql" "endDelimiter" "Ljava/lang/String;").before a0 Z = true := hw _ (List.mem_of_getElem? (i := 66) rfl)
theorem own_q67 {Z : State} {a0 : Array Value} (hw : ∀ d ∈ tables_1, d.before a0 Z = true) : (Jvm.Cond.laysFinal "com/example/stanchion/stanchion/changelog/Sql" "com/example/stanchion/stanchion/changelog/Sql" "endDelimiter" "Ljava/lang/String;").before a0 Z = true := hw _ (List.mem_of_getElem? (i := 67) rfl)
theorem own_q68 {Z : State} {a0 : Array Value} (hw : ∀ d ∈ tables_1, d.before a0 Z = true) : (Jvm.Cond.fieldLink "com/example/stanchion/stanchion/changelog/Sql" (33 : Nat) "com/example/stanchion/stanchion/changelog/Sql" "stripComments" "Z").before a0 Z = true := hw _ (List.mem_of_getElem? (i := 68) rfl)
theorem own_q69 {Z : State} {a0 : Array Value} (hw : ∀ d ∈ tables_1, d.before a0 Z = true) : (Jvm.Cond.laysFinal "com/example/stanchion/stanchion/changelog/Sql" "com/example/stanchion/stanchion/changelog/Sql" "stripComments" "Z").before a0 Z = true := hw _ (List.mem_of_getElem? (i := 69) rfl)
theorem own_q70 {Z : State} {a0 : Array Value} (hw : ∀ d ∈ tables_1, d.before a0 Z = true) : (Jvm.Cond.fieldLink "com/example/stanchion/stanchion/changelog/Sql" (36 : Nat) "com/example/stanchion/stanchion/changelog/Sql" "dbms" "Lcom/example/stanchion/stanchion/changelog/Dbms;").before a0 Z = true := hw _ (List.mem_of_getElem? (i := 70) rfl)
theorem own_q71 {Z : State} {a0 : Array Value} (hw : ∀ d ∈ tables_1, d.before a0 Z = true) : (Jvm.Cond.laysFinal "com/example/stanchion/stanchion/changelog/Sql" "com/example/stanchion/stanchion/changelog/Sql" "dbms" "Lcom/example/stanchion/stanchion/changelog/Dbms;").before a0 Z = true := hw _ (List.mem_of_getElem? (i := 71) rfl)
theorem own_q72 {Z : State} {a0 : Array Value} (hw : ∀ d ∈ tables_1, d.before a0 Z = true) : (Jvm.Cond.methodLink "com/example/stanchion/stanchion/changelog/SqlDescriptionPinLaw" (31 : Nat) ({ cls := "com/example/stanchion/stanchion/changelog/Sql", name := "description", desc := "()Ljava/lang/String;" } : Jvm.MethodName)).before a0 Z = true := hw _ (List.mem_of_getElem? (i := 72) rfl)
theorem own_q73 {Z : State} {a0 : Array Value} (hw : ∀ d ∈ tables_1, d.before a0 Z = true) : (Jvm.Cond.declares ({ cls := "com/example/stanchion/stanchion/changelog/Sql", name := "description", desc := "()Ljava/lang/String;" } : Jvm.MethodName)).before a0 Z = true := hw _ (List.mem_of_getElem? (i := 73) rfl)
theorem own_q74 {Z : State} {a0 : Array Value} (hw : ∀ d ∈ tables_1, d.before a0 Z = true) : (Jvm.Cond.instanceMethod ({ cls := "com/example/stanchion/stanchion/changelog/Sql", name := "description", desc := "()Ljava/lang/String;" } : Jvm.MethodName)).before a0 Z = true := hw _ (List.mem_of_getElem? (i := 74) rfl)
theorem own_q75 {Z : State} {a0 : Array Value} (hw : ∀ d ∈ tables_1, d.before a0 Z = true) : (Jvm.Cond.selects "com/example/stanchion/stanchion/changelog/Sql" ({ cls := "com/example/stanchion/stanchion/changelog/Sql", name := "description", desc := "()Ljava/lang/String;" } : Jvm.MethodName) ({ cls := "com/example/stanchion/stanchion/changelog/Sql", name := "description", desc := "()Ljava/lang/String;" } : Jvm.MethodName)).before a0 Z = true := hw _ (List.mem_of_getElem? (i := 75) rfl)
theorem own_q76 {Z : State} {a0 : Array Value} (hw : ∀ d ∈ tables_1, d.before a0 Z = true) : (Jvm.Cond.code ({ cls := "com/example/stanchion/stanchion/changelog/Sql", name := "description", desc := "()Ljava/lang/String;" } : Jvm.MethodName) prog_20_method_2_code (1 : Nat) (Option.some (Jvm.ClassFile.FieldType.object "java/lang/String"))).before a0 Z = true := hw _ (List.mem_of_getElem? (i := 76) rfl)
theorem own_q77 {Z : State} {a0 : Array Value} (hw : ∀ d ∈ tables_1, d.before a0 Z = true) : (Jvm.Cond.classLink "com/example/stanchion/stanchion/changelog/Sql" (41 : Nat) "java/lang/StringBuilder").before a0 Z = true := hw _ (List.mem_of_getElem? (i := 77) rfl)
theorem own_q78 {Z : State} {a0 : Array Value} (hw : ∀ d ∈ tables_1, d.before a0 Z = true) : (Jvm.Cond.instantiable "java/lang/StringBuilder" (4 : Nat)).before a0 Z = true := hw _ (List.mem_of_getElem? (i := 78) rfl)
theorem own_q79 {Z : State} {a0 : Array Value} (hw : ∀ d ∈ tables_1, d.before a0 Z = true) : (Jvm.Cond.initialized "java/lang/StringBuilder").before a0 Z = true := hw _ (List.mem_of_getElem? (i := 79) rfl)
theorem own_q80 {Z : State} {a0 : Array Value} (hw : ∀ d ∈ tables_1, d.before a0 Z = true) : (Jvm.Cond.methodLink "com/example/stanchion/stanchion/changelog/Sql" (43 : Nat) ({ cls := "java/lang/StringBuilder", name := "<init>", desc := "()V" } : Jvm.MethodName)).before a0 Z = true := hw _ (List.mem_of_getElem? (i := 80) rfl)
theorem own_q81 {Z : State} {a0 : Array Value} (hw : ∀ d ∈ tables_1, d.before a0 Z = true) : (Jvm.Cond.instanceMethod ({ cls := "java/lang/StringBuilder", name := "<init>", desc := "()V" } : Jvm.MethodName)).before a0 Z = true := hw _ (List.mem_of_getElem? (i := 81) rfl)
theorem own_q82 {Z : State} {a0 : Array Value} (hw : ∀ d ∈ tables_1, d.before a0 Z = true) : (Jvm.Cond.code ({ cls := "java/lang/StringBuilder", name := "<init>", desc := "()V" } : Jvm.MethodName) jdk_67_method_1_code (1 : Nat) (Option.none : Option Jvm.ClassFile.FieldType)).before a0 Z = true := hw _ (List.mem_of_getElem? (i := 82) rfl)
theorem own_q83 {Z : State} {a0 : Array Value} (hw : ∀ d ∈ tables_1, d.before a0 Z = true) : (Jvm.Cond.methodLink "java/lang/StringBuilder" (1 : Nat) ({ cls := "java/lang/AbstractStringBuilder", name := "<init>", desc := "(I)V" } : Jvm.MethodName)).before a0 Z = true := hw _ (List.mem_of_getElem? (i := 83) rfl)
theorem own_q84 {Z : State} {a0 : Array Value} (hw : ∀ d ∈ tables_1, d.before a0 Z = true) : (Jvm.Cond.instanceMethod ({ cls := "java/lang/AbstractStringBuilder", name := "<init>", desc := "(I)V" } : Jvm.MethodName)).before a0 Z = true := hw _ (List.mem_of_getElem? (i := 84) rfl)
theorem own_q87 {Z : State} {a0 : Array Value} (hw : ∀ d ∈ tables_1, d.before a0 Z = true) : (Jvm.Cond.initialized "java/lang/AbstractStringBuilder").before a0 Z = true := hw _ (List.mem_of_getElem? (i := 87) rfl)
theorem own_q88 {Z : State} {a0 : Array Value} (hw : ∀ d ∈ tables_1, d.before a0 Z = true) : (Jvm.Cond.code ({ cls := "java/lang/AbstractStringBuilder", name := "<init>", desc := "(I)V" } : Jvm.MethodName) jdk_68_method_2_code (2 : Nat) (Option.none : Option Jvm.ClassFile.FieldType)).before a0 Z = true := hw _ (List.mem_of_getElem? (i := 88) rfl)
theorem own_q89 {Z : State} {a0 : Array Value} (hw : ∀ d ∈ tables_1, d.before a0 Z = true) : (Jvm.Cond.methodLink "java/lang/AbstractStringBuilder" (3 : Nat) ({ cls := "java/lang/Object", name := "<init>", desc := "()V" } : Jvm.MethodName)).before a0 Z = true := hw _ (List.mem_of_getElem? (i := 89) rfl)
theorem own_q90 {Z : State} {a0 : Array Value} (hw : ∀ d ∈ tables_1, d.before a0 Z = true) : (Jvm.Cond.fieldLink "java/lang/AbstractStringBuilder" (18 : Nat) "java/lang/String" "COMPACT_STRINGS" "Z").before a0 Z = true := hw _ (List.mem_of_getElem? (i := 90) rfl)
theorem own_q91 {Z : State} {a0 : Array Value} (hw : ∀ d ∈ tables_1, d.before a0 Z = true) : (Jvm.Cond.fieldLink "java/lang/AbstractStringBuilder" (15 : Nat) "java/lang/AbstractStringBuilder" "value" "[B").before a0 Z = true := hw _ (List.mem_of_getElem? (i := 91) rfl)
theorem own_q92 {Z : State} {a0 : Array Value} (hw : ∀ d ∈ tables_1, d.before a0 Z = true) : (Jvm.Cond.lays "java/lang/StringBuilder" "java/lang/AbstractStringBuilder" "value" "[B").before a0 Z = true := hw _ (List.mem_of_getElem? (i := 92) rfl)
theorem own_q93 {Z : State} {a0 : Array Value} (hw : ∀ d ∈ tables_1, d.before a0 Z = true) : (Jvm.Cond.fieldLink "java/lang/AbstractStringBuilder" (22 : Nat) "java/lang/AbstractStringBuilder" "coder" "B").before a0 Z = true := hw _ (List.mem_of_getElem? (i := 93) rfl)
theorem own_q94 {Z : State} {a0 : Array Value} (hw : ∀ d ∈ tables_1, d.before a0 Z = true) : (Jvm.Cond.lays "java/lang/StringBuilder" "java/lang/AbstractStringBuilder" "coder" "B").before a0 Z = true := hw _ (List.mem_of_getElem? (i := 94) rfl)
theorem own_q95 {Z : State} {a0 : Array Value} (hw : ∀ d ∈ tables_1, d.before a0 Z = true) : (Jvm.Cond.stringLink "com/example/stanchion/stanchion/changelog/Sql" (44 : Nat) "sqlFile ").before a0 Z = true := hw _ (List.mem_of_getElem? (i := 95) rfl)
theorem own_q96 {Z : State} {a0 : Array Value} (hw : ∀ d ∈ tables_1, d.before a0 Z = true) : (Jvm.Cond.methodLink "com/example/stanchion/stanchion/changelog/Sql" (46 : Nat) ({ cls := "java/lang/StringBuilder", name := "append", desc := "(Ljava/lang/String;)Ljava/lang/StringBuilder;" } : Jvm.MethodName)).before a0 Z = true := hw _ (List.mem_of_getElem? (i := 96) rfl)
theorem own_q97 {Z : State} {a0 : Array Value} (hw : ∀ d ∈ tables_1, d.before a0 Z = true) : (Jvm.Cond.declares ({ cls := "java/lang/StringBuilder", name := "append", desc := "(Ljava/lang/String;)Ljava/lang/StringBuilder;" } : Jvm.MethodName)).before a0 Z = true := hw _ (List.mem_of_getElem? (i := 97) rfl)
theorem own_q98 {Z : State} {a0 : Array Value} (hw : ∀ d ∈ tables_1, d.before a0 Z = true) : (Jvm.Cond.instanceMethod ({ cls := "java/lang/StringBuilder", name := "append", desc := "(Ljava/lang/String;)Ljava/lang/StringBuilder;" } : Jvm.MethodName)).before a0 Z = true := hw _ (List.mem_of_getElem? (i := 98) rfl)
theorem own_q99 {Z : State} {a0 : Array Value} (hw : ∀ d ∈ tables_1, d.before a0 Z = true) : (Jvm.Cond.selects "java/lang/StringBuilder" ({ cls := "java/lang/StringBuilder", name := "append", desc := "(Ljava/lang/String;)Ljava/lang/StringBuilder;" } : Jvm.MethodName) ({ cls := "java/lang/StringBuilder", name := "append", desc := "(Ljava/lang/String;)Ljava/lang/StringBuilder;" } : Jvm.MethodName)).before a0 Z = true := hw _ (List.mem_of_getElem? (i := 99) rfl)
theorem own_q100 {Z : State} {a0 : Array Value} (hw : ∀ d ∈ tables_1, d.before a0 Z = true) : (Jvm.Cond.code ({ cls := "java/lang/StringBuilder", name := "append", desc := "(Ljava/lang/String;)Ljava/lang/StringBuilder;" } : Jvm.MethodName) jdk_67_method_7_code (2 : Nat) (Option.some (Jvm.ClassFile.FieldType.object "java/lang/StringBuilder"))).before a0 Z = true := hw _ (List.mem_of_getElem? (i := 100) rfl)
theorem own_q101 {Z : State} {a0 : Array Value} (hw : ∀ d ∈ tables_1, d.before a0 Z = true) : (Jvm.Cond.methodLink "java/lang/StringBuilder" (29 : Nat) ({ cls := "java/lang/AbstractStringBuilder", name := "append", desc := "(Ljava/lang/String;)Ljava/lang/AbstractStringBuilder;" } : Jvm.MethodName)).before a0 Z = true := hw _ (List.mem_of_getElem? (i := 101) rfl)
theorem own_q102 {Z : State} {a0 : Array Value} (hw : ∀ d ∈ tables_1, d.before a0 Z = true) : (Jvm.Cond.instanceMethod ({ cls := "java/lang/AbstractStringBuilder", name := "append", desc := "(Ljava/lang/String;)Ljava/lang/AbstractStringBuilder;" } : Jvm.MethodName)).before a0 Z = true := hw _ (List.mem_of_getElem? (i := 102) rfl)
theorem own_q103 {Z : State} {a0 : Array Value} (hw : ∀ d ∈ tables_1, d.before a0 Z = true) : (Jvm.Cond.superclass "java/lang/StringBuilder" "java/lang/AbstractStringBuilder").before a0 Z = true := hw _ (List.mem_of_getElem? (i := 103) rfl)
theorem own_q105 {Z : State} {a0 : Array Value} (hw : ∀ d ∈ tables_1, d.before a0 Z = true) : (Jvm.Cond.code ({ cls := "java/lang/AbstractStringBuilder", name := "append", desc := "(Ljava/lang/String;)Ljava/lang/AbstractStringBuilder;" } : Jvm.MethodName) jdk_68_method_22_code (3 : Nat) (Option.some (Jvm.ClassFile.FieldType.object "java/lang/AbstractStringBuilder"))).before a0 Z = true := hw _ (List.mem_of_getElem? (i := 105) rfl)
theorem own_q106 {Z : State} {a0 : Array Value} (hw : ∀ d ∈ tables_1, d.before a0 Z = true) : (Jvm.Cond.methodLink "java/lang/AbstractStringBuilder" (32 : Nat) ({ cls := "java/lang/String", name := "length", desc := "()I" } : Jvm.MethodName)).before a0 Z = true := hw _ (List.mem_of_getElem? (i := 106) rfl)
theorem own_q107 {Z : State} {a0 : Array Value} (hw : ∀ d ∈ tables_1, d.before a0 Z = true) : (Jvm.Cond.declares ({ cls := "java/lang/String", name := "length", desc := "()I" } : Jvm.MethodName)).before a0 Z = true := hw _ (List.mem_of_getElem? (i := 107) rfl)
theorem own_q108 {Z : State} {a0 : Array Value} (hw : ∀ d ∈ tables_1, d.before a0 Z = true) : (Jvm.Cond.instanceMethod ({ cls := "java/lang/String", name := "length", desc := "()I" } : Jvm.MethodName)).before a0 Z = true := hw _ (List.mem_of_getElem? (i := 108) rfl)
theorem own_q109 {Z : State} {a0 : Array Value} (hw : ∀ d ∈ tables_1, d.before a0 Z = true) : (Jvm.Cond.selects "java/lang/String" ({ cls := "java/lang/String", name := "length", desc := "()I" } : Jvm.MethodName) ({ cls := "java/lang/String", name := "length", desc := "()I" } : Jvm.MethodName)).before a0 Z = true := hw _ (List.mem_of_getElem? (i := 109) rfl)
theorem own_q111 {Z : State} {a0 : Array Value} (hw : ∀ d ∈ tables_1, d.before a0 Z = true) : (Jvm.Cond.methodLink "java/lang/String" (335 : Nat) ({ cls := "java/lang/String", name := "coder", desc := "()B" } : Jvm.MethodName)).before a0 Z = true := hw _ (List.mem_of_getElem? (i := 111) rfl)
theorem own_q112 {Z : State} {a0 : Array Value} (hw : ∀ d ∈ tables_1, d.before a0 Z = true) : (Jvm.Cond.declares ({ cls := "java/lang/String", name := "coder", desc := "()B" } : Jvm.MethodName)).before a0 Z = true := hw _ (List.mem_of_getElem? (i := 112) rfl)
theorem own_q113 {Z : State} {a0 : Array Value} (hw : ∀ d ∈ tables_1, d.before a0 Z = true) : (Jvm.Cond.instanceMethod ({ cls := "java/lang/String", name := "coder", desc := "()B" } : Jvm.MethodName)).before a0 Z = true := hw _ (List.mem_of_getElem? (i := 113) rfl)
theorem own_q114 {Z : State} {a0 : Array Value} (hw : ∀ d ∈ tables_1, d.before a0 Z = true) : (Jvm.Cond.selects "java/lang/String" ({ cls := "java/lang/String", name := "coder", desc := "()B" } : Jvm.MethodName) ({ cls := "java/lang/String", name := "coder", desc := "()B" } : Jvm.MethodName)).before a0 Z = true := hw _ (List.mem_of_getElem? (i := 114) rfl)
theorem own_q115 {Z : State} {a0 : Array Value} (hw : ∀ d ∈ tables_1, d.before a0 Z = true) : (Jvm.Cond.code ({ cls := "java/lang/String", name := "coder", desc := "()B" } : Jvm.MethodName) jdk_42_method_152_code (1 : Nat) (Option.some Jvm.ClassFile.FieldType.byte)).before a0 Z = true := hw _ (List.mem_of_getElem? (i := 115) rfl)
theorem own_q116 {Z : State} {a0 : Array Value} (hw : ∀ d ∈ tables_1, d.before a0 Z = true) : (Jvm.Cond.fieldLink "java/lang/AbstractStringBuilder" (79 : Nat) "java/lang/AbstractStringBuilder" "count" "I").before a0 Z = true := hw _ (List.mem_of_getElem? (i := 116) rfl)
theorem own_q117 {Z : State} {a0 : Array Value} (hw : ∀ d ∈ tables_1, d.before a0 Z = true) : (Jvm.Cond.lays "java/lang/StringBuilder" "java/lang/AbstractStringBuilder" "count" "I").before a0 Z = true := hw _ (List.mem_of_getElem? (i := 117) rfl)
theorem own_q118 {Z : State} {a0 : Array Value} (hw : ∀ d ∈ tables_1, d.before a0 Z = true) : (Jvm.Cond.methodLink "java/lang/AbstractStringBuilder" (100 : Nat) ({ cls := "java/lang/AbstractStringBuilder", name := "ensureCapacityInternal", desc := "(I)V" } : Jvm.MethodName)).before a0 Z = true := hw _ (List.mem_of_getElem? (i := 118) rfl)
theorem own_q119 {Z : State} {a0 : Array Value} (hw : ∀ d ∈ tables_1, d.before a0 Z = true) : (Jvm.Cond.instanceMethod ({ cls := "java/lang/AbstractStringBuilder", name := "ensureCapacityInternal", desc := "(I)V" } : Jvm.MethodName)).before a0 Z = true := hw _ (List.mem_of_getElem? (i := 119) rfl)
theorem own_q121 {Z : State} {a0 : Array Value} (hw : ∀ d ∈ tables_1, d.before a0 Z = true) : (Jvm.Cond.selects "java/lang/StringBuilder" ({ cls := "java/lang/AbstractStringBuilder", name := "ensureCapacityInternal", desc := "(I)V" } : Jvm.MethodName) ({ cls := "java/lang/AbstractStringBuilder", name := "ensureCapacityInternal", desc := "(I)V" } : Jvm.MethodName)).before a0 Z = true := hw _ (List.mem_of_getElem? (i := 121) rfl)
theorem own_q122 {Z : State} {a0 : Array Value} (hw : ∀ d ∈ tables_1, d.before a0 Z = true) : (Jvm.Cond.code ({ cls := "java/lang/AbstractStringBuilder", name := "ensureCapacityInternal", desc := "(I)V" } : Jvm.MethodName) jdk_68_method_9_code (3 : Nat) (Option.none : Option Jvm.ClassFile.FieldType)).before a0 Z = true := hw _ (List.mem_of_getElem? (i := 122) rfl)
theorem own_q123 {Z : State} {a0 : Array Value} (hw : ∀ d ∈ tables_1, d.before a0 Z = true) : (Jvm.Cond.methodLink "java/lang/AbstractStringBuilder" (208 : Nat) ({ cls := "java/lang/AbstractStringBuilder", name := "putStringAt", desc := "(ILjava/lang/String;)V" } : Jvm.MethodName)).before a0 Z = true := hw _ (List.mem_of_getElem? (i := 123) rfl)
theorem own_q124 {Z : State} {a0 : Array Value} (hw : ∀ d ∈ tables_1, d.before a0 Z = true) : (Jvm.Cond.instanceMethod ({ cls := "java/lang/AbstractStringBuilder", name := "putStringAt", desc := "(ILjava/lang/String;)V" } : Jvm.MethodName)).before a0 Z = true := hw _ (List.mem_of_getElem? (i := 124) rfl)
theorem own_q126 {Z : State} {a0 : Array Value} (hw : ∀ d ∈ tables_1, d.before a0 Z = true) : (Jvm.Cond.selects "java/lang/StringBuilder" ({ cls := "java/lang/AbstractStringBuilder", name := "putStringAt", desc := "(ILjava/lang/String;)V" } : Jvm.MethodName) ({ cls := "java/lang/AbstractStringBuilder", name := "putStringAt", desc := "(ILjava/lang/String;)V" } : Jvm.MethodName)).before a0 Z = true := hw _ (List.mem_of_getElem? (i := 126) rfl)
theorem own_q127 {Z : State} {a0 : Array Value} (hw : ∀ d ∈ tables_1, d.before a0 Z = true) : (Jvm.Cond.code ({ cls := "java/lang/AbstractStringBuilder", name := "putStringAt", desc := "(ILjava/lang/String;)V" } : Jvm.MethodName) jdk_68_method_73_code (3 : Nat) (Option.none : Option Jvm.ClassFile.FieldType)).before a0 Z = true := hw _ (List.mem_of_getElem? (i := 127) rfl)
theorem own_q128 {Z : State} {a0 : Array Value} (hw : ∀ d ∈ tables_1, d.before a0 Z = true) : (Jvm.Cond.methodLink "java/lang/AbstractStringBuilder" (397 : Nat) ({ cls := "java/lang/AbstractStringBuilder", name := "inflateIfNeededFor", desc := "(Ljava/lang/String;)V" } : Jvm.MethodName)).before a0 Z = true := hw _ (List.mem_of_getElem? (i := 128) rfl)
theorem own_q129 {Z : State} {a0 : Array Value} (hw : ∀ d ∈ tables_1, d.before a0 Z = true) : (Jvm.Cond.instanceMethod ({ cls := "java/lang/AbstractStringBuilder", name := "inflateIfNeededFor", desc := "(Ljava/lang/String;)V" } : Jvm.MethodName)).before a0 Z = true := hw _ (List.mem_of_getElem? (i := 129) rfl)
theorem own_q131 {Z : State} {a0 : Array Value} (hw : ∀ d ∈ tables_1, d.before a0 Z = true) : (Jvm.Cond.selects "java/lang/StringBuilder" ({ cls := "java/lang/AbstractStringBuilder", name := "inflateIfNeededFor", desc := "(Ljava/lang/String;)V" } : Jvm.MethodName) ({ cls := "java/lang/AbstractStringBuilder", name := "inflateIfNeededFor", desc := "(Ljava/lang/String;)V" } : Jvm.MethodName)).before a0 Z = true := hw _ (List.mem_of_getElem? (i := 131) rfl)
theorem own_q132 {Z : State} {a0 : Array Value} (hw : ∀ d ∈ tables_1, d.before a0 Z = true) : (Jvm.Cond.code ({ cls := "java/lang/AbstractStringBuilder", name := "inflateIfNeededFor", desc := "(Ljava/lang/String;)V" } : Jvm.MethodName) jdk_68_method_71_code (2 : Nat) (Option.none : Option Jvm.ClassFile.FieldType)).before a0 Z = true := hw _ (List.mem_of_getElem? (i := 132) rfl)
theorem own_q133 {Z : State} {a0 : Array Value} (hw : ∀ d ∈ tables_1, d.before a0 Z = true) : (Jvm.Cond.methodLink "java/lang/AbstractStringBuilder" (40 : Nat) ({ cls := "java/lang/String", name := "coder", desc := "()B" } : Jvm.MethodName)).before a0 Z = true := hw _ (List.mem_of_getElem? (i := 133) rfl)
theorem own_q134 {Z : State} {a0 : Array Value} (hw : ∀ d ∈ tables_1, d.before a0 Z = true) : (Jvm.Cond.methodLink "java/lang/AbstractStringBuilder" (399 : Nat) ({ cls := "java/lang/String", name := "getBytes", desc := "([BIB)V" } : Jvm.MethodName)).before a0 Z = true := hw _ (List.mem_of_getElem? (i := 134) rfl)
theorem own_q135 {Z : State} {a0 : Array Value} (hw : ∀ d ∈ tables_1, d.before a0 Z = true) : (Jvm.Cond.declares ({ cls := "java/lang/String", name := "getBytes", desc := "([BIB)V" } : Jvm.MethodName)).before a0 Z = true := hw _ (List.mem_of_getElem? (i := 135) rfl)
theorem own_q136 {Z : State} {a0 : Array Value} (hw : ∀ d ∈ tables_1, d.before a0 Z = true) : (Jvm.Cond.instanceMethod ({ cls := "java/lang/String", name := "getBytes", desc := "([BIB)V" } : Jvm.MethodName)).before a0 Z = true := hw _ (List.mem_of_getElem? (i := 136) rfl)
theorem own_q137 {Z : State} {a0 : Array Value} (hw : ∀ d ∈ tables_1, d.before a0 Z = true) : (Jvm.Cond.selects "java/lang/String" ({ cls := "java/lang/String", name := "getBytes", desc := "([BIB)V" } : Jvm.MethodName) ({ cls := "java/lang/String", name := "getBytes", desc := "([BIB)V" } : Jvm.MethodName)).before a0 Z = true := hw _ (List.mem_of_getElem? (i := 137) rfl)
theorem own_q138 {Z : State} {a0 : Array Value} (hw : ∀ d ∈ tables_1, d.before a0 Z = true) : (Jvm.Cond.code ({ cls := "java/lang/String", name := "getBytes", desc := "([BIB)V" } : Jvm.MethodName) jdk_42_method_147_code (4 : Nat) (Option.none : Option Jvm.ClassFile.FieldType)).before a0 Z = true := hw _ (List.mem_of_getElem? (i := 138) rfl)
theorem own_q139 {Z : State} {a0 : Array Value} (hw : ∀ d ∈ tables_1, d.before a0 Z = true) : (Jvm.Cond.methodLink "java/lang/String" (212 : Nat) ({ cls := "java/lang/System", name := "arraycopy", desc := "(Ljava/lang/Object;ILjava/lang/Object;II)V" } : Jvm.MethodName)).before a0 Z = true := hw _ (List.mem_of_getElem? (i := 139) rfl)
theorem own_q140 {Z : State} {a0 : Array Value} (hw : ∀ d ∈ tables_1, d.before a0 Z = true) : (Jvm.Cond.static ({ cls := "java/lang/System", name := "arraycopy", desc := "(Ljava/lang/Object;ILjava/lang/Object;II)V" } : Jvm.MethodName)).before a0 Z = true := hw _ (List.mem_of_getElem? (i := 140) rfl)
theorem own_q141 {Z : State} {a0 : Array Value} (hw : ∀ d ∈ tables_1, d.before a0 Z = true) : (Jvm.Cond.initialized "java/lang/System").before a0 Z = true := hw _ (List.mem_of_getElem? (i := 141) rfl)
theorem own_q142 {Z : State} {a0 : Array Value} (hw : ∀ d ∈ tables_1, d.before a0 Z = true) : (Jvm.Cond.native ({ cls := "java/lang/System", name := "arraycopy", desc := "(Ljava/lang/Object;ILjava/lang/Object;II)V" } : Jvm.MethodName)).before a0 Z = true := hw _ (List.mem_of_getElem? (i := 142) rfl)
theorem own_q143 {Z : State} {a0 : Array Value} (hw : ∀ d ∈ tables_1, d.before a0 Z = true) : (Jvm.Cond.methodLink "com/example/stanchion/stanchion/changelog/Sql" (50 : Nat) ({ cls := "java/lang/StringBuilder", name := "toString", desc := "()Ljava/lang/String;" } : Jvm.MethodName)).before a0 Z = true := hw _ (List.mem_of_getElem? (i := 143) rfl)
theorem own_q144 {Z : State} {a0 : Array Value} (hw : ∀ d ∈ tables_1, d.before a0 Z = true) : (Jvm.Cond.declares ({ cls := "java/lang/StringBuilder", name := "toString", desc := "()Ljava/lang/String;" } : Jvm.MethodName)).before a0 Z = true := hw _ (List.mem_of_getElem? (i := 144) rfl)
theorem own_q145 {Z : State} {a0 : Array Value} (hw : ∀ d ∈ tables_1, d.before a0 Z = true) : (Jvm.Cond.instanceMethod ({ cls := "java/lang/StringBuilder", name := "toString", desc := "()Ljava/lang/String;" } : Jvm.MethodName)).before a0 Z = true := hw _ (List.mem_of_getElem? (i := 145) rfl)
theorem own_q146 {Z : State} {a0 : Array Value} (hw : ∀ d ∈ tables_1, d.before a0 Z = true) : (Jvm.Cond.selects "java/lang/StringBuilder" ({ cls := "java/lang/StringBuilder", name := "toString", desc := "()Ljava/lang/String;" } : Jvm.MethodName) ({ cls := "java/lang/StringBuilder", name := "toString", desc := "()Ljava/lang/String;" } : Jvm.MethodName)).before a0 Z = true := hw _ (List.mem_of_getElem? (i := 146) rfl)
theorem own_q147 {Z : State} {a0 : Array Value} (hw : ∀ d ∈ tables_1, d.before a0 Z = true) : (Jvm.Cond.code ({ cls := "java/lang/StringBuilder", name := "toString", desc := "()Ljava/lang/String;" } : Jvm.MethodName) jdk_67_method_42_code (1 : Nat) (Option.some (Jvm.ClassFile.FieldType.object "java/lang/String"))).before a0 Z = true := hw _ (List.mem_of_getElem? (i := 147) rfl)
theorem own_q148 {Z : State} {a0 : Array Value} (hw : ∀ d ∈ tables_1, d.before a0 Z = true) : (Jvm.Cond.classLink "java/lang/StringBuilder" (18 : Nat) "java/lang/String").before a0 Z = true := hw _ (List.mem_of_getElem? (i := 148) rfl)
theorem own_q149 {Z : State} {a0 : Array Value} (hw : ∀ d ∈ tables_1, d.before a0 Z = true) : (Jvm.Cond.methodLink "java/lang/StringBuilder" (137 : Nat) ({ cls := "java/lang/String", name := "<init>", desc := "(Ljava/lang/StringBuilder;)V" } : Jvm.MethodName)).before a0 Z = true := hw _ (List.mem_of_getElem? (i := 149) rfl)
theorem own_q150 {Z : State} {a0 : Array Value} (hw : ∀ d ∈ tables_1, d.before a0 Z = true) : (Jvm.Cond.instanceMethod ({ cls := "java/lang/String", name := "<init>", desc := "(Ljava/lang/StringBuilder;)V" } : Jvm.MethodName)).before a0 Z = true := hw _ (List.mem_of_getElem? (i := 150) rfl)
theorem own_q151 {Z : State} {a0 : Array Value} (hw : ∀ d ∈ tables_1, d.before a0 Z = true) : (Jvm.Cond.code ({ cls := "java/lang/String", name := "<init>", desc := "(Ljava/lang/StringBuilder;)V" } : Jvm.MethodName) jdk_42_method_53_code (2 : Nat) (Option.none : Option Jvm.ClassFile.FieldType)).before a0 Z = true := hw _ (List.mem_of_getElem? (i := 151) rfl)
theorem own_q152 {Z : State} {a0 : Array Value} (hw : ∀ d ∈ tables_1, d.before a0 Z = true) : (Jvm.Cond.methodLink "java/lang/String" (489 : Nat) ({ cls := "java/lang/String", name := "<init>", desc := "(Ljava/lang/AbstractStringBuilder;Ljava/lang/Void;)V" } : Jvm.MethodName)).before a0 Z = true := hw _ (List.mem_of_getElem? (i := 152) rfl)
theorem own_q153 {Z : State} {a0 : Array Value} (hw : ∀ d ∈ tables_1, d.before a0 Z = true) : (Jvm.Cond.instanceMethod ({ cls := "java/lang/String", name := "<init>", desc := "(Ljava/lang/AbstractStringBuilder;Ljava/lang/Void;)V" } : Jvm.MethodName)).before a0 Z = true := hw _ (List.mem_of_getElem? (i := 153) rfl)
theorem own_q154 {Z : State} {a0 : Array Value} (hw : ∀ d ∈ tables_1, d.before a0 Z = true) : (Jvm.Cond.code ({ cls := "java/lang/String", name := "<init>", desc := "(Ljava/lang/AbstractStringBuilder;Ljava/lang/Void;)V" } : Jvm.MethodName) jdk_42_method_150_code (5 : Nat) (Option.none : Option Jvm.ClassFile.FieldType)).before a0 Z = true := hw _ (List.mem_of_getElem? (i := 154) rfl)
theorem own_q155 {Z : State} {a0 : Array Value} (hw : ∀ d ∈ tables_1, d.before a0 Z = true) : (Jvm.Cond.methodLink "java/lang/String" (552 : Nat) ({ cls := "java/lang/AbstractStringBuilder", name := "getValue", desc := "()[B" } : Jvm.MethodName)).before a0 Z = true := hw _ (List.mem_of_getElem? (i := 155) rfl)
theorem own_q156 {Z : State} {a0 : Array Value} (hw : ∀ d ∈ tables_1, d.before a0 Z = true) : (Jvm.Cond.declares ({ cls := "java/lang/AbstractStringBuilder", name := "getValue", desc := "()[B" } : Jvm.MethodName)).before a0 Z = true := hw _ (List.mem_of_getElem? (i := 156) rfl)
theorem own_q157 {Z : State} {a0 : Array Value} (hw : ∀ d ∈ tables_1, d.before a0 Z = true) : (Jvm.Cond.instanceMethod ({ cls := "java/lang/AbstractStringBuilder", name := "getValue", desc := "()[B" } : Jvm.MethodName)).before a0 Z = true := hw _ (List.mem_of_getElem? (i := 157) rfl)
theorem own_q158 {Z : State} {a0 : Array Value} (hw : ∀ d ∈ tables_1, d.before a0 Z = true) : (Jvm.Cond.selects "java/lang/StringBuilder" ({ cls := "java/lang/AbstractStringBuilder", name := "getValue", desc := "()[B" } : Jvm.MethodName) ({ cls := "java/lang/AbstractStringBuilder", name := "getValue", desc := "()[B" } : Jvm.MethodName)).before a0 Z = true := hw _ (List.mem_of_getElem? (i := 158) rfl)
theorem own_q159 {Z : State} {a0 : Array Value} (hw : ∀ d ∈ tables_1, d.before a0 Z = true) : (Jvm.Cond.code ({ cls := "java/lang/AbstractStringBuilder", name := "getValue", desc := "()[B" } : Jvm.MethodName) jdk_68_method_64_code (1 : Nat) (Option.some (Jvm.ClassFile.FieldType.array Jvm.ClassFile.FieldType.byte))).before a0 Z = true := hw _ (List.mem_of_getElem? (i := 159) rfl)
theorem own_q160 {Z : State} {a0 : Array Value} (hw : ∀ d ∈ tables_1, d.before a0 Z = true) : (Jvm.Cond.methodLink "java/lang/String" (549 : Nat) ({ cls := "java/lang/AbstractStringBuilder", name := "length", desc := "()I" } : Jvm.MethodName)).before a0 Z = true := hw _ (List.mem_of_getElem? (i := 160) rfl)
theorem own_q161 {Z : State} {a0 : Array Value} (hw : ∀ d ∈ tables_1, d.before a0 Z = true) : (Jvm.Cond.declares ({ cls := "java/lang/AbstractStringBuilder", name := "length", desc := "()I" } : Jvm.MethodName)).before a0 Z = true := hw _ (List.mem_of_getElem? (i := 161) rfl)
theorem own_q162 {Z : State} {a0 : Array Value} (hw : ∀ d ∈ tables_1, d.before a0 Z = true) : (Jvm.Cond.instanceMethod ({ cls := "java/lang/AbstractStringBuilder", name := "length", desc := "()I" } : Jvm.MethodName)).before a0 Z = true := hw _ (List.mem_of_getElem? (i := 162) rfl)
theorem own_q163 {Z : State} {a0 : Array Value} (hw : ∀ d ∈ tables_1, d.before a0 Z = true) : (Jvm.Cond.selects "java/lang/StringBuilder" ({ cls := "java/lang/AbstractStringBuilder", name := "length", desc := "()I" } : Jvm.MethodName) ({ cls := "java/lang/StringBuilder", name := "length", desc := "()I" } : Jvm.MethodName)).before a0 Z = true := hw _ (List.mem_of_getElem? (i := 163) rfl)
theorem own_q164 {Z : State} {a0 : Array Value} (hw : ∀ d ∈ tables_1, d.before a0 Z = true) : (Jvm.Cond.instanceMethod ({ cls := "java/lang/StringBuilder", name := "length", desc := "()I" } : Jvm.MethodName)).before a0 Z = true := hw _ (List.mem_of_getElem? (i := 164) rfl)
theorem own_q165 {Z : State} {a0 : Array Value} (hw : ∀ d ∈ tables_1, d.before a0 Z = true) : (Jvm.Cond.code ({ cls := "java/lang/StringBuilder", name := "length", desc := "()I" } : Jvm.MethodName) jdk_67_method_93_code (1 : Nat) (Option.some Jvm.ClassFile.FieldType.int)).before a0 Z = true := hw _ (List.mem_of_getElem? (i := 165) rfl)
theorem own_q166 {Z : State} {a0 : Array Value} (hw : ∀ d ∈ tables_1, d.before a0 Z = true) : (Jvm.Cond.methodLink "java/lang/StringBuilder" (343 : Nat) ({ cls := "java/lang/AbstractStringBuilder", name := "length", desc := "()I" } : Jvm.MethodName)).before a0 Z = true := hw _ (List.mem_of_getElem? (i := 166) rfl)
theorem own_q167 {Z : State} {a0 : Array Value} (hw : ∀ d ∈ tables_1, d.before a0 Z = true) : (Jvm.Cond.code ({ cls := "java/lang/AbstractStringBuilder", name := "length", desc := "()I" } : Jvm.MethodName) jdk_68_method_6_code (1 : Nat) (Option.some Jvm.ClassFile.FieldType.int)).before a0 Z = true := hw _ (List.mem_of_getElem? (i := 167) rfl)
theorem own_q168 {Z : State} {a0 : Array Value} (hw : ∀ d ∈ tables_1, d.before a0 Z = true) : (Jvm.Cond.methodLink "java/lang/String" (1047 : Nat) ({ cls := "java/lang/AbstractStringBuilder", name := "isLatin1", desc := "()Z" } : Jvm.MethodName)).before a0 Z = true := hw _ (List.mem_of_getElem? (i := 168) rfl)
theorem own_q169 {Z : State} {a0 : Array Value} (hw : ∀ d ∈ tables_1, d.before a0 Z = true) : (Jvm.Cond.declares ({ cls := "java/lang/AbstractStringBuilder", name := "isLatin1", desc := "()Z" } : Jvm.MethodName)).before a0 Z = true := hw _ (List.mem_of_getElem? (i := 169) rfl)
theorem own_q170 {Z : State} {a0 : Array Value} (hw : ∀ d ∈ tables_1, d.before a0 Z = true) : (Jvm.Cond.instanceMethod ({ cls := "java/lang/AbstractStringBuilder", name := "isLatin1", desc := "()Z" } : Jvm.MethodName)).before a0 Z = true := hw _ (List.mem_of_getElem? (i := 170) rfl)
theorem own_q171 {Z : State} {a0 : Array Value} (hw : ∀ d ∈ tables_1, d.before a0 Z = true) : (Jvm.Cond.selects "java/lang/StringBuilder" ({ cls := "java/lang/AbstractStringBuilder", name := "isLatin1", desc := "()Z" } : Jvm.MethodName) ({ cls := "java/lang/AbstractStringBuilder", name := "isLatin1", desc := "()Z" } : Jvm.MethodName)).before a0 Z = true := hw _ (List.mem_of_getElem? (i := 171) rfl)
theorem own_q172 {Z : State} {a0 : Array Value} (hw : ∀ d ∈ tables_1, d.before a0 Z = true) : (Jvm.Cond.code ({ cls := "java/lang/AbstractStringBuilder", name := "isLatin1", desc := "()Z" } : Jvm.MethodName) jdk_68_method_68_code (1 : Nat) (Option.some Jvm.ClassFile.FieldType.boolean)).before a0 Z = true := hw _ (List.mem_of_getElem? (i := 172) rfl)
theorem own_q173 {Z : State} {a0 : Array Value} (hw : ∀ d ∈ tables_1, d.before a0 Z = true) : (Jvm.Cond.methodLink "java/lang/String" (54 : Nat) ({ cls := "java/util/Arrays", name := "copyOfRange", desc := "([BII)[B" } : Jvm.MethodName)).before a0 Z = true := hw _ (List.mem_of_getElem? (i := 173) rfl)
theorem own_q174 {Z : State} {a0 : Array Value} (hw : ∀ d ∈ tables_1, d.before a0 Z = true) : (Jvm.Cond.static ({ cls := "java/util/Arrays", name := "copyOfRange", desc := "([BII)[B" } : Jvm.MethodName)).before a0 Z = true := hw _ (List.mem_of_getElem? (i := 174) rfl)
theorem own_q175 {Z : State} {a0 : Array Value} (hw : ∀ d ∈ tables_1, d.before a0 Z = true) : (Jvm.Cond.initialized "java/util/Arrays").before a0 Z = true := hw _ (List.mem_of_getElem? (i := 175) rfl)
theorem own_q176 {Z : State} {a0 : Array Value} (hw : ∀ d ∈ tables_1, d.before a0 Z = true) : (Jvm.Cond.code ({ cls := "java/util/Arrays", name := "copyOfRange", desc := "([BII)[B" } : Jvm.MethodName) jdk_65_method_132_code (3 : Nat) (Option.some (Jvm.ClassFile.FieldType.array Jvm.ClassFile.FieldType.byte))).before a0 Z = true := hw _ (List.mem_of_getElem? (i := 176) rfl)
theorem own_q177 {Z : State} {a0 : Array Value} (hw : ∀ d ∈ tables_1, d.before a0 Z = true) : (Jvm.Cond.methodLink "java/util/Arrays" (339 : Nat) ({ cls := "java/util/Arrays", name := "copyOfRangeByte", desc := "([BII)[B" } : Jvm.MethodName)).before a0 Z = true := hw _ (List.mem_of_getElem? (i := 177) rfl)
theorem own_q178 {Z : State} {a0 : Array Value} (hw : ∀ d ∈ tables_1, d.before a0 Z = true) : (Jvm.Cond.static ({ cls := "java/util/Arrays", name := "copyOfRangeByte", desc := "([BII)[B" } : Jvm.MethodName)).before a0 Z = true := hw _ (List.mem_of_getElem? (i := 178) rfl)
theorem own_q179 {Z : State} {a0 : Array Value} (hw : ∀ d ∈ tables_1, d.before a0 Z = true) : (Jvm.Cond.code ({ cls := "java/util/Arrays", name := "copyOfRangeByte", desc := "([BII)[B" } : Jvm.MethodName) jdk_65_method_133_code (5 : Nat) (Option.some (Jvm.ClassFile.FieldType.array Jvm.ClassFile.FieldType.byte))).before a0 Z = true := hw _ (List.mem_of_getElem? (i := 179) rfl)
theorem own_q180 {Z : State} {a0 : Array Value} (hw : ∀ d ∈ tables_1, d.before a0 Z = true) : (Jvm.Cond.methodLink "java/util/Arrays" (343 : Nat) ({ cls := "java/util/Arrays", name := "checkLength", desc := "(II)V" } : Jvm.MethodName)).before a0 Z = true := hw _ (List.mem_of_getElem? (i := 180) rfl)
theorem own_q181 {Z : State} {a0 : Array Value} (hw : ∀ d ∈ tables_1, d.before a0 Z = true) : (Jvm.Cond.static ({ cls := "java/util/Arrays", name := "checkLength", desc := "(II)V" } : Jvm.MethodName)).before a0 Z = true := hw _ (List.mem_of_getElem? (i := 181) rfl)
theorem own_q182 {Z : State} {a0 : Array Value} (hw : ∀ d ∈ tables_1, d.before a0 Z = true) : (Jvm.Cond.code ({ cls := "java/util/Arrays", name := "checkLength", desc := "(II)V" } : Jvm.MethodName) jdk_65_method_131_code (2 : Nat) (Option.none : Option Jvm.ClassFile.FieldType)).before a0 Z = true := hw _ (List.mem_of_getElem? (i := 182) rfl)
theorem own_q183 {Z : State} {a0 : Array Value} (hw : ∀ d ∈ tables_1, d.before a0 Z = true) : (Jvm.Cond.methodLink "java/util/Arrays" (304 : Nat) ({ cls := "java/lang/Math", name := "min", desc := "(II)I" } : Jvm.MethodName)).before a0 Z = true := hw _ (List.mem_of_getElem? (i := 183) rfl)
theorem own_q184 {Z : State} {a0 : Array Value} (hw : ∀ d ∈ tables_1, d.before a0 Z = true) : (Jvm.Cond.static ({ cls := "java/lang/Math", name := "min", desc := "(II)I" } : Jvm.MethodName)).before a0 Z = true := hw _ (List.mem_of_getElem? (i := 184) rfl)
theorem own_q185 {Z : State} {a0 : Array Value} (hw : ∀ d ∈ tables_1, d.before a0 Z = true) : (Jvm.Cond.initialized "java/lang/Math").before a0 Z = true := hw _ (List.mem_of_getElem? (i := 185) rfl)
theorem own_q186 {Z : State} {a0 : Array Value} (hw : ∀ d ∈ tables_1, d.before a0 Z = true) : (Jvm.Cond.code ({ cls := "java/lang/Math", name := "min", desc := "(II)I" } : Jvm.MethodName) jdk_29_method_69_code (2 : Nat) (Option.some Jvm.ClassFile.FieldType.int)).before a0 Z = true := hw _ (List.mem_of_getElem? (i := 186) rfl)
theorem own_q187 {Z : State} {a0 : Array Value} (hw : ∀ d ∈ tables_1, d.before a0 Z = true) : (Jvm.Cond.methodLink "java/util/Arrays" (150 : Nat) ({ cls := "java/lang/System", name := "arraycopy", desc := "(Ljava/lang/Object;ILjava/lang/Object;II)V" } : Jvm.MethodName)).before a0 Z = true := hw _ (List.mem_of_getElem? (i := 187) rfl)
theorem own_q188 {Z : State} {a0 : Array Value} (hw : ∀ d ∈ tables_1, d.before a0 Z = true) : (Jvm.Cond.methodLink "com/example/stanchion/stanchion/changelog/SqlDescriptionPinLaw" (35 : Nat) ({ cls := "java/lang/String", name := "equals", desc := "(Ljava/lang/Object;)Z" } : Jvm.MethodName)).before a0 Z = true := hw _ (List.mem_of_getElem? (i := 188) rfl)
theorem own_q189 {Z : State} {a0 : Array Value} (hw : ∀ d ∈ tables_1, d.before a0 Z = true) : (Jvm.Cond.declares ({ cls := "java/lang/String", name := "equals", desc := "(Ljava/lang/Object;)Z" } : Jvm.MethodName)).before a0 Z = true := hw _ (List.mem_of_getElem? (i := 189) rfl)
theorem own_q190 {Z : State} {a0 : Array Value} (hw : ∀ d ∈ tables_1, d.before a0 Z = true) : (Jvm.Cond.instanceMethod ({ cls := "java/lang/String", name := "equals", desc := "(Ljava/lang/Object;)Z" } : Jvm.MethodName)).before a0 Z = true := hw _ (List.mem_of_getElem? (i := 190) rfl)
theorem own_q191 {Z : State} {a0 : Array Value} (hw : ∀ d ∈ tables_1, d.before a0 Z = true) : (Jvm.Cond.selects "java/lang/String" ({ cls := "java/lang/String", name := "equals", desc := "(Ljava/lang/Object;)Z" } : Jvm.MethodName) ({ cls := "java/lang/String", name := "equals", desc := "(Ljava/lang/Object;)Z" } : Jvm.MethodName)).before a0 Z = true := hw _ (List.mem_of_getElem? (i := 191) rfl)
theorem own_q196 {Z : State} {a0 : Array Value} (hw : ∀ d ∈ tables_1, d.before a0 Z = true) : (Jvm.Cond.stringLink "com/example/stanchion/stanchion/changelog/SqlDescriptionPinLaw" (7 : Nat) "sql").before a0 Z = true := hw _ (List.mem_of_getElem? (i := 196) rfl)
theorem own_q197 {Z : State} {a0 : Array Value} (hw : ∀ d ∈ tables_1, d.before a0 Z = true) : (Jvm.Cond.stringLink "com/example/stanchion/stanchion/changelog/Sql" (39 : Nat) "sql").before a0 Z = true := hw _ (List.mem_of_getElem? (i := 197) rfl)

section Strs
variable {md : Nat} {p : Program} {l : Launch} {e : Env} {R : Room} {s : State} {m : MethodId} {args : Array Value} {below : List Frame} {meth : Method} {c : Code} {own : String} {Z : State} {EL : List (String × Nat)} {vm : Vm} {T : State} {h h' h0 : Heap} {cells slots : Nat} {P : Outcome → State → Prop} {pc : Nat} {L : Array Slot} {a0 : Array Value} {a b : Addr} {cs ds : List Int32} {W : Nat}
def own_lat (cs : List Int32) : Prop := ∀ c ∈ cs, ¬ c < 0 ∧ ¬ (255 : Int32) < c
def own_str (Z : State) (h : Heap) (a : Addr) (cs : List Int32) : Prop := own_lat cs ∧ cs.length ≤ 4000 ∧ ∃ b k, Exa Z h a "java/lang/String" ∧ Fld Z h a "java/lang/String" "coder" "B" (.int 0) ∧ Fld Z h a "java/lang/String" "value" "[B" (.ref b) ∧ Arv Z h b k .byte (Int32.ofNat cs.length) ((cs.map fun c => c.toInt8.toInt32).map Value.int) (.int 0)
theorem own_str.ext (F : own_str Z h a cs) (E : Ext h h') : own_str Z h' a cs := by
  obtain ⟨f1, f2, b, k, f3, f4, f5, f6⟩ := F; exact ⟨f1, f2, b, k, f3.ext E, f4.ext E, f5.ext E, f6.ext E⟩
theorem own_str.exa (F : own_str Z h a cs) : Exa Z h a "java/lang/String" := by obtain ⟨-, -, _, _, f3, -⟩ := F; exact f3
theorem own_str.lat (F : own_str Z h a cs) : own_lat cs := F.1
theorem own_str.lt (F : own_str Z h a cs) : a < h.size := F.exa.lt
/-- over a step that writes new cells alone -/
theorem own_str.keep {ws : List Addr} (F : own_str Z h a cs) (K : Keep h h' ws) (q : ∀ x ∈ ws, h.size ≤ x) : own_str Z h' a cs := by
  obtain ⟨f1, f2, b, k, f3, f4, f5, f6⟩ := F
  have na : a ∉ ws := fun z => absurd (q a z) (Nat.not_le.mpr f3.lt)
  have nb : b ∉ ws := fun z => absurd (q b z) (Nat.not_le.mpr f6.lt)
  exact ⟨f1, f2, b, k, f3.keep K, f4.keep K na, f5.keep K na, f6.keep K nb⟩
theorem own_up (H : own_lat cs) : ∀ c ∈ cs, ¬ c < 0 ∧ ¬ (65535 : Int32) < c := fun c hc => ⟨(H c hc).1, fun q => (H c hc).2 (by
  rw [Int32.lt_iff_toInt_lt] at q ⊢
  have e1 : (65535 : Int32).toInt = 65535 := by decide
  have e2 : (255 : Int32).toInt = 255 := by decide
  omega)⟩
theorem own_lat_nil : own_lat [] := fun c hc => by cases hc
theorem own_lat_cons {x : Int32} (hx : 0 ≤ x.toInt ∧ x.toInt ≤ 255) (H : own_lat cs) : own_lat (x :: cs) := fun c hc => by
  rcases List.mem_cons.mp hc with rfl | hc
  · have e1 : (0 : Int32).toInt = 0 := by decide
    have e2 : (255 : Int32).toInt = 255 := by decide
    rw [Int32.lt_iff_toInt_lt, Int32.lt_iff_toInt_lt]; omega
  · exact H c hc
theorem own_b16 {x : Int32} (hx : 0 ≤ x.toInt ∧ x.toInt ≤ 255) : 0 ≤ x.toInt ∧ x.toInt ≤ 65535 := ⟨hx.1, by omega⟩
theorem own_cod (H : own_lat cs) : StrChars.Road.CodA cs 0 (Int32.ofNat cs.length) ((cs.map fun c => c.toInt8.toInt32).map Value.int) := StrChars.Road.codOf (cs := cs) rfl fun c hc => (H c hc).2
def own_cs (Z : State) : Prop := ∃ z : Int32, Sta Z Z.heap "java/lang/String" "COMPACT_STRINGS" "Z" (.int z) ∧ ¬ z = 0
def own_sf (Z : State) : Prop := ∃ fm : Value, Sta Z Z.heap "jdk/internal/util/Preconditions" "SIOOBE_FORMATTER" "Ljava/util/function/BiFunction;" fm ∧ fm.isRef = true
theorem own_ext_wr {sl : Nat} {v : Value} (E : Ext h0 h) (W : Wr h h' a sl v) (q : h0.size ≤ a) : Ext h0 h' := by
  obtain ⟨cell, h1, h2, h3, rfl⟩ := W
  refine ⟨by simpa using E.1, fun x c hx => ?_⟩
  have := (Array.getElem?_eq_some_iff.mp hx).1
  rw [Array.getElem?_setIfInBounds_ne (by omega)]; exact E.2 x c hx
theorem own_ext_keep {ws : List Addr} (E : Ext h0 h) (K : Keep h h' ws) (q : ∀ x ∈ ws, h0.size ≤ x) : Ext h0 h' :=
  ⟨Nat.le_trans E.1 K.1, fun x c hx => K.2.1 x c (E.2 x c hx) fun z => absurd (q x z) (Nat.not_le.mpr (Array.getElem?_eq_some_iff.mp hx).1)⟩
theorem own_ext_trans {h1 h2 : Heap} (E : Ext h0 h1) (E' : Ext h1 h2) : Ext h0 h2 := ⟨Nat.le_trans E.1 E'.1, fun x c hx => E'.2 x c (E.2 x c hx)⟩
theorem own_ext_refl : Ext h h := ⟨Nat.le_refl _, fun _ _ q => q⟩
theorem own_nar {x : Int32} (hx : 0 ≤ x.toInt ∧ x.toInt ≤ 65535) : nar .char x = x := by
  have := c_i2c x
  refine Int32.toInt_inj.mp ?_
  show x.toUInt32.toUInt16.toUInt32.toInt32.toInt = x.toInt
  omega
/-- a String as 'new' leaves it -/
def own_raw (Z : State) (h : Heap) (a : Addr) : Prop := Exa Z h a "java/lang/String" ∧ (∃ v0, Fld Z h a "java/lang/String" "value" "[B" v0) ∧ ∃ c0, Fld Z h a "java/lang/String" "coder" "B" c0
theorem own_raw.ext (F : own_raw Z h a) (E : Ext h h') : own_raw Z h' a := by obtain ⟨f1, ⟨v, f2⟩, d, f3⟩ := F; exact ⟨f1.ext E, ⟨v, f2.ext E⟩, d, f3.ext E⟩
theorem own_raw.wr {sl : Nat} {v : Value} (F : own_raw Z h a) (W : Wr h h' b sl v) (q : a ≠ b) : own_raw Z h' a := by obtain ⟨f1, ⟨v, f2⟩, d, f3⟩ := F; exact ⟨f1.wr W, ⟨v, f2.other W (Or.inl q)⟩, d, f3.other W (Or.inl q)⟩
theorem own_pd0 : parseMethodDescriptor "([C)V" = some ⟨[(.array .char)], none⟩ := by decide +kernel
theorem own_mk (S : St md p l e R s m args below meth c own Z EL vm T h cells slots) (hx : p.tables.exec = Jvm.exec) (hw : ∀ d ∈ tables_1, d.before a0 Z = true) (G : own_cs Z) (n : Nat) (hn : cs.length = n) {index : Nat} (w1 : (Cond.methodLink own index (⟨"java/lang/String", "<init>", "([C)V"⟩ : MethodName)).before a0 Z = true) {kC : ClassId} {d : Value} (F : own_raw Z h a) (Kc : Arv Z h b kC .char (Int32.ofNat cs.length) (cs.map Value.int) d) (sf : Safe Z EL vm h a) (ga : Z.heap.size ≤ a) (l0 : 0 < n) (l2 : n ≤ 4000) (hp : own_lat cs) (hf : 4 ≤ R.frames) (hl : W + 65 ≤ R.locals) (hml : L.size = c.maxLocals) (rest : List Value) (hW : (rest.map fun v => v.category).sum ≤ W) (hd : decode c.code pc = .ok (.invokespecial index, 3)) (hc : cells + 1 ≤ R.cells) (hs : slots + n ≤ R.slots) (p' : Nat) (hp' : p' = pc + 3)
    (q : ∀ T' h', St md p l e R s m args below meth c own Z EL vm T' h' (cells + 1) (slots + n) → own_str Z h' a cs → Keep h h' [a] → CHr Z EL vm h vm h' → Goes p.tables e below P T' (mkF m p' L rest)) : Goes p.tables e below P T (mkF m pc L (.ref b :: .ref a :: rest)) := by
  subst hn
  obtain ⟨f1, ⟨v0, f2⟩, c0, f3⟩ := F
  obtain ⟨z, g1, g2⟩ := G
  have hws : ∀ d ∈ StrChars.Road.words, d.before a0 Z = true := fun d hd => hw d ((by decide +kernel : ∀ d ∈ StrChars.Road.words, d ∈ tables_1) d hd)
  refine S.callIN hx rfl w1 (own_q5 hw) (own_q6 hw) (by decide) (StrChars.Road.backV (s := s.setVm vm) (W := W) S.warm hws (kI := 4) (own_q1 hw) (cs := cs) (bs := cs.map fun c => c.toInt8.toInt32) (n := cs.length) (n0 := Z.heap.size) ga S.size f1 f2 f3 Kc (g1.ext S.old.2) g2 rfl rfl l0 l2 hp rfl hf hl) ?_ hml [.ref b] rest (lenOf own_pd0 rfl) rfl rfl hW hd hc hs p' hp' ?_
  · intro v h' Lc r
    have sa : ∀ x ∈ [a], Safe Z EL vm h x := fun x hx => by cases List.mem_singleton.mp hx; exact sf
    exact ⟨r.2.1, S.old.keep r.2.2.1 (fun x hx => by cases List.mem_singleton.mp hx; exact ga), CHr.keep r.2.2.1 sa S.chr.1⟩
  · intro v T' h' Lc S' r R'
    obtain ⟨rfl, -, r3, r4, r5, t, kb, -, -, -, r6, r7⟩ := r
    exact q T' h' S' ⟨hp, l2, t, kb, r4, r5, r6, r7⟩ r3 R'
theorem own_pd1 : parseMethodDescriptor "()I" = some ⟨[], some .int⟩ := by decide +kernel
theorem own_len (S : St md p l e R s m args below meth c own Z EL vm T h cells slots) (hx : p.tables.exec = Jvm.exec) (hw : ∀ d ∈ tables_1, d.before a0 Z = true) (G : own_cs Z) {index : Nat} (w1 : (Cond.methodLink own index (⟨"java/lang/String", "length", "()I"⟩ : MethodName)).before a0 Z = true) (F : own_str Z h a cs) (hf : 2 ≤ R.frames) (hl : W + 25 ≤ R.locals) (hml : L.size = c.maxLocals) (rest : List Value) (hW : (rest.map fun v => v.category).sum ≤ W) (hd : decode c.code pc = .ok (.invokevirtual index, 3)) (hc : cells ≤ R.cells) (hs : slots ≤ R.slots) (p' : Nat) (hp' : p' = pc + 3)
    (q : ∀ T' , St md p l e R s m args below meth c own Z EL vm T' h cells slots → Goes p.tables e below P T' (mkF m p' L (.int (Int32.ofNat cs.length) :: rest))) : Goes p.tables e below P T (mkF m pc L (.ref a :: rest)) := by
  have hws : ∀ d ∈ StrChars.Road.wordsLen, d.before a0 Z = true := fun d hd => hw d ((by decide +kernel : ∀ d ∈ StrChars.Road.wordsLen, d ∈ tables_1) d hd)
  obtain ⟨f1, f2, vb, k, f3, f4, f5, f6⟩ := F
  obtain ⟨z, g1, g2⟩ := G
  refine S.callVN (C := "java/lang/String") (k := 0) (n := 0) (QN := fun v h' L => (v = some (.int (Int32.ofNat cs.length))) ∧ L = [] ∧ h' = h) hx w1 (own_q107 hw) (notFace_of_selects (args := #[]) (mvT (s := s.setVm vm) S.warm (own_q109 hw))) (own_q109 hw) (own_q108 hw) (by decide) f3 (StrChars.Road.lenW (s := s.setVm vm) (W := W) S.warm hws (kI := 4) (own_q1 hw) f3 f5 f4 f6 (own_cod f1) (own_up f1) (g1.ext S.old.2) g2 f2 hf hl) ?_ hml [] rest (lenOf own_pd1 rfl) rfl rfl hW hd hc hs p' hp' ?_
  · intro v h' Lc r
    obtain ⟨-, rfl, rfl⟩ := r
    exact ⟨Fr.nil _, S.old, CHr.refl S.chr.1⟩
  · intro v T' h' Lc S' r R'
    obtain ⟨rfl, rfl, rfl⟩ := r
    exact q T' S'
theorem own_pd2 : parseMethodDescriptor "(Ljava/lang/Object;)Z" = some ⟨[(.object "java/lang/Object")], some .boolean⟩ := by decide +kernel
theorem own_eq (S : St md p l e R s m args below meth c own Z EL vm T h cells slots) (hx : p.tables.exec = Jvm.exec) (hw : ∀ d ∈ tables_1, d.before a0 Z = true) (G : own_cs Z) {index : Nat} (w1 : (Cond.methodLink own index (⟨"java/lang/String", "equals", "(Ljava/lang/Object;)Z"⟩ : MethodName)).before a0 Z = true) (F : own_str Z h a cs) (F2 : own_str Z h b ds) (hf : 2 ≤ R.frames) (hl : W + 28 ≤ R.locals) (hml : L.size = c.maxLocals) (rest : List Value) (hW : (rest.map fun v => v.category).sum ≤ W) (hd : decode c.code pc = .ok (.invokevirtual index, 3)) (hc : cells ≤ R.cells) (hs : slots ≤ R.slots) (p' : Nat) (hp' : p' = pc + 3)
    (q : ∀ T' (z : Int32), St md p l e R s m args below meth c own Z EL vm T' h cells slots → (z = 1 ∧ cs = ds) ∨ (z = 0 ∧ ¬ cs = ds) → Goes p.tables e below P T' (mkF m p' L (.int z :: rest))) : Goes p.tables e below P T (mkF m pc L (.ref b :: .ref a :: rest)) := by
  have hws : ∀ d ∈ StrChars.Road.wordsEq, d.before a0 Z = true := fun d hd => hw d ((by decide +kernel : ∀ d ∈ StrChars.Road.wordsEq, d ∈ tables_1) d hd)
  obtain ⟨f1, f2, vb, k, f3, f4, f5, f6⟩ := F
  obtain ⟨z, g1, g2⟩ := G
  obtain ⟨e1, e2, b', k', e3, e4, e5, e6⟩ := F2
  refine S.callVN (C := "java/lang/String") (k := 0) (n := 0) (QN := fun v h' L => ((v = some (.int 1) ∧ cs = ds) ∨ (v = some (.int 0) ∧ ¬ cs = ds)) ∧ L = [] ∧ h' = h) hx w1 (own_q189 hw) (notFace_of_selects (args := #[]) (mvT (s := s.setVm vm) S.warm (own_q191 hw))) (own_q191 hw) (own_q190 hw) (by decide) f3 (StrChars.Road.eqW (s := s.setVm vm) (W := W) S.warm hws (kI := 4) (own_q1 hw) f3 f5 f4 f6 (own_cod f1) (own_up f1) f2 e3 e5 e4 e6 (own_cod e1) (own_up e1) e2 (g1.ext S.old.2) g2 hf hl) ?_ hml [.ref b] rest (lenOf own_pd2 rfl) rfl rfl hW hd hc hs p' hp' ?_
  · intro v h' Lc r
    obtain ⟨-, rfl, rfl⟩ := r
    exact ⟨Fr.nil _, S.old, CHr.refl S.chr.1⟩
  · intro v T' h' Lc S' r R'
    obtain ⟨r, rfl, rfl⟩ := r
    rcases r with ⟨rfl, r⟩ | ⟨rfl, r⟩
    · exact q T' 1 S' (Or.inl ⟨rfl, r⟩)
    · exact q T' 0 S' (Or.inr ⟨rfl, r⟩)
end Strs
theorem own_wS {Z : State} {a0 : Array Value} (hw : ∀ d ∈ tables_1, d.before a0 Z = true) : ∀ a ∈ Bundle.stringAtoms, a.before a0 Z = true := fun d hd => hw d ((by decide +kernel : ∀ d ∈ Bundle.stringAtoms, d ∈ tables_1) d hd)
theorem own_ew {Z : State} {a0 : Array Value} (hw : ∀ d ∈ tables_1, d.before a0 Z = true) : EW Z a0 consts_1 :=
  (EW.cons (own_q53 hw) (by decide +kernel) (EW.cons (own_q58 hw) (by decide +kernel) (EW.cons (own_q59 hw) (by decide +kernel) (EW.cons (own_q197 hw) (by decide +kernel) (EW.cons (own_q95 hw) (by decide +kernel) (EW.cons (own_q196 hw) (by decide +kernel) (EW.cons (own_q22 hw) (by decide +kernel) (EW.cons (own_q14 hw) (by decide +kernel) EW.nil))))))))
def own_tq : List Int32 := [115, 113, 108]
theorem own_tq_lat : own_lat own_tq := by unfold own_lat; decide +kernel
def own_tf : List Int32 := [115, 113, 108, 70, 105, 108, 101, 32]
theorem own_tf_lat : own_lat own_tf := by unfold own_lat; decide +kernel
theorem own_nat {n : Nat} (h : n ≤ 4000) : (Int32.ofNat n).toInt = n := toInt_of rfl (by omega)
theorem own_b8 (x : Int32) : 0 ≤ (x &&& (255 : Int32)).toUInt32.toUInt16.toUInt32.toInt32.toInt ∧ (x &&& (255 : Int32)).toUInt32.toUInt16.toUInt32.toInt32.toInt ≤ 255 := by
  have h1 := c_and x 255 (by decide)
  have e : (255 : Int32).toInt = 255 := by decide
  have h2 := c_i2c (x &&& 255)
  omega
def own_t0 : List Int32 := []
theorem own_t0_lat : own_lat own_t0 := own_lat_nil
theorem own_ef3 (m : MethodId) (x0 : Addr) (x1 : Addr) (x2 : Int32) (x3 : Int32) : entryFrame m #[(.ref x0), (.ref x1), (.int x2), (.int x3), .null] 6 = mkF m 0 #[.val (.ref x0), .val (.ref x1), .val (.int x2), .val (.int x3), .val .null, .unset] [] := by first | (simp [entryFrame, mkF, argsToLocals, Value.category]; done) | rfl
theorem own_d_jdk_42_method_149_code_4 : decode jdk_42_method_149_code 0 = .ok (.aload_n 0, 1) := by decide +kernel
theorem own_d_jdk_42_method_149_code_5 : decode jdk_42_method_149_code 1 = .ok (.invokespecial 1, 3) := by decide +kernel
theorem own_d_jdk_42_method_149_code_6 : decode jdk_42_method_149_code 4 = .ok (.iload_n 3, 1) := by decide +kernel
theorem own_d_jdk_42_method_149_code_7 : decode jdk_42_method_149_code 5 = .ok (.ifCond .ne 22, 3) := by decide +kernel
theorem own_d_jdk_42_method_149_code_8 : decode jdk_42_method_149_code 8 = .ok (.aload_n 0, 1) := by decide +kernel
theorem own_d_jdk_42_method_149_code_9 : decode jdk_42_method_149_code 9 = .ok (.ldc 7, 2) := by decide +kernel
theorem own_d_jdk_42_method_149_code_10 : decode jdk_42_method_149_code 11 = .ok (.getfield 9, 3) := by decide +kernel
theorem own_d_jdk_42_method_149_code_11 : decode jdk_42_method_149_code 14 = .ok (.putfield 9, 3) := by decide +kernel
theorem own_d_jdk_42_method_149_code_12 : decode jdk_42_method_149_code 17 = .ok (.aload_n 0, 1) := by decide +kernel
theorem own_d_jdk_42_method_149_code_13 : decode jdk_42_method_149_code 18 = .ok (.ldc 7, 2) := by decide +kernel
theorem own_d_jdk_42_method_149_code_14 : decode jdk_42_method_149_code 20 = .ok (.getfield 15, 3) := by decide +kernel
theorem own_d_jdk_42_method_149_code_15 : decode jdk_42_method_149_code 23 = .ok (.putfield 15, 3) := by decide +kernel
theorem own_d_jdk_42_method_149_code_16 : decode jdk_42_method_149_code 26 = .ok (.return_, 1) := by decide +kernel
theorem own_pn17 : plainName "java/lang/String" = true := by first | (simp [plainName, overriddenIn]; done) | decide +kernel
set_option maxRecDepth 65536 in
set_option maxHeartbeats 40000000 in
theorem ctE4 (l : Launch) (Z : State) (a0 : Array Value) (hw : ∀ d ∈ tables_1, d.before a0 Z = true) (a b : Addr) (h : Heap) (O : Old Z Z.heap.size h) (F : own_raw Z h a) (ga : Z.heap.size ≤ a) :
    Ct 1 l Z consts_1 [a] (⟨"java/lang/String", "<init>", "([CIILjava/lang/Void;)V"⟩ : MethodName) jdk_42_method_149_code 6 none ({ frames := 1, cells := 4, slots := 8, locals := 12 } : Room) #[(.ref a), (.ref b), (.int (0 : Int32)), (.int (0 : Int32)), .null] h (fun v h' => v = none ∧ own_str Z h' a own_t0 ∧ Keep h h' [a]) := by
  refine Ct.intro (plainFor_of_name own_pn17) O (fun q => by cases q) ⟨a0, own_ew hw⟩ ?_
  intro p e s m below meth c T0 hx hby hml hret hnm hlk hsf S0
  refine Goes.cast (own_ef3 m a b (0 : Int32) (0 : Int32)) ?_
  obtain ⟨f1, ⟨v0, f2⟩, c0, f3⟩ := F
  refine g_aloadN S0.here hx (hb hby own_d_jdk_42_method_149_code_4) rfl rfl 1 rfl ?_
  refine S0.initO hx (own_q11 hw) (own_q12 hw) (own_q13 hw) (by rw [hml]; rfl) (W := 0) (by decide) (Nat.le_refl _) (by decide) (hb hby own_d_jdk_42_method_149_code_5) 4 rfl (fun T1 S1 => ?_)
  refine g_iloadN S1.here hx (hb hby own_d_jdk_42_method_149_code_6) rfl 5 rfl ?_
  refine g_ifF S1.here hx (hb hby own_d_jdk_42_method_149_code_7) 0 (by decide) (by show ¬ (¬ 0 = 0); decide) 8 rfl ?_
  refine g_aloadN S1.here hx (hb hby own_d_jdk_42_method_149_code_8) rfl rfl 9 rfl ?_
  refine S1.ldcC hx (by decide) (own_q14 hw) (own_wS hw) (by decide) (vs := (own_t0.map fun c => c.toInt8.toInt32).map Value.int) (z := Int32.ofNat own_t0.length) (by decide +kernel) (by decide +kernel) (by decide +kernel) (hb hby own_d_jdk_42_method_149_code_9) (n := 0) (by decide +kernel) (by decide) (by decide) (by decide) 11 rfl (fun vm2 T2 h2 e1 b2 k2 S2 E2 R2 q2a q2b q2c q2d N2 => ?_)
  have f_e1 : own_str Z h2 e1 own_t0 := ⟨own_t0_lat, by decide +kernel, b2, k2, q2a, q2b, q2c, q2d⟩
  have A1 := f1.ext E2
  have V1 := f2.ext E2
  have C1 := f3.ext E2
  have F1 := R2.safe f1.lt (hsf a (List.mem_singleton.mpr rfl))
  have X1 := E2
  refine S2.getF hx (host := "") (Or.inl (own_q20 hw)) Via.refl q2c (hb hby own_d_jdk_42_method_149_code_10) 14 rfl (fun T4 S4 => ?_)
  refine S4.putF hx (host := "") (Or.inl (own_q20 hw)) Via.refl V1 A1 (Or.inr ⟨(own_q16 hw), rfl, hnm⟩) (own_q1 hw) (ty := (.array .byte)) (by decide) rfl rfl F1 ga (hb hby own_d_jdk_42_method_149_code_11) 17 rfl (fun T5 h5 S5 W5 R5 => ?_)
  have A2 := A1.wr W5
  have V2 := V1.same W5
  have C2 := C1.other W5 (Or.inr (slot_ne (Or.inr (own_q17 hw)) (Or.inr (own_q16 hw)) (by decide) (t := .byte) (t' := .array .byte) (by decide) (by decide)))
  have F2 := R5.safe A1.lt F1
  have B2 := q2d.other W5 (N2 a F1).2.symm
  have K2 := Keep.of_wr W5
  refine g_aloadN S5.here hx (hb hby own_d_jdk_42_method_149_code_12) rfl rfl 18 rfl ?_
  refine S5.ldcC hx (by decide) (own_q14 hw) (own_wS hw) (by decide) (vs := (own_t0.map fun c => c.toInt8.toInt32).map Value.int) (z := Int32.ofNat own_t0.length) (by decide +kernel) (by decide +kernel) (by decide +kernel) (hb hby own_d_jdk_42_method_149_code_13) (n := 0) (by decide +kernel) (by decide) (by decide) (by decide) 20 rfl (fun vm6 T6 h6 e2 b6 k6 S6 E6 R6 q6a q6b q6c q6d N6 => ?_)
  have f_e2 : own_str Z h6 e2 own_t0 := ⟨own_t0_lat, by decide +kernel, b6, k6, q6a, q6b, q6c, q6d⟩
  have A3 := A2.ext E6
  have V3 := V2.ext E6
  have C3 := C2.ext E6
  have F3 := R6.safe A2.lt F2
  have B3 := B2.ext E6
  have K3 := ((Keep.refl h [a]).ext X1).trans K2 (fun x hx => Or.inl hx) |>.ext E6
  refine S6.getF hx (host := "") (Or.inl (own_q21 hw)) Via.refl q6b (hb hby own_d_jdk_42_method_149_code_14) 23 rfl (fun T7 S7 => ?_)
  refine S7.putF hx (host := "") (Or.inl (own_q21 hw)) Via.refl C3 A3 (Or.inr ⟨(own_q17 hw), rfl, hnm⟩) (own_q1 hw) (ty := .byte) (by decide) rfl rfl F3 ga (hb hby own_d_jdk_42_method_149_code_15) 26 rfl (fun T8 h8 S8 W8 R8 => ?_)
  have A4 := A3.wr W8
  have C4 := C3.same W8
  have V4 := V3.other W8 (Or.inr (slot_ne (Or.inr (own_q16 hw)) (Or.inr (own_q17 hw)) (by decide) (t := .array .byte) (t' := .byte) (by decide) (by decide)))
  have B4 := B3.other W8 (N2 a F1).2.symm
  have K4 := K3.wr W8 (Or.inl (List.mem_singleton.mpr rfl))
  exact S8.vret hx hlk hret (hb hby own_d_jdk_42_method_149_code_16) ⟨rfl, ⟨own_t0_lat, by decide, _, _, A4, C4, V4, B4⟩, K4⟩ (by decide) (by decide)
theorem own_ef18 (m : MethodId) (x0 : Addr) (x1 : Addr) : entryFrame m #[(.ref x0), (.ref x1)] 2 = mkF m 0 #[.val (.ref x0), .val (.ref x1)] [] := by first | (simp [entryFrame, mkF, argsToLocals, Value.category]; done) | rfl
theorem own_d_jdk_42_method_3_code_19 : decode jdk_42_method_3_code 0 = .ok (.aload_n 0, 1) := by decide +kernel
theorem own_d_jdk_42_method_3_code_20 : decode jdk_42_method_3_code 1 = .ok (.aload_n 1, 1) := by decide +kernel
theorem own_d_jdk_42_method_3_code_21 : decode jdk_42_method_3_code 2 = .ok (.iconst 0, 1) := by decide +kernel
theorem own_d_jdk_42_method_3_code_22 : decode jdk_42_method_3_code 3 = .ok (.aload_n 1, 1) := by decide +kernel
theorem own_d_jdk_42_method_3_code_23 : decode jdk_42_method_3_code 4 = .ok (.arraylength, 1) := by decide +kernel
theorem own_d_jdk_42_method_3_code_24 : decode jdk_42_method_3_code 5 = .ok (.aconst_null, 1) := by decide +kernel
theorem own_d_jdk_42_method_3_code_25 : decode jdk_42_method_3_code 6 = .ok (.invokespecial 27, 3) := by decide +kernel
theorem own_pd26 : parseMethodDescriptor "([CIILjava/lang/Void;)V" = some ⟨[(.array .char), .int, .int, (.object "java/lang/Void")], none⟩ := by decide +kernel
theorem own_d_jdk_42_method_3_code_27 : decode jdk_42_method_3_code 9 = .ok (.return_, 1) := by decide +kernel
set_option maxRecDepth 65536 in
set_option maxHeartbeats 40000000 in
theorem ctE1 (l : Launch) (Z : State) (a0 : Array Value) (hw : ∀ d ∈ tables_1, d.before a0 Z = true) (a b : Addr) (kb : ClassId) (vs : List Value) (dv : Value) (h : Heap) (O : Old Z Z.heap.size h) (F : own_raw Z h a) (ga : Z.heap.size ≤ a) (Ab : Arv Z h b kb .char (0 : Int32) vs dv) :
    Ct 1 l Z consts_1 [a] (⟨"java/lang/String", "<init>", "([C)V"⟩ : MethodName) jdk_42_method_3_code 2 none ({ frames := 2, cells := 4, slots := 8, locals := 29 } : Room) #[(.ref a), (.ref b)] h (fun v h' => v = none ∧ own_str Z h' a own_t0 ∧ Keep h h' [a]) := by
  refine Ct.intro (plainFor_of_name own_pn17) O (fun q => by cases q) ⟨a0, own_ew hw⟩ ?_
  intro p e s m below meth c T0 hx hby hml hret hnm hlk hsf S0
  refine Goes.cast (own_ef18 m a b) ?_
  refine g_aloadN S0.here hx (hb hby own_d_jdk_42_method_3_code_19) rfl rfl 1 rfl ?_
  refine g_aloadN S0.here hx (hb hby own_d_jdk_42_method_3_code_20) rfl rfl 2 rfl ?_
  refine g_iconst S0.here hx (hb hby own_d_jdk_42_method_3_code_21) (0 : Int32) (by decide) 3 rfl ?_
  refine g_aloadN S0.here hx (hb hby own_d_jdk_42_method_3_code_22) rfl rfl 4 rfl ?_
  refine S0.len hx Ab (hb hby own_d_jdk_42_method_3_code_23) 5 rfl ?_
  refine g_aconst_null S0.here hx (hb hby own_d_jdk_42_method_3_code_24) 6 rfl ?_
  refine S0.callI hx (W := 0) (a := a) rfl (own_q7 hw) (own_q8 hw) (own_q10 hw) (by decide) (own_q2 hw) (ctE4 l Z a0 hw a b h O F ga) (fun x hx => by cases List.mem_singleton.mp hx; exact ⟨F.1.lt, hsf a (List.mem_singleton.mpr rfl)⟩) (by decide) (by decide) (by rw [hml]; rfl) [(.ref b), (.int (0 : Int32)), (.int (0 : Int32)), .null] [] (lenOf own_pd26 rfl) rfl rfl (Nat.le_refl _) (hb hby own_d_jdk_42_method_3_code_25) (by decide) (by decide) 9 rfl (fun v9 vm9 T9 h9 S9 Q9 R9 => ?_)
  obtain ⟨rfl, f9, k9⟩ := Q9
  show Goes _ _ _ _ T9 (mkF m 9 #[.val (.ref a), .val (.ref b)] [])
  exact S9.vret hx hlk hret (hb hby own_d_jdk_42_method_3_code_27) ⟨rfl, f9, k9⟩ (by decide) (by decide)
theorem own_nz {z : Int32} (h : ¬ z = 0) : ¬ z.toInt = 0 := fun q => h (Int32.toInt_inj.mp (q.trans (by decide)))
def own_has (Z : State) (h : Heap) (a : Addr) (C n d : String) : Prop := ∃ w, Fld Z h a C n d w
theorem own_has.wr {Z : State} {h h' : Heap} {a b : Addr} {C n d : String} {sl : Nat} {v : Value} (F : own_has Z h a C n d) (W : Wr h h' b sl v) : own_has Z h' a C n d := by
  obtain ⟨w, F⟩ := F
  by_cases e : a = b
  · subst e
    by_cases q : Jvm.RoadKit.slotOf Z C n d = sl
    · subst q; exact ⟨v, F.same W⟩
    · exact ⟨w, F.other W (Or.inr q)⟩
  · exact ⟨w, F.other W (Or.inl e)⟩
theorem own_has.ext {Z : State} {h h' : Heap} {a : Addr} {C n d : String} (F : own_has Z h a C n d) (E : Ext h h') : own_has Z h' a C n d := by obtain ⟨w, F⟩ := F; exact ⟨w, F.ext E⟩
theorem own_ef28 (m : MethodId) (x0 : Int32) : entryFrame m #[(.int x0)] 1 = mkF m 0 #[.val (.int x0)] [] := by first | (simp [entryFrame, mkF, argsToLocals, Value.category]; done) | rfl
theorem own_d_jdk_43_method_3_code_29 : decode jdk_43_method_3_code 0 = .ok (.iload_n 0, 1) := by decide +kernel
theorem own_d_jdk_43_method_3_code_30 : decode jdk_43_method_3_code 1 = .ok (.sipush 255, 3) := by decide +kernel
theorem own_d_jdk_43_method_3_code_31 : decode jdk_43_method_3_code 4 = .ok (.if_icmp .gt 7, 3) := by decide +kernel
theorem own_d_jdk_43_method_3_code_32 : decode jdk_43_method_3_code 7 = .ok (.iconst 1, 1) := by decide +kernel
theorem own_d_jdk_43_method_3_code_33 : decode jdk_43_method_3_code 8 = .ok (.goto 4, 3) := by decide +kernel
theorem own_d_jdk_43_method_3_code_34 : decode jdk_43_method_3_code 12 = .ok (.ireturn, 1) := by decide +kernel
theorem own_pn35 : plainName "java/lang/StringLatin1" = true := by first | (simp [plainName, overriddenIn]; done) | decide +kernel
set_option maxRecDepth 65536 in
set_option maxHeartbeats 40000000 in
theorem ctCan (l : Launch) (Z : State) (a0 : Array Value) (hw : ∀ d ∈ tables_1, d.before a0 Z = true) (p1 : Int32) (h : Heap) (O : Old Z Z.heap.size h) (k1 : 0 ≤ p1.toInt ∧ p1.toInt ≤ 255) :
    Ct 1 l Z consts_1 [] (⟨"java/lang/StringLatin1", "canEncode", "(C)Z"⟩ : MethodName) jdk_43_method_3_code 1 (some .boolean) ({ frames := 0, cells := 0, slots := 0, locals := 0 } : Room) #[(.int p1)] h (fun v h' => v = some (.int 1) ∧ h = h') := by
  refine Ct.intro (plainFor_of_name own_pn35) O (fun q => by cases q) ⟨a0, own_ew hw⟩ ?_
  intro p e s m below meth c T0 hx hby hml hret hnm hlk hsf S0
  refine Goes.cast (own_ef28 m p1) ?_
  refine g_iloadN S0.here hx (hb hby own_d_jdk_43_method_3_code_29) rfl 1 rfl ?_
  refine g_sipush S0.here hx (hb hby own_d_jdk_43_method_3_code_30) (255 : Int32) (by decide) 4 rfl ?_
  refine g_icmpF S0.here hx (hb hby own_d_jdk_43_method_3_code_31) p1.toInt 255 rfl (by decide) (show ¬ (255 < p1.toInt) from by omega) 7 rfl ?_
  refine g_iconst S0.here hx (hb hby own_d_jdk_43_method_3_code_32) (1 : Int32) (by decide) 8 rfl ?_
  refine g_goto S0.here hx (hb hby own_d_jdk_43_method_3_code_33) 12 (by decide) (by decide) ?_
  exact S0.iret hx hlk hret (Or.inr (Or.inl rfl)) rfl (hb hby own_d_jdk_43_method_3_code_34) ⟨rfl, rfl⟩ (by decide) (by decide)
theorem own_d_jdk_43_method_46_code_36 : decode jdk_43_method_46_code 0 = .ok (.iconst 1, 1) := by decide +kernel
theorem own_d_jdk_43_method_46_code_37 : decode jdk_43_method_46_code 1 = .ok (.newarray .byte, 2) := by decide +kernel
theorem own_d_jdk_43_method_46_code_38 : decode jdk_43_method_46_code 3 = .ok (.dup, 1) := by decide +kernel
theorem own_d_jdk_43_method_46_code_39 : decode jdk_43_method_46_code 4 = .ok (.iconst 0, 1) := by decide +kernel
theorem own_d_jdk_43_method_46_code_40 : decode jdk_43_method_46_code 5 = .ok (.iload_n 0, 1) := by decide +kernel
theorem own_d_jdk_43_method_46_code_41 : decode jdk_43_method_46_code 6 = .ok (.i2b, 1) := by decide +kernel
theorem own_d_jdk_43_method_46_code_42 : decode jdk_43_method_46_code 7 = .ok (.bastore, 1) := by decide +kernel
theorem own_d_jdk_43_method_46_code_43 : decode jdk_43_method_46_code 8 = .ok (.areturn, 1) := by decide +kernel
set_option maxRecDepth 65536 in
set_option maxHeartbeats 40000000 in
theorem ctTB (l : Launch) (Z : State) (a0 : Array Value) (hw : ∀ d ∈ tables_1, d.before a0 Z = true) (p1 : Int32) (h : Heap) (O : Old Z Z.heap.size h) :
    Ct 1 l Z consts_1 [] (⟨"java/lang/StringLatin1", "toBytes", "(C)[B"⟩ : MethodName) jdk_43_method_46_code 1 (some (.array .byte)) ({ frames := 0, cells := 1, slots := 1, locals := 0 } : Room) #[(.int p1)] h (fun v h' => ∃ b : Addr, v = some (.ref b) ∧ Ext h h') := by
  refine Ct.intro (plainFor_of_name own_pn35) O (fun q => by cases q) ⟨a0, own_ew hw⟩ ?_
  intro p e s m below meth c T0 hx hby hml hret hnm hlk hsf S0
  refine Goes.cast (own_ef28 m p1) ?_
  refine g_iconst S0.here hx (hb hby own_d_jdk_43_method_46_code_36) (1 : Int32) (by decide) 1 rfl ?_
  refine S0.newA (aty := .byte) hx (own_q15 hw) (n := (1 : Int32)) (by decide) (cap := 1) (by decide) (by decide) (hb hby own_d_jdk_43_method_46_code_37) (by decide) (by decide) 3 rfl (fun T10 h10 b k10 S10 g10 E10 V10 F10 R10 => ?_)
  have ga : Z.heap.size ≤ b := by rw [g10]; exact S0.size
  refine g_dup S10.here hx (hb hby own_d_jdk_43_method_46_code_38) rfl 4 rfl ?_
  refine g_iconst S10.here hx (hb hby own_d_jdk_43_method_46_code_39) (0 : Int32) (by decide) 5 rfl ?_
  refine g_iloadN S10.here hx (hb hby own_d_jdk_43_method_46_code_40) rfl 6 rfl ?_
  refine g_i2b S10.here hx (hb hby own_d_jdk_43_method_46_code_41) 7 rfl ?_
  refine S10.stB hx V10 0 ⟨by decide, by decide⟩ (by decide) (by decide) ga F10 (hb hby own_d_jdk_43_method_46_code_42) 8 rfl (fun T11 h11 S11 W11 V11 R11 => ?_)
  have X : Ext h h11 := own_ext_wr E10 W11 (Nat.le_of_eq g10.symm)
  exact S11.aret hx hlk hret rfl rfl rfl (hb hby own_d_jdk_43_method_46_code_43) ⟨_, rfl, X⟩ (by decide) (by decide)
theorem own_ef44 (m : MethodId) (x0 : Addr) (x1 : Addr) (x2 : Int32) : entryFrame m #[(.ref x0), (.ref x1), (.int x2)] 3 = mkF m 0 #[.val (.ref x0), .val (.ref x1), .val (.int x2)] [] := by first | (simp [entryFrame, mkF, argsToLocals, Value.category]; done) | rfl
theorem own_d_jdk_42_method_151_code_45 : decode jdk_42_method_151_code 0 = .ok (.aload_n 0, 1) := by decide +kernel
theorem own_d_jdk_42_method_151_code_46 : decode jdk_42_method_151_code 1 = .ok (.invokespecial 1, 3) := by decide +kernel
theorem own_d_jdk_42_method_151_code_47 : decode jdk_42_method_151_code 4 = .ok (.aload_n 0, 1) := by decide +kernel
theorem own_d_jdk_42_method_151_code_48 : decode jdk_42_method_151_code 5 = .ok (.aload_n 1, 1) := by decide +kernel
theorem own_d_jdk_42_method_151_code_49 : decode jdk_42_method_151_code 6 = .ok (.putfield 9, 3) := by decide +kernel
theorem own_d_jdk_42_method_151_code_50 : decode jdk_42_method_151_code 9 = .ok (.aload_n 0, 1) := by decide +kernel
theorem own_d_jdk_42_method_151_code_51 : decode jdk_42_method_151_code 10 = .ok (.iload_n 2, 1) := by decide +kernel
theorem own_d_jdk_42_method_151_code_52 : decode jdk_42_method_151_code 11 = .ok (.putfield 15, 3) := by decide +kernel
theorem own_d_jdk_42_method_151_code_53 : decode jdk_42_method_151_code 14 = .ok (.return_, 1) := by decide +kernel
set_option maxRecDepth 65536 in
set_option maxHeartbeats 40000000 in
theorem ctSB (l : Launch) (Z : State) (a0 : Array Value) (hw : ∀ d ∈ tables_1, d.before a0 Z = true) (a b : Addr) (h : Heap) (O : Old Z Z.heap.size h) (F : own_raw Z h a) (ga : Z.heap.size ≤ a) :
    Ct 1 l Z consts_1 [a] (⟨"java/lang/String", "<init>", "([BB)V"⟩ : MethodName) jdk_42_method_151_code 3 none ({ frames := 1, cells := 0, slots := 0, locals := 12 } : Room) #[(.ref a), (.ref b), (.int (0 : Int32))] h (fun v h' => v = none ∧ Exa Z h' a "java/lang/String" ∧ Keep h h' [a]) := by
  refine Ct.intro (plainFor_of_name own_pn17) O (fun q => by cases q) ⟨a0, own_ew hw⟩ ?_
  intro p e s m below meth c T0 hx hby hml hret hnm hlk hsf S0
  refine Goes.cast (own_ef44 m a b (0 : Int32)) ?_
  obtain ⟨f1, ⟨v0, f2⟩, c0, f3⟩ := F
  refine g_aloadN S0.here hx (hb hby own_d_jdk_42_method_151_code_45) rfl rfl 1 rfl ?_
  refine S0.initO hx (own_q11 hw) (own_q12 hw) (own_q13 hw) (by rw [hml]; rfl) (W := 0) (by decide) (Nat.le_refl _) (by decide) (hb hby own_d_jdk_42_method_151_code_46) 4 rfl (fun T12 S12 => ?_)
  refine g_aloadN S12.here hx (hb hby own_d_jdk_42_method_151_code_47) rfl rfl 5 rfl ?_
  refine g_aloadN S12.here hx (hb hby own_d_jdk_42_method_151_code_48) rfl rfl 6 rfl ?_
  refine S12.putF hx (host := "") (Or.inl (own_q20 hw)) Via.refl f2 f1 (Or.inr ⟨(own_q16 hw), rfl, hnm⟩) (own_q1 hw) (ty := (.array .byte)) (by decide) rfl rfl (hsf a (List.mem_singleton.mpr rfl)) ga (hb hby own_d_jdk_42_method_151_code_49) 9 rfl (fun T13 h13 S13 W13 R13 => ?_)
  have A1 := f1.wr W13
  obtain ⟨c1, C1⟩ := own_has.wr ⟨_, f3⟩ W13
  have F1 := R13.safe f1.lt (hsf a (List.mem_singleton.mpr rfl))
  have K1 := Keep.of_wr W13
  refine g_aloadN S13.here hx (hb hby own_d_jdk_42_method_151_code_50) rfl rfl 10 rfl ?_
  refine g_iloadN S13.here hx (hb hby own_d_jdk_42_method_151_code_51) rfl 11 rfl ?_
  refine S13.putF hx (host := "") (Or.inl (own_q21 hw)) Via.refl C1 A1 (Or.inr ⟨(own_q17 hw), rfl, hnm⟩) (own_q1 hw) (ty := .byte) (by decide) rfl rfl F1 ga (hb hby own_d_jdk_42_method_151_code_52) 14 rfl (fun T14 h14 S14 W14 R14 => ?_)
  have A2 := A1.wr W14
  have K2 := K1.wr W14 (Or.inl (List.mem_singleton.mpr rfl))
  exact S14.vret hx hlk hret (hb hby own_d_jdk_42_method_151_code_53) ⟨rfl, A2, K2⟩ (by decide) (by decide)
theorem own_d_jdk_42_method_139_code_54 : decode jdk_42_method_139_code 0 = .ok (.getstatic 38, 3) := by decide +kernel
theorem own_d_jdk_42_method_139_code_55 : decode jdk_42_method_139_code 3 = .ok (.ifCond .eq 23, 3) := by decide +kernel
theorem own_d_jdk_42_method_139_code_56 : decode jdk_42_method_139_code 6 = .ok (.iload_n 0, 1) := by decide +kernel
theorem own_d_jdk_42_method_139_code_57 : decode jdk_42_method_139_code 7 = .ok (.invokestatic 1015, 3) := by decide +kernel
theorem own_pd58 : parseMethodDescriptor "(C)Z" = some ⟨[.char], some .boolean⟩ := by decide +kernel
theorem own_d_jdk_42_method_139_code_59 : decode jdk_42_method_139_code 10 = .ok (.ifCond .eq 16, 3) := by decide +kernel
theorem own_d_jdk_42_method_139_code_60 : decode jdk_42_method_139_code 13 = .ok (.new 10, 3) := by decide +kernel
theorem own_d_jdk_42_method_139_code_61 : decode jdk_42_method_139_code 16 = .ok (.dup, 1) := by decide +kernel
theorem own_d_jdk_42_method_139_code_62 : decode jdk_42_method_139_code 17 = .ok (.iload_n 0, 1) := by decide +kernel
theorem own_d_jdk_42_method_139_code_63 : decode jdk_42_method_139_code 18 = .ok (.invokestatic 1018, 3) := by decide +kernel
theorem own_pd64 : parseMethodDescriptor "(C)[B" = some ⟨[.char], some (.array .byte)⟩ := by decide +kernel
theorem own_d_jdk_42_method_139_code_65 : decode jdk_42_method_139_code 21 = .ok (.iconst 0, 1) := by decide +kernel
theorem own_d_jdk_42_method_139_code_66 : decode jdk_42_method_139_code 22 = .ok (.invokespecial 209, 3) := by decide +kernel
theorem own_pd67 : parseMethodDescriptor "([BB)V" = some ⟨[(.array .byte), .byte], none⟩ := by decide +kernel
theorem own_d_jdk_42_method_139_code_68 : decode jdk_42_method_139_code 25 = .ok (.areturn, 1) := by decide +kernel
set_option maxRecDepth 65536 in
set_option maxHeartbeats 40000000 in
theorem ctVO (l : Launch) (Z : State) (a0 : Array Value) (hw : ∀ d ∈ tables_1, d.before a0 Z = true) (p1 : Int32) (h : Heap) (O : Old Z Z.heap.size h) (G : own_cs Z) (k1 : 0 ≤ p1.toInt ∧ p1.toInt ≤ 255) :
    Ct 1 l Z consts_1 [] (⟨"java/lang/String", "valueOf", "(C)Ljava/lang/String;"⟩ : MethodName) jdk_42_method_139_code 1 (some (.object "java/lang/String")) ({ frames := 2, cells := 2, slots := 5, locals := 27 } : Room) #[(.int p1)] h (fun v h' => ∃ a : Addr, v = some (.ref a) ∧ Exa Z h' a "java/lang/String" ∧ Ext h h') := by
  refine Ct.intro (plainFor_of_name own_pn17) O (fun q => by cases q) ⟨a0, own_ew hw⟩ ?_
  intro p e s m below meth c T0 hx hby hml hret hnm hlk hsf S0
  refine Goes.cast (own_ef28 m p1) ?_
  obtain ⟨z, g1, g2⟩ := G
  refine S0.getS hx (host := "") (Or.inl (own_q26 hw)) Via.refl (g1.ext O.2) (hb hby own_d_jdk_42_method_139_code_54) 3 rfl (fun T15 S15 => ?_)
  refine g_ifF S15.here hx (hb hby own_d_jdk_42_method_139_code_55) z.toInt rfl (show ¬ (z.toInt = 0) from own_nz g2) 6 rfl ?_
  refine g_iloadN S15.here hx (hb hby own_d_jdk_42_method_139_code_56) rfl 7 rfl ?_
  refine S15.callS hx (W := 0) (own_q27 hw) (own_q28 hw) (own_q29 hw) (own_q30 hw) (by decide) (ctCan l Z a0 hw p1 h S15.old k1) nosf (by decide) (by decide) (by rw [hml]; rfl) [(.int p1)] [] (lenOf own_pd58 rfl) rfl rfl (Nat.le_refl _) (hb hby own_d_jdk_42_method_139_code_57) (by decide) (by decide) 10 rfl (fun v16 vm16 T16 h16 S16 Q16 R16 => ?_)
  obtain ⟨rfl, rfl⟩ := Q16
  show Goes _ _ _ _ T16 (mkF m 10 #[.val (.int p1)] [(.int (1 : Int32))])
  refine g_ifF S16.here hx (hb hby own_d_jdk_42_method_139_code_59) 1 (by decide) (by show ¬ (1 = 0); decide) 13 rfl ?_
  refine S16.new hx (own_q31 hw) (own_q1 hw) (own_q2 hw) (hb hby own_d_jdk_42_method_139_code_60) (by decide) (by decide) 16 rfl (fun T17 h17 a S17 g17 E17 A17 D17 F17 R17 U17 => ?_)
  have ga17 : Z.heap.size ≤ a := by rw [g17]; exact S16.size
  have r17 : own_raw Z h17 a := ⟨A17, ⟨_, D17 (Or.inr (own_q16 hw)) (ty := .array .byte) (by decide)⟩, _, D17 (Or.inr (own_q17 hw)) (ty := .byte) (by decide)⟩
  refine g_dup S17.here hx (hb hby own_d_jdk_42_method_139_code_61) rfl 17 rfl ?_
  refine g_iloadN S17.here hx (hb hby own_d_jdk_42_method_139_code_62) rfl 18 rfl ?_
  refine S17.callS hx (W := 2) (own_q32 hw) (own_q33 hw) (own_q29 hw) (own_q34 hw) (by decide) (ctTB l Z a0 hw p1 h17 S17.old) nosf (by decide) (by decide) (by rw [hml]; rfl) [(.int p1)] [(.ref a), (.ref a)] (lenOf own_pd64 rfl) rfl rfl (Nat.le_refl _) (hb hby own_d_jdk_42_method_139_code_63) (by decide) (by decide) 21 rfl (fun v18 vm18 T18 h18 S18 Q18 R18 => ?_)
  obtain ⟨b, rfl, X⟩ := Q18
  show Goes _ _ _ _ T18 (mkF m 21 #[.val (.int p1)] [(.ref b), (.ref a), (.ref a)])
  have F2 := R18.safe A17.lt F17
  have r2 := r17.ext X
  have X2 := own_ext_trans E17 X
  refine g_iconst S18.here hx (hb hby own_d_jdk_42_method_139_code_65) (0 : Int32) (by decide) 22 rfl ?_
  refine S18.callI hx (W := 1) (a := a) rfl (own_q35 hw) (own_q36 hw) (own_q37 hw) (by decide) (own_q2 hw) (ctSB l Z a0 hw a b h18 S18.old r2 ga17) (fun x hx => by cases List.mem_singleton.mp hx; exact ⟨r2.1.lt, F2⟩) (by decide) (by decide) (by rw [hml]; rfl) [(.ref b), (.int (0 : Int32))] [(.ref a)] (lenOf own_pd67 rfl) rfl rfl (Nat.le_refl _) (hb hby own_d_jdk_42_method_139_code_66) (by decide) (by decide) 25 rfl (fun v19 vm19 T19 h19 S19 Q19 R19 => ?_)
  obtain ⟨rfl, A3, K3⟩ := Q19
  show Goes _ _ _ _ T19 (mkF m 25 #[.val (.int p1)] [(.ref a)])
  have X3 := own_ext_keep X2 K3 (fun x hx => by cases List.mem_singleton.mp hx; exact Nat.le_of_eq g17.symm)
  exact S19.aret hx hlk hret rfl rfl rfl (hb hby own_d_jdk_42_method_139_code_68) ⟨_, rfl, A3, X3⟩ (by decide) (by decide)
theorem own_ef69 (m : MethodId) (x0 : Addr) : entryFrame m #[(.ref x0)] 1 = mkF m 0 #[.val (.ref x0)] [] := by first | (simp [entryFrame, mkF, argsToLocals, Value.category]; done) | rfl
theorem own_d_jdk_30_method_1_code_70 : decode jdk_30_method_1_code 0 = .ok (.aload_n 0, 1) := by decide +kernel
theorem own_d_jdk_30_method_1_code_71 : decode jdk_30_method_1_code 1 = .ok (.invokespecial 1, 3) := by decide +kernel
theorem own_d_jdk_30_method_1_code_72 : decode jdk_30_method_1_code 4 = .ok (.return_, 1) := by decide +kernel
theorem own_pn73 : plainName "java/lang/Record" = true := by first | (simp [plainName, overriddenIn]; done) | decide +kernel
set_option maxRecDepth 65536 in
set_option maxHeartbeats 40000000 in
theorem ctRec (l : Launch) (Z : State) (a0 : Array Value) (hw : ∀ d ∈ tables_1, d.before a0 Z = true) (a : Addr) (h : Heap) (O : Old Z Z.heap.size h) :
    Ct 1 l Z consts_1 [] (⟨"java/lang/Record", "<init>", "()V"⟩ : MethodName) jdk_30_method_1_code 1 none ({ frames := 1, cells := 0, slots := 0, locals := 12 } : Room) #[(.ref a)] h (fun v h' => v = none ∧ h = h') := by
  refine Ct.intro (plainFor_of_name own_pn73) O (fun q => by cases q) ⟨a0, own_ew hw⟩ ?_
  intro p e s m below meth c T0 hx hby hml hret hnm hlk hsf S0
  refine Goes.cast (own_ef69 m a) ?_
  refine g_aloadN S0.here hx (hb hby own_d_jdk_30_method_1_code_70) rfl rfl 1 rfl ?_
  refine S0.initO hx (own_q52 hw) (own_q12 hw) (own_q13 hw) (by rw [hml]; rfl) (W := 0) (by decide) (Nat.le_refl _) (by decide) (hb hby own_d_jdk_30_method_1_code_71) 4 rfl (fun T20 S20 => ?_)
  exact S20.vret hx hlk hret (hb hby own_d_jdk_30_method_1_code_72) ⟨rfl, rfl⟩ (by decide) (by decide)
def own_bs (ds : List Int32) : List Value := (ds.map fun c => c.toInt8.toInt32).map Value.int
theorem own_bs_len (ds : List Int32) : (own_bs ds).length = ds.length := by simp [own_bs]
/-- a StringBuilder of Latin-1 chars, its array of 16 bytes not full -/
def own_sb (Z : State) (h : Heap) (a b : Addr) (ds : List Int32) : Prop := own_lat ds ∧ ds.length ≤ 15 ∧ ∃ k, Exa Z h a "java/lang/StringBuilder" ∧ Fld Z h a "java/lang/AbstractStringBuilder" "value" "[B" (.ref b) ∧ Fld Z h a "java/lang/AbstractStringBuilder" "coder" "B" (.int 0) ∧ Fld Z h a "java/lang/AbstractStringBuilder" "count" "I" (.int (Int32.ofNat ds.length)) ∧ Arv Z h b k .byte (16 : Int32) (own_bs ds ++ List.replicate (16 - ds.length) (.int 0)) (.int 0)
theorem own_sb.ext {Z : State} {h h' : Heap} {a b : Addr} {ds : List Int32} (F : own_sb Z h a b ds) (E : Ext h h') : own_sb Z h' a b ds := by
  obtain ⟨f1, f2, k, f3, f4, f5, f6, f7⟩ := F; exact ⟨f1, f2, k, f3.ext E, f4.ext E, f5.ext E, f6.ext E, f7.ext E⟩
theorem own_sb.keep {Z : State} {h h' : Heap} {a b : Addr} {ds : List Int32} {ws : List Addr} (F : own_sb Z h a b ds) (K : Keep h h' ws) (qa : a ∉ ws) (qb : b ∉ ws) : own_sb Z h' a b ds := by
  obtain ⟨f1, f2, k, f3, f4, f5, f6, f7⟩ := F; exact ⟨f1, f2, k, f3.keep K, f4.keep K qa, f5.keep K qa, f6.keep K qa, f7.keep K qb⟩
theorem own_sb.exa {Z : State} {h : Heap} {a b : Addr} {ds : List Int32} (F : own_sb Z h a b ds) : Exa Z h a "java/lang/StringBuilder" := by obtain ⟨_, _, _, f, -⟩ := F; exact f
theorem own_sb.ltb {Z : State} {h : Heap} {a b : Addr} {ds : List Int32} (F : own_sb Z h a b ds) : b < h.size := by obtain ⟨_, _, _, -, -, -, -, f⟩ := F; exact f.lt
def own_rawb (Z : State) (h : Heap) (a : Addr) : Prop := Exa Z h a "java/lang/StringBuilder" ∧ (∃ v, Fld Z h a "java/lang/AbstractStringBuilder" "value" "[B" v) ∧ (∃ v, Fld Z h a "java/lang/AbstractStringBuilder" "coder" "B" v) ∧ Fld Z h a "java/lang/AbstractStringBuilder" "count" "I" (.int 0)
theorem own_clamp {n : Nat} (h : n ≤ 4000) : (Int32.ofNat n).toNatClampNeg = n := by
  have := own_nat h
  simp only [Int32.toNatClampNeg]; omega
theorem own_nneg {n : Nat} (h : n ≤ 4000) : ¬ Int32.ofNat n < 0 := by
  have := own_nat h
  have e : (0 : Int32).toInt = 0 := by decide
  rw [Int32.lt_iff_toInt_lt]; omega
theorem own_range (vs : List Value) (d : Value) (n : Nat) (hn : n ≤ vs.length) : vs.take n = (List.range n).map fun i => vs.getD (0 + i) d := by
  apply List.ext_getElem
  · simp; omega
  · intro i h1 h2
    have hi : i < vs.length := by simp at h1; omega
    simp [List.getD_eq_getElem?_getD, List.getElem?_eq_getElem hi]
theorem own_take (ds : List Int32) (r : List Value) : (own_bs ds ++ r).take ds.length = own_bs ds := by
  have := own_bs_len ds
  rw [← this]; simp
theorem own_put (ds cs : List Int32) (h : ds.length + cs.length ≤ 16) : (own_bs ds ++ List.replicate (16 - ds.length) (Value.int 0)).take ds.length ++ own_bs cs ++ (own_bs ds ++ List.replicate (16 - ds.length) (Value.int 0)).drop (ds.length + cs.length) = own_bs (ds ++ cs) ++ List.replicate (16 - (ds ++ cs).length) (Value.int 0) := by
  rw [own_take]
  have e1 : (own_bs ds ++ List.replicate (16 - ds.length) (Value.int 0)).drop (ds.length + cs.length) = List.replicate (16 - (ds ++ cs).length) (Value.int 0) := by
    rw [List.drop_append, own_bs_len, List.drop_eq_nil_of_le (by rw [own_bs_len]; omega), List.drop_replicate, List.nil_append, List.length_append]
    congr 1; omega
  rw [e1]
  simp [own_bs]
theorem own_ofadd (a b : Nat) (h : a + b ≤ 4000) : Int32.ofNat a + Int32.ofNat b = Int32.ofNat (a + b) := by
  refine Int32.toInt_inj.mp ?_
  have h1 := c_iadd (Int32.ofNat a) (Int32.ofNat b)
  have h2 := own_nat (n := a) (by omega)
  have h3 := own_nat (n := b) (by omega)
  have h4 := own_nat (n := a + b) (by omega)
  have h5 := rng32 (Int32.ofNat a + Int32.ofNat b)
  omega
theorem own_shl0 (x : Int32) : x <<< ((0 : Int32) &&& 31) = x := by
  rw [show ((0 : Int32) &&& 31) = 0 from by decide]
  exact Int32.toBitVec_inj.mp (by simp)
theorem own_sub0 (x : Int32) : x - (0 : Int32) = x := Int32.sub_zero x
theorem own_keep_mono {h h' : Heap} {ws vs : List Addr} (K : Keep h h' ws) (q : ∀ x ∈ ws, x ∈ vs) : Keep h h' vs := ⟨K.1, fun x c r n => K.2.1 x c r fun z => n (q x z), K.2.2⟩
theorem own_ef74 (m : MethodId) (x0 : Addr) (x1 : Int32) : entryFrame m #[(.ref x0), (.int x1)] 2 = mkF m 0 #[.val (.ref x0), .val (.int x1)] [] := by first | (simp [entryFrame, mkF, argsToLocals, Value.category]; done) | rfl
theorem own_d_jdk_68_method_2_code_75 : decode jdk_68_method_2_code 0 = .ok (.aload_n 0, 1) := by decide +kernel
theorem own_d_jdk_68_method_2_code_76 : decode jdk_68_method_2_code 1 = .ok (.invokespecial 3, 3) := by decide +kernel
theorem own_d_jdk_68_method_2_code_77 : decode jdk_68_method_2_code 4 = .ok (.getstatic 18, 3) := by decide +kernel
theorem own_d_jdk_68_method_2_code_78 : decode jdk_68_method_2_code 7 = .ok (.ifCond .eq 18, 3) := by decide +kernel
theorem own_d_jdk_68_method_2_code_79 : decode jdk_68_method_2_code 10 = .ok (.aload_n 0, 1) := by decide +kernel
theorem own_d_jdk_68_method_2_code_80 : decode jdk_68_method_2_code 11 = .ok (.iload_n 1, 1) := by decide +kernel
theorem own_d_jdk_68_method_2_code_81 : decode jdk_68_method_2_code 12 = .ok (.newarray .byte, 2) := by decide +kernel
theorem own_d_jdk_68_method_2_code_82 : decode jdk_68_method_2_code 14 = .ok (.putfield 15, 3) := by decide +kernel
theorem own_d_jdk_68_method_2_code_83 : decode jdk_68_method_2_code 17 = .ok (.aload_n 0, 1) := by decide +kernel
theorem own_d_jdk_68_method_2_code_84 : decode jdk_68_method_2_code 18 = .ok (.iconst 0, 1) := by decide +kernel
theorem own_d_jdk_68_method_2_code_85 : decode jdk_68_method_2_code 19 = .ok (.putfield 22, 3) := by decide +kernel
theorem own_d_jdk_68_method_2_code_86 : decode jdk_68_method_2_code 22 = .ok (.goto 16, 3) := by decide +kernel
theorem own_d_jdk_68_method_2_code_87 : decode jdk_68_method_2_code 38 = .ok (.return_, 1) := by decide +kernel
theorem own_pn88 : plainName "java/lang/AbstractStringBuilder" = true := by first | (simp [plainName, overriddenIn]; done) | decide +kernel
set_option maxRecDepth 65536 in
set_option maxHeartbeats 40000000 in
theorem ctAI (l : Launch) (Z : State) (a0 : Array Value) (hw : ∀ d ∈ tables_1, d.before a0 Z = true) (a : Addr) (h : Heap) (O : Old Z Z.heap.size h) (G : own_cs Z) (F : own_rawb Z h a) (ga : Z.heap.size ≤ a) :
    Ct 0 l Z [] [] (⟨"java/lang/AbstractStringBuilder", "<init>", "(I)V"⟩ : MethodName) jdk_68_method_2_code 2 none ({ frames := 1, cells := 1, slots := 16, locals := 12 } : Room) #[(.ref a), (.int (16 : Int32))] h (fun v h' => v = none ∧ (∃ b : Addr, own_sb Z h' a b [] ∧ h.size ≤ b) ∧ Keep h h' [a]) := by
  refine Ct.intro (plainFor_of_name own_pn88) O (fun _ => rfl) ⟨a0, EW.nil⟩ ?_
  intro p e s m below meth c T0 hx hby hml hret hnm hlk hsf S0
  refine Goes.cast (own_ef74 m a (16 : Int32)) ?_
  obtain ⟨f1, ⟨v0, f2⟩, ⟨c0, f3⟩, f4⟩ := F
  refine g_aloadN S0.here hx (hb hby own_d_jdk_68_method_2_code_75) rfl rfl 1 rfl ?_
  refine S0.initO hx (own_q89 hw) (own_q12 hw) (own_q13 hw) (by rw [hml]; rfl) (W := 0) (by decide) (Nat.le_refl _) (by decide) (hb hby own_d_jdk_68_method_2_code_76) 4 rfl (fun T21 S21 => ?_)
  obtain ⟨z, g1, g2⟩ := G
  refine S21.getS hx (host := "") (Or.inl (own_q90 hw)) Via.refl (g1.ext O.2) (hb hby own_d_jdk_68_method_2_code_77) 7 rfl (fun T22 S22 => ?_)
  refine g_ifF S22.here hx (hb hby own_d_jdk_68_method_2_code_78) z.toInt rfl (show ¬ (z.toInt = 0) from own_nz g2) 10 rfl ?_
  refine g_aloadN S22.here hx (hb hby own_d_jdk_68_method_2_code_79) rfl rfl 11 rfl ?_
  refine g_iloadN S22.here hx (hb hby own_d_jdk_68_method_2_code_80) rfl 12 rfl ?_
  refine S22.newA (aty := .byte) hx (own_q15 hw) (n := (16 : Int32)) (by decide) (cap := 16) (by decide) (by decide) (hb hby own_d_jdk_68_method_2_code_81) (by decide) (by decide) 14 rfl (fun T23 h23 b k23 S23 g23 E23 V23 F23 R23 => ?_)
  have ne : b ≠ a := own_ne_new g23 f1.lt
  have f1 := f1.ext E23
  have f2 := f2.ext E23
  have f3 := f3.ext E23
  have f4 := f4.ext E23
  have K1 := (Keep.refl h [a]).ext E23
  refine S23.putF hx (host := "") (Or.inl (own_q91 hw)) Via.refl f2 f1 (Or.inl (own_q92 hw)) (own_q78 hw) (ty := (.array .byte)) (by decide) rfl rfl safe_nil ga (hb hby own_d_jdk_68_method_2_code_82) 17 rfl (fun T24 h24 S24 W24 R24 => ?_)
  have f1 := f1.wr W24
  have f2 := f2.same W24
  have f3 := f3.other W24 (Or.inr (slot_ne (Or.inl (own_q94 hw)) (Or.inl (own_q92 hw)) (by decide) (t := .byte) (t' := (.array .byte)) (by decide) (by decide)))
  have f4 := f4.other W24 (Or.inr (slot_ne (Or.inl (own_q117 hw)) (Or.inl (own_q92 hw)) (by decide) (t := .int) (t' := (.array .byte)) (by decide) (by decide)))
  have V1 := V23.other W24 ne
  have K1 := K1.wr W24 (Or.inl (List.mem_singleton.mpr rfl))
  refine g_aloadN S24.here hx (hb hby own_d_jdk_68_method_2_code_83) rfl rfl 18 rfl ?_
  refine g_iconst S24.here hx (hb hby own_d_jdk_68_method_2_code_84) (0 : Int32) (by decide) 19 rfl ?_
  refine S24.putF hx (host := "") (Or.inl (own_q93 hw)) Via.refl f3 f1 (Or.inl (own_q94 hw)) (own_q78 hw) (ty := .byte) (by decide) rfl rfl safe_nil ga (hb hby own_d_jdk_68_method_2_code_85) 22 rfl (fun T25 h25 S25 W25 R25 => ?_)
  have f1 := f1.wr W25
  have f3 := f3.same W25
  have f2 := f2.other W25 (Or.inr (slot_ne (Or.inl (own_q92 hw)) (Or.inl (own_q94 hw)) (by decide) (t := (.array .byte)) (t' := .byte) (by decide) (by decide)))
  have f4 := f4.other W25 (Or.inr (slot_ne (Or.inl (own_q117 hw)) (Or.inl (own_q94 hw)) (by decide) (t := .int) (t' := .byte) (by decide) (by decide)))
  have V1 := V1.other W25 ne
  have K1 := K1.wr W25 (Or.inl (List.mem_singleton.mpr rfl))
  refine g_goto S25.here hx (hb hby own_d_jdk_68_method_2_code_86) 38 (by decide) (by decide) ?_
  exact S25.vret hx hlk hret (hb hby own_d_jdk_68_method_2_code_87) ⟨rfl, ⟨b, ⟨own_lat_nil, by decide, _, f1, f2, f3, f4, V1⟩, Nat.le_of_eq g23.symm⟩, K1⟩ (by decide) (by decide)
theorem own_d_jdk_67_method_1_code_89 : decode jdk_67_method_1_code 0 = .ok (.aload_n 0, 1) := by decide +kernel
theorem own_d_jdk_67_method_1_code_90 : decode jdk_67_method_1_code 1 = .ok (.bipush 16, 2) := by decide +kernel
theorem own_d_jdk_67_method_1_code_91 : decode jdk_67_method_1_code 3 = .ok (.invokespecial 1, 3) := by decide +kernel
theorem own_pd92 : parseMethodDescriptor "(I)V" = some ⟨[.int], none⟩ := by decide +kernel
theorem own_d_jdk_67_method_1_code_93 : decode jdk_67_method_1_code 6 = .ok (.return_, 1) := by decide +kernel
theorem own_pn94 : plainName "java/lang/StringBuilder" = true := by first | (simp [plainName, overriddenIn]; done) | decide +kernel
set_option maxRecDepth 65536 in
set_option maxHeartbeats 40000000 in
theorem ctSI (l : Launch) (Z : State) (a0 : Array Value) (hw : ∀ d ∈ tables_1, d.before a0 Z = true) (a : Addr) (h : Heap) (O : Old Z Z.heap.size h) (G : own_cs Z) (F : own_rawb Z h a) (ga : Z.heap.size ≤ a) :
    Ct 0 l Z [] [] (⟨"java/lang/StringBuilder", "<init>", "()V"⟩ : MethodName) jdk_67_method_1_code 1 none ({ frames := 2, cells := 1, slots := 16, locals := 25 } : Room) #[(.ref a)] h (fun v h' => v = none ∧ (∃ b : Addr, own_sb Z h' a b [] ∧ h.size ≤ b) ∧ Keep h h' [a]) := by
  refine Ct.intro (plainFor_of_name own_pn94) O (fun _ => rfl) ⟨a0, EW.nil⟩ ?_
  intro p e s m below meth c T0 hx hby hml hret hnm hlk hsf S0
  refine Goes.cast (own_ef69 m a) ?_
  refine g_aloadN S0.here hx (hb hby own_d_jdk_67_method_1_code_89) rfl rfl 1 rfl ?_
  refine g_bipush S0.here hx (hb hby own_d_jdk_67_method_1_code_90) (16 : Int32) (by decide) 3 rfl ?_
  refine S0.callI hx (W := 0) (a := a) rfl (own_q83 hw) (own_q84 hw) (own_q88 hw) (by decide) (own_q87 hw) (ctAI l Z a0 hw a h O G F ga) nosf (by decide) (by decide) (by rw [hml]; rfl) [(.int (16 : Int32))] [] (lenOf own_pd92 rfl) rfl rfl (Nat.le_refl _) (hb hby own_d_jdk_67_method_1_code_91) (by decide) (by decide) 6 rfl (fun v26 vm26 T26 h26 S26 Q26 R26 => ?_)
  obtain ⟨rfl, B, KK⟩ := Q26
  show Goes _ _ _ _ T26 (mkF m 6 #[.val (.ref a)] [])
  exact S26.vret hx hlk hret (hb hby own_d_jdk_67_method_1_code_93) ⟨rfl, B, KK⟩ (by decide) (by decide)
theorem own_d_jdk_42_method_152_code_95 : decode jdk_42_method_152_code 0 = .ok (.getstatic 38, 3) := by decide +kernel
theorem own_d_jdk_42_method_152_code_96 : decode jdk_42_method_152_code 3 = .ok (.ifCond .eq 10, 3) := by decide +kernel
theorem own_d_jdk_42_method_152_code_97 : decode jdk_42_method_152_code 6 = .ok (.aload_n 0, 1) := by decide +kernel
theorem own_d_jdk_42_method_152_code_98 : decode jdk_42_method_152_code 7 = .ok (.getfield 15, 3) := by decide +kernel
theorem own_d_jdk_42_method_152_code_99 : decode jdk_42_method_152_code 10 = .ok (.goto 4, 3) := by decide +kernel
theorem own_d_jdk_42_method_152_code_100 : decode jdk_42_method_152_code 14 = .ok (.ireturn, 1) := by decide +kernel
set_option maxRecDepth 65536 in
set_option maxHeartbeats 40000000 in
theorem ctCo (l : Launch) (Z : State) (a0 : Array Value) (hw : ∀ d ∈ tables_1, d.before a0 Z = true) (a : Addr) (cs : List Int32) (h : Heap) (O : Old Z Z.heap.size h) (G : own_cs Z) (F : own_str Z h a cs) :
    Ct 0 l Z [] [] (⟨"java/lang/String", "coder", "()B"⟩ : MethodName) jdk_42_method_152_code 1 (some .byte) ({ frames := 0, cells := 0, slots := 0, locals := 0 } : Room) #[(.ref a)] h (fun v h' => v = some (.int 0) ∧ h = h') := by
  refine Ct.intro (plainFor_of_name own_pn17) O (fun _ => rfl) ⟨a0, EW.nil⟩ ?_
  intro p e s m below meth c T0 hx hby hml hret hnm hlk hsf S0
  refine Goes.cast (own_ef69 m a) ?_
  obtain ⟨f1, f2, t, kt, f3, f4, f5, f6⟩ := F
  obtain ⟨z, g1, g2⟩ := G
  refine S0.getS hx (host := "") (Or.inl (own_q26 hw)) Via.refl (g1.ext O.2) (hb hby own_d_jdk_42_method_152_code_95) 3 rfl (fun T27 S27 => ?_)
  refine g_ifF S27.here hx (hb hby own_d_jdk_42_method_152_code_96) z.toInt rfl (show ¬ (z.toInt = 0) from own_nz g2) 6 rfl ?_
  refine g_aloadN S27.here hx (hb hby own_d_jdk_42_method_152_code_97) rfl rfl 7 rfl ?_
  refine S27.getF hx (host := "") (Or.inl (own_q21 hw)) Via.refl f4 (hb hby own_d_jdk_42_method_152_code_98) 10 rfl (fun T28 S28 => ?_)
  refine g_goto S28.here hx (hb hby own_d_jdk_42_method_152_code_99) 14 (by decide) (by decide) ?_
  exact S28.iret hx hlk hret (Or.inr (Or.inr (Or.inl rfl))) rfl (hb hby own_d_jdk_42_method_152_code_100) ⟨rfl, rfl⟩ (by decide) (by decide)
theorem own_ef101 (m : MethodId) (x0 : Addr) (x1 : Int32) : entryFrame m #[(.ref x0), (.int x1)] 3 = mkF m 0 #[.val (.ref x0), .val (.int x1), .unset] [] := by first | (simp [entryFrame, mkF, argsToLocals, Value.category]; done) | rfl
theorem own_d_jdk_68_method_9_code_102 : decode jdk_68_method_9_code 0 = .ok (.aload_n 0, 1) := by decide +kernel
theorem own_d_jdk_68_method_9_code_103 : decode jdk_68_method_9_code 1 = .ok (.getfield 15, 3) := by decide +kernel
theorem own_d_jdk_68_method_9_code_104 : decode jdk_68_method_9_code 4 = .ok (.arraylength, 1) := by decide +kernel
theorem own_d_jdk_68_method_9_code_105 : decode jdk_68_method_9_code 5 = .ok (.aload_n 0, 1) := by decide +kernel
theorem own_d_jdk_68_method_9_code_106 : decode jdk_68_method_9_code 6 = .ok (.getfield 22, 3) := by decide +kernel
theorem own_d_jdk_68_method_9_code_107 : decode jdk_68_method_9_code 9 = .ok (.ishr, 1) := by decide +kernel
theorem own_d_jdk_68_method_9_code_108 : decode jdk_68_method_9_code 10 = .ok (.istore_n 2, 1) := by decide +kernel
theorem own_d_jdk_68_method_9_code_109 : decode jdk_68_method_9_code 11 = .ok (.iload_n 1, 1) := by decide +kernel
theorem own_d_jdk_68_method_9_code_110 : decode jdk_68_method_9_code 12 = .ok (.iload_n 2, 1) := by decide +kernel
theorem own_d_jdk_68_method_9_code_111 : decode jdk_68_method_9_code 13 = .ok (.isub, 1) := by decide +kernel
theorem own_d_jdk_68_method_9_code_112 : decode jdk_68_method_9_code 14 = .ok (.ifCond .le 24, 3) := by decide +kernel
theorem own_d_jdk_68_method_9_code_113 : decode jdk_68_method_9_code 38 = .ok (.return_, 1) := by decide +kernel
set_option maxRecDepth 65536 in
set_option maxHeartbeats 40000000 in
theorem ctEC (l : Launch) (Z : State) (a0 : Array Value) (hw : ∀ d ∈ tables_1, d.before a0 Z = true) (a b : Addr) (ds : List Int32) (p1 : Int32) (h : Heap) (O : Old Z Z.heap.size h) (D : own_sb Z h a b ds) (hp : 0 ≤ p1.toInt ∧ p1.toInt ≤ 16) :
    Ct 0 l Z [] [] (⟨"java/lang/AbstractStringBuilder", "ensureCapacityInternal", "(I)V"⟩ : MethodName) jdk_68_method_9_code 3 none ({ frames := 0, cells := 0, slots := 0, locals := 0 } : Room) #[(.ref a), (.int p1)] h (fun v h' => v = none ∧ h = h') := by
  refine Ct.intro (plainFor_of_name own_pn88) O (fun _ => rfl) ⟨a0, EW.nil⟩ ?_
  intro p e s m below meth c T0 hx hby hml hret hnm hlk hsf S0
  refine Goes.cast (own_ef101 m a p1) ?_
  obtain ⟨d1, d2, k, d3, d4, d5, d6, d7⟩ := D
  refine g_aloadN S0.here hx (hb hby own_d_jdk_68_method_9_code_102) rfl rfl 1 rfl ?_
  refine S0.getF hx (host := "") (Or.inl (own_q91 hw)) Via.refl d4 (hb hby own_d_jdk_68_method_9_code_103) 4 rfl (fun T29 S29 => ?_)
  refine S29.len hx d7 (hb hby own_d_jdk_68_method_9_code_104) 5 rfl ?_
  refine g_aloadN S29.here hx (hb hby own_d_jdk_68_method_9_code_105) rfl rfl 6 rfl ?_
  refine S29.getF hx (host := "") (Or.inl (own_q93 hw)) Via.refl d5 (hb hby own_d_jdk_68_method_9_code_106) 9 rfl (fun T30 S30 => ?_)
  refine g_ishr S30.here hx (hb hby own_d_jdk_68_method_9_code_107) 10 rfl ?_
  rw [show ((16 : Int32) >>> ((0 : Int32) &&& 31)) = 16 from by decide]
  refine g_istoreN S30.here hx (hb hby own_d_jdk_68_method_9_code_108) #[.val (.ref a), .val (.int p1), .val (.int (16 : Int32))] rfl 11 rfl ?_
  refine g_iloadN S30.here hx (hb hby own_d_jdk_68_method_9_code_109) rfl 12 rfl ?_
  refine g_iloadN S30.here hx (hb hby own_d_jdk_68_method_9_code_110) rfl 13 rfl ?_
  refine g_isub S30.here hx (hb hby own_d_jdk_68_method_9_code_111) 14 rfl ?_
  refine g_ifT S30.here hx (hb hby own_d_jdk_68_method_9_code_112) (p1 - (16 : Int32)).toInt rfl (show (p1 - (16 : Int32)).toInt ≤ 0 from by have e := c_isub p1 16; have e2 := rng32 (p1 - 16); have e3 : (16 : Int32).toInt = 16 := (by decide); omega) 38 (by decide) (by decide) ?_
  exact S30.vret hx hlk hret (hb hby own_d_jdk_68_method_9_code_113) ⟨rfl, rfl⟩ (by decide) (by decide)
theorem own_d_jdk_68_method_71_code_114 : decode jdk_68_method_71_code 0 = .ok (.getstatic 18, 3) := by decide +kernel
theorem own_d_jdk_68_method_71_code_115 : decode jdk_68_method_71_code 3 = .ok (.ifCond .eq 18, 3) := by decide +kernel
theorem own_d_jdk_68_method_71_code_116 : decode jdk_68_method_71_code 6 = .ok (.aload_n 0, 1) := by decide +kernel
theorem own_d_jdk_68_method_71_code_117 : decode jdk_68_method_71_code 7 = .ok (.getfield 22, 3) := by decide +kernel
theorem own_d_jdk_68_method_71_code_118 : decode jdk_68_method_71_code 10 = .ok (.aload_n 1, 1) := by decide +kernel
theorem own_d_jdk_68_method_71_code_119 : decode jdk_68_method_71_code 11 = .ok (.invokevirtual 40, 3) := by decide +kernel
theorem own_pd120 : parseMethodDescriptor "()B" = some ⟨[], some .byte⟩ := by decide +kernel
theorem own_d_jdk_68_method_71_code_121 : decode jdk_68_method_71_code 14 = .ok (.if_icmp .eq 7, 3) := by decide +kernel
theorem own_d_jdk_68_method_71_code_122 : decode jdk_68_method_71_code 21 = .ok (.return_, 1) := by decide +kernel
set_option maxRecDepth 65536 in
set_option maxHeartbeats 40000000 in
theorem ctIN (l : Launch) (Z : State) (a0 : Array Value) (hw : ∀ d ∈ tables_1, d.before a0 Z = true) (a b t : Addr) (ds cs : List Int32) (h : Heap) (O : Old Z Z.heap.size h) (G : own_cs Z) (D : own_sb Z h a b ds) (F : own_str Z h t cs) :
    Ct 0 l Z [] [] (⟨"java/lang/AbstractStringBuilder", "inflateIfNeededFor", "(Ljava/lang/String;)V"⟩ : MethodName) jdk_68_method_71_code 2 none ({ frames := 1, cells := 0, slots := 0, locals := 13 } : Room) #[(.ref a), (.ref t)] h (fun v h' => v = none ∧ h = h') := by
  refine Ct.intro (plainFor_of_name own_pn88) O (fun _ => rfl) ⟨a0, EW.nil⟩ ?_
  intro p e s m below meth c T0 hx hby hml hret hnm hlk hsf S0
  refine Goes.cast (own_ef18 m a t) ?_
  obtain ⟨d1, d2, k, d3, d4, d5, d6, d7⟩ := D
  have G' := G
  obtain ⟨z, g1, g2⟩ := G
  refine S0.getS hx (host := "") (Or.inl (own_q90 hw)) Via.refl (g1.ext O.2) (hb hby own_d_jdk_68_method_71_code_114) 3 rfl (fun T31 S31 => ?_)
  refine g_ifF S31.here hx (hb hby own_d_jdk_68_method_71_code_115) z.toInt rfl (show ¬ (z.toInt = 0) from own_nz g2) 6 rfl ?_
  refine g_aloadN S31.here hx (hb hby own_d_jdk_68_method_71_code_116) rfl rfl 7 rfl ?_
  refine S31.getF hx (host := "") (Or.inl (own_q93 hw)) Via.refl d5 (hb hby own_d_jdk_68_method_71_code_117) 10 rfl (fun T32 S32 => ?_)
  refine g_aloadN S32.here hx (hb hby own_d_jdk_68_method_71_code_118) rfl rfl 11 rfl ?_
  refine S32.callV hx (W := 1) (C := "java/lang/String") (own_q133 hw) (own_q112 hw) (notFace_of_selects (args := #[]) (mvT S32.warm (own_q114 hw))) (own_q114 hw) (own_q113 hw) (by decide) F.exa (own_q115 hw) (own_q2 hw) (ctCo l Z a0 hw t cs h O G' F) nosf (by decide) (by decide) (by rw [hml]; rfl) [] [(.int (0 : Int32))] (lenOf own_pd120 rfl) rfl rfl (Nat.le_refl _) (hb hby own_d_jdk_68_method_71_code_119) (by decide) (by decide) 14 rfl (fun v33 vm33 T33 h33 S33 Q33 R33 => ?_)
  obtain ⟨rfl, rfl⟩ := Q33
  show Goes _ _ _ _ T33 (mkF m 14 #[.val (.ref a), .val (.ref t)] [(.int (0 : Int32)), (.int (0 : Int32))])
  refine g_icmpT S33.here hx (hb hby own_d_jdk_68_method_71_code_121) 0 0 (by decide) (by decide) (by show 0 = 0; decide) 21 (by decide) (by decide) ?_
  exact S33.vret hx hlk hret (hb hby own_d_jdk_68_method_71_code_122) ⟨rfl, rfl⟩ (by decide) (by decide)
theorem own_ef123 (m : MethodId) (x0 : Addr) (x1 : Addr) (x2 : Int32) (x3 : Int32) : entryFrame m #[(.ref x0), (.ref x1), (.int x2), (.int x3)] 4 = mkF m 0 #[.val (.ref x0), .val (.ref x1), .val (.int x2), .val (.int x3)] [] := by first | (simp [entryFrame, mkF, argsToLocals, Value.category]; done) | rfl
theorem own_d_jdk_42_method_147_code_124 : decode jdk_42_method_147_code 0 = .ok (.aload_n 0, 1) := by decide +kernel
theorem own_d_jdk_42_method_147_code_125 : decode jdk_42_method_147_code 1 = .ok (.invokevirtual 335, 3) := by decide +kernel
theorem own_d_jdk_42_method_147_code_126 : decode jdk_42_method_147_code 4 = .ok (.iload_n 3, 1) := by decide +kernel
theorem own_d_jdk_42_method_147_code_127 : decode jdk_42_method_147_code 5 = .ok (.if_icmp .ne 23, 3) := by decide +kernel
theorem own_d_jdk_42_method_147_code_128 : decode jdk_42_method_147_code 8 = .ok (.aload_n 0, 1) := by decide +kernel
theorem own_d_jdk_42_method_147_code_129 : decode jdk_42_method_147_code 9 = .ok (.getfield 9, 3) := by decide +kernel
theorem own_d_jdk_42_method_147_code_130 : decode jdk_42_method_147_code 12 = .ok (.iconst 0, 1) := by decide +kernel
theorem own_d_jdk_42_method_147_code_131 : decode jdk_42_method_147_code 13 = .ok (.aload_n 1, 1) := by decide +kernel
theorem own_d_jdk_42_method_147_code_132 : decode jdk_42_method_147_code 14 = .ok (.iload_n 2, 1) := by decide +kernel
theorem own_d_jdk_42_method_147_code_133 : decode jdk_42_method_147_code 15 = .ok (.iload_n 3, 1) := by decide +kernel
theorem own_d_jdk_42_method_147_code_134 : decode jdk_42_method_147_code 16 = .ok (.ishl, 1) := by decide +kernel
theorem own_d_jdk_42_method_147_code_135 : decode jdk_42_method_147_code 17 = .ok (.aload_n 0, 1) := by decide +kernel
theorem own_d_jdk_42_method_147_code_136 : decode jdk_42_method_147_code 18 = .ok (.getfield 9, 3) := by decide +kernel
theorem own_d_jdk_42_method_147_code_137 : decode jdk_42_method_147_code 21 = .ok (.arraylength, 1) := by decide +kernel
theorem own_d_jdk_42_method_147_code_138 : decode jdk_42_method_147_code 22 = .ok (.invokestatic 212, 3) := by decide +kernel
theorem own_d_jdk_42_method_147_code_139 : decode jdk_42_method_147_code 25 = .ok (.goto 18, 3) := by decide +kernel
theorem own_d_jdk_42_method_147_code_140 : decode jdk_42_method_147_code 43 = .ok (.return_, 1) := by decide +kernel
set_option maxRecDepth 65536 in
set_option maxHeartbeats 40000000 in
theorem ctGB (l : Launch) (Z : State) (a0 : Array Value) (hw : ∀ d ∈ tables_1, d.before a0 Z = true) (t b : Addr) (n : Nat) (cs : List Int32) (kb : ClassId) (vd : List Value) (h : Heap) (O : Old Z Z.heap.size h) (G : own_cs Z) (F : own_str Z h t cs) (B : Arv Z h b kb .byte (16 : Int32) vd (.int 0)) (bl : vd.length = 16) (hn : n + cs.length ≤ 16) (ge : Z.heap.size ≤ b) :
    Ct 0 l Z [] [] (⟨"java/lang/String", "getBytes", "([BIB)V"⟩ : MethodName) jdk_42_method_147_code 4 none ({ frames := 1, cells := 0, slots := 0, locals := 40 } : Room) #[(.ref t), (.ref b), (.int (Int32.ofNat n)), (.int (0 : Int32))] h (fun v h' => v = none ∧ Keep h h' [b] ∧ Arv Z h' b kb .byte (16 : Int32) (vd.take n ++ own_bs cs ++ vd.drop (n + cs.length)) (.int 0)) := by
  refine Ct.intro (plainFor_of_name own_pn17) O (fun _ => rfl) ⟨a0, EW.nil⟩ ?_
  intro p e s m below meth c T0 hx hby hml hret hnm hlk hsf S0
  refine Goes.cast (own_ef123 m t b (Int32.ofNat n) (0 : Int32)) ?_
  refine g_aloadN S0.here hx (hb hby own_d_jdk_42_method_147_code_124) rfl rfl 1 rfl ?_
  refine S0.callV hx (W := 0) (C := "java/lang/String") (own_q111 hw) (own_q112 hw) (notFace_of_selects (args := #[]) (mvT S0.warm (own_q114 hw))) (own_q114 hw) (own_q113 hw) (by decide) F.exa (own_q115 hw) (own_q2 hw) (ctCo l Z a0 hw t cs h O G F) nosf (by decide) (by decide) (by rw [hml]; rfl) [] [] (lenOf own_pd120 rfl) rfl rfl (Nat.le_refl _) (hb hby own_d_jdk_42_method_147_code_125) (by decide) (by decide) 4 rfl (fun v34 vm34 T34 h34 S34 Q34 R34 => ?_)
  obtain ⟨rfl, rfl⟩ := Q34
  show Goes _ _ _ _ T34 (mkF m 4 #[.val (.ref t), .val (.ref b), .val (.int (Int32.ofNat n)), .val (.int (0 : Int32))] [(.int (0 : Int32))])
  refine g_iloadN S34.here hx (hb hby own_d_jdk_42_method_147_code_126) rfl 5 rfl ?_
  refine g_icmpF S34.here hx (hb hby own_d_jdk_42_method_147_code_127) 0 0 (by decide) (by decide) (by show ¬ (¬ 0 = 0); decide) 8 rfl ?_
  obtain ⟨f1, f2, u, ku, f3, f4, f5, f6⟩ := F
  refine g_aloadN S34.here hx (hb hby own_d_jdk_42_method_147_code_128) rfl rfl 9 rfl ?_
  refine S34.getF hx (host := "") (Or.inl (own_q20 hw)) Via.refl f5 (hb hby own_d_jdk_42_method_147_code_129) 12 rfl (fun T35 S35 => ?_)
  refine g_iconst S35.here hx (hb hby own_d_jdk_42_method_147_code_130) (0 : Int32) (by decide) 13 rfl ?_
  refine g_aloadN S35.here hx (hb hby own_d_jdk_42_method_147_code_131) rfl rfl 14 rfl ?_
  refine g_iloadN S35.here hx (hb hby own_d_jdk_42_method_147_code_132) rfl 15 rfl ?_
  refine g_iloadN S35.here hx (hb hby own_d_jdk_42_method_147_code_133) rfl 16 rfl ?_
  refine g_ishl S35.here hx (hb hby own_d_jdk_42_method_147_code_134) 17 rfl ?_
  rw [own_shl0 (Int32.ofNat n)]
  refine g_aloadN S35.here hx (hb hby own_d_jdk_42_method_147_code_135) rfl rfl 18 rfl ?_
  refine S35.getF hx (host := "") (Or.inl (own_q20 hw)) Via.refl f5 (hb hby own_d_jdk_42_method_147_code_136) 21 rfl (fun T36 S36 => ?_)
  refine S36.len hx f6 (hb hby own_d_jdk_42_method_147_code_137) 22 rfl ?_
  have e1 := own_clamp (n := n) (by omega)
  have e2 := own_clamp (n := cs.length) (by omega)
  have e3 : (0 : Int32).toNatClampNeg = 0 := by decide
  have e4 : (16 : Int32).toNatClampNeg = 16 := by decide
  refine S36.cpB hx (own_q139 hw) (own_q142 hw) (own_q140 hw) (own_q141 hw) f6 B (us := own_bs cs) (by decide) (own_nneg (by omega)) (own_nneg (by omega)) (by rw [e3, e2]; omega) (by rw [e1, e2, e4]; omega) (by rw [e2, e3, ← own_range _ _ _ (by rw [show ((cs.map fun c => c.toInt8.toInt32).map Value.int) = own_bs cs from rfl, own_bs_len]; exact Nat.le_refl _)]; exact (List.take_of_length_le (Nat.le_of_eq (own_bs_len cs))).symm) (by rw [e1, e2, bl]; omega) ge safe_nil (by rw [hml]; rfl) [] (hb hby own_d_jdk_42_method_147_code_138) (by decide) (W := 0) (by decide) (by decide) 25 rfl (fun T37 h37 S37 K1 B1 R37 => ?_)
  rw [e1, e2] at B1
  refine g_goto S37.here hx (hb hby own_d_jdk_42_method_147_code_139) 43 (by decide) (by decide) ?_
  exact S37.vret hx hlk hret (hb hby own_d_jdk_42_method_147_code_140) ⟨rfl, K1, B1⟩ (by decide) (by decide)
theorem own_ef141 (m : MethodId) (x0 : Addr) (x1 : Int32) (x2 : Addr) : entryFrame m #[(.ref x0), (.int x1), (.ref x2)] 3 = mkF m 0 #[.val (.ref x0), .val (.int x1), .val (.ref x2)] [] := by first | (simp [entryFrame, mkF, argsToLocals, Value.category]; done) | rfl
theorem own_d_jdk_68_method_73_code_142 : decode jdk_68_method_73_code 0 = .ok (.aload_n 0, 1) := by decide +kernel
theorem own_d_jdk_68_method_73_code_143 : decode jdk_68_method_73_code 1 = .ok (.aload_n 2, 1) := by decide +kernel
theorem own_d_jdk_68_method_73_code_144 : decode jdk_68_method_73_code 2 = .ok (.invokevirtual 397, 3) := by decide +kernel
theorem own_pd145 : parseMethodDescriptor "(Ljava/lang/String;)V" = some ⟨[(.object "java/lang/String")], none⟩ := by decide +kernel
theorem own_d_jdk_68_method_73_code_146 : decode jdk_68_method_73_code 5 = .ok (.aload_n 2, 1) := by decide +kernel
theorem own_d_jdk_68_method_73_code_147 : decode jdk_68_method_73_code 6 = .ok (.aload_n 0, 1) := by decide +kernel
theorem own_d_jdk_68_method_73_code_148 : decode jdk_68_method_73_code 7 = .ok (.getfield 15, 3) := by decide +kernel
theorem own_d_jdk_68_method_73_code_149 : decode jdk_68_method_73_code 10 = .ok (.iload_n 1, 1) := by decide +kernel
theorem own_d_jdk_68_method_73_code_150 : decode jdk_68_method_73_code 11 = .ok (.aload_n 0, 1) := by decide +kernel
theorem own_d_jdk_68_method_73_code_151 : decode jdk_68_method_73_code 12 = .ok (.getfield 22, 3) := by decide +kernel
theorem own_d_jdk_68_method_73_code_152 : decode jdk_68_method_73_code 15 = .ok (.invokevirtual 399, 3) := by decide +kernel
theorem own_pd153 : parseMethodDescriptor "([BIB)V" = some ⟨[(.array .byte), .int, .byte], none⟩ := by decide +kernel
theorem own_d_jdk_68_method_73_code_154 : decode jdk_68_method_73_code 18 = .ok (.return_, 1) := by decide +kernel
set_option maxRecDepth 65536 in
set_option maxHeartbeats 40000000 in
theorem ctPS (l : Launch) (Z : State) (a0 : Array Value) (hw : ∀ d ∈ tables_1, d.before a0 Z = true) (a b t : Addr) (ds cs : List Int32) (h : Heap) (O : Old Z Z.heap.size h) (G : own_cs Z) (D : own_sb Z h a b ds) (F : own_str Z h t cs) (hn : ds.length + cs.length ≤ 15) (ge : Z.heap.size ≤ b) :
    Ct 0 l Z [] [] (⟨"java/lang/AbstractStringBuilder", "putStringAt", "(ILjava/lang/String;)V"⟩ : MethodName) jdk_68_method_73_code 3 none ({ frames := 2, cells := 0, slots := 0, locals := 55 } : Room) #[(.ref a), (.int (Int32.ofNat ds.length)), (.ref t)] h (fun v h' => v = none ∧ Keep h h' [b] ∧ ∃ k, Arv Z h' b k .byte (16 : Int32) (own_bs (ds ++ cs) ++ List.replicate (16 - (ds ++ cs).length) (.int 0)) (.int 0)) := by
  refine Ct.intro (plainFor_of_name own_pn88) O (fun _ => rfl) ⟨a0, EW.nil⟩ ?_
  intro p e s m below meth c T0 hx hby hml hret hnm hlk hsf S0
  refine Goes.cast (own_ef141 m a (Int32.ofNat ds.length) t) ?_
  refine g_aloadN S0.here hx (hb hby own_d_jdk_68_method_73_code_142) rfl rfl 1 rfl ?_
  refine g_aloadN S0.here hx (hb hby own_d_jdk_68_method_73_code_143) rfl rfl 2 rfl ?_
  refine S0.callV hx (W := 0) (C := "java/lang/StringBuilder") (own_q128 hw) (own_decl (own_q129 hw) (own_q132 hw)) (notFace_of_selects (args := #[]) (mvT S0.warm (own_q131 hw))) (own_q131 hw) (own_q129 hw) (by decide) D.exa (own_q132 hw) (own_q87 hw) (ctIN l Z a0 hw a b t ds cs h O G D F) nosf (by decide) (by decide) (by rw [hml]; rfl) [(.ref t)] [] (lenOf own_pd145 rfl) rfl rfl (Nat.le_refl _) (hb hby own_d_jdk_68_method_73_code_144) (by decide) (by decide) 5 rfl (fun v38 vm38 T38 h38 S38 Q38 R38 => ?_)
  obtain ⟨rfl, rfl⟩ := Q38
  show Goes _ _ _ _ T38 (mkF m 5 #[.val (.ref a), .val (.int (Int32.ofNat ds.length)), .val (.ref t)] [])
  obtain ⟨d1, d2, k, d3, d4, d5, d6, d7⟩ := D
  refine g_aloadN S38.here hx (hb hby own_d_jdk_68_method_73_code_146) rfl rfl 6 rfl ?_
  refine g_aloadN S38.here hx (hb hby own_d_jdk_68_method_73_code_147) rfl rfl 7 rfl ?_
  refine S38.getF hx (host := "") (Or.inl (own_q91 hw)) Via.refl d4 (hb hby own_d_jdk_68_method_73_code_148) 10 rfl (fun T39 S39 => ?_)
  refine g_iloadN S39.here hx (hb hby own_d_jdk_68_method_73_code_149) rfl 11 rfl ?_
  refine g_aloadN S39.here hx (hb hby own_d_jdk_68_method_73_code_150) rfl rfl 12 rfl ?_
  refine S39.getF hx (host := "") (Or.inl (own_q93 hw)) Via.refl d5 (hb hby own_d_jdk_68_method_73_code_151) 15 rfl (fun T40 S40 => ?_)
  have bl : (own_bs ds ++ List.replicate (16 - ds.length) (Value.int 0)).length = 16 := by rw [List.length_append, own_bs_len, List.length_replicate]; omega
  refine S40.callV hx (W := 0) (C := "java/lang/String") (own_q134 hw) (own_q135 hw) (notFace_of_selects (args := #[]) (mvT S40.warm (own_q137 hw))) (own_q137 hw) (own_q136 hw) (by decide) F.exa (own_q138 hw) (own_q2 hw) (ctGB l Z a0 hw t b ds.length cs k _ h O G F d7 bl (by omega) ge) nosf (by decide) (by decide) (by rw [hml]; rfl) [(.ref b), (.int (Int32.ofNat ds.length)), (.int (0 : Int32))] [] (lenOf own_pd153 rfl) rfl rfl (Nat.le_refl _) (hb hby own_d_jdk_68_method_73_code_152) (by decide) (by decide) 18 rfl (fun v41 vm41 T41 h41 S41 Q41 R41 => ?_)
  obtain ⟨rfl, K1, B1⟩ := Q41
  show Goes _ _ _ _ T41 (mkF m 18 #[.val (.ref a), .val (.int (Int32.ofNat ds.length)), .val (.ref t)] [])
  exact S41.vret hx hlk hret (hb hby own_d_jdk_68_method_73_code_154) ⟨rfl, K1, own_put ds cs (by omega) ▸ ⟨k, B1⟩⟩ (by decide) (by decide)
theorem own_lat_app {cs ds : List Int32} (H : own_lat cs) (H' : own_lat ds) : own_lat (cs ++ ds) := fun c hc => (List.mem_append.mp hc).elim (H c) (H' c)
theorem own_ef155 (m : MethodId) (x0 : Addr) (x1 : Addr) : entryFrame m #[(.ref x0), (.ref x1)] 3 = mkF m 0 #[.val (.ref x0), .val (.ref x1), .unset] [] := by first | (simp [entryFrame, mkF, argsToLocals, Value.category]; done) | rfl
theorem own_d_jdk_68_method_22_code_156 : decode jdk_68_method_22_code 0 = .ok (.aload_n 1, 1) := by decide +kernel
theorem own_d_jdk_68_method_22_code_157 : decode jdk_68_method_22_code 1 = .ok (.ifnonnull 8, 3) := by decide +kernel
theorem own_d_jdk_68_method_22_code_158 : decode jdk_68_method_22_code 9 = .ok (.aload_n 1, 1) := by decide +kernel
theorem own_d_jdk_68_method_22_code_159 : decode jdk_68_method_22_code 10 = .ok (.invokevirtual 32, 3) := by decide +kernel
theorem own_d_jdk_68_method_22_code_160 : decode jdk_68_method_22_code 13 = .ok (.istore_n 2, 1) := by decide +kernel
theorem own_d_jdk_68_method_22_code_161 : decode jdk_68_method_22_code 14 = .ok (.aload_n 0, 1) := by decide +kernel
theorem own_d_jdk_68_method_22_code_162 : decode jdk_68_method_22_code 15 = .ok (.aload_n 0, 1) := by decide +kernel
theorem own_d_jdk_68_method_22_code_163 : decode jdk_68_method_22_code 16 = .ok (.getfield 79, 3) := by decide +kernel
theorem own_d_jdk_68_method_22_code_164 : decode jdk_68_method_22_code 19 = .ok (.iload_n 2, 1) := by decide +kernel
theorem own_d_jdk_68_method_22_code_165 : decode jdk_68_method_22_code 20 = .ok (.iadd, 1) := by decide +kernel
theorem own_d_jdk_68_method_22_code_166 : decode jdk_68_method_22_code 21 = .ok (.invokevirtual 100, 3) := by decide +kernel
theorem own_d_jdk_68_method_22_code_167 : decode jdk_68_method_22_code 24 = .ok (.aload_n 0, 1) := by decide +kernel
theorem own_d_jdk_68_method_22_code_168 : decode jdk_68_method_22_code 25 = .ok (.aload_n 0, 1) := by decide +kernel
theorem own_d_jdk_68_method_22_code_169 : decode jdk_68_method_22_code 26 = .ok (.getfield 79, 3) := by decide +kernel
theorem own_d_jdk_68_method_22_code_170 : decode jdk_68_method_22_code 29 = .ok (.aload_n 1, 1) := by decide +kernel
theorem own_d_jdk_68_method_22_code_171 : decode jdk_68_method_22_code 30 = .ok (.invokevirtual 208, 3) := by decide +kernel
theorem own_pd172 : parseMethodDescriptor "(ILjava/lang/String;)V" = some ⟨[.int, (.object "java/lang/String")], none⟩ := by decide +kernel
theorem own_d_jdk_68_method_22_code_173 : decode jdk_68_method_22_code 33 = .ok (.aload_n 0, 1) := by decide +kernel
theorem own_d_jdk_68_method_22_code_174 : decode jdk_68_method_22_code 34 = .ok (.dup, 1) := by decide +kernel
theorem own_d_jdk_68_method_22_code_175 : decode jdk_68_method_22_code 35 = .ok (.getfield 79, 3) := by decide +kernel
theorem own_d_jdk_68_method_22_code_176 : decode jdk_68_method_22_code 38 = .ok (.iload_n 2, 1) := by decide +kernel
theorem own_d_jdk_68_method_22_code_177 : decode jdk_68_method_22_code 39 = .ok (.iadd, 1) := by decide +kernel
theorem own_d_jdk_68_method_22_code_178 : decode jdk_68_method_22_code 40 = .ok (.putfield 79, 3) := by decide +kernel
theorem own_d_jdk_68_method_22_code_179 : decode jdk_68_method_22_code 43 = .ok (.aload_n 0, 1) := by decide +kernel
theorem own_d_jdk_68_method_22_code_180 : decode jdk_68_method_22_code 44 = .ok (.areturn, 1) := by decide +kernel
set_option maxRecDepth 65536 in
set_option maxHeartbeats 40000000 in
theorem ctAA (l : Launch) (Z : State) (a0 : Array Value) (hw : ∀ d ∈ tables_1, d.before a0 Z = true) (a b t : Addr) (ds cs : List Int32) (h : Heap) (O : Old Z Z.heap.size h) (G : own_cs Z) (D : own_sb Z h a b ds) (F : own_str Z h t cs) (hn : ds.length + cs.length ≤ 15) (ga : Z.heap.size ≤ a) (ge : Z.heap.size ≤ b) (ne : a ≠ b) :
    Ct 0 l Z [] [] (⟨"java/lang/AbstractStringBuilder", "append", "(Ljava/lang/String;)Ljava/lang/AbstractStringBuilder;"⟩ : MethodName) jdk_68_method_22_code 3 (some (.object "java/lang/AbstractStringBuilder")) ({ frames := 3, cells := 0, slots := 0, locals := 69 } : Room) #[(.ref a), (.ref t)] h (fun v h' => v = some (.ref a) ∧ own_sb Z h' a b (ds ++ cs) ∧ Keep h h' [a, b]) := by
  refine Ct.intro (plainFor_of_name own_pn88) O (fun _ => rfl) ⟨a0, EW.nil⟩ ?_
  intro p e s m below meth c T0 hx hby hml hret hnm hlk hsf S0
  refine Goes.cast (own_ef155 m a t) ?_
  refine g_aloadN S0.here hx (hb hby own_d_jdk_68_method_22_code_156) rfl rfl 1 rfl ?_
  refine g_ifnonnullT S0.here hx (hb hby own_d_jdk_68_method_22_code_157) 9 (by decide) (by decide) ?_
  refine g_aloadN S0.here hx (hb hby own_d_jdk_68_method_22_code_158) rfl rfl 10 rfl ?_
  refine own_len S0 hx hw G (W := 0) (own_q106 hw) F (by decide) (by decide) (by rw [hml]; rfl) [] (Nat.le_refl _) (hb hby own_d_jdk_68_method_22_code_159) (by decide) (by decide) 13 rfl (fun T42 S42 => ?_)
  refine g_istoreN S42.here hx (hb hby own_d_jdk_68_method_22_code_160) #[.val (.ref a), .val (.ref t), .val (.int (Int32.ofNat cs.length))] rfl 14 rfl ?_
  have D0 := D
  obtain ⟨d1, d2, k, d3, d4, d5, d6, d7⟩ := D
  refine g_aloadN S42.here hx (hb hby own_d_jdk_68_method_22_code_161) rfl rfl 15 rfl ?_
  refine g_aloadN S42.here hx (hb hby own_d_jdk_68_method_22_code_162) rfl rfl 16 rfl ?_
  refine S42.getF hx (host := "") (Or.inl (own_q116 hw)) Via.refl d6 (hb hby own_d_jdk_68_method_22_code_163) 19 rfl (fun T43 S43 => ?_)
  refine g_iloadN S43.here hx (hb hby own_d_jdk_68_method_22_code_164) rfl 20 rfl ?_
  refine g_iadd S43.here hx (hb hby own_d_jdk_68_method_22_code_165) 21 rfl ?_
  rw [own_ofadd ds.length cs.length (by omega)]
  refine S43.callV hx (W := 0) (C := "java/lang/StringBuilder") (own_q118 hw) (own_decl (own_q119 hw) (own_q122 hw)) (notFace_of_selects (args := #[]) (mvT S43.warm (own_q121 hw))) (own_q121 hw) (own_q119 hw) (by decide) d3 (own_q122 hw) (own_q87 hw) (ctEC l Z a0 hw a b ds (Int32.ofNat (ds.length + cs.length)) h O D0 (by have := own_nat (n := ds.length + cs.length) (by omega); omega)) nosf (by decide) (by decide) (by rw [hml]; rfl) [(.int (Int32.ofNat (ds.length + cs.length)))] [] (lenOf own_pd92 rfl) rfl rfl (Nat.le_refl _) (hb hby own_d_jdk_68_method_22_code_166) (by decide) (by decide) 24 rfl (fun v44 vm44 T44 h44 S44 Q44 R44 => ?_)
  obtain ⟨rfl, rfl⟩ := Q44
  show Goes _ _ _ _ T44 (mkF m 24 #[.val (.ref a), .val (.ref t), .val (.int (Int32.ofNat cs.length))] [])
  refine g_aloadN S44.here hx (hb hby own_d_jdk_68_method_22_code_167) rfl rfl 25 rfl ?_
  refine g_aloadN S44.here hx (hb hby own_d_jdk_68_method_22_code_168) rfl rfl 26 rfl ?_
  refine S44.getF hx (host := "") (Or.inl (own_q116 hw)) Via.refl d6 (hb hby own_d_jdk_68_method_22_code_169) 29 rfl (fun T45 S45 => ?_)
  refine g_aloadN S45.here hx (hb hby own_d_jdk_68_method_22_code_170) rfl rfl 30 rfl ?_
  refine S45.callV hx (W := 0) (C := "java/lang/StringBuilder") (own_q123 hw) (own_decl (own_q124 hw) (own_q127 hw)) (notFace_of_selects (args := #[]) (mvT S45.warm (own_q126 hw))) (own_q126 hw) (own_q124 hw) (by decide) d3 (own_q127 hw) (own_q87 hw) (ctPS l Z a0 hw a b t ds cs h O G D0 F hn ge) nosf (by decide) (by decide) (by rw [hml]; rfl) [(.int (Int32.ofNat ds.length)), (.ref t)] [] (lenOf own_pd172 rfl) rfl rfl (Nat.le_refl _) (hb hby own_d_jdk_68_method_22_code_171) (by decide) (by decide) 33 rfl (fun v46 vm46 T46 h46 S46 Q46 R46 => ?_)
  obtain ⟨rfl, K1, kk, B1⟩ := Q46
  show Goes _ _ _ _ T46 (mkF m 33 #[.val (.ref a), .val (.ref t), .val (.int (Int32.ofNat cs.length))] [])
  have na : a ∉ [b] := fun q => ne (List.mem_singleton.mp q)
  have d3 := d3.keep K1
  have d4 := d4.keep K1 na
  have d5 := d5.keep K1 na
  have d6 := d6.keep K1 na
  refine g_aloadN S46.here hx (hb hby own_d_jdk_68_method_22_code_173) rfl rfl 34 rfl ?_
  refine g_dup S46.here hx (hb hby own_d_jdk_68_method_22_code_174) rfl 35 rfl ?_
  refine S46.getF hx (host := "") (Or.inl (own_q116 hw)) Via.refl d6 (hb hby own_d_jdk_68_method_22_code_175) 38 rfl (fun T47 S47 => ?_)
  refine g_iloadN S47.here hx (hb hby own_d_jdk_68_method_22_code_176) rfl 39 rfl ?_
  refine g_iadd S47.here hx (hb hby own_d_jdk_68_method_22_code_177) 40 rfl ?_
  rw [own_ofadd ds.length cs.length (by omega)]
  refine S47.putF hx (host := "") (Or.inl (own_q116 hw)) Via.refl d6 d3 (Or.inl (own_q117 hw)) (own_q78 hw) (ty := .int) (by decide) rfl rfl safe_nil ga (hb hby own_d_jdk_68_method_22_code_178) 43 rfl (fun T48 h48 S48 W48 R48 => ?_)
  have d3 := d3.wr W48
  have d6 := d6.same W48
  have d4 := d4.other W48 (Or.inr (slot_ne (Or.inl (own_q92 hw)) (Or.inl (own_q117 hw)) (by decide) (t := (.array .byte)) (t' := .int) (by decide) (by decide)))
  have d5 := d5.other W48 (Or.inr (slot_ne (Or.inl (own_q94 hw)) (Or.inl (own_q117 hw)) (by decide) (t := .byte) (t' := .int) (by decide) (by decide)))
  have B1 := B1.other W48 ne.symm
  have K1 := (own_keep_mono K1 (vs := [a, b]) (fun x hx => List.mem_cons_of_mem _ hx)).wr W48 (Or.inl (List.mem_cons_self ..))
  refine g_aloadN S48.here hx (hb hby own_d_jdk_68_method_22_code_179) rfl rfl 44 rfl ?_
  exact S48.aret hx hlk hret rfl rfl rfl (hb hby own_d_jdk_68_method_22_code_180) ⟨rfl, ⟨own_lat_app d1 F.lat, by rw [List.length_append]; omega, kk, d3, d4, d5, by rw [List.length_append]; exact d6, B1⟩, K1⟩ (by decide) (by decide)
theorem own_d_jdk_67_method_7_code_181 : decode jdk_67_method_7_code 0 = .ok (.aload_n 0, 1) := by decide +kernel
theorem own_d_jdk_67_method_7_code_182 : decode jdk_67_method_7_code 1 = .ok (.aload_n 1, 1) := by decide +kernel
theorem own_d_jdk_67_method_7_code_183 : decode jdk_67_method_7_code 2 = .ok (.invokespecial 29, 3) := by decide +kernel
theorem own_pd184 : parseMethodDescriptor "(Ljava/lang/String;)Ljava/lang/AbstractStringBuilder;" = some ⟨[(.object "java/lang/String")], some (.object "java/lang/AbstractStringBuilder")⟩ := by decide +kernel
theorem own_d_jdk_67_method_7_code_185 : decode jdk_67_method_7_code 5 = .ok (.pop, 1) := by decide +kernel
theorem own_d_jdk_67_method_7_code_186 : decode jdk_67_method_7_code 6 = .ok (.aload_n 0, 1) := by decide +kernel
theorem own_d_jdk_67_method_7_code_187 : decode jdk_67_method_7_code 7 = .ok (.areturn, 1) := by decide +kernel
set_option maxRecDepth 65536 in
set_option maxHeartbeats 40000000 in
theorem ctSA (l : Launch) (Z : State) (a0 : Array Value) (hw : ∀ d ∈ tables_1, d.before a0 Z = true) (a b t : Addr) (ds cs : List Int32) (h : Heap) (O : Old Z Z.heap.size h) (G : own_cs Z) (D : own_sb Z h a b ds) (F : own_str Z h t cs) (hn : ds.length + cs.length ≤ 15) (ga : Z.heap.size ≤ a) (ge : Z.heap.size ≤ b) (ne : a ≠ b) :
    Ct 0 l Z [] [] (⟨"java/lang/StringBuilder", "append", "(Ljava/lang/String;)Ljava/lang/StringBuilder;"⟩ : MethodName) jdk_67_method_7_code 2 (some (.object "java/lang/StringBuilder")) ({ frames := 4, cells := 0, slots := 0, locals := 83 } : Room) #[(.ref a), (.ref t)] h (fun v h' => v = some (.ref a) ∧ own_sb Z h' a b (ds ++ cs) ∧ Keep h h' [a, b]) := by
  refine Ct.intro (plainFor_of_name own_pn94) O (fun _ => rfl) ⟨a0, EW.nil⟩ ?_
  intro p e s m below meth c T0 hx hby hml hret hnm hlk hsf S0
  refine Goes.cast (own_ef18 m a t) ?_
  refine g_aloadN S0.here hx (hb hby own_d_jdk_67_method_7_code_181) rfl rfl 1 rfl ?_
  refine g_aloadN S0.here hx (hb hby own_d_jdk_67_method_7_code_182) rfl rfl 2 rfl ?_
  refine S0.callX0 hx (W := 0) (own_q101 hw) (own_same (own_q102 hw) (own_nf (x := (⟨"java/lang/AbstractStringBuilder", "append", "(Ljava/lang/String;)Ljava/lang/AbstractStringBuilder;"⟩ : MethodName)) (y' := (⟨"java/lang/AbstractStringBuilder", "getValue", "()[B"⟩ : MethodName)) (aa := a0) rfl (own_q157 hw) (notFace_of_selects (own_q158 hw))) (by decide)) (own_q102 hw) (own_q103 hw) (by decide) (Ins.self D.exa) (own_q105 hw) (own_q87 hw) (ctAA l Z a0 hw a b t ds cs h O G D F hn ga ge ne) (by decide) (by decide) (by rw [hml]; rfl) [(.ref t)] [] (lenOf own_pd184 rfl) rfl rfl (by decide) (hb hby own_d_jdk_67_method_7_code_183) (by decide) (by decide) 5 rfl (fun v49 vm49 T49 h49 S49 Q49 R49 => ?_)
  obtain ⟨rfl, B, KK⟩ := Q49
  show Goes _ _ _ _ T49 (mkF m 5 #[.val (.ref a), .val (.ref t)] [(.ref a)])
  refine g_pop S49.here hx (hb hby own_d_jdk_67_method_7_code_185) rfl 6 rfl ?_
  refine g_aloadN S49.here hx (hb hby own_d_jdk_67_method_7_code_186) rfl rfl 7 rfl ?_
  exact S49.aret hx hlk hret rfl rfl rfl (hb hby own_d_jdk_67_method_7_code_187) ⟨rfl, B, KK⟩ (by decide) (by decide)
theorem own_d_jdk_68_method_64_code_188 : decode jdk_68_method_64_code 0 = .ok (.aload_n 0, 1) := by decide +kernel
theorem own_d_jdk_68_method_64_code_189 : decode jdk_68_method_64_code 1 = .ok (.getfield 15, 3) := by decide +kernel
theorem own_d_jdk_68_method_64_code_190 : decode jdk_68_method_64_code 4 = .ok (.areturn, 1) := by decide +kernel
set_option maxRecDepth 65536 in
set_option maxHeartbeats 40000000 in
theorem ctGV (l : Launch) (Z : State) (a0 : Array Value) (hw : ∀ d ∈ tables_1, d.before a0 Z = true) (a b : Addr) (ds : List Int32) (h : Heap) (O : Old Z Z.heap.size h) (D : own_sb Z h a b ds) :
    Ct 0 l Z [] [] (⟨"java/lang/AbstractStringBuilder", "getValue", "()[B"⟩ : MethodName) jdk_68_method_64_code 1 (some (.array .byte)) ({ frames := 0, cells := 0, slots := 0, locals := 0 } : Room) #[(.ref a)] h (fun v h' => v = some (.ref b) ∧ h = h') := by
  refine Ct.intro (plainFor_of_name own_pn88) O (fun _ => rfl) ⟨a0, EW.nil⟩ ?_
  intro p e s m below meth c T0 hx hby hml hret hnm hlk hsf S0
  refine Goes.cast (own_ef69 m a) ?_
  obtain ⟨d1, d2, k, d3, d4, d5, d6, d7⟩ := D
  refine g_aloadN S0.here hx (hb hby own_d_jdk_68_method_64_code_188) rfl rfl 1 rfl ?_
  refine S0.getF hx (host := "") (Or.inl (own_q91 hw)) Via.refl d4 (hb hby own_d_jdk_68_method_64_code_189) 4 rfl (fun T50 S50 => ?_)
  exact S50.aret hx hlk hret rfl rfl rfl (hb hby own_d_jdk_68_method_64_code_190) ⟨rfl, rfl⟩ (by decide) (by decide)
theorem own_d_jdk_68_method_6_code_191 : decode jdk_68_method_6_code 0 = .ok (.aload_n 0, 1) := by decide +kernel
theorem own_d_jdk_68_method_6_code_192 : decode jdk_68_method_6_code 1 = .ok (.getfield 79, 3) := by decide +kernel
theorem own_d_jdk_68_method_6_code_193 : decode jdk_68_method_6_code 4 = .ok (.ireturn, 1) := by decide +kernel
set_option maxRecDepth 65536 in
set_option maxHeartbeats 40000000 in
theorem ctAL (l : Launch) (Z : State) (a0 : Array Value) (hw : ∀ d ∈ tables_1, d.before a0 Z = true) (a b : Addr) (ds : List Int32) (h : Heap) (O : Old Z Z.heap.size h) (D : own_sb Z h a b ds) :
    Ct 0 l Z [] [] (⟨"java/lang/AbstractStringBuilder", "length", "()I"⟩ : MethodName) jdk_68_method_6_code 1 (some .int) ({ frames := 0, cells := 0, slots := 0, locals := 0 } : Room) #[(.ref a)] h (fun v h' => v = some (.int (Int32.ofNat ds.length)) ∧ h = h') := by
  refine Ct.intro (plainFor_of_name own_pn88) O (fun _ => rfl) ⟨a0, EW.nil⟩ ?_
  intro p e s m below meth c T0 hx hby hml hret hnm hlk hsf S0
  refine Goes.cast (own_ef69 m a) ?_
  obtain ⟨d1, d2, k, d3, d4, d5, d6, d7⟩ := D
  refine g_aloadN S0.here hx (hb hby own_d_jdk_68_method_6_code_191) rfl rfl 1 rfl ?_
  refine S0.getF hx (host := "") (Or.inl (own_q116 hw)) Via.refl d6 (hb hby own_d_jdk_68_method_6_code_192) 4 rfl (fun T51 S51 => ?_)
  exact S51.iret hx hlk hret (Or.inl rfl) rfl (hb hby own_d_jdk_68_method_6_code_193) ⟨rfl, rfl⟩ (by decide) (by decide)
theorem own_d_jdk_67_method_93_code_194 : decode jdk_67_method_93_code 0 = .ok (.aload_n 0, 1) := by decide +kernel
theorem own_d_jdk_67_method_93_code_195 : decode jdk_67_method_93_code 1 = .ok (.invokespecial 343, 3) := by decide +kernel
theorem own_d_jdk_67_method_93_code_196 : decode jdk_67_method_93_code 4 = .ok (.ireturn, 1) := by decide +kernel
set_option maxRecDepth 65536 in
set_option maxHeartbeats 40000000 in
theorem ctSL (l : Launch) (Z : State) (a0 : Array Value) (hw : ∀ d ∈ tables_1, d.before a0 Z = true) (a b : Addr) (ds : List Int32) (h : Heap) (O : Old Z Z.heap.size h) (D : own_sb Z h a b ds) :
    Ct 0 l Z [] [] (⟨"java/lang/StringBuilder", "length", "()I"⟩ : MethodName) jdk_67_method_93_code 1 (some .int) ({ frames := 1, cells := 0, slots := 0, locals := 12 } : Room) #[(.ref a)] h (fun v h' => v = some (.int (Int32.ofNat ds.length)) ∧ h = h') := by
  refine Ct.intro (plainFor_of_name own_pn94) O (fun _ => rfl) ⟨a0, EW.nil⟩ ?_
  intro p e s m below meth c T0 hx hby hml hret hnm hlk hsf S0
  refine Goes.cast (own_ef69 m a) ?_
  refine g_aloadN S0.here hx (hb hby own_d_jdk_67_method_93_code_194) rfl rfl 1 rfl ?_
  refine S0.callX0 hx (W := 0) (own_q166 hw) (own_same (own_q162 hw) (own_nf (x := (⟨"java/lang/AbstractStringBuilder", "length", "()I"⟩ : MethodName)) (y' := (⟨"java/lang/AbstractStringBuilder", "getValue", "()[B"⟩ : MethodName)) (aa := a0) rfl (own_q157 hw) (notFace_of_selects (own_q158 hw))) (by decide)) (own_q162 hw) (own_q103 hw) (by decide) (Ins.self D.exa) (own_q167 hw) (own_q87 hw) (ctAL l Z a0 hw a b ds h O D) (by decide) (by decide) (by rw [hml]; rfl) [] [] (lenOf own_pd1 rfl) rfl rfl (by decide) (hb hby own_d_jdk_67_method_93_code_195) (by decide) (by decide) 4 rfl (fun v52 vm52 T52 h52 S52 Q52 R52 => ?_)
  obtain ⟨rfl, rfl⟩ := Q52
  show Goes _ _ _ _ T52 (mkF m 4 #[.val (.ref a)] [(.int (Int32.ofNat ds.length))])
  exact S52.iret hx hlk hret (Or.inl rfl) rfl (hb hby own_d_jdk_67_method_93_code_196) ⟨rfl, rfl⟩ (by decide) (by decide)
theorem own_d_jdk_68_method_68_code_197 : decode jdk_68_method_68_code 0 = .ok (.getstatic 18, 3) := by decide +kernel
theorem own_d_jdk_68_method_68_code_198 : decode jdk_68_method_68_code 3 = .ok (.ifCond .eq 14, 3) := by decide +kernel
theorem own_d_jdk_68_method_68_code_199 : decode jdk_68_method_68_code 6 = .ok (.aload_n 0, 1) := by decide +kernel
theorem own_d_jdk_68_method_68_code_200 : decode jdk_68_method_68_code 7 = .ok (.getfield 22, 3) := by decide +kernel
theorem own_d_jdk_68_method_68_code_201 : decode jdk_68_method_68_code 10 = .ok (.ifCond .ne 7, 3) := by decide +kernel
theorem own_d_jdk_68_method_68_code_202 : decode jdk_68_method_68_code 13 = .ok (.iconst 1, 1) := by decide +kernel
theorem own_d_jdk_68_method_68_code_203 : decode jdk_68_method_68_code 14 = .ok (.goto 4, 3) := by decide +kernel
theorem own_d_jdk_68_method_68_code_204 : decode jdk_68_method_68_code 18 = .ok (.ireturn, 1) := by decide +kernel
set_option maxRecDepth 65536 in
set_option maxHeartbeats 40000000 in
theorem ctIL (l : Launch) (Z : State) (a0 : Array Value) (hw : ∀ d ∈ tables_1, d.before a0 Z = true) (a b : Addr) (ds : List Int32) (h : Heap) (O : Old Z Z.heap.size h) (G : own_cs Z) (D : own_sb Z h a b ds) :
    Ct 0 l Z [] [] (⟨"java/lang/AbstractStringBuilder", "isLatin1", "()Z"⟩ : MethodName) jdk_68_method_68_code 1 (some .boolean) ({ frames := 0, cells := 0, slots := 0, locals := 0 } : Room) #[(.ref a)] h (fun v h' => v = some (.int 1) ∧ h = h') := by
  refine Ct.intro (plainFor_of_name own_pn88) O (fun _ => rfl) ⟨a0, EW.nil⟩ ?_
  intro p e s m below meth c T0 hx hby hml hret hnm hlk hsf S0
  refine Goes.cast (own_ef69 m a) ?_
  obtain ⟨d1, d2, k, d3, d4, d5, d6, d7⟩ := D
  obtain ⟨z, g1, g2⟩ := G
  refine S0.getS hx (host := "") (Or.inl (own_q90 hw)) Via.refl (g1.ext O.2) (hb hby own_d_jdk_68_method_68_code_197) 3 rfl (fun T53 S53 => ?_)
  refine g_ifF S53.here hx (hb hby own_d_jdk_68_method_68_code_198) z.toInt rfl (show ¬ (z.toInt = 0) from own_nz g2) 6 rfl ?_
  refine g_aloadN S53.here hx (hb hby own_d_jdk_68_method_68_code_199) rfl rfl 7 rfl ?_
  refine S53.getF hx (host := "") (Or.inl (own_q93 hw)) Via.refl d5 (hb hby own_d_jdk_68_method_68_code_200) 10 rfl (fun T54 S54 => ?_)
  refine g_ifF S54.here hx (hb hby own_d_jdk_68_method_68_code_201) 0 (by decide) (by show ¬ (¬ 0 = 0); decide) 13 rfl ?_
  refine g_iconst S54.here hx (hb hby own_d_jdk_68_method_68_code_202) (1 : Int32) (by decide) 14 rfl ?_
  refine g_goto S54.here hx (hb hby own_d_jdk_68_method_68_code_203) 18 (by decide) (by decide) ?_
  exact S54.iret hx hlk hret (Or.inr (Or.inl rfl)) rfl (hb hby own_d_jdk_68_method_68_code_204) ⟨rfl, rfl⟩ (by decide) (by decide)
theorem own_ef205 (m : MethodId) (x0 : Int32) (x1 : Int32) : entryFrame m #[(.int x0), (.int x1)] 2 = mkF m 0 #[.val (.int x0), .val (.int x1)] [] := by first | (simp [entryFrame, mkF, argsToLocals, Value.category]; done) | rfl
theorem own_d_jdk_65_method_131_code_206 : decode jdk_65_method_131_code 0 = .ok (.iload_n 1, 1) := by decide +kernel
theorem own_d_jdk_65_method_131_code_207 : decode jdk_65_method_131_code 1 = .ok (.iload_n 0, 1) := by decide +kernel
theorem own_d_jdk_65_method_131_code_208 : decode jdk_65_method_131_code 2 = .ok (.if_icmp .ge 35, 3) := by decide +kernel
theorem own_d_jdk_65_method_131_code_209 : decode jdk_65_method_131_code 37 = .ok (.return_, 1) := by decide +kernel
theorem own_pn210 : plainName "java/util/Arrays" = true := by first | (simp [plainName, overriddenIn]; done) | decide +kernel
set_option maxRecDepth 65536 in
set_option maxHeartbeats 40000000 in
theorem ctCL (l : Launch) (Z : State) (a0 : Array Value) (hw : ∀ d ∈ tables_1, d.before a0 Z = true) (p1 p2 : Int32) (h : Heap) (O : Old Z Z.heap.size h) (hp : p1.toInt ≤ p2.toInt) :
    Ct 0 l Z [] [] (⟨"java/util/Arrays", "checkLength", "(II)V"⟩ : MethodName) jdk_65_method_131_code 2 none ({ frames := 0, cells := 0, slots := 0, locals := 0 } : Room) #[(.int p1), (.int p2)] h (fun v h' => v = none ∧ h = h') := by
  refine Ct.intro (plainFor_of_name own_pn210) O (fun _ => rfl) ⟨a0, EW.nil⟩ ?_
  intro p e s m below meth c T0 hx hby hml hret hnm hlk hsf S0
  refine Goes.cast (own_ef205 m p1 p2) ?_
  refine g_iloadN S0.here hx (hb hby own_d_jdk_65_method_131_code_206) rfl 1 rfl ?_
  refine g_iloadN S0.here hx (hb hby own_d_jdk_65_method_131_code_207) rfl 2 rfl ?_
  refine g_icmpT S0.here hx (hb hby own_d_jdk_65_method_131_code_208) p2.toInt p1.toInt rfl rfl (show p1.toInt ≤ p2.toInt from hp) 37 (by decide) (by decide) ?_
  exact S0.vret hx hlk hret (hb hby own_d_jdk_65_method_131_code_209) ⟨rfl, rfl⟩ (by decide) (by decide)
theorem own_d_jdk_29_method_69_code_211 : decode jdk_29_method_69_code 0 = .ok (.iload_n 0, 1) := by decide +kernel
theorem own_d_jdk_29_method_69_code_212 : decode jdk_29_method_69_code 1 = .ok (.iload_n 1, 1) := by decide +kernel
theorem own_d_jdk_29_method_69_code_213 : decode jdk_29_method_69_code 2 = .ok (.if_icmp .gt 7, 3) := by decide +kernel
theorem own_d_jdk_29_method_69_code_214 : decode jdk_29_method_69_code 9 = .ok (.iload_n 1, 1) := by decide +kernel
theorem own_d_jdk_29_method_69_code_215 : decode jdk_29_method_69_code 10 = .ok (.ireturn, 1) := by decide +kernel
theorem own_d_jdk_29_method_69_code_216 : decode jdk_29_method_69_code 5 = .ok (.iload_n 0, 1) := by decide +kernel
theorem own_d_jdk_29_method_69_code_217 : decode jdk_29_method_69_code 6 = .ok (.goto 4, 3) := by decide +kernel
set_option maxRecDepth 65536 in
set_option maxHeartbeats 40000000 in
theorem ctMin (l : Launch) (Z : State) (a0 : Array Value) (hw : ∀ d ∈ tables_1, d.before a0 Z = true) (p1 p2 : Int32) (h : Heap) (O : Old Z Z.heap.size h) (hp : p2.toInt ≤ p1.toInt) :
    Ct 0 l Z [] [] (⟨"java/lang/Math", "min", "(II)I"⟩ : MethodName) jdk_29_method_69_code 2 (some .int) ({ frames := 0, cells := 0, slots := 0, locals := 0 } : Room) #[(.int p1), (.int p2)] h (fun v h' => v = some (.int p2) ∧ h = h') := by
  refine Ct.intro (Jvm.Free.JP.mathPlain rfl (by decide +kernel)) O (fun _ => rfl) ⟨a0, EW.nil⟩ ?_
  intro p e s m below meth c T0 hx hby hml hret hnm hlk hsf S0
  refine Goes.cast (own_ef205 m p1 p2) ?_
  refine g_iloadN S0.here hx (hb hby own_d_jdk_29_method_69_code_211) rfl 1 rfl ?_
  refine g_iloadN S0.here hx (hb hby own_d_jdk_29_method_69_code_212) rfl 2 rfl ?_
  refine g_icmp S0.here hx (hb hby own_d_jdk_29_method_69_code_213) p1.toInt p2.toInt rfl rfl 9 5 (by decide) (by decide) rfl (fun (hc2 : p2.toInt < p1.toInt) => ?_) (fun (hc2 : ¬ (p2.toInt < p1.toInt)) => ?_)
  · refine g_iloadN S0.here hx (hb hby own_d_jdk_29_method_69_code_214) rfl 10 rfl ?_
    exact S0.iret hx hlk hret (Or.inl rfl) rfl (hb hby own_d_jdk_29_method_69_code_215) ⟨rfl, rfl⟩ (by decide) (by decide)
  · refine g_iloadN S0.here hx (hb hby own_d_jdk_29_method_69_code_216) rfl 6 rfl ?_
    refine g_goto S0.here hx (hb hby own_d_jdk_29_method_69_code_217) 10 (by decide) (by decide) ?_
    exact S0.iret hx hlk hret (Or.inl rfl) rfl (hb hby own_d_jdk_29_method_69_code_215) ⟨by rw [show p1 = p2 from Int32.toInt_inj.mp (by omega)], rfl⟩ (by decide) (by decide)
theorem own_ef218 (m : MethodId) (x0 : Addr) (x1 : Int32) (x2 : Int32) : entryFrame m #[(.ref x0), (.int x1), (.int x2)] 5 = mkF m 0 #[.val (.ref x0), .val (.int x1), .val (.int x2), .unset, .unset] [] := by first | (simp [entryFrame, mkF, argsToLocals, Value.category]; done) | rfl
theorem own_d_jdk_65_method_133_code_219 : decode jdk_65_method_133_code 0 = .ok (.iload_n 1, 1) := by decide +kernel
theorem own_d_jdk_65_method_133_code_220 : decode jdk_65_method_133_code 1 = .ok (.iload_n 2, 1) := by decide +kernel
theorem own_d_jdk_65_method_133_code_221 : decode jdk_65_method_133_code 2 = .ok (.invokestatic 343, 3) := by decide +kernel
theorem own_pd222 : parseMethodDescriptor "(II)V" = some ⟨[.int, .int], none⟩ := by decide +kernel
theorem own_d_jdk_65_method_133_code_223 : decode jdk_65_method_133_code 5 = .ok (.iload_n 2, 1) := by decide +kernel
theorem own_d_jdk_65_method_133_code_224 : decode jdk_65_method_133_code 6 = .ok (.iload_n 1, 1) := by decide +kernel
theorem own_d_jdk_65_method_133_code_225 : decode jdk_65_method_133_code 7 = .ok (.isub, 1) := by decide +kernel
theorem own_d_jdk_65_method_133_code_226 : decode jdk_65_method_133_code 8 = .ok (.istore_n 3, 1) := by decide +kernel
theorem own_d_jdk_65_method_133_code_227 : decode jdk_65_method_133_code 9 = .ok (.iload_n 3, 1) := by decide +kernel
theorem own_d_jdk_65_method_133_code_228 : decode jdk_65_method_133_code 10 = .ok (.newarray .byte, 2) := by decide +kernel
theorem own_d_jdk_65_method_133_code_229 : decode jdk_65_method_133_code 12 = .ok (.astore 4, 2) := by decide +kernel
theorem own_d_jdk_65_method_133_code_230 : decode jdk_65_method_133_code 14 = .ok (.aload_n 0, 1) := by decide +kernel
theorem own_d_jdk_65_method_133_code_231 : decode jdk_65_method_133_code 15 = .ok (.iload_n 1, 1) := by decide +kernel
theorem own_d_jdk_65_method_133_code_232 : decode jdk_65_method_133_code 16 = .ok (.aload 4, 2) := by decide +kernel
theorem own_d_jdk_65_method_133_code_233 : decode jdk_65_method_133_code 18 = .ok (.iconst 0, 1) := by decide +kernel
theorem own_d_jdk_65_method_133_code_234 : decode jdk_65_method_133_code 19 = .ok (.aload_n 0, 1) := by decide +kernel
theorem own_d_jdk_65_method_133_code_235 : decode jdk_65_method_133_code 20 = .ok (.arraylength, 1) := by decide +kernel
theorem own_d_jdk_65_method_133_code_236 : decode jdk_65_method_133_code 21 = .ok (.iload_n 1, 1) := by decide +kernel
theorem own_d_jdk_65_method_133_code_237 : decode jdk_65_method_133_code 22 = .ok (.isub, 1) := by decide +kernel
theorem own_d_jdk_65_method_133_code_238 : decode jdk_65_method_133_code 23 = .ok (.iload_n 3, 1) := by decide +kernel
theorem own_d_jdk_65_method_133_code_239 : decode jdk_65_method_133_code 24 = .ok (.invokestatic 304, 3) := by decide +kernel
theorem own_pd240 : parseMethodDescriptor "(II)I" = some ⟨[.int, .int], some .int⟩ := by decide +kernel
theorem own_d_jdk_65_method_133_code_241 : decode jdk_65_method_133_code 27 = .ok (.invokestatic 150, 3) := by decide +kernel
theorem own_d_jdk_65_method_133_code_242 : decode jdk_65_method_133_code 30 = .ok (.aload 4, 2) := by decide +kernel
theorem own_d_jdk_65_method_133_code_243 : decode jdk_65_method_133_code 32 = .ok (.areturn, 1) := by decide +kernel
set_option maxRecDepth 65536 in
set_option maxHeartbeats 40000000 in
theorem ctCB (l : Launch) (Z : State) (a0 : Array Value) (hw : ∀ d ∈ tables_1, d.before a0 Z = true) (b : Addr) (n : Nat) (kb : ClassId) (vd : List Value) (h : Heap) (O : Old Z Z.heap.size h) (B : Arv Z h b kb .byte (16 : Int32) vd (.int 0)) (bl : vd.length = 16) (hn : n ≤ 15) :
    Ct 0 l Z [] [] (⟨"java/util/Arrays", "copyOfRangeByte", "([BII)[B"⟩ : MethodName) jdk_65_method_133_code 5 (some (.array .byte)) ({ frames := 1, cells := 1, slots := 16, locals := 40 } : Room) #[(.ref b), (.int (0 : Int32)), (.int (Int32.ofNat n))] h (fun v h' => ∃ t : Addr, v = some (.ref t) ∧ h.size ≤ t ∧ Ext h h' ∧ ∃ k, Arv Z h' t k .byte (Int32.ofNat n) (vd.take n) (.int 0)) := by
  refine Ct.intro (plainFor_of_name own_pn210) O (fun _ => rfl) ⟨a0, EW.nil⟩ ?_
  intro p e s m below meth c T0 hx hby hml hret hnm hlk hsf S0
  refine Goes.cast (own_ef218 m b (0 : Int32) (Int32.ofNat n)) ?_
  refine g_iloadN S0.here hx (hb hby own_d_jdk_65_method_133_code_219) rfl 1 rfl ?_
  refine g_iloadN S0.here hx (hb hby own_d_jdk_65_method_133_code_220) rfl 2 rfl ?_
  refine S0.callS hx (W := 0) (own_q180 hw) (own_q181 hw) (own_q175 hw) (own_q182 hw) (by decide) (ctCL l Z a0 hw (0 : Int32) (Int32.ofNat n) h O (by have := own_nat (n := n) (by omega); have e : (0 : Int32).toInt = 0 := (by decide); omega)) nosf (by decide) (by decide) (by rw [hml]; rfl) [(.int (0 : Int32)), (.int (Int32.ofNat n))] [] (lenOf own_pd222 rfl) rfl rfl (Nat.le_refl _) (hb hby own_d_jdk_65_method_133_code_221) (by decide) (by decide) 5 rfl (fun v55 vm55 T55 h55 S55 Q55 R55 => ?_)
  obtain ⟨rfl, rfl⟩ := Q55
  show Goes _ _ _ _ T55 (mkF m 5 #[.val (.ref b), .val (.int (0 : Int32)), .val (.int (Int32.ofNat n)), .unset, .unset] [])
  refine g_iloadN S55.here hx (hb hby own_d_jdk_65_method_133_code_223) rfl 6 rfl ?_
  refine g_iloadN S55.here hx (hb hby own_d_jdk_65_method_133_code_224) rfl 7 rfl ?_
  refine g_isub S55.here hx (hb hby own_d_jdk_65_method_133_code_225) 8 rfl ?_
  rw [own_sub0 (Int32.ofNat n)]
  refine g_istoreN S55.here hx (hb hby own_d_jdk_65_method_133_code_226) #[.val (.ref b), .val (.int (0 : Int32)), .val (.int (Int32.ofNat n)), .val (.int (Int32.ofNat n)), .unset] rfl 9 rfl ?_
  refine g_iloadN S55.here hx (hb hby own_d_jdk_65_method_133_code_227) rfl 10 rfl ?_
  have e1 := own_clamp (n := n) (by omega)
  have e0 : (0 : Int32).toNatClampNeg = 0 := by decide
  have e4 : (16 : Int32).toNatClampNeg = 16 := by decide
  refine S55.newA (aty := .byte) hx (own_q15 hw) (n := (Int32.ofNat n)) (own_nneg (by omega)) (cap := n) (by omega) (by omega) (hb hby own_d_jdk_65_method_133_code_228) (by decide) (show 0 + n ≤ 16 by omega) 12 rfl (fun T56 h56 t k56 S56 g56 E56 V56 F56 R56 => ?_)
  have S56 := S56.more (k := 1) (n := 16) (by decide) (by show 0 + n ≤ 16; omega)
  have gt : Z.heap.size ≤ t := by rw [g56]; exact S55.size
  have B := B.ext E56
  refine g_astore S56.here hx (hb hby own_d_jdk_65_method_133_code_229) rfl #[.val (.ref b), .val (.int (0 : Int32)), .val (.int (Int32.ofNat n)), .val (.int (Int32.ofNat n)), .val (.ref t)] rfl 14 rfl ?_
  refine g_aloadN S56.here hx (hb hby own_d_jdk_65_method_133_code_230) rfl rfl 15 rfl ?_
  refine g_iloadN S56.here hx (hb hby own_d_jdk_65_method_133_code_231) rfl 16 rfl ?_
  refine g_aload S56.here hx (hb hby own_d_jdk_65_method_133_code_232) rfl rfl 18 rfl ?_
  refine g_iconst S56.here hx (hb hby own_d_jdk_65_method_133_code_233) (0 : Int32) (by decide) 19 rfl ?_
  refine g_aloadN S56.here hx (hb hby own_d_jdk_65_method_133_code_234) rfl rfl 20 rfl ?_
  refine S56.len hx B (hb hby own_d_jdk_65_method_133_code_235) 21 rfl ?_
  refine g_iloadN S56.here hx (hb hby own_d_jdk_65_method_133_code_236) rfl 22 rfl ?_
  refine g_isub S56.here hx (hb hby own_d_jdk_65_method_133_code_237) 23 rfl ?_
  rw [show (16 : Int32) - (0 : Int32) = 16 from by decide]
  refine g_iloadN S56.here hx (hb hby own_d_jdk_65_method_133_code_238) rfl 24 rfl ?_
  refine S56.callS hx (W := 4) (own_q183 hw) (own_q184 hw) (own_q185 hw) (own_q186 hw) (by decide) (ctMin l Z a0 hw (16 : Int32) (Int32.ofNat n) h56 S56.old (by have := own_nat (n := n) (by omega); have e : (16 : Int32).toInt = 16 := (by decide); omega)) nosf (by decide) (by decide) (by rw [hml]; rfl) [(.int (16 : Int32)), (.int (Int32.ofNat n))] [(.int (0 : Int32)), (.ref t), (.int (0 : Int32)), (.ref b)] (lenOf own_pd240 rfl) rfl rfl (Nat.le_refl _) (hb hby own_d_jdk_65_method_133_code_239) (by decide) (by decide) 27 rfl (fun v57 vm57 T57 h57 S57 Q57 R57 => ?_)
  obtain ⟨rfl, rfl⟩ := Q57
  show Goes _ _ _ _ T57 (mkF m 27 #[.val (.ref b), .val (.int (0 : Int32)), .val (.int (Int32.ofNat n)), .val (.int (Int32.ofNat n)), .val (.ref t)] [(.int (Int32.ofNat n)), (.int (0 : Int32)), (.ref t), (.int (0 : Int32)), (.ref b)])
  refine S57.cpB hx (own_q187 hw) (own_q142 hw) (own_q140 hw) (own_q141 hw) B V56 (us := vd.take n) (by decide) (by decide) (own_nneg (by omega)) (by rw [e0, e1, e4]; omega) (by rw [e0, e1]; omega) (by rw [e1, e0]; exact own_range _ _ _ (by omega)) (by rw [e0, e1, List.length_replicate]; omega) gt safe_nil (by rw [hml]; rfl) [] (hb hby own_d_jdk_65_method_133_code_241) (by decide) (W := 0) (by decide) (by decide) 30 rfl (fun T58 h58 S58 K1 V1 R58 => ?_)
  rw [e0, e1, List.take_zero, List.nil_append, Nat.zero_add, List.drop_replicate, Nat.sub_self, List.replicate_zero, List.append_nil] at V1
  have X := own_ext_keep E56 K1 (fun x hx => by cases List.mem_singleton.mp hx; exact Nat.le_of_eq g56.symm)
  refine g_aload S58.here hx (hb hby own_d_jdk_65_method_133_code_242) rfl rfl 32 rfl ?_
  exact S58.aret hx hlk hret rfl rfl rfl (hb hby own_d_jdk_65_method_133_code_243) ⟨t, rfl, Nat.le_of_eq g56.symm, X, _, V1⟩ (by decide) (by decide)
theorem own_ef244 (m : MethodId) (x0 : Addr) (x1 : Int32) (x2 : Int32) : entryFrame m #[(.ref x0), (.int x1), (.int x2)] 3 = mkF m 0 #[.val (.ref x0), .val (.int x1), .val (.int x2)] [] := by first | (simp [entryFrame, mkF, argsToLocals, Value.category]; done) | rfl
theorem own_d_jdk_65_method_132_code_245 : decode jdk_65_method_132_code 0 = .ok (.iload_n 1, 1) := by decide +kernel
theorem own_d_jdk_65_method_132_code_246 : decode jdk_65_method_132_code 1 = .ok (.ifCond .ne 9, 3) := by decide +kernel
theorem own_d_jdk_65_method_132_code_247 : decode jdk_65_method_132_code 4 = .ok (.iload_n 2, 1) := by decide +kernel
theorem own_d_jdk_65_method_132_code_248 : decode jdk_65_method_132_code 5 = .ok (.aload_n 0, 1) := by decide +kernel
theorem own_d_jdk_65_method_132_code_249 : decode jdk_65_method_132_code 6 = .ok (.arraylength, 1) := by decide +kernel
theorem own_d_jdk_65_method_132_code_250 : decode jdk_65_method_132_code 7 = .ok (.if_icmp .eq 10, 3) := by decide +kernel
theorem own_d_jdk_65_method_132_code_251 : decode jdk_65_method_132_code 10 = .ok (.aload_n 0, 1) := by decide +kernel
theorem own_d_jdk_65_method_132_code_252 : decode jdk_65_method_132_code 11 = .ok (.iload_n 1, 1) := by decide +kernel
theorem own_d_jdk_65_method_132_code_253 : decode jdk_65_method_132_code 12 = .ok (.iload_n 2, 1) := by decide +kernel
theorem own_d_jdk_65_method_132_code_254 : decode jdk_65_method_132_code 13 = .ok (.invokestatic 339, 3) := by decide +kernel
theorem own_pd255 : parseMethodDescriptor "([BII)[B" = some ⟨[(.array .byte), .int, .int], some (.array .byte)⟩ := by decide +kernel
theorem own_d_jdk_65_method_132_code_256 : decode jdk_65_method_132_code 16 = .ok (.areturn, 1) := by decide +kernel
set_option maxRecDepth 65536 in
set_option maxHeartbeats 40000000 in
theorem ctCR (l : Launch) (Z : State) (a0 : Array Value) (hw : ∀ d ∈ tables_1, d.before a0 Z = true) (b : Addr) (n : Nat) (kb : ClassId) (vd : List Value) (h : Heap) (O : Old Z Z.heap.size h) (B : Arv Z h b kb .byte (16 : Int32) vd (.int 0)) (bl : vd.length = 16) (hn : n ≤ 15) :
    Ct 0 l Z [] [] (⟨"java/util/Arrays", "copyOfRange", "([BII)[B"⟩ : MethodName) jdk_65_method_132_code 3 (some (.array .byte)) ({ frames := 2, cells := 1, slots := 16, locals := 56 } : Room) #[(.ref b), (.int (0 : Int32)), (.int (Int32.ofNat n))] h (fun v h' => ∃ t : Addr, v = some (.ref t) ∧ h.size ≤ t ∧ Ext h h' ∧ ∃ k, Arv Z h' t k .byte (Int32.ofNat n) (vd.take n) (.int 0)) := by
  refine Ct.intro (plainFor_of_name own_pn210) O (fun _ => rfl) ⟨a0, EW.nil⟩ ?_
  intro p e s m below meth c T0 hx hby hml hret hnm hlk hsf S0
  refine Goes.cast (own_ef244 m b (0 : Int32) (Int32.ofNat n)) ?_
  refine g_iloadN S0.here hx (hb hby own_d_jdk_65_method_132_code_245) rfl 1 rfl ?_
  refine g_ifF S0.here hx (hb hby own_d_jdk_65_method_132_code_246) 0 (by decide) (by show ¬ (¬ 0 = 0); decide) 4 rfl ?_
  refine g_iloadN S0.here hx (hb hby own_d_jdk_65_method_132_code_247) rfl 5 rfl ?_
  refine g_aloadN S0.here hx (hb hby own_d_jdk_65_method_132_code_248) rfl rfl 6 rfl ?_
  refine S0.len hx B (hb hby own_d_jdk_65_method_132_code_249) 7 rfl ?_
  refine g_icmpF S0.here hx (hb hby own_d_jdk_65_method_132_code_250) (Int32.ofNat n).toInt 16 rfl (by decide) (show ¬ ((Int32.ofNat n).toInt = 16) from by have := own_nat (n := n) (by omega); omega) 10 rfl ?_
  refine g_aloadN S0.here hx (hb hby own_d_jdk_65_method_132_code_251) rfl rfl 11 rfl ?_
  refine g_iloadN S0.here hx (hb hby own_d_jdk_65_method_132_code_252) rfl 12 rfl ?_
  refine g_iloadN S0.here hx (hb hby own_d_jdk_65_method_132_code_253) rfl 13 rfl ?_
  refine S0.callS hx (W := 0) (own_q177 hw) (own_q178 hw) (own_q175 hw) (own_q179 hw) (by decide) (ctCB l Z a0 hw b n kb vd h O B bl hn) nosf (by decide) (by decide) (by rw [hml]; rfl) [(.ref b), (.int (0 : Int32)), (.int (Int32.ofNat n))] [] (lenOf own_pd255 rfl) rfl rfl (Nat.le_refl _) (hb hby own_d_jdk_65_method_132_code_254) (by decide) (by decide) 16 rfl (fun v59 vm59 T59 h59 S59 Q59 R59 => ?_)
  obtain ⟨t, rfl, gt, X, kt, V1⟩ := Q59
  show Goes _ _ _ _ T59 (mkF m 16 #[.val (.ref b), .val (.int (0 : Int32)), .val (.int (Int32.ofNat n))] [(.ref t)])
  exact S59.aret hx hlk hret rfl rfl rfl (hb hby own_d_jdk_65_method_132_code_256) ⟨t, rfl, gt, X, kt, V1⟩ (by decide) (by decide)
theorem own_ef257 (m : MethodId) (x0 : Addr) (x1 : Addr) : entryFrame m #[(.ref x0), (.ref x1), .null] 5 = mkF m 0 #[.val (.ref x0), .val (.ref x1), .val .null, .unset, .unset] [] := by first | (simp [entryFrame, mkF, argsToLocals, Value.category]; done) | rfl
theorem own_d_jdk_42_method_150_code_258 : decode jdk_42_method_150_code 0 = .ok (.aload_n 0, 1) := by decide +kernel
theorem own_d_jdk_42_method_150_code_259 : decode jdk_42_method_150_code 1 = .ok (.invokespecial 1, 3) := by decide +kernel
theorem own_d_jdk_42_method_150_code_260 : decode jdk_42_method_150_code 4 = .ok (.aload_n 1, 1) := by decide +kernel
theorem own_d_jdk_42_method_150_code_261 : decode jdk_42_method_150_code 5 = .ok (.invokevirtual 552, 3) := by decide +kernel
theorem own_pd262 : parseMethodDescriptor "()[B" = some ⟨[], some (.array .byte)⟩ := by decide +kernel
theorem own_d_jdk_42_method_150_code_263 : decode jdk_42_method_150_code 8 = .ok (.astore_n 3, 1) := by decide +kernel
theorem own_d_jdk_42_method_150_code_264 : decode jdk_42_method_150_code 9 = .ok (.aload_n 1, 1) := by decide +kernel
theorem own_d_jdk_42_method_150_code_265 : decode jdk_42_method_150_code 10 = .ok (.invokevirtual 549, 3) := by decide +kernel
theorem own_d_jdk_42_method_150_code_266 : decode jdk_42_method_150_code 13 = .ok (.istore 4, 2) := by decide +kernel
theorem own_d_jdk_42_method_150_code_267 : decode jdk_42_method_150_code 15 = .ok (.aload_n 1, 1) := by decide +kernel
theorem own_d_jdk_42_method_150_code_268 : decode jdk_42_method_150_code 16 = .ok (.invokevirtual 1047, 3) := by decide +kernel
theorem own_pd269 : parseMethodDescriptor "()Z" = some ⟨[], some .boolean⟩ := by decide +kernel
theorem own_d_jdk_42_method_150_code_270 : decode jdk_42_method_150_code 19 = .ok (.ifCond .eq 22, 3) := by decide +kernel
theorem own_d_jdk_42_method_150_code_271 : decode jdk_42_method_150_code 22 = .ok (.aload_n 0, 1) := by decide +kernel
theorem own_d_jdk_42_method_150_code_272 : decode jdk_42_method_150_code 23 = .ok (.iconst 0, 1) := by decide +kernel
theorem own_d_jdk_42_method_150_code_273 : decode jdk_42_method_150_code 24 = .ok (.putfield 15, 3) := by decide +kernel
theorem own_d_jdk_42_method_150_code_274 : decode jdk_42_method_150_code 27 = .ok (.aload_n 0, 1) := by decide +kernel
theorem own_d_jdk_42_method_150_code_275 : decode jdk_42_method_150_code 28 = .ok (.aload_n 3, 1) := by decide +kernel
theorem own_d_jdk_42_method_150_code_276 : decode jdk_42_method_150_code 29 = .ok (.iconst 0, 1) := by decide +kernel
theorem own_d_jdk_42_method_150_code_277 : decode jdk_42_method_150_code 30 = .ok (.iload 4, 2) := by decide +kernel
theorem own_d_jdk_42_method_150_code_278 : decode jdk_42_method_150_code 32 = .ok (.invokestatic 54, 3) := by decide +kernel
theorem own_d_jdk_42_method_150_code_279 : decode jdk_42_method_150_code 35 = .ok (.putfield 9, 3) := by decide +kernel
theorem own_d_jdk_42_method_150_code_280 : decode jdk_42_method_150_code 38 = .ok (.goto 59, 3) := by decide +kernel
theorem own_d_jdk_42_method_150_code_281 : decode jdk_42_method_150_code 97 = .ok (.return_, 1) := by decide +kernel
set_option maxRecDepth 65536 in
set_option maxHeartbeats 40000000 in
theorem ctS2 (l : Launch) (Z : State) (a0 : Array Value) (hw : ∀ d ∈ tables_1, d.before a0 Z = true) (x a b : Addr) (ds : List Int32) (h : Heap) (O : Old Z Z.heap.size h) (G : own_cs Z) (D : own_sb Z h a b ds) (F : own_raw Z h x) (gx : Z.heap.size ≤ x) (nb : b ≠ x) :
    Ct 0 l Z [] [] (⟨"java/lang/String", "<init>", "(Ljava/lang/AbstractStringBuilder;Ljava/lang/Void;)V"⟩ : MethodName) jdk_42_method_150_code 5 none ({ frames := 3, cells := 1, slots := 16, locals := 71 } : Room) #[(.ref x), (.ref a), .null] h (fun v h' => v = none ∧ own_str Z h' x ds ∧ Keep h h' [x]) := by
  refine Ct.intro (plainFor_of_name own_pn17) O (fun _ => rfl) ⟨a0, EW.nil⟩ ?_
  intro p e s m below meth c T0 hx hby hml hret hnm hlk hsf S0
  refine Goes.cast (own_ef257 m x a) ?_
  obtain ⟨f1, ⟨v0, f2⟩, c0, f3⟩ := F
  refine g_aloadN S0.here hx (hb hby own_d_jdk_42_method_150_code_258) rfl rfl 1 rfl ?_
  refine S0.initO hx (own_q11 hw) (own_q12 hw) (own_q13 hw) (by rw [hml]; rfl) (W := 0) (by decide) (Nat.le_refl _) (by decide) (hb hby own_d_jdk_42_method_150_code_259) 4 rfl (fun T60 S60 => ?_)
  refine g_aloadN S60.here hx (hb hby own_d_jdk_42_method_150_code_260) rfl rfl 5 rfl ?_
  refine S60.callV hx (W := 0) (C := "java/lang/StringBuilder") (own_q155 hw) (own_q156 hw) (notFace_of_selects (args := #[]) (mvT S60.warm (own_q158 hw))) (own_q158 hw) (own_q157 hw) (by decide) D.exa (own_q159 hw) (own_q87 hw) (ctGV l Z a0 hw a b ds h O D) nosf (by decide) (by decide) (by rw [hml]; rfl) [] [] (lenOf own_pd262 rfl) rfl rfl (Nat.le_refl _) (hb hby own_d_jdk_42_method_150_code_261) (by decide) (by decide) 8 rfl (fun v61 vm61 T61 h61 S61 Q61 R61 => ?_)
  obtain ⟨rfl, rfl⟩ := Q61
  show Goes _ _ _ _ T61 (mkF m 8 #[.val (.ref x), .val (.ref a), .val .null, .unset, .unset] [(.ref b)])
  refine g_astoreN S61.here hx (hb hby own_d_jdk_42_method_150_code_263) rfl #[.val (.ref x), .val (.ref a), .val .null, .val (.ref b), .unset] rfl 9 rfl ?_
  refine g_aloadN S61.here hx (hb hby own_d_jdk_42_method_150_code_264) rfl rfl 10 rfl ?_
  refine S61.callV hx (W := 0) (C := "java/lang/StringBuilder") (own_q160 hw) (own_q161 hw) (own_nf (x := (⟨"java/lang/AbstractStringBuilder", "length", "()I"⟩ : MethodName)) (y' := (⟨"java/lang/AbstractStringBuilder", "getValue", "()[B"⟩ : MethodName)) (aa := #[]) rfl (mvT S61.warm (own_q157 hw)) (notFace_of_selects (args := #[]) (mvT S61.warm (own_q158 hw)))) (own_q163 hw) (own_q164 hw) (by decide) D.exa (own_q165 hw) (own_q79 hw) (ctSL l Z a0 hw a b ds h O D) nosf (by decide) (by decide) (by rw [hml]; rfl) [] [] (lenOf own_pd1 rfl) rfl rfl (Nat.le_refl _) (hb hby own_d_jdk_42_method_150_code_265) (by decide) (by decide) 13 rfl (fun v62 vm62 T62 h62 S62 Q62 R62 => ?_)
  obtain ⟨rfl, rfl⟩ := Q62
  show Goes _ _ _ _ T62 (mkF m 13 #[.val (.ref x), .val (.ref a), .val .null, .val (.ref b), .unset] [(.int (Int32.ofNat ds.length))])
  refine g_istore S62.here hx (hb hby own_d_jdk_42_method_150_code_266) #[.val (.ref x), .val (.ref a), .val .null, .val (.ref b), .val (.int (Int32.ofNat ds.length))] rfl 15 rfl ?_
  refine g_aloadN S62.here hx (hb hby own_d_jdk_42_method_150_code_267) rfl rfl 16 rfl ?_
  refine S62.callV hx (W := 0) (C := "java/lang/StringBuilder") (own_q168 hw) (own_q169 hw) (notFace_of_selects (args := #[]) (mvT S62.warm (own_q171 hw))) (own_q171 hw) (own_q170 hw) (by decide) D.exa (own_q172 hw) (own_q87 hw) (ctIL l Z a0 hw a b ds h O G D) nosf (by decide) (by decide) (by rw [hml]; rfl) [] [] (lenOf own_pd269 rfl) rfl rfl (Nat.le_refl _) (hb hby own_d_jdk_42_method_150_code_268) (by decide) (by decide) 19 rfl (fun v63 vm63 T63 h63 S63 Q63 R63 => ?_)
  obtain ⟨rfl, rfl⟩ := Q63
  show Goes _ _ _ _ T63 (mkF m 19 #[.val (.ref x), .val (.ref a), .val .null, .val (.ref b), .val (.int (Int32.ofNat ds.length))] [(.int (1 : Int32))])
  refine g_ifF S63.here hx (hb hby own_d_jdk_42_method_150_code_270) 1 (by decide) (by show ¬ (1 = 0); decide) 22 rfl ?_
  refine g_aloadN S63.here hx (hb hby own_d_jdk_42_method_150_code_271) rfl rfl 23 rfl ?_
  refine g_iconst S63.here hx (hb hby own_d_jdk_42_method_150_code_272) (0 : Int32) (by decide) 24 rfl ?_
  refine S63.putF hx (host := "") (Or.inl (own_q21 hw)) Via.refl f3 f1 (Or.inr ⟨(own_q17 hw), rfl, hnm⟩) (own_q1 hw) (ty := .byte) (by decide) rfl rfl safe_nil gx (hb hby own_d_jdk_42_method_150_code_273) 27 rfl (fun T64 h64 S64 W64 R64 => ?_)
  have f1 := f1.wr W64
  have f3 := f3.same W64
  have f2 := f2.other W64 (Or.inr (slot_ne (Or.inr (own_q16 hw)) (Or.inr (own_q17 hw)) (by decide) (t := (.array .byte)) (t' := .byte) (by decide) (by decide)))
  have K1 := Keep.of_wr W64
  obtain ⟨d1, d2, k, d3, d4, d5, d6, d7⟩ := D
  have d7 := d7.other W64 nb
  have bl : (own_bs ds ++ List.replicate (16 - ds.length) (Value.int 0)).length = 16 := by rw [List.length_append, own_bs_len, List.length_replicate]; omega
  refine g_aloadN S64.here hx (hb hby own_d_jdk_42_method_150_code_274) rfl rfl 28 rfl ?_
  refine g_aloadN S64.here hx (hb hby own_d_jdk_42_method_150_code_275) rfl rfl 29 rfl ?_
  refine g_iconst S64.here hx (hb hby own_d_jdk_42_method_150_code_276) (0 : Int32) (by decide) 30 rfl ?_
  refine g_iload S64.here hx (hb hby own_d_jdk_42_method_150_code_277) rfl 32 rfl ?_
  refine S64.callS hx (W := 1) (own_q173 hw) (own_q174 hw) (own_q175 hw) (own_q176 hw) (by decide) (ctCR l Z a0 hw b ds.length k _ h64 S64.old d7 bl d2) nosf (by decide) (by decide) (by rw [hml]; rfl) [(.ref b), (.int (0 : Int32)), (.int (Int32.ofNat ds.length))] [(.ref x)] (lenOf own_pd255 rfl) rfl rfl (Nat.le_refl _) (hb hby own_d_jdk_42_method_150_code_278) (by decide) (by decide) 35 rfl (fun v65 vm65 T65 h65 S65 Q65 R65 => ?_)
  obtain ⟨t, rfl, gt, X, kt, V1⟩ := Q65
  show Goes _ _ _ _ T65 (mkF m 35 #[.val (.ref x), .val (.ref a), .val .null, .val (.ref b), .val (.int (Int32.ofNat ds.length))] [(.ref t), (.ref x)])
  rw [own_take] at V1
  have nt : t ≠ x := fun q => by rw [q] at gt; exact absurd f1.lt (Nat.not_lt.mpr gt)
  have f1 := f1.ext X
  have f2 := f2.ext X
  have f3 := f3.ext X
  have K1 := K1.ext X
  refine S65.putF hx (host := "") (Or.inl (own_q20 hw)) Via.refl f2 f1 (Or.inr ⟨(own_q16 hw), rfl, hnm⟩) (own_q1 hw) (ty := (.array .byte)) (by decide) rfl rfl safe_nil gx (hb hby own_d_jdk_42_method_150_code_279) 38 rfl (fun T66 h66 S66 W66 R66 => ?_)
  have f1 := f1.wr W66
  have f2 := f2.same W66
  have f3 := f3.other W66 (Or.inr (slot_ne (Or.inr (own_q17 hw)) (Or.inr (own_q16 hw)) (by decide) (t := .byte) (t' := (.array .byte)) (by decide) (by decide)))
  have V1 := V1.other W66 nt
  have K1 := K1.wr W66 (Or.inl (List.mem_singleton.mpr rfl))
  refine g_goto S66.here hx (hb hby own_d_jdk_42_method_150_code_280) 97 (by decide) (by decide) ?_
  exact S66.vret hx hlk hret (hb hby own_d_jdk_42_method_150_code_281) ⟨rfl, ⟨d1, by omega, t, kt, f1, f3, f2, V1⟩, K1⟩ (by decide) (by decide)
theorem own_d_jdk_42_method_53_code_282 : decode jdk_42_method_53_code 0 = .ok (.aload_n 0, 1) := by decide +kernel
theorem own_d_jdk_42_method_53_code_283 : decode jdk_42_method_53_code 1 = .ok (.aload_n 1, 1) := by decide +kernel
theorem own_d_jdk_42_method_53_code_284 : decode jdk_42_method_53_code 2 = .ok (.aconst_null, 1) := by decide +kernel
theorem own_d_jdk_42_method_53_code_285 : decode jdk_42_method_53_code 3 = .ok (.invokespecial 489, 3) := by decide +kernel
theorem own_pd286 : parseMethodDescriptor "(Ljava/lang/AbstractStringBuilder;Ljava/lang/Void;)V" = some ⟨[(.object "java/lang/AbstractStringBuilder"), (.object "java/lang/Void")], none⟩ := by decide +kernel
theorem own_d_jdk_42_method_53_code_287 : decode jdk_42_method_53_code 6 = .ok (.return_, 1) := by decide +kernel
set_option maxRecDepth 65536 in
set_option maxHeartbeats 40000000 in
theorem ctS1 (l : Launch) (Z : State) (a0 : Array Value) (hw : ∀ d ∈ tables_1, d.before a0 Z = true) (x a b : Addr) (ds : List Int32) (h : Heap) (O : Old Z Z.heap.size h) (G : own_cs Z) (D : own_sb Z h a b ds) (F : own_raw Z h x) (gx : Z.heap.size ≤ x) (nb : b ≠ x) :
    Ct 0 l Z [] [] (⟨"java/lang/String", "<init>", "(Ljava/lang/StringBuilder;)V"⟩ : MethodName) jdk_42_method_53_code 2 none ({ frames := 4, cells := 1, slots := 16, locals := 87 } : Room) #[(.ref x), (.ref a)] h (fun v h' => v = none ∧ own_str Z h' x ds ∧ Keep h h' [x]) := by
  refine Ct.intro (plainFor_of_name own_pn17) O (fun _ => rfl) ⟨a0, EW.nil⟩ ?_
  intro p e s m below meth c T0 hx hby hml hret hnm hlk hsf S0
  refine Goes.cast (own_ef18 m x a) ?_
  refine g_aloadN S0.here hx (hb hby own_d_jdk_42_method_53_code_282) rfl rfl 1 rfl ?_
  refine g_aloadN S0.here hx (hb hby own_d_jdk_42_method_53_code_283) rfl rfl 2 rfl ?_
  refine g_aconst_null S0.here hx (hb hby own_d_jdk_42_method_53_code_284) 3 rfl ?_
  refine S0.callI hx (W := 0) (a := x) rfl (own_q152 hw) (own_q153 hw) (own_q154 hw) (by decide) (own_q2 hw) (ctS2 l Z a0 hw x a b ds h O G D F gx nb) nosf (by decide) (by decide) (by rw [hml]; rfl) [(.ref a), .null] [] (lenOf own_pd286 rfl) rfl rfl (Nat.le_refl _) (hb hby own_d_jdk_42_method_53_code_285) (by decide) (by decide) 6 rfl (fun v67 vm67 T67 h67 S67 Q67 R67 => ?_)
  obtain ⟨rfl, B, KK⟩ := Q67
  show Goes _ _ _ _ T67 (mkF m 6 #[.val (.ref x), .val (.ref a)] [])
  exact S67.vret hx hlk hret (hb hby own_d_jdk_42_method_53_code_287) ⟨rfl, B, KK⟩ (by decide) (by decide)
theorem own_d_jdk_67_method_42_code_288 : decode jdk_67_method_42_code 0 = .ok (.new 18, 3) := by decide +kernel
theorem own_d_jdk_67_method_42_code_289 : decode jdk_67_method_42_code 3 = .ok (.dup, 1) := by decide +kernel
theorem own_d_jdk_67_method_42_code_290 : decode jdk_67_method_42_code 4 = .ok (.aload_n 0, 1) := by decide +kernel
theorem own_d_jdk_67_method_42_code_291 : decode jdk_67_method_42_code 5 = .ok (.invokespecial 137, 3) := by decide +kernel
theorem own_pd292 : parseMethodDescriptor "(Ljava/lang/StringBuilder;)V" = some ⟨[(.object "java/lang/StringBuilder")], none⟩ := by decide +kernel
theorem own_d_jdk_67_method_42_code_293 : decode jdk_67_method_42_code 8 = .ok (.areturn, 1) := by decide +kernel
set_option maxRecDepth 65536 in
set_option maxHeartbeats 40000000 in
theorem ctTS (l : Launch) (Z : State) (a0 : Array Value) (hw : ∀ d ∈ tables_1, d.before a0 Z = true) (a b : Addr) (ds : List Int32) (h : Heap) (O : Old Z Z.heap.size h) (G : own_cs Z) (D : own_sb Z h a b ds) :
    Ct 0 l Z [] [] (⟨"java/lang/StringBuilder", "toString", "()Ljava/lang/String;"⟩ : MethodName) jdk_67_method_42_code 1 (some (.object "java/lang/String")) ({ frames := 5, cells := 2, slots := 20, locals := 101 } : Room) #[(.ref a)] h (fun v h' => ∃ x : Addr, v = some (.ref x) ∧ own_str Z h' x ds ∧ Ext h h') := by
  refine Ct.intro (plainFor_of_name own_pn94) O (fun _ => rfl) ⟨a0, EW.nil⟩ ?_
  intro p e s m below meth c T0 hx hby hml hret hnm hlk hsf S0
  refine Goes.cast (own_ef69 m a) ?_
  refine S0.new hx (own_q148 hw) (own_q1 hw) (own_q2 hw) (hb hby own_d_jdk_67_method_42_code_288) (by decide) (by decide) 3 rfl (fun T68 h68 x S68 g68 E68 A68 D68 F68 R68 U68 => ?_)
  have ga68 : Z.heap.size ≤ x := by rw [g68]; exact S0.size
  have r : own_raw Z h68 x := ⟨A68, ⟨_, D68 (Or.inr (own_q16 hw)) (ty := .array .byte) (by decide)⟩, _, D68 (Or.inr (own_q17 hw)) (ty := .byte) (by decide)⟩
  have nb : b ≠ x := (own_ne_new g68 D.ltb).symm
  refine g_dup S68.here hx (hb hby own_d_jdk_67_method_42_code_289) rfl 4 rfl ?_
  refine g_aloadN S68.here hx (hb hby own_d_jdk_67_method_42_code_290) rfl rfl 5 rfl ?_
  refine S68.callI hx (W := 1) (a := x) rfl (own_q149 hw) (own_q150 hw) (own_q151 hw) (by decide) (own_q2 hw) (ctS1 l Z a0 hw x a b ds h68 S68.old G (D.ext E68) r ga68 nb) nosf (by decide) (by decide) (by rw [hml]; rfl) [(.ref a)] [(.ref x)] (lenOf own_pd292 rfl) rfl rfl (Nat.le_refl _) (hb hby own_d_jdk_67_method_42_code_291) (by decide) (by decide) 8 rfl (fun v69 vm69 T69 h69 S69 Q69 R69 => ?_)
  obtain ⟨rfl, B, KK⟩ := Q69
  show Goes _ _ _ _ T69 (mkF m 8 #[.val (.ref a)] [(.ref x)])
  have X := own_ext_keep E68 KK (fun y hy => by cases List.mem_singleton.mp hy; exact Nat.le_of_eq g68.symm)
  exact S69.aret hx hlk hret rfl rfl rfl (hb hby own_d_jdk_67_method_42_code_293) ⟨x, rfl, B, X⟩ (by decide) (by decide)
theorem own_d_jdk_31_method_11_code_294 : decode jdk_31_method_11_code 0 = .ok (.aload_n 0, 1) := by decide +kernel
theorem own_d_jdk_31_method_11_code_295 : decode jdk_31_method_11_code 1 = .ok (.ifnonnull 12, 3) := by decide +kernel
theorem own_d_jdk_31_method_11_code_296 : decode jdk_31_method_11_code 13 = .ok (.aload_n 0, 1) := by decide +kernel
theorem own_d_jdk_31_method_11_code_297 : decode jdk_31_method_11_code 14 = .ok (.areturn, 1) := by decide +kernel
theorem own_pn298 : plainName "java/util/Objects" = true := by first | (simp [plainName, overriddenIn]; done) | decide +kernel
set_option maxRecDepth 65536 in
set_option maxHeartbeats 40000000 in
theorem ctRN (l : Launch) (Z : State) (a0 : Array Value) (hw : ∀ d ∈ tables_1, d.before a0 Z = true) (a b : Addr) (h : Heap) (O : Old Z Z.heap.size h) :
    Ct 1 l Z consts_1 [] (⟨"java/util/Objects", "requireNonNull", "(Ljava/lang/Object;Ljava/lang/String;)Ljava/lang/Object;"⟩ : MethodName) jdk_31_method_11_code 2 (some (.object "java/lang/Object")) ({ frames := 0, cells := 0, slots := 0, locals := 0 } : Room) #[(.ref a), (.ref b)] h (fun v h' => v = some (.ref a) ∧ h = h') := by
  refine Ct.intro (plainFor_of_name own_pn298) O (fun q => by cases q) ⟨a0, own_ew hw⟩ ?_
  intro p e s m below meth c T0 hx hby hml hret hnm hlk hsf S0
  refine Goes.cast (own_ef18 m a b) ?_
  refine g_aloadN S0.here hx (hb hby own_d_jdk_31_method_11_code_294) rfl rfl 1 rfl ?_
  refine g_ifnonnullT S0.here hx (hb hby own_d_jdk_31_method_11_code_295) 13 (by decide) (by decide) ?_
  refine g_aloadN S0.here hx (hb hby own_d_jdk_31_method_11_code_296) rfl rfl 14 rfl ?_
  exact S0.aret hx hlk hret rfl rfl rfl (hb hby own_d_jdk_31_method_11_code_297) ⟨rfl, rfl⟩ (by decide) (by decide)
def own_rawq (Z : State) (h : Heap) (a : Addr) : Prop := Exa Z h a "com/example/stanchion/stanchion/changelog/Sql" ∧ own_has Z h a "com/example/stanchion/stanchion/changelog/Sql" "text" "Ljava/lang/String;" ∧ own_has Z h a "com/example/stanchion/stanchion/changelog/Sql" "file" "Ljava/lang/String;" ∧ own_has Z h a "com/example/stanchion/stanchion/changelog/Sql" "splitStatements" "Z" ∧ own_has Z h a "com/example/stanchion/stanchion/changelog/Sql" "endDelimiter" "Ljava/lang/String;" ∧ own_has Z h a "com/example/stanchion/stanchion/changelog/Sql" "stripComments" "Z" ∧ own_has Z h a "com/example/stanchion/stanchion/changelog/Sql" "dbms" "Lcom/example/stanchion/stanchion/changelog/Dbms;"
theorem own_rawq.ext {Z : State} {h h' : Heap} {a : Addr} (F : own_rawq Z h a) (E : Ext h h') : own_rawq Z h' a := by
  obtain ⟨f, f0, f1, f2, f3, f4, f5⟩ := F; exact ⟨f.ext E, f0.ext E, f1.ext E, f2.ext E, f3.ext E, f4.ext E, f5.ext E⟩
theorem own_ef299 (m : MethodId) (x0 : Addr) (x1 : Addr) (x2 : Addr) (x3 : Int32) (x4 : Addr) (x5 : Int32) (x6 : Addr) : entryFrame m #[(.ref x0), (.ref x1), (.ref x2), (.int x3), (.ref x4), (.int x5), (.ref x6)] 7 = mkF m 0 #[.val (.ref x0), .val (.ref x1), .val (.ref x2), .val (.int x3), .val (.ref x4), .val (.int x5), .val (.ref x6)] [] := by first | (simp [entryFrame, mkF, argsToLocals, Value.category]; done) | rfl
theorem own_d_prog_20_method_1_code_300 : decode prog_20_method_1_code 0 = .ok (.aload_n 0, 1) := by decide +kernel
theorem own_d_prog_20_method_1_code_301 : decode prog_20_method_1_code 1 = .ok (.invokespecial 1, 3) := by decide +kernel
theorem own_pd302 : parseMethodDescriptor "()V" = some ⟨[], none⟩ := by decide +kernel
theorem own_d_prog_20_method_1_code_303 : decode prog_20_method_1_code 4 = .ok (.aload_n 1, 1) := by decide +kernel
theorem own_d_prog_20_method_1_code_304 : decode prog_20_method_1_code 5 = .ok (.ldc 7, 2) := by decide +kernel
theorem own_d_prog_20_method_1_code_305 : decode prog_20_method_1_code 7 = .ok (.invokestatic 9, 3) := by decide +kernel
theorem own_pd306 : parseMethodDescriptor "(Ljava/lang/Object;Ljava/lang/String;)Ljava/lang/Object;" = some ⟨[(.object "java/lang/Object"), (.object "java/lang/String")], some (.object "java/lang/Object")⟩ := by decide +kernel
theorem own_d_prog_20_method_1_code_307 : decode prog_20_method_1_code 10 = .ok (.pop, 1) := by decide +kernel
theorem own_d_prog_20_method_1_code_308 : decode prog_20_method_1_code 11 = .ok (.aload 4, 2) := by decide +kernel
theorem own_d_prog_20_method_1_code_309 : decode prog_20_method_1_code 13 = .ok (.ldc 15, 2) := by decide +kernel
theorem own_d_prog_20_method_1_code_310 : decode prog_20_method_1_code 15 = .ok (.invokestatic 9, 3) := by decide +kernel
theorem own_d_prog_20_method_1_code_311 : decode prog_20_method_1_code 18 = .ok (.pop, 1) := by decide +kernel
theorem own_d_prog_20_method_1_code_312 : decode prog_20_method_1_code 19 = .ok (.aload 6, 2) := by decide +kernel
theorem own_d_prog_20_method_1_code_313 : decode prog_20_method_1_code 21 = .ok (.ldc 17, 2) := by decide +kernel
theorem own_d_prog_20_method_1_code_314 : decode prog_20_method_1_code 23 = .ok (.invokestatic 9, 3) := by decide +kernel
theorem own_d_prog_20_method_1_code_315 : decode prog_20_method_1_code 26 = .ok (.pop, 1) := by decide +kernel
theorem own_d_prog_20_method_1_code_316 : decode prog_20_method_1_code 27 = .ok (.aload_n 0, 1) := by decide +kernel
theorem own_d_prog_20_method_1_code_317 : decode prog_20_method_1_code 28 = .ok (.aload_n 1, 1) := by decide +kernel
theorem own_d_prog_20_method_1_code_318 : decode prog_20_method_1_code 29 = .ok (.putfield 19, 3) := by decide +kernel
theorem own_d_prog_20_method_1_code_319 : decode prog_20_method_1_code 32 = .ok (.aload_n 0, 1) := by decide +kernel
theorem own_d_prog_20_method_1_code_320 : decode prog_20_method_1_code 33 = .ok (.aload_n 2, 1) := by decide +kernel
theorem own_d_prog_20_method_1_code_321 : decode prog_20_method_1_code 34 = .ok (.putfield 24, 3) := by decide +kernel
theorem own_d_prog_20_method_1_code_322 : decode prog_20_method_1_code 37 = .ok (.aload_n 0, 1) := by decide +kernel
theorem own_d_prog_20_method_1_code_323 : decode prog_20_method_1_code 38 = .ok (.iload_n 3, 1) := by decide +kernel
theorem own_d_prog_20_method_1_code_324 : decode prog_20_method_1_code 39 = .ok (.putfield 27, 3) := by decide +kernel
theorem own_d_prog_20_method_1_code_325 : decode prog_20_method_1_code 42 = .ok (.aload_n 0, 1) := by decide +kernel
theorem own_d_prog_20_method_1_code_326 : decode prog_20_method_1_code 43 = .ok (.aload 4, 2) := by decide +kernel
theorem own_d_prog_20_method_1_code_327 : decode prog_20_method_1_code 45 = .ok (.putfield 31, 3) := by decide +kernel
theorem own_d_prog_20_method_1_code_328 : decode prog_20_method_1_code 48 = .ok (.aload_n 0, 1) := by decide +kernel
theorem own_d_prog_20_method_1_code_329 : decode prog_20_method_1_code 49 = .ok (.iload 5, 2) := by decide +kernel
theorem own_d_prog_20_method_1_code_330 : decode prog_20_method_1_code 51 = .ok (.putfield 33, 3) := by decide +kernel
theorem own_d_prog_20_method_1_code_331 : decode prog_20_method_1_code 54 = .ok (.aload_n 0, 1) := by decide +kernel
theorem own_d_prog_20_method_1_code_332 : decode prog_20_method_1_code 55 = .ok (.aload 6, 2) := by decide +kernel
theorem own_d_prog_20_method_1_code_333 : decode prog_20_method_1_code 57 = .ok (.putfield 36, 3) := by decide +kernel
theorem own_d_prog_20_method_1_code_334 : decode prog_20_method_1_code 60 = .ok (.return_, 1) := by decide +kernel
theorem own_pn335 : plainName "com/example/stanchion/stanchion/changelog/Sql" = true := by first | (simp [plainName, overriddenIn]; done) | decide +kernel
set_option maxRecDepth 65536 in
set_option maxHeartbeats 40000000 in
theorem ctSq00 (l : Launch) (Z : State) (a0 : Array Value) (hw : ∀ d ∈ tables_1, d.before a0 Z = true) (a t f d g : Addr) (h : Heap) (O : Old Z Z.heap.size h) (F : own_rawq Z h a) (ga : Z.heap.size ≤ a) :
    Ct 1 l Z consts_1 [a] (⟨"com/example/stanchion/stanchion/changelog/Sql", "<init>", "(Ljava/lang/String;Ljava/lang/String;ZLjava/lang/String;ZLcom/example/stanchion/stanchion/changelog/Dbms;)V"⟩ : MethodName) prog_20_method_1_code 7 none ({ frames := 2, cells := 6, slots := 92, locals := 26 } : Room) #[(.ref a), (.ref t), (.ref f), (.int (0 : Int32)), (.ref d), (.int (0 : Int32)), (.ref g)] h (fun v h' => v = none ∧ Exa Z h' a "com/example/stanchion/stanchion/changelog/Sql" ∧ Fld Z h' a "com/example/stanchion/stanchion/changelog/Sql" "file" "Ljava/lang/String;" (.ref f) ∧ Keep h h' [a]) := by
  refine Ct.intro (plainFor_of_name own_pn335) O (fun q => by cases q) ⟨a0, own_ew hw⟩ ?_
  intro p e s m below meth c T0 hx hby hml hret hnm hlk hsf S0
  refine Goes.cast (own_ef299 m a t f (0 : Int32) d (0 : Int32) g) ?_
  refine g_aloadN S0.here hx (hb hby own_d_prog_20_method_1_code_300) rfl rfl 1 rfl ?_
  have SF := hsf a (List.mem_singleton.mpr rfl)
  have K := Keep.refl h [a]
  refine S0.callI hx (W := 0) (a := a) rfl (own_q47 hw) (own_q48 hw) (own_q51 hw) (by decide) (own_q50 hw) (ctRec l Z a0 hw a h O) nosf (by decide) (by decide) (by rw [hml]; rfl) [] [] (lenOf own_pd302 rfl) rfl rfl (Nat.le_refl _) (hb hby own_d_prog_20_method_1_code_301) (by decide) (by decide) 4 rfl (fun v70 vm70 T70 h70 S70 Q70 R70 => ?_)
  obtain ⟨rfl, rfl⟩ := Q70
  show Goes _ _ _ _ T70 (mkF m 4 #[.val (.ref a), .val (.ref t), .val (.ref f), .val (.int (0 : Int32)), .val (.ref d), .val (.int (0 : Int32)), .val (.ref g)] [])
  have SF := R70.safe F.1.lt SF
  refine g_aloadN S70.here hx (hb hby own_d_prog_20_method_1_code_303) rfl rfl 5 rfl ?_
  refine S70.ldcO hx (by decide) (own_q53 hw) (own_wS hw) (hb hby own_d_prog_20_method_1_code_304) (n := 16) (by decide +kernel) (by decide) (by decide) (by decide) 7 rfl (fun vm71 T71 h71 c1 S71 E71 R71 => ?_)
  have SF := R71.safe F.1.lt SF
  have F := F.ext E71
  have K := K.ext E71
  refine S71.callS hx (W := 0) (own_q54 hw) (own_q55 hw) (own_q56 hw) (own_q57 hw) (by decide) (ctRN l Z a0 hw t c1 h71 S71.old) nosf (by decide) (by decide) (by rw [hml]; rfl) [(.ref t), (.ref c1)] [] (lenOf own_pd306 rfl) rfl rfl (Nat.le_refl _) (hb hby own_d_prog_20_method_1_code_305) (by decide) (by decide) 10 rfl (fun v72 vm72 T72 h72 S72 Q72 R72 => ?_)
  obtain ⟨rfl, rfl⟩ := Q72
  show Goes _ _ _ _ T72 (mkF m 10 #[.val (.ref a), .val (.ref t), .val (.ref f), .val (.int (0 : Int32)), .val (.ref d), .val (.int (0 : Int32)), .val (.ref g)] [(.ref t)])
  have SF := R72.safe F.1.lt SF
  refine g_pop S72.here hx (hb hby own_d_prog_20_method_1_code_307) rfl 11 rfl ?_
  refine g_aload S72.here hx (hb hby own_d_prog_20_method_1_code_308) rfl rfl 13 rfl ?_
  refine S72.ldcO hx (by decide) (own_q58 hw) (own_wS hw) (hb hby own_d_prog_20_method_1_code_309) (n := 48) (by decide +kernel) (by decide) (by decide) (by decide) 15 rfl (fun vm73 T73 h73 c2 S73 E73 R73 => ?_)
  have SF := R73.safe F.1.lt SF
  have F := F.ext E73
  have K := K.ext E73
  refine S73.callS hx (W := 0) (own_q54 hw) (own_q55 hw) (own_q56 hw) (own_q57 hw) (by decide) (ctRN l Z a0 hw d c2 h73 S73.old) nosf (by decide) (by decide) (by rw [hml]; rfl) [(.ref d), (.ref c2)] [] (lenOf own_pd306 rfl) rfl rfl (Nat.le_refl _) (hb hby own_d_prog_20_method_1_code_310) (by decide) (by decide) 18 rfl (fun v74 vm74 T74 h74 S74 Q74 R74 => ?_)
  obtain ⟨rfl, rfl⟩ := Q74
  show Goes _ _ _ _ T74 (mkF m 18 #[.val (.ref a), .val (.ref t), .val (.ref f), .val (.int (0 : Int32)), .val (.ref d), .val (.int (0 : Int32)), .val (.ref g)] [(.ref d)])
  have SF := R74.safe F.1.lt SF
  refine g_pop S74.here hx (hb hby own_d_prog_20_method_1_code_311) rfl 19 rfl ?_
  refine g_aload S74.here hx (hb hby own_d_prog_20_method_1_code_312) rfl rfl 21 rfl ?_
  refine S74.ldcO hx (by decide) (own_q59 hw) (own_wS hw) (hb hby own_d_prog_20_method_1_code_313) (n := 16) (by decide +kernel) (by decide) (by decide) (by decide) 23 rfl (fun vm75 T75 h75 c3 S75 E75 R75 => ?_)
  have SF := R75.safe F.1.lt SF
  have F := F.ext E75
  have K := K.ext E75
  refine S75.callS hx (W := 0) (own_q54 hw) (own_q55 hw) (own_q56 hw) (own_q57 hw) (by decide) (ctRN l Z a0 hw g c3 h75 S75.old) nosf (by decide) (by decide) (by rw [hml]; rfl) [(.ref g), (.ref c3)] [] (lenOf own_pd306 rfl) rfl rfl (Nat.le_refl _) (hb hby own_d_prog_20_method_1_code_314) (by decide) (by decide) 26 rfl (fun v76 vm76 T76 h76 S76 Q76 R76 => ?_)
  obtain ⟨rfl, rfl⟩ := Q76
  show Goes _ _ _ _ T76 (mkF m 26 #[.val (.ref a), .val (.ref t), .val (.ref f), .val (.int (0 : Int32)), .val (.ref d), .val (.int (0 : Int32)), .val (.ref g)] [(.ref g)])
  have SF := R76.safe F.1.lt SF
  refine g_pop S76.here hx (hb hby own_d_prog_20_method_1_code_315) rfl 27 rfl ?_
  refine g_aloadN S76.here hx (hb hby own_d_prog_20_method_1_code_316) rfl rfl 28 rfl ?_
  refine g_aloadN S76.here hx (hb hby own_d_prog_20_method_1_code_317) rfl rfl 29 rfl ?_
  obtain ⟨q, f0, f1, f2, f3, f4, f5⟩ := F
  obtain ⟨u0, f0⟩ := f0
  refine S76.putF hx (host := "") (Or.inl (own_q60 hw)) Via.refl f0 q (Or.inr ⟨(own_q61 hw), rfl, hnm⟩) (own_q39 hw) (ty := (.object "java/lang/String")) (by decide) rfl rfl SF ga (hb hby own_d_prog_20_method_1_code_318) 32 rfl (fun T77 h77 S77 W77 R77 => ?_)
  have SF := R77.safe q.lt SF
  have q := q.wr W77
  have K := K.wr W77 (Or.inl (List.mem_singleton.mpr rfl))
  have f1 := f1.wr W77
  have f2 := f2.wr W77
  have f3 := f3.wr W77
  have f4 := f4.wr W77
  have f5 := f5.wr W77
  refine g_aloadN S77.here hx (hb hby own_d_prog_20_method_1_code_319) rfl rfl 33 rfl ?_
  refine g_aloadN S77.here hx (hb hby own_d_prog_20_method_1_code_320) rfl rfl 34 rfl ?_
  obtain ⟨u1, f1⟩ := f1
  refine S77.putF hx (host := "") (Or.inl (own_q62 hw)) Via.refl f1 q (Or.inr ⟨(own_q63 hw), rfl, hnm⟩) (own_q39 hw) (ty := (.object "java/lang/String")) (by decide) rfl rfl SF ga (hb hby own_d_prog_20_method_1_code_321) 37 rfl (fun T78 h78 S78 W78 R78 => ?_)
  have SF := R78.safe q.lt SF
  have q := q.wr W78
  have K := K.wr W78 (Or.inl (List.mem_singleton.mpr rfl))
  have f2 := f2.wr W78
  have f3 := f3.wr W78
  have f4 := f4.wr W78
  have f5 := f5.wr W78
  have f1 := f1.same W78
  refine g_aloadN S78.here hx (hb hby own_d_prog_20_method_1_code_322) rfl rfl 38 rfl ?_
  refine g_iloadN S78.here hx (hb hby own_d_prog_20_method_1_code_323) rfl 39 rfl ?_
  obtain ⟨u2, f2⟩ := f2
  refine S78.putF hx (host := "") (Or.inl (own_q64 hw)) Via.refl f2 q (Or.inr ⟨(own_q65 hw), rfl, hnm⟩) (own_q39 hw) (ty := .boolean) (by decide) rfl rfl SF ga (hb hby own_d_prog_20_method_1_code_324) 42 rfl (fun T79 h79 S79 W79 R79 => ?_)
  have SF := R79.safe q.lt SF
  have q := q.wr W79
  have K := K.wr W79 (Or.inl (List.mem_singleton.mpr rfl))
  have f3 := f3.wr W79
  have f4 := f4.wr W79
  have f5 := f5.wr W79
  have f1 := f1.other W79 (Or.inr (slot_ne (Or.inr (own_q63 hw)) (Or.inr (own_q65 hw)) (by decide) (t := .object "java/lang/String") (t' := .boolean) (by decide) (by decide)))
  refine g_aloadN S79.here hx (hb hby own_d_prog_20_method_1_code_325) rfl rfl 43 rfl ?_
  refine g_aload S79.here hx (hb hby own_d_prog_20_method_1_code_326) rfl rfl 45 rfl ?_
  obtain ⟨u3, f3⟩ := f3
  refine S79.putF hx (host := "") (Or.inl (own_q66 hw)) Via.refl f3 q (Or.inr ⟨(own_q67 hw), rfl, hnm⟩) (own_q39 hw) (ty := (.object "java/lang/String")) (by decide) rfl rfl SF ga (hb hby own_d_prog_20_method_1_code_327) 48 rfl (fun T80 h80 S80 W80 R80 => ?_)
  have SF := R80.safe q.lt SF
  have q := q.wr W80
  have K := K.wr W80 (Or.inl (List.mem_singleton.mpr rfl))
  have f4 := f4.wr W80
  have f5 := f5.wr W80
  have f1 := f1.other W80 (Or.inr (slot_ne (Or.inr (own_q63 hw)) (Or.inr (own_q67 hw)) (by decide) (t := .object "java/lang/String") (t' := (.object "java/lang/String")) (by decide) (by decide)))
  refine g_aloadN S80.here hx (hb hby own_d_prog_20_method_1_code_328) rfl rfl 49 rfl ?_
  refine g_iload S80.here hx (hb hby own_d_prog_20_method_1_code_329) rfl 51 rfl ?_
  obtain ⟨u4, f4⟩ := f4
  refine S80.putF hx (host := "") (Or.inl (own_q68 hw)) Via.refl f4 q (Or.inr ⟨(own_q69 hw), rfl, hnm⟩) (own_q39 hw) (ty := .boolean) (by decide) rfl rfl SF ga (hb hby own_d_prog_20_method_1_code_330) 54 rfl (fun T81 h81 S81 W81 R81 => ?_)
  have SF := R81.safe q.lt SF
  have q := q.wr W81
  have K := K.wr W81 (Or.inl (List.mem_singleton.mpr rfl))
  have f5 := f5.wr W81
  have f1 := f1.other W81 (Or.inr (slot_ne (Or.inr (own_q63 hw)) (Or.inr (own_q69 hw)) (by decide) (t := .object "java/lang/String") (t' := .boolean) (by decide) (by decide)))
  refine g_aloadN S81.here hx (hb hby own_d_prog_20_method_1_code_331) rfl rfl 55 rfl ?_
  refine g_aload S81.here hx (hb hby own_d_prog_20_method_1_code_332) rfl rfl 57 rfl ?_
  obtain ⟨u5, f5⟩ := f5
  refine S81.putF hx (host := "") (Or.inl (own_q70 hw)) Via.refl f5 q (Or.inr ⟨(own_q71 hw), rfl, hnm⟩) (own_q39 hw) (ty := (.object "com/example/stanchion/stanchion/changelog/Dbms")) (by decide) rfl rfl SF ga (hb hby own_d_prog_20_method_1_code_333) 60 rfl (fun T82 h82 S82 W82 R82 => ?_)
  have SF := R82.safe q.lt SF
  have q := q.wr W82
  have K := K.wr W82 (Or.inl (List.mem_singleton.mpr rfl))
  have f1 := f1.other W82 (Or.inr (slot_ne (Or.inr (own_q63 hw)) (Or.inr (own_q71 hw)) (by decide) (t := .object "java/lang/String") (t' := (.object "com/example/stanchion/stanchion/changelog/Dbms")) (by decide) (by decide)))
  exact S82.vret hx hlk hret (hb hby own_d_prog_20_method_1_code_334) ⟨rfl, q, f1, K⟩ (by decide) (by decide)
set_option maxRecDepth 65536 in
set_option maxHeartbeats 40000000 in
theorem ctSq01 (l : Launch) (Z : State) (a0 : Array Value) (hw : ∀ d ∈ tables_1, d.before a0 Z = true) (a t f d g : Addr) (h : Heap) (O : Old Z Z.heap.size h) (F : own_rawq Z h a) (ga : Z.heap.size ≤ a) :
    Ct 1 l Z consts_1 [a] (⟨"com/example/stanchion/stanchion/changelog/Sql", "<init>", "(Ljava/lang/String;Ljava/lang/String;ZLjava/lang/String;ZLcom/example/stanchion/stanchion/changelog/Dbms;)V"⟩ : MethodName) prog_20_method_1_code 7 none ({ frames := 2, cells := 6, slots := 92, locals := 26 } : Room) #[(.ref a), (.ref t), (.ref f), (.int (0 : Int32)), (.ref d), (.int (1 : Int32)), (.ref g)] h (fun v h' => v = none ∧ Exa Z h' a "com/example/stanchion/stanchion/changelog/Sql" ∧ Fld Z h' a "com/example/stanchion/stanchion/changelog/Sql" "file" "Ljava/lang/String;" (.ref f) ∧ Keep h h' [a]) := by
  refine Ct.intro (plainFor_of_name own_pn335) O (fun q => by cases q) ⟨a0, own_ew hw⟩ ?_
  intro p e s m below meth c T0 hx hby hml hret hnm hlk hsf S0
  refine Goes.cast (own_ef299 m a t f (0 : Int32) d (1 : Int32) g) ?_
  refine g_aloadN S0.here hx (hb hby own_d_prog_20_method_1_code_300) rfl rfl 1 rfl ?_
  have SF := hsf a (List.mem_singleton.mpr rfl)
  have K := Keep.refl h [a]
  refine S0.callI hx (W := 0) (a := a) rfl (own_q47 hw) (own_q48 hw) (own_q51 hw) (by decide) (own_q50 hw) (ctRec l Z a0 hw a h O) nosf (by decide) (by decide) (by rw [hml]; rfl) [] [] (lenOf own_pd302 rfl) rfl rfl (Nat.le_refl _) (hb hby own_d_prog_20_method_1_code_301) (by decide) (by decide) 4 rfl (fun v83 vm83 T83 h83 S83 Q83 R83 => ?_)
  obtain ⟨rfl, rfl⟩ := Q83
  show Goes _ _ _ _ T83 (mkF m 4 #[.val (.ref a), .val (.ref t), .val (.ref f), .val (.int (0 : Int32)), .val (.ref d), .val (.int (1 : Int32)), .val (.ref g)] [])
  have SF := R83.safe F.1.lt SF
  refine g_aloadN S83.here hx (hb hby own_d_prog_20_method_1_code_303) rfl rfl 5 rfl ?_
  refine S83.ldcO hx (by decide) (own_q53 hw) (own_wS hw) (hb hby own_d_prog_20_method_1_code_304) (n := 16) (by decide +kernel) (by decide) (by decide) (by decide) 7 rfl (fun vm84 T84 h84 c1 S84 E84 R84 => ?_)
  have SF := R84.safe F.1.lt SF
  have F := F.ext E84
  have K := K.ext E84
  refine S84.callS hx (W := 0) (own_q54 hw) (own_q55 hw) (own_q56 hw) (own_q57 hw) (by decide) (ctRN l Z a0 hw t c1 h84 S84.old) nosf (by decide) (by decide) (by rw [hml]; rfl) [(.ref t), (.ref c1)] [] (lenOf own_pd306 rfl) rfl rfl (Nat.le_refl _) (hb hby own_d_prog_20_method_1_code_305) (by decide) (by decide) 10 rfl (fun v85 vm85 T85 h85 S85 Q85 R85 => ?_)
  obtain ⟨rfl, rfl⟩ := Q85
  show Goes _ _ _ _ T85 (mkF m 10 #[.val (.ref a), .val (.ref t), .val (.ref f), .val (.int (0 : Int32)), .val (.ref d), .val (.int (1 : Int32)), .val (.ref g)] [(.ref t)])
  have SF := R85.safe F.1.lt SF
  refine g_pop S85.here hx (hb hby own_d_prog_20_method_1_code_307) rfl 11 rfl ?_
  refine g_aload S85.here hx (hb hby own_d_prog_20_method_1_code_308) rfl rfl 13 rfl ?_
  refine S85.ldcO hx (by decide) (own_q58 hw) (own_wS hw) (hb hby own_d_prog_20_method_1_code_309) (n := 48) (by decide +kernel) (by decide) (by decide) (by decide) 15 rfl (fun vm86 T86 h86 c2 S86 E86 R86 => ?_)
  have SF := R86.safe F.1.lt SF
  have F := F.ext E86
  have K := K.ext E86
  refine S86.callS hx (W := 0) (own_q54 hw) (own_q55 hw) (own_q56 hw) (own_q57 hw) (by decide) (ctRN l Z a0 hw d c2 h86 S86.old) nosf (by decide) (by decide) (by rw [hml]; rfl) [(.ref d), (.ref c2)] [] (lenOf own_pd306 rfl) rfl rfl (Nat.le_refl _) (hb hby own_d_prog_20_method_1_code_310) (by decide) (by decide) 18 rfl (fun v87 vm87 T87 h87 S87 Q87 R87 => ?_)
  obtain ⟨rfl, rfl⟩ := Q87
  show Goes _ _ _ _ T87 (mkF m 18 #[.val (.ref a), .val (.ref t), .val (.ref f), .val (.int (0 : Int32)), .val (.ref d), .val (.int (1 : Int32)), .val (.ref g)] [(.ref d)])
  have SF := R87.safe F.1.lt SF
  refine g_pop S87.here hx (hb hby own_d_prog_20_method_1_code_311) rfl 19 rfl ?_
  refine g_aload S87.here hx (hb hby own_d_prog_20_method_1_code_312) rfl rfl 21 rfl ?_
  refine S87.ldcO hx (by decide) (own_q59 hw) (own_wS hw) (hb hby own_d_prog_20_method_1_code_313) (n := 16) (by decide +kernel) (by decide) (by decide) (by decide) 23 rfl (fun vm88 T88 h88 c3 S88 E88 R88 => ?_)
  have SF := R88.safe F.1.lt SF
  have F := F.ext E88
  have K := K.ext E88
  refine S88.callS hx (W := 0) (own_q54 hw) (own_q55 hw) (own_q56 hw) (own_q57 hw) (by decide) (ctRN l Z a0 hw g c3 h88 S88.old) nosf (by decide) (by decide) (by rw [hml]; rfl) [(.ref g), (.ref c3)] [] (lenOf own_pd306 rfl) rfl rfl (Nat.le_refl _) (hb hby own_d_prog_20_method_1_code_314) (by decide) (by decide) 26 rfl (fun v89 vm89 T89 h89 S89 Q89 R89 => ?_)
  obtain ⟨rfl, rfl⟩ := Q89
  show Goes _ _ _ _ T89 (mkF m 26 #[.val (.ref a), .val (.ref t), .val (.ref f), .val (.int (0 : Int32)), .val (.ref d), .val (.int (1 : Int32)), .val (.ref g)] [(.ref g)])
  have SF := R89.safe F.1.lt SF
  refine g_pop S89.here hx (hb hby own_d_prog_20_method_1_code_315) rfl 27 rfl ?_
  refine g_aloadN S89.here hx (hb hby own_d_prog_20_method_1_code_316) rfl rfl 28 rfl ?_
  refine g_aloadN S89.here hx (hb hby own_d_prog_20_method_1_code_317) rfl rfl 29 rfl ?_
  obtain ⟨q, f0, f1, f2, f3, f4, f5⟩ := F
  obtain ⟨u0, f0⟩ := f0
  refine S89.putF hx (host := "") (Or.inl (own_q60 hw)) Via.refl f0 q (Or.inr ⟨(own_q61 hw), rfl, hnm⟩) (own_q39 hw) (ty := (.object "java/lang/String")) (by decide) rfl rfl SF ga (hb hby own_d_prog_20_method_1_code_318) 32 rfl (fun T90 h90 S90 W90 R90 => ?_)
  have SF := R90.safe q.lt SF
  have q := q.wr W90
  have K := K.wr W90 (Or.inl (List.mem_singleton.mpr rfl))
  have f1 := f1.wr W90
  have f2 := f2.wr W90
  have f3 := f3.wr W90
  have f4 := f4.wr W90
  have f5 := f5.wr W90
  refine g_aloadN S90.here hx (hb hby own_d_prog_20_method_1_code_319) rfl rfl 33 rfl ?_
  refine g_aloadN S90.here hx (hb hby own_d_prog_20_method_1_code_320) rfl rfl 34 rfl ?_
  obtain ⟨u1, f1⟩ := f1
  refine S90.putF hx (host := "") (Or.inl (own_q62 hw)) Via.refl f1 q (Or.inr ⟨(own_q63 hw), rfl, hnm⟩) (own_q39 hw) (ty := (.object "java/lang/String")) (by decide) rfl rfl SF ga (hb hby own_d_prog_20_method_1_code_321) 37 rfl (fun T91 h91 S91 W91 R91 => ?_)
  have SF := R91.safe q.lt SF
  have q := q.wr W91
  have K := K.wr W91 (Or.inl (List.mem_singleton.mpr rfl))
  have f2 := f2.wr W91
  have f3 := f3.wr W91
  have f4 := f4.wr W91
  have f5 := f5.wr W91
  have f1 := f1.same W91
  refine g_aloadN S91.here hx (hb hby own_d_prog_20_method_1_code_322) rfl rfl 38 rfl ?_
  refine g_iloadN S91.here hx (hb hby own_d_prog_20_method_1_code_323) rfl 39 rfl ?_
  obtain ⟨u2, f2⟩ := f2
  refine S91.putF hx (host := "") (Or.inl (own_q64 hw)) Via.refl f2 q (Or.inr ⟨(own_q65 hw), rfl, hnm⟩) (own_q39 hw) (ty := .boolean) (by decide) rfl rfl SF ga (hb hby own_d_prog_20_method_1_code_324) 42 rfl (fun T92 h92 S92 W92 R92 => ?_)
  have SF := R92.safe q.lt SF
  have q := q.wr W92
  have K := K.wr W92 (Or.inl (List.mem_singleton.mpr rfl))
  have f3 := f3.wr W92
  have f4 := f4.wr W92
  have f5 := f5.wr W92
  have f1 := f1.other W92 (Or.inr (slot_ne (Or.inr (own_q63 hw)) (Or.inr (own_q65 hw)) (by decide) (t := .object "java/lang/String") (t' := .boolean) (by decide) (by decide)))
  refine g_aloadN S92.here hx (hb hby own_d_prog_20_method_1_code_325) rfl rfl 43 rfl ?_
  refine g_aload S92.here hx (hb hby own_d_prog_20_method_1_code_326) rfl rfl 45 rfl ?_
  obtain ⟨u3, f3⟩ := f3
  refine S92.putF hx (host := "") (Or.inl (own_q66 hw)) Via.refl f3 q (Or.inr ⟨(own_q67 hw), rfl, hnm⟩) (own_q39 hw) (ty := (.object "java/lang/String")) (by decide) rfl rfl SF ga (hb hby own_d_prog_20_method_1_code_327) 48 rfl (fun T93 h93 S93 W93 R93 => ?_)
  have SF := R93.safe q.lt SF
  have q := q.wr W93
  have K := K.wr W93 (Or.inl (List.mem_singleton.mpr rfl))
  have f4 := f4.wr W93
  have f5 := f5.wr W93
  have f1 := f1.other W93 (Or.inr (slot_ne (Or.inr (own_q63 hw)) (Or.inr (own_q67 hw)) (by decide) (t := .object "java/lang/String") (t' := (.object "java/lang/String")) (by decide) (by decide)))
  refine g_aloadN S93.here hx (hb hby own_d_prog_20_method_1_code_328) rfl rfl 49 rfl ?_
  refine g_iload S93.here hx (hb hby own_d_prog_20_method_1_code_329) rfl 51 rfl ?_
  obtain ⟨u4, f4⟩ := f4
  refine S93.putF hx (host := "") (Or.inl (own_q68 hw)) Via.refl f4 q (Or.inr ⟨(own_q69 hw), rfl, hnm⟩) (own_q39 hw) (ty := .boolean) (by decide) rfl rfl SF ga (hb hby own_d_prog_20_method_1_code_330) 54 rfl (fun T94 h94 S94 W94 R94 => ?_)
  have SF := R94.safe q.lt SF
  have q := q.wr W94
  have K := K.wr W94 (Or.inl (List.mem_singleton.mpr rfl))
  have f5 := f5.wr W94
  have f1 := f1.other W94 (Or.inr (slot_ne (Or.inr (own_q63 hw)) (Or.inr (own_q69 hw)) (by decide) (t := .object "java/lang/String") (t' := .boolean) (by decide) (by decide)))
  refine g_aloadN S94.here hx (hb hby own_d_prog_20_method_1_code_331) rfl rfl 55 rfl ?_
  refine g_aload S94.here hx (hb hby own_d_prog_20_method_1_code_332) rfl rfl 57 rfl ?_
  obtain ⟨u5, f5⟩ := f5
  refine S94.putF hx (host := "") (Or.inl (own_q70 hw)) Via.refl f5 q (Or.inr ⟨(own_q71 hw), rfl, hnm⟩) (own_q39 hw) (ty := (.object "com/example/stanchion/stanchion/changelog/Dbms")) (by decide) rfl rfl SF ga (hb hby own_d_prog_20_method_1_code_333) 60 rfl (fun T95 h95 S95 W95 R95 => ?_)
  have SF := R95.safe q.lt SF
  have q := q.wr W95
  have K := K.wr W95 (Or.inl (List.mem_singleton.mpr rfl))
  have f1 := f1.other W95 (Or.inr (slot_ne (Or.inr (own_q63 hw)) (Or.inr (own_q71 hw)) (by decide) (t := .object "java/lang/String") (t' := (.object "com/example/stanchion/stanchion/changelog/Dbms")) (by decide) (by decide)))
  exact S95.vret hx hlk hret (hb hby own_d_prog_20_method_1_code_334) ⟨rfl, q, f1, K⟩ (by decide) (by decide)
set_option maxRecDepth 65536 in
set_option maxHeartbeats 40000000 in
theorem ctSq10 (l : Launch) (Z : State) (a0 : Array Value) (hw : ∀ d ∈ tables_1, d.before a0 Z = true) (a t f d g : Addr) (h : Heap) (O : Old Z Z.heap.size h) (F : own_rawq Z h a) (ga : Z.heap.size ≤ a) :
    Ct 1 l Z consts_1 [a] (⟨"com/example/stanchion/stanchion/changelog/Sql", "<init>", "(Ljava/lang/String;Ljava/lang/String;ZLjava/lang/String;ZLcom/example/stanchion/stanchion/changelog/Dbms;)V"⟩ : MethodName) prog_20_method_1_code 7 none ({ frames := 2, cells := 6, slots := 92, locals := 26 } : Room) #[(.ref a), (.ref t), (.ref f), (.int (1 : Int32)), (.ref d), (.int (0 : Int32)), (.ref g)] h (fun v h' => v = none ∧ Exa Z h' a "com/example/stanchion/stanchion/changelog/Sql" ∧ Fld Z h' a "com/example/stanchion/stanchion/changelog/Sql" "file" "Ljava/lang/String;" (.ref f) ∧ Keep h h' [a]) := by
  refine Ct.intro (plainFor_of_name own_pn335) O (fun q => by cases q) ⟨a0, own_ew hw⟩ ?_
  intro p e s m below meth c T0 hx hby hml hret hnm hlk hsf S0
  refine Goes.cast (own_ef299 m a t f (1 : Int32) d (0 : Int32) g) ?_
  refine g_aloadN S0.here hx (hb hby own_d_prog_20_method_1_code_300) rfl rfl 1 rfl ?_
  have SF := hsf a (List.mem_singleton.mpr rfl)
  have K := Keep.refl h [a]
  refine S0.callI hx (W := 0) (a := a) rfl (own_q47 hw) (own_q48 hw) (own_q51 hw) (by decide) (own_q50 hw) (ctRec l Z a0 hw a h O) nosf (by decide) (by decide) (by rw [hml]; rfl) [] [] (lenOf own_pd302 rfl) rfl rfl (Nat.le_refl _) (hb hby own_d_prog_20_method_1_code_301) (by decide) (by decide) 4 rfl (fun v96 vm96 T96 h96 S96 Q96 R96 => ?_)
  obtain ⟨rfl, rfl⟩ := Q96
  show Goes _ _ _ _ T96 (mkF m 4 #[.val (.ref a), .val (.ref t), .val (.ref f), .val (.int (1 : Int32)), .val (.ref d), .val (.int (0 : Int32)), .val (.ref g)] [])
  have SF := R96.safe F.1.lt SF
  refine g_aloadN S96.here hx (hb hby own_d_prog_20_method_1_code_303) rfl rfl 5 rfl ?_
  refine S96.ldcO hx (by decide) (own_q53 hw) (own_wS hw) (hb hby own_d_prog_20_method_1_code_304) (n := 16) (by decide +kernel) (by decide) (by decide) (by decide) 7 rfl (fun vm97 T97 h97 c1 S97 E97 R97 => ?_)
  have SF := R97.safe F.1.lt SF
  have F := F.ext E97
  have K := K.ext E97
  refine S97.callS hx (W := 0) (own_q54 hw) (own_q55 hw) (own_q56 hw) (own_q57 hw) (by decide) (ctRN l Z a0 hw t c1 h97 S97.old) nosf (by decide) (by decide) (by rw [hml]; rfl) [(.ref t), (.ref c1)] [] (lenOf own_pd306 rfl) rfl rfl (Nat.le_refl _) (hb hby own_d_prog_20_method_1_code_305) (by decide) (by decide) 10 rfl (fun v98 vm98 T98 h98 S98 Q98 R98 => ?_)
  obtain ⟨rfl, rfl⟩ := Q98
  show Goes _ _ _ _ T98 (mkF m 10 #[.val (.ref a), .val (.ref t), .val (.ref f), .val (.int (1 : Int32)), .val (.ref d), .val (.int (0 : Int32)), .val (.ref g)] [(.ref t)])
  have SF := R98.safe F.1.lt SF
  refine g_pop S98.here hx (hb hby own_d_prog_20_method_1_code_307) rfl 11 rfl ?_
  refine g_aload S98.here hx (hb hby own_d_prog_20_method_1_code_308) rfl rfl 13 rfl ?_
  refine S98.ldcO hx (by decide) (own_q58 hw) (own_wS hw) (hb hby own_d_prog_20_method_1_code_309) (n := 48) (by decide +kernel) (by decide) (by decide) (by decide) 15 rfl (fun vm99 T99 h99 c2 S99 E99 R99 => ?_)
  have SF := R99.safe F.1.lt SF
  have F := F.ext E99
  have K := K.ext E99
  refine S99.callS hx (W := 0) (own_q54 hw) (own_q55 hw) (own_q56 hw) (own_q57 hw) (by decide) (ctRN l Z a0 hw d c2 h99 S99.old) nosf (by decide) (by decide) (by rw [hml]; rfl) [(.ref d), (.ref c2)] [] (lenOf own_pd306 rfl) rfl rfl (Nat.le_refl _) (hb hby own_d_prog_20_method_1_code_310) (by decide) (by decide) 18 rfl (fun v100 vm100 T100 h100 S100 Q100 R100 => ?_)
  obtain ⟨rfl, rfl⟩ := Q100
  show Goes _ _ _ _ T100 (mkF m 18 #[.val (.ref a), .val (.ref t), .val (.ref f), .val (.int (1 : Int32)), .val (.ref d), .val (.int (0 : Int32)), .val (.ref g)] [(.ref d)])
  have SF := R100.safe F.1.lt SF
  refine g_pop S100.here hx (hb hby own_d_prog_20_method_1_code_311) rfl 19 rfl ?_
  refine g_aload S100.here hx (hb hby own_d_prog_20_method_1_code_312) rfl rfl 21 rfl ?_
  refine S100.ldcO hx (by decide) (own_q59 hw) (own_wS hw) (hb hby own_d_prog_20_method_1_code_313) (n := 16) (by decide +kernel) (by decide) (by decide) (by decide) 23 rfl (fun vm101 T101 h101 c3 S101 E101 R101 => ?_)
  have SF := R101.safe F.1.lt SF
  have F := F.ext E101
  have K := K.ext E101
  refine S101.callS hx (W := 0) (own_q54 hw) (own_q55 hw) (own_q56 hw) (own_q57 hw) (by decide) (ctRN l Z a0 hw g c3 h101 S101.old) nosf (by decide) (by decide) (by rw [hml]; rfl) [(.ref g), (.ref c3)] [] (lenOf own_pd306 rfl) rfl rfl (Nat.le_refl _) (hb hby own_d_prog_20_method_1_code_314) (by decide) (by decide) 26 rfl (fun v102 vm102 T102 h102 S102 Q102 R102 => ?_)
  obtain ⟨rfl, rfl⟩ := Q102
  show Goes _ _ _ _ T102 (mkF m 26 #[.val (.ref a), .val (.ref t), .val (.ref f), .val (.int (1 : Int32)), .val (.ref d), .val (.int (0 : Int32)), .val (.ref g)] [(.ref g)])
  have SF := R102.safe F.1.lt SF
  refine g_pop S102.here hx (hb hby own_d_prog_20_method_1_code_315) rfl 27 rfl ?_
  refine g_aloadN S102.here hx (hb hby own_d_prog_20_method_1_code_316) rfl rfl 28 rfl ?_
  refine g_aloadN S102.here hx (hb hby own_d_prog_20_method_1_code_317) rfl rfl 29 rfl ?_
  obtain ⟨q, f0, f1, f2, f3, f4, f5⟩ := F
  obtain ⟨u0, f0⟩ := f0
  refine S102.putF hx (host := "") (Or.inl (own_q60 hw)) Via.refl f0 q (Or.inr ⟨(own_q61 hw), rfl, hnm⟩) (own_q39 hw) (ty := (.object "java/lang/String")) (by decide) rfl rfl SF ga (hb hby own_d_prog_20_method_1_code_318) 32 rfl (fun T103 h103 S103 W103 R103 => ?_)
  have SF := R103.safe q.lt SF
  have q := q.wr W103
  have K := K.wr W103 (Or.inl (List.mem_singleton.mpr rfl))
  have f1 := f1.wr W103
  have f2 := f2.wr W103
  have f3 := f3.wr W103
  have f4 := f4.wr W103
  have f5 := f5.wr W103
  refine g_aloadN S103.here hx (hb hby own_d_prog_20_method_1_code_319) rfl rfl 33 rfl ?_
  refine g_aloadN S103.here hx (hb hby own_d_prog_20_method_1_code_320) rfl rfl 34 rfl ?_
  obtain ⟨u1, f1⟩ := f1
  refine S103.putF hx (host := "") (Or.inl (own_q62 hw)) Via.refl f1 q (Or.inr ⟨(own_q63 hw), rfl, hnm⟩) (own_q39 hw) (ty := (.object "java/lang/String")) (by decide) rfl rfl SF ga (hb hby own_d_prog_20_method_1_code_321) 37 rfl (fun T104 h104 S104 W104 R104 => ?_)
  have SF := R104.safe q.lt SF
  have q := q.wr W104
  have K := K.wr W104 (Or.inl (List.mem_singleton.mpr rfl))
  have f2 := f2.wr W104
  have f3 := f3.wr W104
  have f4 := f4.wr W104
  have f5 := f5.wr W104
  have f1 := f1.same W104
  refine g_aloadN S104.here hx (hb hby own_d_prog_20_method_1_code_322) rfl rfl 38 rfl ?_
  refine g_iloadN S104.here hx (hb hby own_d_prog_20_method_1_code_323) rfl 39 rfl ?_
  obtain ⟨u2, f2⟩ := f2
  refine S104.putF hx (host := "") (Or.inl (own_q64 hw)) Via.refl f2 q (Or.inr ⟨(own_q65 hw), rfl, hnm⟩) (own_q39 hw) (ty := .boolean) (by decide) rfl rfl SF ga (hb hby own_d_prog_20_method_1_code_324) 42 rfl (fun T105 h105 S105 W105 R105 => ?_)
  have SF := R105.safe q.lt SF
  have q := q.wr W105
  have K := K.wr W105 (Or.inl (List.mem_singleton.mpr rfl))
  have f3 := f3.wr W105
  have f4 := f4.wr W105
  have f5 := f5.wr W105
  have f1 := f1.other W105 (Or.inr (slot_ne (Or.inr (own_q63 hw)) (Or.inr (own_q65 hw)) (by decide) (t := .object "java/lang/String") (t' := .boolean) (by decide) (by decide)))
  refine g_aloadN S105.here hx (hb hby own_d_prog_20_method_1_code_325) rfl rfl 43 rfl ?_
  refine g_aload S105.here hx (hb hby own_d_prog_20_method_1_code_326) rfl rfl 45 rfl ?_
  obtain ⟨u3, f3⟩ := f3
  refine S105.putF hx (host := "") (Or.inl (own_q66 hw)) Via.refl f3 q (Or.inr ⟨(own_q67 hw), rfl, hnm⟩) (own_q39 hw) (ty := (.object "java/lang/String")) (by decide) rfl rfl SF ga (hb hby own_d_prog_20_method_1_code_327) 48 rfl (fun T106 h106 S106 W106 R106 => ?_)
  have SF := R106.safe q.lt SF
  have q := q.wr W106
  have K := K.wr W106 (Or.inl (List.mem_singleton.mpr rfl))
  have f4 := f4.wr W106
  have f5 := f5.wr W106
  have f1 := f1.other W106 (Or.inr (slot_ne (Or.inr (own_q63 hw)) (Or.inr (own_q67 hw)) (by decide) (t := .object "java/lang/String") (t' := (.object "java/lang/String")) (by decide) (by decide)))
  refine g_aloadN S106.here hx (hb hby own_d_prog_20_method_1_code_328) rfl rfl 49 rfl ?_
  refine g_iload S106.here hx (hb hby own_d_prog_20_method_1_code_329) rfl 51 rfl ?_
  obtain ⟨u4, f4⟩ := f4
  refine S106.putF hx (host := "") (Or.inl (own_q68 hw)) Via.refl f4 q (Or.inr ⟨(own_q69 hw), rfl, hnm⟩) (own_q39 hw) (ty := .boolean) (by decide) rfl rfl SF ga (hb hby own_d_prog_20_method_1_code_330) 54 rfl (fun T107 h107 S107 W107 R107 => ?_)
  have SF := R107.safe q.lt SF
  have q := q.wr W107
  have K := K.wr W107 (Or.inl (List.mem_singleton.mpr rfl))
  have f5 := f5.wr W107
  have f1 := f1.other W107 (Or.inr (slot_ne (Or.inr (own_q63 hw)) (Or.inr (own_q69 hw)) (by decide) (t := .object "java/lang/String") (t' := .boolean) (by decide) (by decide)))
  refine g_aloadN S107.here hx (hb hby own_d_prog_20_method_1_code_331) rfl rfl 55 rfl ?_
  refine g_aload S107.here hx (hb hby own_d_prog_20_method_1_code_332) rfl rfl 57 rfl ?_
  obtain ⟨u5, f5⟩ := f5
  refine S107.putF hx (host := "") (Or.inl (own_q70 hw)) Via.refl f5 q (Or.inr ⟨(own_q71 hw), rfl, hnm⟩) (own_q39 hw) (ty := (.object "com/example/stanchion/stanchion/changelog/Dbms")) (by decide) rfl rfl SF ga (hb hby own_d_prog_20_method_1_code_333) 60 rfl (fun T108 h108 S108 W108 R108 => ?_)
  have SF := R108.safe q.lt SF
  have q := q.wr W108
  have K := K.wr W108 (Or.inl (List.mem_singleton.mpr rfl))
  have f1 := f1.other W108 (Or.inr (slot_ne (Or.inr (own_q63 hw)) (Or.inr (own_q71 hw)) (by decide) (t := .object "java/lang/String") (t' := (.object "com/example/stanchion/stanchion/changelog/Dbms")) (by decide) (by decide)))
  exact S108.vret hx hlk hret (hb hby own_d_prog_20_method_1_code_334) ⟨rfl, q, f1, K⟩ (by decide) (by decide)
set_option maxRecDepth 65536 in
set_option maxHeartbeats 40000000 in
theorem ctSq11 (l : Launch) (Z : State) (a0 : Array Value) (hw : ∀ d ∈ tables_1, d.before a0 Z = true) (a t f d g : Addr) (h : Heap) (O : Old Z Z.heap.size h) (F : own_rawq Z h a) (ga : Z.heap.size ≤ a) :
    Ct 1 l Z consts_1 [a] (⟨"com/example/stanchion/stanchion/changelog/Sql", "<init>", "(Ljava/lang/String;Ljava/lang/String;ZLjava/lang/String;ZLcom/example/stanchion/stanchion/changelog/Dbms;)V"⟩ : MethodName) prog_20_method_1_code 7 none ({ frames := 2, cells := 6, slots := 92, locals := 26 } : Room) #[(.ref a), (.ref t), (.ref f), (.int (1 : Int32)), (.ref d), (.int (1 : Int32)), (.ref g)] h (fun v h' => v = none ∧ Exa Z h' a "com/example/stanchion/stanchion/changelog/Sql" ∧ Fld Z h' a "com/example/stanchion/stanchion/changelog/Sql" "file" "Ljava/lang/String;" (.ref f) ∧ Keep h h' [a]) := by
  refine Ct.intro (plainFor_of_name own_pn335) O (fun q => by cases q) ⟨a0, own_ew hw⟩ ?_
  intro p e s m below meth c T0 hx hby hml hret hnm hlk hsf S0
  refine Goes.cast (own_ef299 m a t f (1 : Int32) d (1 : Int32) g) ?_
  refine g_aloadN S0.here hx (hb hby own_d_prog_20_method_1_code_300) rfl rfl 1 rfl ?_
  have SF := hsf a (List.mem_singleton.mpr rfl)
  have K := Keep.refl h [a]
  refine S0.callI hx (W := 0) (a := a) rfl (own_q47 hw) (own_q48 hw) (own_q51 hw) (by decide) (own_q50 hw) (ctRec l Z a0 hw a h O) nosf (by decide) (by decide) (by rw [hml]; rfl) [] [] (lenOf own_pd302 rfl) rfl rfl (Nat.le_refl _) (hb hby own_d_prog_20_method_1_code_301) (by decide) (by decide) 4 rfl (fun v109 vm109 T109 h109 S109 Q109 R109 => ?_)
  obtain ⟨rfl, rfl⟩ := Q109
  show Goes _ _ _ _ T109 (mkF m 4 #[.val (.ref a), .val (.ref t), .val (.ref f), .val (.int (1 : Int32)), .val (.ref d), .val (.int (1 : Int32)), .val (.ref g)] [])
  have SF := R109.safe F.1.lt SF
  refine g_aloadN S109.here hx (hb hby own_d_prog_20_method_1_code_303) rfl rfl 5 rfl ?_
  refine S109.ldcO hx (by decide) (own_q53 hw) (own_wS hw) (hb hby own_d_prog_20_method_1_code_304) (n := 16) (by decide +kernel) (by decide) (by decide) (by decide) 7 rfl (fun vm110 T110 h110 c1 S110 E110 R110 => ?_)
  have SF := R110.safe F.1.lt SF
  have F := F.ext E110
  have K := K.ext E110
  refine S110.callS hx (W := 0) (own_q54 hw) (own_q55 hw) (own_q56 hw) (own_q57 hw) (by decide) (ctRN l Z a0 hw t c1 h110 S110.old) nosf (by decide) (by decide) (by rw [hml]; rfl) [(.ref t), (.ref c1)] [] (lenOf own_pd306 rfl) rfl rfl (Nat.le_refl _) (hb hby own_d_prog_20_method_1_code_305) (by decide) (by decide) 10 rfl (fun v111 vm111 T111 h111 S111 Q111 R111 => ?_)
  obtain ⟨rfl, rfl⟩ := Q111
  show Goes _ _ _ _ T111 (mkF m 10 #[.val (.ref a), .val (.ref t), .val (.ref f), .val (.int (1 : Int32)), .val (.ref d), .val (.int (1 : Int32)), .val (.ref g)] [(.ref t)])
  have SF := R111.safe F.1.lt SF
  refine g_pop S111.here hx (hb hby own_d_prog_20_method_1_code_307) rfl 11 rfl ?_
  refine g_aload S111.here hx (hb hby own_d_prog_20_method_1_code_308) rfl rfl 13 rfl ?_
  refine S111.ldcO hx (by decide) (own_q58 hw) (own_wS hw) (hb hby own_d_prog_20_method_1_code_309) (n := 48) (by decide +kernel) (by decide) (by decide) (by decide) 15 rfl (fun vm112 T112 h112 c2 S112 E112 R112 => ?_)
  have SF := R112.safe F.1.lt SF
  have F := F.ext E112
  have K := K.ext E112
  refine S112.callS hx (W := 0) (own_q54 hw) (own_q55 hw) (own_q56 hw) (own_q57 hw) (by decide) (ctRN l Z a0 hw d c2 h112 S112.old) nosf (by decide) (by decide) (by rw [hml]; rfl) [(.ref d), (.ref c2)] [] (lenOf own_pd306 rfl) rfl rfl (Nat.le_refl _) (hb hby own_d_prog_20_method_1_code_310) (by decide) (by decide) 18 rfl (fun v113 vm113 T113 h113 S113 Q113 R113 => ?_)
  obtain ⟨rfl, rfl⟩ := Q113
  show Goes _ _ _ _ T113 (mkF m 18 #[.val (.ref a), .val (.ref t), .val (.ref f), .val (.int (1 : Int32)), .val (.ref d), .val (.int (1 : Int32)), .val (.ref g)] [(.ref d)])
  have SF := R113.safe F.1.lt SF
  refine g_pop S113.here hx (hb hby own_d_prog_20_method_1_code_311) rfl 19 rfl ?_
  refine g_aload S113.here hx (hb hby own_d_prog_20_method_1_code_312) rfl rfl 21 rfl ?_
  refine S113.ldcO hx (by decide) (own_q59 hw) (own_wS hw) (hb hby own_d_prog_20_method_1_code_313) (n := 16) (by decide +kernel) (by decide) (by decide) (by decide) 23 rfl (fun vm114 T114 h114 c3 S114 E114 R114 => ?_)
  have SF := R114.safe F.1.lt SF
  have F := F.ext E114
  have K := K.ext E114
  refine S114.callS hx (W := 0) (own_q54 hw) (own_q55 hw) (own_q56 hw) (own_q57 hw) (by decide) (ctRN l Z a0 hw g c3 h114 S114.old) nosf (by decide) (by decide) (by rw [hml]; rfl) [(.ref g), (.ref c3)] [] (lenOf own_pd306 rfl) rfl rfl (Nat.le_refl _) (hb hby own_d_prog_20_method_1_code_314) (by decide) (by decide) 26 rfl (fun v115 vm115 T115 h115 S115 Q115 R115 => ?_)
  obtain ⟨rfl, rfl⟩ := Q115
  show Goes _ _ _ _ T115 (mkF m 26 #[.val (.ref a), .val (.ref t), .val (.ref f), .val (.int (1 : Int32)), .val (.ref d), .val (.int (1 : Int32)), .val (.ref g)] [(.ref g)])
  have SF := R115.safe F.1.lt SF
  refine g_pop S115.here hx (hb hby own_d_prog_20_method_1_code_315) rfl 27 rfl ?_
  refine g_aloadN S115.here hx (hb hby own_d_prog_20_method_1_code_316) rfl rfl 28 rfl ?_
  refine g_aloadN S115.here hx (hb hby own_d_prog_20_method_1_code_317) rfl rfl 29 rfl ?_
  obtain ⟨q, f0, f1, f2, f3, f4, f5⟩ := F
  obtain ⟨u0, f0⟩ := f0
  refine S115.putF hx (host := "") (Or.inl (own_q60 hw)) Via.refl f0 q (Or.inr ⟨(own_q61 hw), rfl, hnm⟩) (own_q39 hw) (ty := (.object "java/lang/String")) (by decide) rfl rfl SF ga (hb hby own_d_prog_20_method_1_code_318) 32 rfl (fun T116 h116 S116 W116 R116 => ?_)
  have SF := R116.safe q.lt SF
  have q := q.wr W116
  have K := K.wr W116 (Or.inl (List.mem_singleton.mpr rfl))
  have f1 := f1.wr W116
  have f2 := f2.wr W116
  have f3 := f3.wr W116
  have f4 := f4.wr W116
  have f5 := f5.wr W116
  refine g_aloadN S116.here hx (hb hby own_d_prog_20_method_1_code_319) rfl rfl 33 rfl ?_
  refine g_aloadN S116.here hx (hb hby own_d_prog_20_method_1_code_320) rfl rfl 34 rfl ?_
  obtain ⟨u1, f1⟩ := f1
  refine S116.putF hx (host := "") (Or.inl (own_q62 hw)) Via.refl f1 q (Or.inr ⟨(own_q63 hw), rfl, hnm⟩) (own_q39 hw) (ty := (.object "java/lang/String")) (by decide) rfl rfl SF ga (hb hby own_d_prog_20_method_1_code_321) 37 rfl (fun T117 h117 S117 W117 R117 => ?_)
  have SF := R117.safe q.lt SF
  have q := q.wr W117
  have K := K.wr W117 (Or.inl (List.mem_singleton.mpr rfl))
  have f2 := f2.wr W117
  have f3 := f3.wr W117
  have f4 := f4.wr W117
  have f5 := f5.wr W117
  have f1 := f1.same W117
  refine g_aloadN S117.here hx (hb hby own_d_prog_20_method_1_code_322) rfl rfl 38 rfl ?_
  refine g_iloadN S117.here hx (hb hby own_d_prog_20_method_1_code_323) rfl 39 rfl ?_
  obtain ⟨u2, f2⟩ := f2
  refine S117.putF hx (host := "") (Or.inl (own_q64 hw)) Via.refl f2 q (Or.inr ⟨(own_q65 hw), rfl, hnm⟩) (own_q39 hw) (ty := .boolean) (by decide) rfl rfl SF ga (hb hby own_d_prog_20_method_1_code_324) 42 rfl (fun T118 h118 S118 W118 R118 => ?_)
  have SF := R118.safe q.lt SF
  have q := q.wr W118
  have K := K.wr W118 (Or.inl (List.mem_singleton.mpr rfl))
  have f3 := f3.wr W118
  have f4 := f4.wr W118
  have f5 := f5.wr W118
  have f1 := f1.other W118 (Or.inr (slot_ne (Or.inr (own_q63 hw)) (Or.inr (own_q65 hw)) (by decide) (t := .object "java/lang/String") (t' := .boolean) (by decide) (by decide)))
  refine g_aloadN S118.here hx (hb hby own_d_prog_20_method_1_code_325) rfl rfl 43 rfl ?_
  refine g_aload S118.here hx (hb hby own_d_prog_20_method_1_code_326) rfl rfl 45 rfl ?_
  obtain ⟨u3, f3⟩ := f3
  refine S118.putF hx (host := "") (Or.inl (own_q66 hw)) Via.refl f3 q (Or.inr ⟨(own_q67 hw), rfl, hnm⟩) (own_q39 hw) (ty := (.object "java/lang/String")) (by decide) rfl rfl SF ga (hb hby own_d_prog_20_method_1_code_327) 48 rfl (fun T119 h119 S119 W119 R119 => ?_)
  have SF := R119.safe q.lt SF
  have q := q.wr W119
  have K := K.wr W119 (Or.inl (List.mem_singleton.mpr rfl))
  have f4 := f4.wr W119
  have f5 := f5.wr W119
  have f1 := f1.other W119 (Or.inr (slot_ne (Or.inr (own_q63 hw)) (Or.inr (own_q67 hw)) (by decide) (t := .object "java/lang/String") (t' := (.object "java/lang/String")) (by decide) (by decide)))
  refine g_aloadN S119.here hx (hb hby own_d_prog_20_method_1_code_328) rfl rfl 49 rfl ?_
  refine g_iload S119.here hx (hb hby own_d_prog_20_method_1_code_329) rfl 51 rfl ?_
  obtain ⟨u4, f4⟩ := f4
  refine S119.putF hx (host := "") (Or.inl (own_q68 hw)) Via.refl f4 q (Or.inr ⟨(own_q69 hw), rfl, hnm⟩) (own_q39 hw) (ty := .boolean) (by decide) rfl rfl SF ga (hb hby own_d_prog_20_method_1_code_330) 54 rfl (fun T120 h120 S120 W120 R120 => ?_)
  have SF := R120.safe q.lt SF
  have q := q.wr W120
  have K := K.wr W120 (Or.inl (List.mem_singleton.mpr rfl))
  have f5 := f5.wr W120
  have f1 := f1.other W120 (Or.inr (slot_ne (Or.inr (own_q63 hw)) (Or.inr (own_q69 hw)) (by decide) (t := .object "java/lang/String") (t' := .boolean) (by decide) (by decide)))
  refine g_aloadN S120.here hx (hb hby own_d_prog_20_method_1_code_331) rfl rfl 55 rfl ?_
  refine g_aload S120.here hx (hb hby own_d_prog_20_method_1_code_332) rfl rfl 57 rfl ?_
  obtain ⟨u5, f5⟩ := f5
  refine S120.putF hx (host := "") (Or.inl (own_q70 hw)) Via.refl f5 q (Or.inr ⟨(own_q71 hw), rfl, hnm⟩) (own_q39 hw) (ty := (.object "com/example/stanchion/stanchion/changelog/Dbms")) (by decide) rfl rfl SF ga (hb hby own_d_prog_20_method_1_code_333) 60 rfl (fun T121 h121 S121 W121 R121 => ?_)
  have SF := R121.safe q.lt SF
  have q := q.wr W121
  have K := K.wr W121 (Or.inl (List.mem_singleton.mpr rfl))
  have f1 := f1.other W121 (Or.inr (slot_ne (Or.inr (own_q63 hw)) (Or.inr (own_q71 hw)) (by decide) (t := .object "java/lang/String") (t' := (.object "com/example/stanchion/stanchion/changelog/Dbms")) (by decide) (by decide)))
  exact S121.vret hx hlk hret (hb hby own_d_prog_20_method_1_code_334) ⟨rfl, q, f1, K⟩ (by decide) (by decide)
theorem own_ef336 (m : MethodId) (x0 : Addr) (x1 : Addr) (x3 : Int32) (x4 : Addr) (x5 : Int32) (x6 : Addr) : entryFrame m #[(.ref x0), (.ref x1), .null, (.int x3), (.ref x4), (.int x5), (.ref x6)] 7 = mkF m 0 #[.val (.ref x0), .val (.ref x1), .val .null, .val (.int x3), .val (.ref x4), .val (.int x5), .val (.ref x6)] [] := by first | (simp [entryFrame, mkF, argsToLocals, Value.category]; done) | rfl
set_option maxRecDepth 65536 in
set_option maxHeartbeats 40000000 in
theorem ctSqN00 (l : Launch) (Z : State) (a0 : Array Value) (hw : ∀ d ∈ tables_1, d.before a0 Z = true) (a t d g : Addr) (h : Heap) (O : Old Z Z.heap.size h) (F : own_rawq Z h a) (ga : Z.heap.size ≤ a) :
    Ct 1 l Z consts_1 [a] (⟨"com/example/stanchion/stanchion/changelog/Sql", "<init>", "(Ljava/lang/String;Ljava/lang/String;ZLjava/lang/String;ZLcom/example/stanchion/stanchion/changelog/Dbms;)V"⟩ : MethodName) prog_20_method_1_code 7 none ({ frames := 2, cells := 6, slots := 92, locals := 26 } : Room) #[(.ref a), (.ref t), .null, (.int (0 : Int32)), (.ref d), (.int (0 : Int32)), (.ref g)] h (fun v h' => v = none ∧ Exa Z h' a "com/example/stanchion/stanchion/changelog/Sql" ∧ Fld Z h' a "com/example/stanchion/stanchion/changelog/Sql" "file" "Ljava/lang/String;" .null ∧ Keep h h' [a]) := by
  refine Ct.intro (plainFor_of_name own_pn335) O (fun q => by cases q) ⟨a0, own_ew hw⟩ ?_
  intro p e s m below meth c T0 hx hby hml hret hnm hlk hsf S0
  refine Goes.cast (own_ef336 m a t (0 : Int32) d (0 : Int32) g) ?_
  refine g_aloadN S0.here hx (hb hby own_d_prog_20_method_1_code_300) rfl rfl 1 rfl ?_
  have SF := hsf a (List.mem_singleton.mpr rfl)
  have K := Keep.refl h [a]
  refine S0.callI hx (W := 0) (a := a) rfl (own_q47 hw) (own_q48 hw) (own_q51 hw) (by decide) (own_q50 hw) (ctRec l Z a0 hw a h O) nosf (by decide) (by decide) (by rw [hml]; rfl) [] [] (lenOf own_pd302 rfl) rfl rfl (Nat.le_refl _) (hb hby own_d_prog_20_method_1_code_301) (by decide) (by decide) 4 rfl (fun v122 vm122 T122 h122 S122 Q122 R122 => ?_)
  obtain ⟨rfl, rfl⟩ := Q122
  show Goes _ _ _ _ T122 (mkF m 4 #[.val (.ref a), .val (.ref t), .val .null, .val (.int (0 : Int32)), .val (.ref d), .val (.int (0 : Int32)), .val (.ref g)] [])
  have SF := R122.safe F.1.lt SF
  refine g_aloadN S122.here hx (hb hby own_d_prog_20_method_1_code_303) rfl rfl 5 rfl ?_
  refine S122.ldcO hx (by decide) (own_q53 hw) (own_wS hw) (hb hby own_d_prog_20_method_1_code_304) (n := 16) (by decide +kernel) (by decide) (by decide) (by decide) 7 rfl (fun vm123 T123 h123 c1 S123 E123 R123 => ?_)
  have SF := R123.safe F.1.lt SF
  have F := F.ext E123
  have K := K.ext E123
  refine S123.callS hx (W := 0) (own_q54 hw) (own_q55 hw) (own_q56 hw) (own_q57 hw) (by decide) (ctRN l Z a0 hw t c1 h123 S123.old) nosf (by decide) (by decide) (by rw [hml]; rfl) [(.ref t), (.ref c1)] [] (lenOf own_pd306 rfl) rfl rfl (Nat.le_refl _) (hb hby own_d_prog_20_method_1_code_305) (by decide) (by decide) 10 rfl (fun v124 vm124 T124 h124 S124 Q124 R124 => ?_)
  obtain ⟨rfl, rfl⟩ := Q124
  show Goes _ _ _ _ T124 (mkF m 10 #[.val (.ref a), .val (.ref t), .val .null, .val (.int (0 : Int32)), .val (.ref d), .val (.int (0 : Int32)), .val (.ref g)] [(.ref t)])
  have SF := R124.safe F.1.lt SF
  refine g_pop S124.here hx (hb hby own_d_prog_20_method_1_code_307) rfl 11 rfl ?_
  refine g_aload S124.here hx (hb hby own_d_prog_20_method_1_code_308) rfl rfl 13 rfl ?_
  refine S124.ldcO hx (by decide) (own_q58 hw) (own_wS hw) (hb hby own_d_prog_20_method_1_code_309) (n := 48) (by decide +kernel) (by decide) (by decide) (by decide) 15 rfl (fun vm125 T125 h125 c2 S125 E125 R125 => ?_)
  have SF := R125.safe F.1.lt SF
  have F := F.ext E125
  have K := K.ext E125
  refine S125.callS hx (W := 0) (own_q54 hw) (own_q55 hw) (own_q56 hw) (own_q57 hw) (by decide) (ctRN l Z a0 hw d c2 h125 S125.old) nosf (by decide) (by decide) (by rw [hml]; rfl) [(.ref d), (.ref c2)] [] (lenOf own_pd306 rfl) rfl rfl (Nat.le_refl _) (hb hby own_d_prog_20_method_1_code_310) (by decide) (by decide) 18 rfl (fun v126 vm126 T126 h126 S126 Q126 R126 => ?_)
  obtain ⟨rfl, rfl⟩ := Q126
  show Goes _ _ _ _ T126 (mkF m 18 #[.val (.ref a), .val (.ref t), .val .null, .val (.int (0 : Int32)), .val (.ref d), .val (.int (0 : Int32)), .val (.ref g)] [(.ref d)])
  have SF := R126.safe F.1.lt SF
  refine g_pop S126.here hx (hb hby own_d_prog_20_method_1_code_311) rfl 19 rfl ?_
  refine g_aload S126.here hx (hb hby own_d_prog_20_method_1_code_312) rfl rfl 21 rfl ?_
  refine S126.ldcO hx (by decide) (own_q59 hw) (own_wS hw) (hb hby own_d_prog_20_method_1_code_313) (n := 16) (by decide +kernel) (by decide) (by decide) (by decide) 23 rfl (fun vm127 T127 h127 c3 S127 E127 R127 => ?_)
  have SF := R127.safe F.1.lt SF
  have F := F.ext E127
  have K := K.ext E127
  refine S127.callS hx (W := 0) (own_q54 hw) (own_q55 hw) (own_q56 hw) (own_q57 hw) (by decide) (ctRN l Z a0 hw g c3 h127 S127.old) nosf (by decide) (by decide) (by rw [hml]; rfl) [(.ref g), (.ref c3)] [] (lenOf own_pd306 rfl) rfl rfl (Nat.le_refl _) (hb hby own_d_prog_20_method_1_code_314) (by decide) (by decide) 26 rfl (fun v128 vm128 T128 h128 S128 Q128 R128 => ?_)
  obtain ⟨rfl, rfl⟩ := Q128
  show Goes _ _ _ _ T128 (mkF m 26 #[.val (.ref a), .val (.ref t), .val .null, .val (.int (0 : Int32)), .val (.ref d), .val (.int (0 : Int32)), .val (.ref g)] [(.ref g)])
  have SF := R128.safe F.1.lt SF
  refine g_pop S128.here hx (hb hby own_d_prog_20_method_1_code_315) rfl 27 rfl ?_
  refine g_aloadN S128.here hx (hb hby own_d_prog_20_method_1_code_316) rfl rfl 28 rfl ?_
  refine g_aloadN S128.here hx (hb hby own_d_prog_20_method_1_code_317) rfl rfl 29 rfl ?_
  obtain ⟨q, f0, f1, f2, f3, f4, f5⟩ := F
  obtain ⟨u0, f0⟩ := f0
  refine S128.putF hx (host := "") (Or.inl (own_q60 hw)) Via.refl f0 q (Or.inr ⟨(own_q61 hw), rfl, hnm⟩) (own_q39 hw) (ty := (.object "java/lang/String")) (by decide) rfl rfl SF ga (hb hby own_d_prog_20_method_1_code_318) 32 rfl (fun T129 h129 S129 W129 R129 => ?_)
  have SF := R129.safe q.lt SF
  have q := q.wr W129
  have K := K.wr W129 (Or.inl (List.mem_singleton.mpr rfl))
  have f1 := f1.wr W129
  have f2 := f2.wr W129
  have f3 := f3.wr W129
  have f4 := f4.wr W129
  have f5 := f5.wr W129
  refine g_aloadN S129.here hx (hb hby own_d_prog_20_method_1_code_319) rfl rfl 33 rfl ?_
  refine g_aloadN S129.here hx (hb hby own_d_prog_20_method_1_code_320) rfl rfl 34 rfl ?_
  obtain ⟨u1, f1⟩ := f1
  refine S129.putF hx (host := "") (Or.inl (own_q62 hw)) Via.refl f1 q (Or.inr ⟨(own_q63 hw), rfl, hnm⟩) (own_q39 hw) (ty := (.object "java/lang/String")) (by decide) rfl rfl SF ga (hb hby own_d_prog_20_method_1_code_321) 37 rfl (fun T130 h130 S130 W130 R130 => ?_)
  have SF := R130.safe q.lt SF
  have q := q.wr W130
  have K := K.wr W130 (Or.inl (List.mem_singleton.mpr rfl))
  have f2 := f2.wr W130
  have f3 := f3.wr W130
  have f4 := f4.wr W130
  have f5 := f5.wr W130
  have f1 := f1.same W130
  refine g_aloadN S130.here hx (hb hby own_d_prog_20_method_1_code_322) rfl rfl 38 rfl ?_
  refine g_iloadN S130.here hx (hb hby own_d_prog_20_method_1_code_323) rfl 39 rfl ?_
  obtain ⟨u2, f2⟩ := f2
  refine S130.putF hx (host := "") (Or.inl (own_q64 hw)) Via.refl f2 q (Or.inr ⟨(own_q65 hw), rfl, hnm⟩) (own_q39 hw) (ty := .boolean) (by decide) rfl rfl SF ga (hb hby own_d_prog_20_method_1_code_324) 42 rfl (fun T131 h131 S131 W131 R131 => ?_)
  have SF := R131.safe q.lt SF
  have q := q.wr W131
  have K := K.wr W131 (Or.inl (List.mem_singleton.mpr rfl))
  have f3 := f3.wr W131
  have f4 := f4.wr W131
  have f5 := f5.wr W131
  have f1 := f1.other W131 (Or.inr (slot_ne (Or.inr (own_q63 hw)) (Or.inr (own_q65 hw)) (by decide) (t := .object "java/lang/String") (t' := .boolean) (by decide) (by decide)))
  refine g_aloadN S131.here hx (hb hby own_d_prog_20_method_1_code_325) rfl rfl 43 rfl ?_
  refine g_aload S131.here hx (hb hby own_d_prog_20_method_1_code_326) rfl rfl 45 rfl ?_
  obtain ⟨u3, f3⟩ := f3
  refine S131.putF hx (host := "") (Or.inl (own_q66 hw)) Via.refl f3 q (Or.inr ⟨(own_q67 hw), rfl, hnm⟩) (own_q39 hw) (ty := (.object "java/lang/String")) (by decide) rfl rfl SF ga (hb hby own_d_prog_20_method_1_code_327) 48 rfl (fun T132 h132 S132 W132 R132 => ?_)
  have SF := R132.safe q.lt SF
  have q := q.wr W132
  have K := K.wr W132 (Or.inl (List.mem_singleton.mpr rfl))
  have f4 := f4.wr W132
  have f5 := f5.wr W132
  have f1 := f1.other W132 (Or.inr (slot_ne (Or.inr (own_q63 hw)) (Or.inr (own_q67 hw)) (by decide) (t := .object "java/lang/String") (t' := (.object "java/lang/String")) (by decide) (by decide)))
  refine g_aloadN S132.here hx (hb hby own_d_prog_20_method_1_code_328) rfl rfl 49 rfl ?_
  refine g_iload S132.here hx (hb hby own_d_prog_20_method_1_code_329) rfl 51 rfl ?_
  obtain ⟨u4, f4⟩ := f4
  refine S132.putF hx (host := "") (Or.inl (own_q68 hw)) Via.refl f4 q (Or.inr ⟨(own_q69 hw), rfl, hnm⟩) (own_q39 hw) (ty := .boolean) (by decide) rfl rfl SF ga (hb hby own_d_prog_20_method_1_code_330) 54 rfl (fun T133 h133 S133 W133 R133 => ?_)
  have SF := R133.safe q.lt SF
  have q := q.wr W133
  have K := K.wr W133 (Or.inl (List.mem_singleton.mpr rfl))
  have f5 := f5.wr W133
  have f1 := f1.other W133 (Or.inr (slot_ne (Or.inr (own_q63 hw)) (Or.inr (own_q69 hw)) (by decide) (t := .object "java/lang/String") (t' := .boolean) (by decide) (by decide)))
  refine g_aloadN S133.here hx (hb hby own_d_prog_20_method_1_code_331) rfl rfl 55 rfl ?_
  refine g_aload S133.here hx (hb hby own_d_prog_20_method_1_code_332) rfl rfl 57 rfl ?_
  obtain ⟨u5, f5⟩ := f5
  refine S133.putF hx (host := "") (Or.inl (own_q70 hw)) Via.refl f5 q (Or.inr ⟨(own_q71 hw), rfl, hnm⟩) (own_q39 hw) (ty := (.object "com/example/stanchion/stanchion/changelog/Dbms")) (by decide) rfl rfl SF ga (hb hby own_d_prog_20_method_1_code_333) 60 rfl (fun T134 h134 S134 W134 R134 => ?_)
  have SF := R134.safe q.lt SF
  have q := q.wr W134
  have K := K.wr W134 (Or.inl (List.mem_singleton.mpr rfl))
  have f1 := f1.other W134 (Or.inr (slot_ne (Or.inr (own_q63 hw)) (Or.inr (own_q71 hw)) (by decide) (t := .object "java/lang/String") (t' := (.object "com/example/stanchion/stanchion/changelog/Dbms")) (by decide) (by decide)))
  exact S134.vret hx hlk hret (hb hby own_d_prog_20_method_1_code_334) ⟨rfl, q, f1, K⟩ (by decide) (by decide)
set_option maxRecDepth 65536 in
set_option maxHeartbeats 40000000 in
theorem ctSqN01 (l : Launch) (Z : State) (a0 : Array Value) (hw : ∀ d ∈ tables_1, d.before a0 Z = true) (a t d g : Addr) (h : Heap) (O : Old Z Z.heap.size h) (F : own_rawq Z h a) (ga : Z.heap.size ≤ a) :
    Ct 1 l Z consts_1 [a] (⟨"com/example/stanchion/stanchion/changelog/Sql", "<init>", "(Ljava/lang/String;Ljava/lang/String;ZLjava/lang/String;ZLcom/example/stanchion/stanchion/changelog/Dbms;)V"⟩ : MethodName) prog_20_method_1_code 7 none ({ frames := 2, cells := 6, slots := 92, locals := 26 } : Room) #[(.ref a), (.ref t), .null, (.int (0 : Int32)), (.ref d), (.int (1 : Int32)), (.ref g)] h (fun v h' => v = none ∧ Exa Z h' a "com/example/stanchion/stanchion/changelog/Sql" ∧ Fld Z h' a "com/example/stanchion/stanchion/changelog/Sql" "file" "Ljava/lang/String;" .null ∧ Keep h h' [a]) := by
  refine Ct.intro (plainFor_of_name own_pn335) O (fun q => by cases q) ⟨a0, own_ew hw⟩ ?_
  intro p e s m below meth c T0 hx hby hml hret hnm hlk hsf S0
  refine Goes.cast (own_ef336 m a t (0 : Int32) d (1 : Int32) g) ?_
  refine g_aloadN S0.here hx (hb hby own_d_prog_20_method_1_code_300) rfl rfl 1 rfl ?_
  have SF := hsf a (List.mem_singleton.mpr rfl)
  have K := Keep.refl h [a]
  refine S0.callI hx (W := 0) (a := a) rfl (own_q47 hw) (own_q48 hw) (own_q51 hw) (by decide) (own_q50 hw) (ctRec l Z a0 hw a h O) nosf (by decide) (by decide) (by rw [hml]; rfl) [] [] (lenOf own_pd302 rfl) rfl rfl (Nat.le_refl _) (hb hby own_d_prog_20_method_1_code_301) (by decide) (by decide) 4 rfl (fun v135 vm135 T135 h135 S135 Q135 R135 => ?_)
  obtain ⟨rfl, rfl⟩ := Q135
  show Goes _ _ _ _ T135 (mkF m 4 #[.val (.ref a), .val (.ref t), .val .null, .val (.int (0 : Int32)), .val (.ref d), .val (.int (1 : Int32)), .val (.ref g)] [])
  have SF := R135.safe F.1.lt SF
  refine g_aloadN S135.here hx (hb hby own_d_prog_20_method_1_code_303) rfl rfl 5 rfl ?_
  refine S135.ldcO hx (by decide) (own_q53 hw) (own_wS hw) (hb hby own_d_prog_20_method_1_code_304) (n := 16) (by decide +kernel) (by decide) (by decide) (by decide) 7 rfl (fun vm136 T136 h136 c1 S136 E136 R136 => ?_)
  have SF := R136.safe F.1.lt SF
  have F := F.ext E136
  have K := K.ext E136
  refine S136.callS hx (W := 0) (own_q54 hw) (own_q55 hw) (own_q56 hw) (own_q57 hw) (by decide) (ctRN l Z a0 hw t c1 h136 S136.old) nosf (by decide) (by decide) (by rw [hml]; rfl) [(.ref t), (.ref c1)] [] (lenOf own_pd306 rfl) rfl rfl (Nat.le_refl _) (hb hby own_d_prog_20_method_1_code_305) (by decide) (by decide) 10 rfl (fun v137 vm137 T137 h137 S137 Q137 R137 => ?_)
  obtain ⟨rfl, rfl⟩ := Q137
  show Goes _ _ _ _ T137 (mkF m 10 #[.val (.ref a), .val (.ref t), .val .null, .val (.int (0 : Int32)), .val (.ref d), .val (.int (1 : Int32)), .val (.ref g)] [(.ref t)])
  have SF := R137.safe F.1.lt SF
  refine g_pop S137.here hx (hb hby own_d_prog_20_method_1_code_307) rfl 11 rfl ?_
  refine g_aload S137.here hx (hb hby own_d_prog_20_method_1_code_308) rfl rfl 13 rfl ?_
  refine S137.ldcO hx (by decide) (own_q58 hw) (own_wS hw) (hb hby own_d_prog_20_method_1_code_309) (n := 48) (by decide +kernel) (by decide) (by decide) (by decide) 15 rfl (fun vm138 T138 h138 c2 S138 E138 R138 => ?_)
  have SF := R138.safe F.1.lt SF
  have F := F.ext E138
  have K := K.ext E138
  refine S138.callS hx (W := 0) (own_q54 hw) (own_q55 hw) (own_q56 hw) (own_q57 hw) (by decide) (ctRN l Z a0 hw d c2 h138 S138.old) nosf (by decide) (by decide) (by rw [hml]; rfl) [(.ref d), (.ref c2)] [] (lenOf own_pd306 rfl) rfl rfl (Nat.le_refl _) (hb hby own_d_prog_20_method_1_code_310) (by decide) (by decide) 18 rfl (fun v139 vm139 T139 h139 S139 Q139 R139 => ?_)
  obtain ⟨rfl, rfl⟩ := Q139
  show Goes _ _ _ _ T139 (mkF m 18 #[.val (.ref a), .val (.ref t), .val .null, .val (.int (0 : Int32)), .val (.ref d), .val (.int (1 : Int32)), .val (.ref g)] [(.ref d)])
  have SF := R139.safe F.1.lt SF
  refine g_pop S139.here hx (hb hby own_d_prog_20_method_1_code_311) rfl 19 rfl ?_
  refine g_aload S139.here hx (hb hby own_d_prog_20_method_1_code_312) rfl rfl 21 rfl ?_
  refine S139.ldcO hx (by decide) (own_q59 hw) (own_wS hw) (hb hby own_d_prog_20_method_1_code_313) (n := 16) (by decide +kernel) (by decide) (by decide) (by decide) 23 rfl (fun vm140 T140 h140 c3 S140 E140 R140 => ?_)
  have SF := R140.safe F.1.lt SF
  have F := F.ext E140
  have K := K.ext E140
  refine S140.callS hx (W := 0) (own_q54 hw) (own_q55 hw) (own_q56 hw) (own_q57 hw) (by decide) (ctRN l Z a0 hw g c3 h140 S140.old) nosf (by decide) (by decide) (by rw [hml]; rfl) [(.ref g), (.ref c3)] [] (lenOf own_pd306 rfl) rfl rfl (Nat.le_refl _) (hb hby own_d_prog_20_method_1_code_314) (by decide) (by decide) 26 rfl (fun v141 vm141 T141 h141 S141 Q141 R141 => ?_)
  obtain ⟨rfl, rfl⟩ := Q141
  show Goes _ _ _ _ T141 (mkF m 26 #[.val (.ref a), .val (.ref t), .val .null, .val (.int (0 : Int32)), .val (.ref d), .val (.int (1 : Int32)), .val (.ref g)] [(.ref g)])
  have SF := R141.safe F.1.lt SF
  refine g_pop S141.here hx (hb hby own_d_prog_20_method_1_code_315) rfl 27 rfl ?_
  refine g_aloadN S141.here hx (hb hby own_d_prog_20_method_1_code_316) rfl rfl 28 rfl ?_
  refine g_aloadN S141.here hx (hb hby own_d_prog_20_method_1_code_317) rfl rfl 29 rfl ?_
  obtain ⟨q, f0, f1, f2, f3, f4, f5⟩ := F
  obtain ⟨u0, f0⟩ := f0
  refine S141.putF hx (host := "") (Or.inl (own_q60 hw)) Via.refl f0 q (Or.inr ⟨(own_q61 hw), rfl, hnm⟩) (own_q39 hw) (ty := (.object "java/lang/String")) (by decide) rfl rfl SF ga (hb hby own_d_prog_20_method_1_code_318) 32 rfl (fun T142 h142 S142 W142 R142 => ?_)
  have SF := R142.safe q.lt SF
  have q := q.wr W142
  have K := K.wr W142 (Or.inl (List.mem_singleton.mpr rfl))
  have f1 := f1.wr W142
  have f2 := f2.wr W142
  have f3 := f3.wr W142
  have f4 := f4.wr W142
  have f5 := f5.wr W142
  refine g_aloadN S142.here hx (hb hby own_d_prog_20_method_1_code_319) rfl rfl 33 rfl ?_
  refine g_aloadN S142.here hx (hb hby own_d_prog_20_method_1_code_320) rfl rfl 34 rfl ?_
  obtain ⟨u1, f1⟩ := f1
  refine S142.putF hx (host := "") (Or.inl (own_q62 hw)) Via.refl f1 q (Or.inr ⟨(own_q63 hw), rfl, hnm⟩) (own_q39 hw) (ty := (.object "java/lang/String")) (by decide) rfl rfl SF ga (hb hby own_d_prog_20_method_1_code_321) 37 rfl (fun T143 h143 S143 W143 R143 => ?_)
  have SF := R143.safe q.lt SF
  have q := q.wr W143
  have K := K.wr W143 (Or.inl (List.mem_singleton.mpr rfl))
  have f2 := f2.wr W143
  have f3 := f3.wr W143
  have f4 := f4.wr W143
  have f5 := f5.wr W143
  have f1 := f1.same W143
  refine g_aloadN S143.here hx (hb hby own_d_prog_20_method_1_code_322) rfl rfl 38 rfl ?_
  refine g_iloadN S143.here hx (hb hby own_d_prog_20_method_1_code_323) rfl 39 rfl ?_
  obtain ⟨u2, f2⟩ := f2
  refine S143.putF hx (host := "") (Or.inl (own_q64 hw)) Via.refl f2 q (Or.inr ⟨(own_q65 hw), rfl, hnm⟩) (own_q39 hw) (ty := .boolean) (by decide) rfl rfl SF ga (hb hby own_d_prog_20_method_1_code_324) 42 rfl (fun T144 h144 S144 W144 R144 => ?_)
  have SF := R144.safe q.lt SF
  have q := q.wr W144
  have K := K.wr W144 (Or.inl (List.mem_singleton.mpr rfl))
  have f3 := f3.wr W144
  have f4 := f4.wr W144
  have f5 := f5.wr W144
  have f1 := f1.other W144 (Or.inr (slot_ne (Or.inr (own_q63 hw)) (Or.inr (own_q65 hw)) (by decide) (t := .object "java/lang/String") (t' := .boolean) (by decide) (by decide)))
  refine g_aloadN S144.here hx (hb hby own_d_prog_20_method_1_code_325) rfl rfl 43 rfl ?_
  refine g_aload S144.here hx (hb hby own_d_prog_20_method_1_code_326) rfl rfl 45 rfl ?_
  obtain ⟨u3, f3⟩ := f3
  refine S144.putF hx (host := "") (Or.inl (own_q66 hw)) Via.refl f3 q (Or.inr ⟨(own_q67 hw), rfl, hnm⟩) (own_q39 hw) (ty := (.object "java/lang/String")) (by decide) rfl rfl SF ga (hb hby own_d_prog_20_method_1_code_327) 48 rfl (fun T145 h145 S145 W145 R145 => ?_)
  have SF := R145.safe q.lt SF
  have q := q.wr W145
  have K := K.wr W145 (Or.inl (List.mem_singleton.mpr rfl))
  have f4 := f4.wr W145
  have f5 := f5.wr W145
  have f1 := f1.other W145 (Or.inr (slot_ne (Or.inr (own_q63 hw)) (Or.inr (own_q67 hw)) (by decide) (t := .object "java/lang/String") (t' := (.object "java/lang/String")) (by decide) (by decide)))
  refine g_aloadN S145.here hx (hb hby own_d_prog_20_method_1_code_328) rfl rfl 49 rfl ?_
  refine g_iload S145.here hx (hb hby own_d_prog_20_method_1_code_329) rfl 51 rfl ?_
  obtain ⟨u4, f4⟩ := f4
  refine S145.putF hx (host := "") (Or.inl (own_q68 hw)) Via.refl f4 q (Or.inr ⟨(own_q69 hw), rfl, hnm⟩) (own_q39 hw) (ty := .boolean) (by decide) rfl rfl SF ga (hb hby own_d_prog_20_method_1_code_330) 54 rfl (fun T146 h146 S146 W146 R146 => ?_)
  have SF := R146.safe q.lt SF
  have q := q.wr W146
  have K := K.wr W146 (Or.inl (List.mem_singleton.mpr rfl))
  have f5 := f5.wr W146
  have f1 := f1.other W146 (Or.inr (slot_ne (Or.inr (own_q63 hw)) (Or.inr (own_q69 hw)) (by decide) (t := .object "java/lang/String") (t' := .boolean) (by decide) (by decide)))
  refine g_aloadN S146.here hx (hb hby own_d_prog_20_method_1_code_331) rfl rfl 55 rfl ?_
  refine g_aload S146.here hx (hb hby own_d_prog_20_method_1_code_332) rfl rfl 57 rfl ?_
  obtain ⟨u5, f5⟩ := f5
  refine S146.putF hx (host := "") (Or.inl (own_q70 hw)) Via.refl f5 q (Or.inr ⟨(own_q71 hw), rfl, hnm⟩) (own_q39 hw) (ty := (.object "com/example/stanchion/stanchion/changelog/Dbms")) (by decide) rfl rfl SF ga (hb hby own_d_prog_20_method_1_code_333) 60 rfl (fun T147 h147 S147 W147 R147 => ?_)
  have SF := R147.safe q.lt SF
  have q := q.wr W147
  have K := K.wr W147 (Or.inl (List.mem_singleton.mpr rfl))
  have f1 := f1.other W147 (Or.inr (slot_ne (Or.inr (own_q63 hw)) (Or.inr (own_q71 hw)) (by decide) (t := .object "java/lang/String") (t' := (.object "com/example/stanchion/stanchion/changelog/Dbms")) (by decide) (by decide)))
  exact S147.vret hx hlk hret (hb hby own_d_prog_20_method_1_code_334) ⟨rfl, q, f1, K⟩ (by decide) (by decide)
set_option maxRecDepth 65536 in
set_option maxHeartbeats 40000000 in
theorem ctSqN10 (l : Launch) (Z : State) (a0 : Array Value) (hw : ∀ d ∈ tables_1, d.before a0 Z = true) (a t d g : Addr) (h : Heap) (O : Old Z Z.heap.size h) (F : own_rawq Z h a) (ga : Z.heap.size ≤ a) :
    Ct 1 l Z consts_1 [a] (⟨"com/example/stanchion/stanchion/changelog/Sql", "<init>", "(Ljava/lang/String;Ljava/lang/String;ZLjava/lang/String;ZLcom/example/stanchion/stanchion/changelog/Dbms;)V"⟩ : MethodName) prog_20_method_1_code 7 none ({ frames := 2, cells := 6, slots := 92, locals := 26 } : Room) #[(.ref a), (.ref t), .null, (.int (1 : Int32)), (.ref d), (.int (0 : Int32)), (.ref g)] h (fun v h' => v = none ∧ Exa Z h' a "com/example/stanchion/stanchion/changelog/Sql" ∧ Fld Z h' a "com/example/stanchion/stanchion/changelog/Sql" "file" "Ljava/lang/String;" .null ∧ Keep h h' [a]) := by
  refine Ct.intro (plainFor_of_name own_pn335) O (fun q => by cases q) ⟨a0, own_ew hw⟩ ?_
  intro p e s m below meth c T0 hx hby hml hret hnm hlk hsf S0
  refine Goes.cast (own_ef336 m a t (1 : Int32) d (0 : Int32) g) ?_
  refine g_aloadN S0.here hx (hb hby own_d_prog_20_method_1_code_300) rfl rfl 1 rfl ?_
  have SF := hsf a (List.mem_singleton.mpr rfl)
  have K := Keep.refl h [a]
  refine S0.callI hx (W := 0) (a := a) rfl (own_q47 hw) (own_q48 hw) (own_q51 hw) (by decide) (own_q50 hw) (ctRec l Z a0 hw a h O) nosf (by decide) (by decide) (by rw [hml]; rfl) [] [] (lenOf own_pd302 rfl) rfl rfl (Nat.le_refl _) (hb hby own_d_prog_20_method_1_code_301) (by decide) (by decide) 4 rfl (fun v148 vm148 T148 h148 S148 Q148 R148 => ?_)
  obtain ⟨rfl, rfl⟩ := Q148
  show Goes _ _ _ _ T148 (mkF m 4 #[.val (.ref a), .val (.ref t), .val .null, .val (.int (1 : Int32)), .val (.ref d), .val (.int (0 : Int32)), .val (.ref g)] [])
  have SF := R148.safe F.1.lt SF
  refine g_aloadN S148.here hx (hb hby own_d_prog_20_method_1_code_303) rfl rfl 5 rfl ?_
  refine S148.ldcO hx (by decide) (own_q53 hw) (own_wS hw) (hb hby own_d_prog_20_method_1_code_304) (n := 16) (by decide +kernel) (by decide) (by decide) (by decide) 7 rfl (fun vm149 T149 h149 c1 S149 E149 R149 => ?_)
  have SF := R149.safe F.1.lt SF
  have F := F.ext E149
  have K := K.ext E149
  refine S149.callS hx (W := 0) (own_q54 hw) (own_q55 hw) (own_q56 hw) (own_q57 hw) (by decide) (ctRN l Z a0 hw t c1 h149 S149.old) nosf (by decide) (by decide) (by rw [hml]; rfl) [(.ref t), (.ref c1)] [] (lenOf own_pd306 rfl) rfl rfl (Nat.le_refl _) (hb hby own_d_prog_20_method_1_code_305) (by decide) (by decide) 10 rfl (fun v150 vm150 T150 h150 S150 Q150 R150 => ?_)
  obtain ⟨rfl, rfl⟩ := Q150
  show Goes _ _ _ _ T150 (mkF m 10 #[.val (.ref a), .val (.ref t), .val .null, .val (.int (1 : Int32)), .val (.ref d), .val (.int (0 : Int32)), .val (.ref g)] [(.ref t)])
  have SF := R150.safe F.1.lt SF
  refine g_pop S150.here hx (hb hby own_d_prog_20_method_1_code_307) rfl 11 rfl ?_
  refine g_aload S150.here hx (hb hby own_d_prog_20_method_1_code_308) rfl rfl 13 rfl ?_
  refine S150.ldcO hx (by decide) (own_q58 hw) (own_wS hw) (hb hby own_d_prog_20_method_1_code_309) (n := 48) (by decide +kernel) (by decide) (by decide) (by decide) 15 rfl (fun vm151 T151 h151 c2 S151 E151 R151 => ?_)
  have SF := R151.safe F.1.lt SF
  have F := F.ext E151
  have K := K.ext E151
  refine S151.callS hx (W := 0) (own_q54 hw) (own_q55 hw) (own_q56 hw) (own_q57 hw) (by decide) (ctRN l Z a0 hw d c2 h151 S151.old) nosf (by decide) (by decide) (by rw [hml]; rfl) [(.ref d), (.ref c2)] [] (lenOf own_pd306 rfl) rfl rfl (Nat.le_refl _) (hb hby own_d_prog_20_method_1_code_310) (by decide) (by decide) 18 rfl (fun v152 vm152 T152 h152 S152 Q152 R152 => ?_)
  obtain ⟨rfl, rfl⟩ := Q152
  show Goes _ _ _ _ T152 (mkF m 18 #[.val (.ref a), .val (.ref t), .val .null, .val (.int (1 : Int32)), .val (.ref d), .val (.int (0 : Int32)), .val (.ref g)] [(.ref d)])
  have SF := R152.safe F.1.lt SF
  refine g_pop S152.here hx (hb hby own_d_prog_20_method_1_code_311) rfl 19 rfl ?_
  refine g_aload S152.here hx (hb hby own_d_prog_20_method_1_code_312) rfl rfl 21 rfl ?_
  refine S152.ldcO hx (by decide) (own_q59 hw) (own_wS hw) (hb hby own_d_prog_20_method_1_code_313) (n := 16) (by decide +kernel) (by decide) (by decide) (by decide) 23 rfl (fun vm153 T153 h153 c3 S153 E153 R153 => ?_)
  have SF := R153.safe F.1.lt SF
  have F := F.ext E153
  have K := K.ext E153
  refine S153.callS hx (W := 0) (own_q54 hw) (own_q55 hw) (own_q56 hw) (own_q57 hw) (by decide) (ctRN l Z a0 hw g c3 h153 S153.old) nosf (by decide) (by decide) (by rw [hml]; rfl) [(.ref g), (.ref c3)] [] (lenOf own_pd306 rfl) rfl rfl (Nat.le_refl _) (hb hby own_d_prog_20_method_1_code_314) (by decide) (by decide) 26 rfl (fun v154 vm154 T154 h154 S154 Q154 R154 => ?_)
  obtain ⟨rfl, rfl⟩ := Q154
  show Goes _ _ _ _ T154 (mkF m 26 #[.val (.ref a), .val (.ref t), .val .null, .val (.int (1 : Int32)), .val (.ref d), .val (.int (0 : Int32)), .val (.ref g)] [(.ref g)])
  have SF := R154.safe F.1.lt SF
  refine g_pop S154.here hx (hb hby own_d_prog_20_method_1_code_315) rfl 27 rfl ?_
  refine g_aloadN S154.here hx (hb hby own_d_prog_20_method_1_code_316) rfl rfl 28 rfl ?_
  refine g_aloadN S154.here hx (hb hby own_d_prog_20_method_1_code_317) rfl rfl 29 rfl ?_
  obtain ⟨q, f0, f1, f2, f3, f4, f5⟩ := F
  obtain ⟨u0, f0⟩ := f0
  refine S154.putF hx (host := "") (Or.inl (own_q60 hw)) Via.refl f0 q (Or.inr ⟨(own_q61 hw), rfl, hnm⟩) (own_q39 hw) (ty := (.object "java/lang/String")) (by decide) rfl rfl SF ga (hb hby own_d_prog_20_method_1_code_318) 32 rfl (fun T155 h155 S155 W155 R155 => ?_)
  have SF := R155.safe q.lt SF
  have q := q.wr W155
  have K := K.wr W155 (Or.inl (List.mem_singleton.mpr rfl))
  have f1 := f1.wr W155
  have f2 := f2.wr W155
  have f3 := f3.wr W155
  have f4 := f4.wr W155
  have f5 := f5.wr W155
  refine g_aloadN S155.here hx (hb hby own_d_prog_20_method_1_code_319) rfl rfl 33 rfl ?_
  refine g_aloadN S155.here hx (hb hby own_d_prog_20_method_1_code_320) rfl rfl 34 rfl ?_
  obtain ⟨u1, f1⟩ := f1
  refine S155.putF hx (host := "") (Or.inl (own_q62 hw)) Via.refl f1 q (Or.inr ⟨(own_q63 hw), rfl, hnm⟩) (own_q39 hw) (ty := (.object "java/lang/String")) (by decide) rfl rfl SF ga (hb hby own_d_prog_20_method_1_code_321) 37 rfl (fun T156 h156 S156 W156 R156 => ?_)
  have SF := R156.safe q.lt SF
  have q := q.wr W156
  have K := K.wr W156 (Or.inl (List.mem_singleton.mpr rfl))
  have f2 := f2.wr W156
  have f3 := f3.wr W156
  have f4 := f4.wr W156
  have f5 := f5.wr W156
  have f1 := f1.same W156
  refine g_aloadN S156.here hx (hb hby own_d_prog_20_method_1_code_322) rfl rfl 38 rfl ?_
  refine g_iloadN S156.here hx (hb hby own_d_prog_20_method_1_code_323) rfl 39 rfl ?_
  obtain ⟨u2, f2⟩ := f2
  refine S156.putF hx (host := "") (Or.inl (own_q64 hw)) Via.refl f2 q (Or.inr ⟨(own_q65 hw), rfl, hnm⟩) (own_q39 hw) (ty := .boolean) (by decide) rfl rfl SF ga (hb hby own_d_prog_20_method_1_code_324) 42 rfl (fun T157 h157 S157 W157 R157 => ?_)
  have SF := R157.safe q.lt SF
  have q := q.wr W157
  have K := K.wr W157 (Or.inl (List.mem_singleton.mpr rfl))
  have f3 := f3.wr W157
  have f4 := f4.wr W157
  have f5 := f5.wr W157
  have f1 := f1.other W157 (Or.inr (slot_ne (Or.inr (own_q63 hw)) (Or.inr (own_q65 hw)) (by decide) (t := .object "java/lang/String") (t' := .boolean) (by decide) (by decide)))
  refine g_aloadN S157.here hx (hb hby own_d_prog_20_method_1_code_325) rfl rfl 43 rfl ?_
  refine g_aload S157.here hx (hb hby own_d_prog_20_method_1_code_326) rfl rfl 45 rfl ?_
  obtain ⟨u3, f3⟩ := f3
  refine S157.putF hx (host := "") (Or.inl (own_q66 hw)) Via.refl f3 q (Or.inr ⟨(own_q67 hw), rfl, hnm⟩) (own_q39 hw) (ty := (.object "java/lang/String")) (by decide) rfl rfl SF ga (hb hby own_d_prog_20_method_1_code_327) 48 rfl (fun T158 h158 S158 W158 R158 => ?_)
  have SF := R158.safe q.lt SF
  have q := q.wr W158
  have K := K.wr W158 (Or.inl (List.mem_singleton.mpr rfl))
  have f4 := f4.wr W158
  have f5 := f5.wr W158
  have f1 := f1.other W158 (Or.inr (slot_ne (Or.inr (own_q63 hw)) (Or.inr (own_q67 hw)) (by decide) (t := .object "java/lang/String") (t' := (.object "java/lang/String")) (by decide) (by decide)))
  refine g_aloadN S158.here hx (hb hby own_d_prog_20_method_1_code_328) rfl rfl 49 rfl ?_
  refine g_iload S158.here hx (hb hby own_d_prog_20_method_1_code_329) rfl 51 rfl ?_
  obtain ⟨u4, f4⟩ := f4
  refine S158.putF hx (host := "") (Or.inl (own_q68 hw)) Via.refl f4 q (Or.inr ⟨(own_q69 hw), rfl, hnm⟩) (own_q39 hw) (ty := .boolean) (by decide) rfl rfl SF ga (hb hby own_d_prog_20_method_1_code_330) 54 rfl (fun T159 h159 S159 W159 R159 => ?_)
  have SF := R159.safe q.lt SF
  have q := q.wr W159
  have K := K.wr W159 (Or.inl (List.mem_singleton.mpr rfl))
  have f5 := f5.wr W159
  have f1 := f1.other W159 (Or.inr (slot_ne (Or.inr (own_q63 hw)) (Or.inr (own_q69 hw)) (by decide) (t := .object "java/lang/String") (t' := .boolean) (by decide) (by decide)))
  refine g_aloadN S159.here hx (hb hby own_d_prog_20_method_1_code_331) rfl rfl 55 rfl ?_
  refine g_aload S159.here hx (hb hby own_d_prog_20_method_1_code_332) rfl rfl 57 rfl ?_
  obtain ⟨u5, f5⟩ := f5
  refine S159.putF hx (host := "") (Or.inl (own_q70 hw)) Via.refl f5 q (Or.inr ⟨(own_q71 hw), rfl, hnm⟩) (own_q39 hw) (ty := (.object "com/example/stanchion/stanchion/changelog/Dbms")) (by decide) rfl rfl SF ga (hb hby own_d_prog_20_method_1_code_333) 60 rfl (fun T160 h160 S160 W160 R160 => ?_)
  have SF := R160.safe q.lt SF
  have q := q.wr W160
  have K := K.wr W160 (Or.inl (List.mem_singleton.mpr rfl))
  have f1 := f1.other W160 (Or.inr (slot_ne (Or.inr (own_q63 hw)) (Or.inr (own_q71 hw)) (by decide) (t := .object "java/lang/String") (t' := (.object "com/example/stanchion/stanchion/changelog/Dbms")) (by decide) (by decide)))
  exact S160.vret hx hlk hret (hb hby own_d_prog_20_method_1_code_334) ⟨rfl, q, f1, K⟩ (by decide) (by decide)
set_option maxRecDepth 65536 in
set_option maxHeartbeats 40000000 in
theorem ctSqN11 (l : Launch) (Z : State) (a0 : Array Value) (hw : ∀ d ∈ tables_1, d.before a0 Z = true) (a t d g : Addr) (h : Heap) (O : Old Z Z.heap.size h) (F : own_rawq Z h a) (ga : Z.heap.size ≤ a) :
    Ct 1 l Z consts_1 [a] (⟨"com/example/stanchion/stanchion/changelog/Sql", "<init>", "(Ljava/lang/String;Ljava/lang/String;ZLjava/lang/String;ZLcom/example/stanchion/stanchion/changelog/Dbms;)V"⟩ : MethodName) prog_20_method_1_code 7 none ({ frames := 2, cells := 6, slots := 92, locals := 26 } : Room) #[(.ref a), (.ref t), .null, (.int (1 : Int32)), (.ref d), (.int (1 : Int32)), (.ref g)] h (fun v h' => v = none ∧ Exa Z h' a "com/example/stanchion/stanchion/changelog/Sql" ∧ Fld Z h' a "com/example/stanchion/stanchion/changelog/Sql" "file" "Ljava/lang/String;" .null ∧ Keep h h' [a]) := by
  refine Ct.intro (plainFor_of_name own_pn335) O (fun q => by cases q) ⟨a0, own_ew hw⟩ ?_
  intro p e s m below meth c T0 hx hby hml hret hnm hlk hsf S0
  refine Goes.cast (own_ef336 m a t (1 : Int32) d (1 : Int32) g) ?_
  refine g_aloadN S0.here hx (hb hby own_d_prog_20_method_1_code_300) rfl rfl 1 rfl ?_
  have SF := hsf a (List.mem_singleton.mpr rfl)
  have K := Keep.refl h [a]
  refine S0.callI hx (W := 0) (a := a) rfl (own_q47 hw) (own_q48 hw) (own_q51 hw) (by decide) (own_q50 hw) (ctRec l Z a0 hw a h O) nosf (by decide) (by decide) (by rw [hml]; rfl) [] [] (lenOf own_pd302 rfl) rfl rfl (Nat.le_refl _) (hb hby own_d_prog_20_method_1_code_301) (by decide) (by decide) 4 rfl (fun v161 vm161 T161 h161 S161 Q161 R161 => ?_)
  obtain ⟨rfl, rfl⟩ := Q161
  show Goes _ _ _ _ T161 (mkF m 4 #[.val (.ref a), .val (.ref t), .val .null, .val (.int (1 : Int32)), .val (.ref d), .val (.int (1 : Int32)), .val (.ref g)] [])
  have SF := R161.safe F.1.lt SF
  refine g_aloadN S161.here hx (hb hby own_d_prog_20_method_1_code_303) rfl rfl 5 rfl ?_
  refine S161.ldcO hx (by decide) (own_q53 hw) (own_wS hw) (hb hby own_d_prog_20_method_1_code_304) (n := 16) (by decide +kernel) (by decide) (by decide) (by decide) 7 rfl (fun vm162 T162 h162 c1 S162 E162 R162 => ?_)
  have SF := R162.safe F.1.lt SF
  have F := F.ext E162
  have K := K.ext E162
  refine S162.callS hx (W := 0) (own_q54 hw) (own_q55 hw) (own_q56 hw) (own_q57 hw) (by decide) (ctRN l Z a0 hw t c1 h162 S162.old) nosf (by decide) (by decide) (by rw [hml]; rfl) [(.ref t), (.ref c1)] [] (lenOf own_pd306 rfl) rfl rfl (Nat.le_refl _) (hb hby own_d_prog_20_method_1_code_305) (by decide) (by decide) 10 rfl (fun v163 vm163 T163 h163 S163 Q163 R163 => ?_)
  obtain ⟨rfl, rfl⟩ := Q163
  show Goes _ _ _ _ T163 (mkF m 10 #[.val (.ref a), .val (.ref t), .val .null, .val (.int (1 : Int32)), .val (.ref d), .val (.int (1 : Int32)), .val (.ref g)] [(.ref t)])
  have SF := R163.safe F.1.lt SF
  refine g_pop S163.here hx (hb hby own_d_prog_20_method_1_code_307) rfl 11 rfl ?_
  refine g_aload S163.here hx (hb hby own_d_prog_20_method_1_code_308) rfl rfl 13 rfl ?_
  refine S163.ldcO hx (by decide) (own_q58 hw) (own_wS hw) (hb hby own_d_prog_20_method_1_code_309) (n := 48) (by decide +kernel) (by decide) (by decide) (by decide) 15 rfl (fun vm164 T164 h164 c2 S164 E164 R164 => ?_)
  have SF := R164.safe F.1.lt SF
  have F := F.ext E164
  have K := K.ext E164
  refine S164.callS hx (W := 0) (own_q54 hw) (own_q55 hw) (own_q56 hw) (own_q57 hw) (by decide) (ctRN l Z a0 hw d c2 h164 S164.old) nosf (by decide) (by decide) (by rw [hml]; rfl) [(.ref d), (.ref c2)] [] (lenOf own_pd306 rfl) rfl rfl (Nat.le_refl _) (hb hby own_d_prog_20_method_1_code_310) (by decide) (by decide) 18 rfl (fun v165 vm165 T165 h165 S165 Q165 R165 => ?_)
  obtain ⟨rfl, rfl⟩ := Q165
  show Goes _ _ _ _ T165 (mkF m 18 #[.val (.ref a), .val (.ref t), .val .null, .val (.int (1 : Int32)), .val (.ref d), .val (.int (1 : Int32)), .val (.ref g)] [(.ref d)])
  have SF := R165.safe F.1.lt SF
  refine g_pop S165.here hx (hb hby own_d_prog_20_method_1_code_311) rfl 19 rfl ?_
  refine g_aload S165.here hx (hb hby own_d_prog_20_method_1_code_312) rfl rfl 21 rfl ?_
  refine S165.ldcO hx (by decide) (own_q59 hw) (own_wS hw) (hb hby own_d_prog_20_method_1_code_313) (n := 16) (by decide +kernel) (by decide) (by decide) (by decide) 23 rfl (fun vm166 T166 h166 c3 S166 E166 R166 => ?_)
  have SF := R166.safe F.1.lt SF
  have F := F.ext E166
  have K := K.ext E166
  refine S166.callS hx (W := 0) (own_q54 hw) (own_q55 hw) (own_q56 hw) (own_q57 hw) (by decide) (ctRN l Z a0 hw g c3 h166 S166.old) nosf (by decide) (by decide) (by rw [hml]; rfl) [(.ref g), (.ref c3)] [] (lenOf own_pd306 rfl) rfl rfl (Nat.le_refl _) (hb hby own_d_prog_20_method_1_code_314) (by decide) (by decide) 26 rfl (fun v167 vm167 T167 h167 S167 Q167 R167 => ?_)
  obtain ⟨rfl, rfl⟩ := Q167
  show Goes _ _ _ _ T167 (mkF m 26 #[.val (.ref a), .val (.ref t), .val .null, .val (.int (1 : Int32)), .val (.ref d), .val (.int (1 : Int32)), .val (.ref g)] [(.ref g)])
  have SF := R167.safe F.1.lt SF
  refine g_pop S167.here hx (hb hby own_d_prog_20_method_1_code_315) rfl 27 rfl ?_
  refine g_aloadN S167.here hx (hb hby own_d_prog_20_method_1_code_316) rfl rfl 28 rfl ?_
  refine g_aloadN S167.here hx (hb hby own_d_prog_20_method_1_code_317) rfl rfl 29 rfl ?_
  obtain ⟨q, f0, f1, f2, f3, f4, f5⟩ := F
  obtain ⟨u0, f0⟩ := f0
  refine S167.putF hx (host := "") (Or.inl (own_q60 hw)) Via.refl f0 q (Or.inr ⟨(own_q61 hw), rfl, hnm⟩) (own_q39 hw) (ty := (.object "java/lang/String")) (by decide) rfl rfl SF ga (hb hby own_d_prog_20_method_1_code_318) 32 rfl (fun T168 h168 S168 W168 R168 => ?_)
  have SF := R168.safe q.lt SF
  have q := q.wr W168
  have K := K.wr W168 (Or.inl (List.mem_singleton.mpr rfl))
  have f1 := f1.wr W168
  have f2 := f2.wr W168
  have f3 := f3.wr W168
  have f4 := f4.wr W168
  have f5 := f5.wr W168
  refine g_aloadN S168.here hx (hb hby own_d_prog_20_method_1_code_319) rfl rfl 33 rfl ?_
  refine g_aloadN S168.here hx (hb hby own_d_prog_20_method_1_code_320) rfl rfl 34 rfl ?_
  obtain ⟨u1, f1⟩ := f1
  refine S168.putF hx (host := "") (Or.inl (own_q62 hw)) Via.refl f1 q (Or.inr ⟨(own_q63 hw), rfl, hnm⟩) (own_q39 hw) (ty := (.object "java/lang/String")) (by decide) rfl rfl SF ga (hb hby own_d_prog_20_method_1_code_321) 37 rfl (fun T169 h169 S169 W169 R169 => ?_)
  have SF := R169.safe q.lt SF
  have q := q.wr W169
  have K := K.wr W169 (Or.inl (List.mem_singleton.mpr rfl))
  have f2 := f2.wr W169
  have f3 := f3.wr W169
  have f4 := f4.wr W169
  have f5 := f5.wr W169
  have f1 := f1.same W169
  refine g_aloadN S169.here hx (hb hby own_d_prog_20_method_1_code_322) rfl rfl 38 rfl ?_
  refine g_iloadN S169.here hx (hb hby own_d_prog_20_method_1_code_323) rfl 39 rfl ?_
  obtain ⟨u2, f2⟩ := f2
  refine S169.putF hx (host := "") (Or.inl (own_q64 hw)) Via.refl f2 q (Or.inr ⟨(own_q65 hw), rfl, hnm⟩) (own_q39 hw) (ty := .boolean) (by decide) rfl rfl SF ga (hb hby own_d_prog_20_method_1_code_324) 42 rfl (fun T170 h170 S170 W170 R170 => ?_)
  have SF := R170.safe q.lt SF
  have q := q.wr W170
  have K := K.wr W170 (Or.inl (List.mem_singleton.mpr rfl))
  have f3 := f3.wr W170
  have f4 := f4.wr W170
  have f5 := f5.wr W170
  have f1 := f1.other W170 (Or.inr (slot_ne (Or.inr (own_q63 hw)) (Or.inr (own_q65 hw)) (by decide) (t := .object "java/lang/String") (t' := .boolean) (by decide) (by decide)))
  refine g_aloadN S170.here hx (hb hby own_d_prog_20_method_1_code_325) rfl rfl 43 rfl ?_
  refine g_aload S170.here hx (hb hby own_d_prog_20_method_1_code_326) rfl rfl 45 rfl ?_
  obtain ⟨u3, f3⟩ := f3
  refine S170.putF hx (host := "") (Or.inl (own_q66 hw)) Via.refl f3 q (Or.inr ⟨(own_q67 hw), rfl, hnm⟩) (own_q39 hw) (ty := (.object "java/lang/String")) (by decide) rfl rfl SF ga (hb hby own_d_prog_20_method_1_code_327) 48 rfl (fun T171 h171 S171 W171 R171 => ?_)
  have SF := R171.safe q.lt SF
  have q := q.wr W171
  have K := K.wr W171 (Or.inl (List.mem_singleton.mpr rfl))
  have f4 := f4.wr W171
  have f5 := f5.wr W171
  have f1 := f1.other W171 (Or.inr (slot_ne (Or.inr (own_q63 hw)) (Or.inr (own_q67 hw)) (by decide) (t := .object "java/lang/String") (t' := (.object "java/lang/String")) (by decide) (by decide)))
  refine g_aloadN S171.here hx (hb hby own_d_prog_20_method_1_code_328) rfl rfl 49 rfl ?_
  refine g_iload S171.here hx (hb hby own_d_prog_20_method_1_code_329) rfl 51 rfl ?_
  obtain ⟨u4, f4⟩ := f4
  refine S171.putF hx (host := "") (Or.inl (own_q68 hw)) Via.refl f4 q (Or.inr ⟨(own_q69 hw), rfl, hnm⟩) (own_q39 hw) (ty := .boolean) (by decide) rfl rfl SF ga (hb hby own_d_prog_20_method_1_code_330) 54 rfl (fun T172 h172 S172 W172 R172 => ?_)
  have SF := R172.safe q.lt SF
  have q := q.wr W172
  have K := K.wr W172 (Or.inl (List.mem_singleton.mpr rfl))
  have f5 := f5.wr W172
  have f1 := f1.other W172 (Or.inr (slot_ne (Or.inr (own_q63 hw)) (Or.inr (own_q69 hw)) (by decide) (t := .object "java/lang/String") (t' := .boolean) (by decide) (by decide)))
  refine g_aloadN S172.here hx (hb hby own_d_prog_20_method_1_code_331) rfl rfl 55 rfl ?_
  refine g_aload S172.here hx (hb hby own_d_prog_20_method_1_code_332) rfl rfl 57 rfl ?_
  obtain ⟨u5, f5⟩ := f5
  refine S172.putF hx (host := "") (Or.inl (own_q70 hw)) Via.refl f5 q (Or.inr ⟨(own_q71 hw), rfl, hnm⟩) (own_q39 hw) (ty := (.object "com/example/stanchion/stanchion/changelog/Dbms")) (by decide) rfl rfl SF ga (hb hby own_d_prog_20_method_1_code_333) 60 rfl (fun T173 h173 S173 W173 R173 => ?_)
  have SF := R173.safe q.lt SF
  have q := q.wr W173
  have K := K.wr W173 (Or.inl (List.mem_singleton.mpr rfl))
  have f1 := f1.other W173 (Or.inr (slot_ne (Or.inr (own_q63 hw)) (Or.inr (own_q71 hw)) (by decide) (t := .object "java/lang/String") (t' := (.object "com/example/stanchion/stanchion/changelog/Dbms")) (by decide) (by decide)))
  exact S173.vret hx hlk hret (hb hby own_d_prog_20_method_1_code_334) ⟨rfl, q, f1, K⟩ (by decide) (by decide)
theorem own_d_prog_20_method_2_code_337 : decode prog_20_method_2_code 0 = .ok (.aload_n 0, 1) := by decide +kernel
theorem own_d_prog_20_method_2_code_338 : decode prog_20_method_2_code 1 = .ok (.getfield 24, 3) := by decide +kernel
theorem own_d_prog_20_method_2_code_339 : decode prog_20_method_2_code 4 = .ok (.ifnonnull 8, 3) := by decide +kernel
theorem own_d_prog_20_method_2_code_340 : decode prog_20_method_2_code 12 = .ok (.new 41, 3) := by decide +kernel
theorem own_d_prog_20_method_2_code_341 : decode prog_20_method_2_code 15 = .ok (.dup, 1) := by decide +kernel
theorem own_d_prog_20_method_2_code_342 : decode prog_20_method_2_code 16 = .ok (.invokespecial 43, 3) := by decide +kernel
theorem own_d_prog_20_method_2_code_343 : decode prog_20_method_2_code 19 = .ok (.ldc 44, 2) := by decide +kernel
theorem own_d_prog_20_method_2_code_344 : decode prog_20_method_2_code 21 = .ok (.invokevirtual 46, 3) := by decide +kernel
theorem own_pd345 : parseMethodDescriptor "(Ljava/lang/String;)Ljava/lang/StringBuilder;" = some ⟨[(.object "java/lang/String")], some (.object "java/lang/StringBuilder")⟩ := by decide +kernel
theorem own_d_prog_20_method_2_code_346 : decode prog_20_method_2_code 24 = .ok (.aload_n 0, 1) := by decide +kernel
theorem own_d_prog_20_method_2_code_347 : decode prog_20_method_2_code 25 = .ok (.getfield 24, 3) := by decide +kernel
theorem own_d_prog_20_method_2_code_348 : decode prog_20_method_2_code 28 = .ok (.invokevirtual 46, 3) := by decide +kernel
theorem own_d_prog_20_method_2_code_349 : decode prog_20_method_2_code 31 = .ok (.invokevirtual 50, 3) := by decide +kernel
theorem own_pd350 : parseMethodDescriptor "()Ljava/lang/String;" = some ⟨[], some (.object "java/lang/String")⟩ := by decide +kernel
theorem own_d_prog_20_method_2_code_351 : decode prog_20_method_2_code 34 = .ok (.areturn, 1) := by decide +kernel
set_option maxRecDepth 65536 in
set_option maxHeartbeats 40000000 in
theorem ctD (l : Launch) (Z : State) (a0 : Array Value) (hw : ∀ d ∈ tables_1, d.before a0 Z = true) (q f : Addr) (cs : List Int32) (h : Heap) (O : Old Z Z.heap.size h) (G : own_cs Z) (D1 : Fld Z h q "com/example/stanchion/stanchion/changelog/Sql" "file" "Ljava/lang/String;" (.ref f)) (F : own_str Z h f cs) (l3 : cs.length ≤ 3) :
    Ct 1 l Z consts_1 [] (⟨"com/example/stanchion/stanchion/changelog/Sql", "description", "()Ljava/lang/String;"⟩ : MethodName) prog_20_method_2_code 1 (some (.object "java/lang/String")) ({ frames := 6, cells := 6, slots := 76, locals := 113 } : Room) #[(.ref q)] h (fun v h' => ∃ x : Addr, v = some (.ref x) ∧ own_str Z h' x (own_tf ++ cs) ∧ Ext h h') := by
  refine Ct.intro (plainFor_of_name own_pn335) O (fun q => by cases q) ⟨a0, own_ew hw⟩ ?_
  intro p e s m below meth c T0 hx hby hml hret hnm hlk hsf S0
  refine Goes.cast (own_ef69 m q) ?_
  refine g_aloadN S0.here hx (hb hby own_d_prog_20_method_2_code_337) rfl rfl 1 rfl ?_
  refine S0.getF hx (host := "") (Or.inl (own_q62 hw)) Via.refl D1 (hb hby own_d_prog_20_method_2_code_338) 4 rfl (fun T174 S174 => ?_)
  refine g_ifnonnullT S174.here hx (hb hby own_d_prog_20_method_2_code_339) 12 (by decide) (by decide) ?_
  refine S174.new hx (own_q77 hw) (own_q78 hw) (own_q79 hw) (hb hby own_d_prog_20_method_2_code_340) (by decide) (by decide) 15 rfl (fun T175 h175 a S175 g175 E175 A175 D175 F175 R175 U175 => ?_)
  have ga175 : Z.heap.size ≤ a := by rw [g175]; exact S174.size
  have rb : own_rawb Z h175 a := ⟨A175, ⟨_, D175 (Or.inl (own_q92 hw)) (ty := .array .byte) (by decide)⟩, ⟨_, D175 (Or.inl (own_q94 hw)) (ty := .byte) (by decide)⟩, D175 (Or.inl (own_q117 hw)) (ty := .int) (by decide)⟩
  refine g_dup S175.here hx (hb hby own_d_prog_20_method_2_code_341) rfl 16 rfl ?_
  refine S175.callIN hx (W := 1) (a := a) rfl (own_q80 hw) (own_q81 hw) (own_q82 hw) (by decide) (ctBack (s := s.setVm s.vm) (ctSI l Z a0 hw a h175 S175.old G rb ga175) S175.warm (own_q82 hw) (own_q79 hw) (by decide) (by decide)) (fun v h' Lc r => ⟨r.2.1, r.2.2.1, CHr.keep r.1.2.2 (fun x hx => by cases List.mem_singleton.mp hx; exact F175) S175.chr.1⟩) (by rw [hml]; rfl) [] [(.ref a)] (lenOf own_pd302 rfl) rfl rfl (Nat.le_refl _) (hb hby own_d_prog_20_method_2_code_342) (by decide) (by decide) 19 rfl (fun v176 T176 h176 Lc176 S176 Q176 R176 => ?_)
  obtain ⟨rfl, ⟨b, B0, gb⟩, K0⟩ := Q176.1
  show Goes _ _ _ _ T176 (mkF m 19 #[.val (.ref q)] [(.ref a)])
  have sa : ∀ x ∈ [a], Safe Z consts_1 s.vm h175 x := fun x hx => by cases List.mem_singleton.mp hx; exact F175
  have Fa := Safe.keep K0 sa S175.chr.1 F175
  have Fb := Safe.keep K0 sa S175.chr.1 (Safe.new gb)
  have la : a < h176.size := B0.exa.lt
  have lb : b < h176.size := B0.ltb
  have nab : a ≠ b := fun q => by rw [← q] at gb; exact absurd A175.lt (Nat.not_lt.mpr gb)
  have ea : h.size ≤ a := Nat.le_of_eq g175.symm
  have eb : h.size ≤ b := Nat.le_trans E175.1 gb
  have gaa : Z.heap.size ≤ a := ga175
  have gab : Z.heap.size ≤ b := Nat.le_trans S175.size gb
  have X0 : Ext h h176 := own_ext_keep E175 K0 (fun x hx => by cases List.mem_singleton.mp hx; exact ea)
  refine S176.ldcC hx (by decide) (own_q95 hw) (own_wS hw) (by decide) (vs := (own_tf.map fun c => c.toInt8.toInt32).map Value.int) (z := Int32.ofNat own_tf.length) (by decide +kernel) (by decide +kernel) (by decide +kernel) (hb hby own_d_prog_20_method_2_code_343) (n := 32) (by decide +kernel) (by decide) (by decide) (by decide) 21 rfl (fun vm177 T177 h177 e b177 k177 S177 E177 R177 q177a q177b q177c q177d N177 => ?_)
  have f_e : own_str Z h177 e own_tf := ⟨own_tf_lat, by decide +kernel, b177, k177, q177a, q177b, q177c, q177d⟩
  have Fa := R177.safe la Fa
  have Fb := R177.safe lb Fb
  have B0 := B0.ext E177
  have X0 := own_ext_trans X0 E177
  refine S177.callVN hx (W := 0) (C := "java/lang/StringBuilder") (own_q96 hw) (own_q97 hw) (notFace_of_selects (args := #[]) (mvT S177.warm (own_q99 hw))) (own_q99 hw) (own_q98 hw) (by decide) B0.exa (ctBack (s := s.setVm vm177) (ctSA l Z a0 hw a b e [] own_tf h177 S177.old G B0 f_e (by decide) gaa gab nab) S177.warm (own_q100 hw) (own_q79 hw) (by decide) (by decide)) (fun v h' Lc r => ⟨r.2.1, r.2.2.1, CHr.keep r.1.2.2 (own_two Fa Fb) S177.chr.1⟩) (by rw [hml]; rfl) [(.ref e)] [] (lenOf own_pd345 rfl) rfl rfl (Nat.le_refl _) (hb hby own_d_prog_20_method_2_code_344) (by decide) (by decide) 24 rfl (fun v178 T178 h178 Lc178 S178 Q178 R178 => ?_)
  obtain ⟨rfl, B1, K178⟩ := Q178.1
  show Goes _ _ _ _ T178 (mkF m 24 #[.val (.ref q)] [(.ref a)])
  have X1 : Ext h h178 := own_ext_keep X0 K178 (own_two ea eb)
  have sab : ∀ x ∈ [a, b], Safe Z consts_1 vm177 h177 x := own_two Fa Fb
  have Fa := Safe.keep K178 sab S177.chr.1 Fa
  have Fb := Safe.keep K178 sab S177.chr.1 Fb
  have D1x := D1.ext X1
  refine g_aloadN S178.here hx (hb hby own_d_prog_20_method_2_code_346) rfl rfl 25 rfl ?_
  refine S178.getF hx (host := "") (Or.inl (own_q62 hw)) Via.refl D1x (hb hby own_d_prog_20_method_2_code_347) 28 rfl (fun T179 S179 => ?_)
  refine S179.callVN hx (W := 0) (C := "java/lang/StringBuilder") (own_q96 hw) (own_q97 hw) (notFace_of_selects (args := #[]) (mvT S179.warm (own_q99 hw))) (own_q99 hw) (own_q98 hw) (by decide) B1.exa (ctBack (s := s.setVm vm177) (ctSA l Z a0 hw a b f ([] ++ own_tf) cs h178 S179.old G B1 (F.ext X1) (by rw [show ([] ++ own_tf : List Int32).length = 8 from by decide]; omega) gaa gab nab) S179.warm (own_q100 hw) (own_q79 hw) (by decide) (by decide)) (fun v h' Lc r => ⟨r.2.1, r.2.2.1, CHr.keep r.1.2.2 (own_two Fa Fb) S179.chr.1⟩) (by rw [hml]; rfl) [(.ref f)] [] (lenOf own_pd345 rfl) rfl rfl (Nat.le_refl _) (hb hby own_d_prog_20_method_2_code_348) (by decide) (by decide) 31 rfl (fun v180 T180 h180 Lc180 S180 Q180 R180 => ?_)
  obtain ⟨rfl, B2, K180⟩ := Q180.1
  show Goes _ _ _ _ T180 (mkF m 31 #[.val (.ref q)] [(.ref a)])
  have X2 : Ext h h180 := own_ext_keep X1 K180 (own_two ea eb)
  have sab : ∀ x ∈ [a, b], Safe Z consts_1 vm177 h178 x := own_two Fa Fb
  have Fa := Safe.keep K180 sab S179.chr.1 Fa
  have Fb := Safe.keep K180 sab S179.chr.1 Fb
  have D1x := D1.ext X2
  refine S180.callVN hx (W := 0) (C := "java/lang/StringBuilder") (own_q143 hw) (own_q144 hw) (notFace_of_selects (args := #[]) (mvT S180.warm (own_q146 hw))) (own_q146 hw) (own_q145 hw) (by decide) B2.exa (ctBack (s := s.setVm vm177) (ctTS l Z a0 hw a b _ h180 S180.old G B2) S180.warm (own_q147 hw) (own_q79 hw) (by decide) (by decide)) (fun v h' Lc r => ⟨r.2.1, r.2.2.1, by obtain ⟨_, _, _, X3⟩ := r.1; exact CHr.ext X3 S180.chr.1⟩) (by rw [hml]; rfl) [] [] (lenOf own_pd350 rfl) rfl rfl (Nat.le_refl _) (hb hby own_d_prog_20_method_2_code_349) (by decide) (by decide) 34 rfl (fun v181 T181 h181 Lc181 S181 Q181 R181 => ?_)
  obtain ⟨x, rfl, FX, X3⟩ := Q181.1
  show Goes _ _ _ _ T181 (mkF m 34 #[.val (.ref q)] [(.ref x)])
  have X4 := own_ext_trans X2 X3
  exact S181.aret hx hlk hret rfl rfl rfl (hb hby own_d_prog_20_method_2_code_351) ⟨x, rfl, FX, X4⟩ (by decide) (by decide)
theorem own_d_prog_20_method_2_code_352 : decode prog_20_method_2_code 7 = .ok (.ldc 39, 2) := by decide +kernel
theorem own_d_prog_20_method_2_code_353 : decode prog_20_method_2_code 9 = .ok (.goto 25, 3) := by decide +kernel
set_option maxRecDepth 65536 in
set_option maxHeartbeats 40000000 in
theorem ctDN (l : Launch) (Z : State) (a0 : Array Value) (hw : ∀ d ∈ tables_1, d.before a0 Z = true) (q : Addr) (h : Heap) (O : Old Z Z.heap.size h) (D1 : Fld Z h q "com/example/stanchion/stanchion/changelog/Sql" "file" "Ljava/lang/String;" .null) :
    Ct 1 l Z consts_1 [] (⟨"com/example/stanchion/stanchion/changelog/Sql", "description", "()Ljava/lang/String;"⟩ : MethodName) prog_20_method_2_code 1 (some (.object "java/lang/String")) ({ frames := 6, cells := 6, slots := 76, locals := 113 } : Room) #[(.ref q)] h (fun v h' => ∃ x : Addr, v = some (.ref x) ∧ own_str Z h' x own_tq ∧ Ext h h') := by
  refine Ct.intro (plainFor_of_name own_pn335) O (fun q => by cases q) ⟨a0, own_ew hw⟩ ?_
  intro p ee s m below meth c T0 hx hby hml hret hnm hlk hsf S0
  refine Goes.cast (own_ef69 m q) ?_
  refine g_aloadN S0.here hx (hb hby own_d_prog_20_method_2_code_337) rfl rfl 1 rfl ?_
  refine S0.getF hx (host := "") (Or.inl (own_q62 hw)) Via.refl D1 (hb hby own_d_prog_20_method_2_code_338) 4 rfl (fun T182 S182 => ?_)
  refine g_ifnonnullF S182.here hx (hb hby own_d_prog_20_method_2_code_339) 7 rfl ?_
  refine S182.ldcC hx (by decide) (own_q197 hw) (own_wS hw) (by decide) (vs := (own_tq.map fun c => c.toInt8.toInt32).map Value.int) (z := Int32.ofNat own_tq.length) (by decide +kernel) (by decide +kernel) (by decide +kernel) (hb hby own_d_prog_20_method_2_code_352) (n := 12) (by decide +kernel) (by decide) (by decide) (by decide) 9 rfl (fun vm183 T183 h183 e b183 k183 S183 E183 R183 q183a q183b q183c q183d N183 => ?_)
  have f_e : own_str Z h183 e own_tq := ⟨own_tq_lat, by decide +kernel, b183, k183, q183a, q183b, q183c, q183d⟩
  refine g_goto S183.here hx (hb hby own_d_prog_20_method_2_code_353) 34 (by decide) (by decide) ?_
  exact S183.aret hx hlk hret rfl rfl rfl (hb hby own_d_prog_20_method_2_code_351) ⟨e, rfl, f_e, E183⟩ (by decide) (by decide)
theorem own_keep_ext {h h1 h2 : Heap} {ws : List Addr} (E : Ext h h1) (K : Keep h1 h2 ws) : Keep h h2 ws := ((Keep.refl h ws).ext E).trans K (fun x hx => Or.inl hx)
theorem own_ef354 (m : MethodId) (x0 : Int32) (x1 : Int32) (x2 : Int32) (x3 : Int32) (x4 : Int32) (x5 : Int32) : entryFrame m #[(.int x0), (.int x1), (.int x2), (.int x3), (.int x4), (.int x5)] maxLocals = mkF m 0 #[.val (.int x0), .val (.int x1), .val (.int x2), .val (.int x3), .val (.int x4), .val (.int x5), .unset, .unset, .unset, .unset, .unset, .unset, .unset, .unset, .unset, .unset, .unset] [] := by first | (simp [entryFrame, mkF, argsToLocals, Value.category, maxLocals]; done) | rfl
theorem own_pd355 : parseMethodDescriptor "(C)Ljava/lang/String;" = some ⟨[.char], some (.object "java/lang/String")⟩ := by decide +kernel
theorem own_pd356 : parseMethodDescriptor "(Ljava/lang/String;Ljava/lang/String;ZLjava/lang/String;ZLcom/example/stanchion/stanchion/changelog/Dbms;)V" = some ⟨[(.object "java/lang/String"), (.object "java/lang/String"), .boolean, (.object "java/lang/String"), .boolean, (.object "com/example/stanchion/stanchion/changelog/Dbms")], none⟩ := by decide +kernel
theorem own_pn357 : plainName "com/example/stanchion/stanchion/changelog/SqlDescriptionPinLaw" = true := by first | (simp [plainName, overriddenIn]; done) | decide +kernel
set_option maxRecDepth 65536 in
set_option maxHeartbeats 40000000 in
theorem ct0 (l : Launch) (Z : State) (a0 : Array Value) (hw : ∀ d ∈ tables_1, d.before a0 Z = true) (p1 p2 p3 p4 p5 p6 : Int32) (g : Addr) (h : Heap) (O : Old Z Z.heap.size h) (G : own_cs Z) (G3 : Sta Z Z.heap "com/example/stanchion/stanchion/changelog/Dbms" "ALL" "Lcom/example/stanchion/stanchion/changelog/Dbms;" (.ref g)) :
    Ct 1 l Z consts_1 [] x code maxLocals ret room_1 #[(.int p1), (.int p2), (.int p3), (.int p4), (.int p5), (.int p6)] h (fun v h' => v = some (.int 1)) := by
  refine Ct.intro (plainFor_of_name own_pn357) O (fun q => by cases q) ⟨a0, own_ew hw⟩ ?_
  intro p e s m below meth c T0 hx hby hml hret hnm hlk hsf S0
  refine Goes.cast (own_ef354 m p1 p2 p3 p4 p5 p6) ?_
  refine g_iloadN S0.here hx (hb hby at_0) rfl 1 rfl ?_
  refine g_sipush S0.here hx (hb hby at_1) (255 : Int32) (by decide) 4 rfl ?_
  refine g_iand S0.here hx (hb hby at_4) 5 rfl ?_
  refine g_i2c S0.here hx (hb hby at_5) 6 rfl ?_
  have k_c1 := own_b8 p2
  generalize (p2 &&& (255 : Int32)).toUInt32.toUInt16.toUInt32.toInt32 = c1 at k_c1 ⊢
  refine g_istore S0.here hx (hb hby at_6) #[.val (.int p1), .val (.int p2), .val (.int p3), .val (.int p4), .val (.int p5), .val (.int p6), .val (.int c1), .unset, .unset, .unset, .unset, .unset, .unset, .unset, .unset, .unset, .unset] rfl 8 rfl ?_
  refine g_iloadN S0.here hx (hb hby at_8) rfl 9 rfl ?_
  refine g_sipush S0.here hx (hb hby at_9) (255 : Int32) (by decide) 12 rfl ?_
  refine g_iand S0.here hx (hb hby at_12) 13 rfl ?_
  refine g_i2c S0.here hx (hb hby at_13) 14 rfl ?_
  have k_c2 := own_b8 p3
  generalize (p3 &&& (255 : Int32)).toUInt32.toUInt16.toUInt32.toInt32 = c2 at k_c2 ⊢
  refine g_istore S0.here hx (hb hby at_14) #[.val (.int p1), .val (.int p2), .val (.int p3), .val (.int p4), .val (.int p5), .val (.int p6), .val (.int c1), .val (.int c2), .unset, .unset, .unset, .unset, .unset, .unset, .unset, .unset, .unset] rfl 16 rfl ?_
  refine g_iloadN S0.here hx (hb hby at_16) rfl 17 rfl ?_
  refine g_sipush S0.here hx (hb hby at_17) (255 : Int32) (by decide) 20 rfl ?_
  refine g_iand S0.here hx (hb hby at_20) 21 rfl ?_
  refine g_i2c S0.here hx (hb hby at_21) 22 rfl ?_
  have k_c3 := own_b8 p4
  generalize (p4 &&& (255 : Int32)).toUInt32.toUInt16.toUInt32.toInt32 = c3 at k_c3 ⊢
  refine g_istore S0.here hx (hb hby at_22) #[.val (.int p1), .val (.int p2), .val (.int p3), .val (.int p4), .val (.int p5), .val (.int p6), .val (.int c1), .val (.int c2), .val (.int c3), .unset, .unset, .unset, .unset, .unset, .unset, .unset, .unset] rfl 24 rfl ?_
  refine g_iloadN S0.here hx (hb hby at_24) rfl 25 rfl ?_
  refine g_iconst S0.here hx (hb hby at_25) (3 : Int32) (by decide) 26 rfl ?_
  refine g_iand S0.here hx (hb hby at_26) 27 rfl ?_
  generalize p1 &&& (3 : Int32) = kd
  refine g_istore S0.here hx (hb hby at_27) #[.val (.int p1), .val (.int p2), .val (.int p3), .val (.int p4), .val (.int p5), .val (.int p6), .val (.int c1), .val (.int c2), .val (.int c3), .val (.int kd), .unset, .unset, .unset, .unset, .unset, .unset, .unset] rfl 29 rfl ?_
  refine g_iloadN S0.here hx (hb hby at_29) rfl 30 rfl ?_
  refine g_iconst S0.here hx (hb hby at_30) (4 : Int32) (by decide) 31 rfl ?_
  refine g_iand S0.here hx (hb hby at_31) 32 rfl ?_
  generalize p1 &&& (4 : Int32) = nl
  have joinS : ∀ (vm' : Vm) (T' : State) (h1' : Heap) (f x : Addr) (cs : List Int32), St 1 p l e room_1 s m #[(.int p1), (.int p2), (.int p3), (.int p4), (.int p5), (.int p6)] below meth c "com/example/stanchion/stanchion/changelog/SqlDescriptionPinLaw" Z consts_1 vm' T' h1' 12 200 → own_str Z h1' f cs → cs.length ≤ 3 → own_str Z h1' x (own_tf ++ cs) → Goes p.tables e below (Pof 1 Z consts_1 s room_1 (fun v h' => v = some (.int 1))) T' (mkF m 366 #[.val (.int p1), .val (.int p2), .val (.int p3), .val (.int p4), .val (.int p5), .val (.int p6), .val (.int c1), .val (.int c2), .val (.int c3), .val (.int kd), .val (.int (0 : Int32)), .val (.ref f), .val (.ref x), .unset, .unset, .unset, .unset] []) := by
    intro vm' T' h1' f x cs S1' f_f l3 f_x
    refine g_iload S1'.here hx (hb hby at_366) rfl 368 rfl ?_
    refine g_sipush S1'.here hx (hb hby at_368) (255 : Int32) (by decide) 371 rfl ?_
    refine g_iand S1'.here hx (hb hby at_371) 372 rfl ?_
    refine g_i2c S1'.here hx (hb hby at_372) 373 rfl ?_
    refine S1'.callS hx (W := 0) (own_q23 hw) (own_q24 hw) (own_q2 hw) (own_q25 hw) (by decide) (ctVO l Z a0 hw ((p5 &&& (255 : Int32)).toUInt32.toUInt16.toUInt32.toInt32) h1' S1'.old G (own_b8 _)) nosf (by decide) (by decide) (by rw [hml]; rfl) [(.int ((p5 &&& (255 : Int32)).toUInt32.toUInt16.toUInt32.toInt32))] [] (lenOf own_pd355 rfl) rfl rfl (Nat.le_refl _) (hb hby at_373) (by decide) (by decide) 376 rfl (fun v184 vm184 T184 h184 S184 Q184 R184 => ?_)
    obtain ⟨s1, rfl, -, E184⟩ := Q184
    show Goes _ _ _ _ T184 (mkF m 376 #[.val (.int p1), .val (.int p2), .val (.int p3), .val (.int p4), .val (.int p5), .val (.int p6), .val (.int c1), .val (.int c2), .val (.int c3), .val (.int kd), .val (.int (0 : Int32)), .val (.ref f), .val (.ref x), .unset, .unset, .unset, .unset] [(.ref s1)])
    have f_x := f_x.ext E184
    have f_f := f_f.ext E184
    refine g_astore S184.here hx (hb hby at_376) rfl #[.val (.int p1), .val (.int p2), .val (.int p3), .val (.int p4), .val (.int p5), .val (.int p6), .val (.int c1), .val (.int c2), .val (.int c3), .val (.int kd), .val (.int (0 : Int32)), .val (.ref f), .val (.ref x), .val (.ref s1), .unset, .unset, .unset] rfl 378 rfl ?_
    refine g_iload S184.here hx (hb hby at_378) rfl 380 rfl ?_
    refine g_bipush S184.here hx (hb hby at_380) (8 : Int32) (by decide) 382 rfl ?_
    refine g_iushr S184.here hx (hb hby at_382) 383 rfl ?_
    refine g_sipush S184.here hx (hb hby at_383) (255 : Int32) (by decide) 386 rfl ?_
    refine g_iand S184.here hx (hb hby at_386) 387 rfl ?_
    refine g_i2c S184.here hx (hb hby at_387) 388 rfl ?_
    refine S184.callS hx (W := 0) (own_q23 hw) (own_q24 hw) (own_q2 hw) (own_q25 hw) (by decide) (ctVO l Z a0 hw ((((p5.toUInt32 >>> ((8 : Int32) &&& 31).toUInt32).toInt32) &&& (255 : Int32)).toUInt32.toUInt16.toUInt32.toInt32) h184 S184.old G (own_b8 _)) nosf (by decide) (by decide) (by rw [hml]; rfl) [(.int ((((p5.toUInt32 >>> ((8 : Int32) &&& 31).toUInt32).toInt32) &&& (255 : Int32)).toUInt32.toUInt16.toUInt32.toInt32))] [] (lenOf own_pd355 rfl) rfl rfl (Nat.le_refl _) (hb hby at_388) (by decide) (by decide) 391 rfl (fun v185 vm185 T185 h185 S185 Q185 R185 => ?_)
    obtain ⟨s2, rfl, -, E185⟩ := Q185
    show Goes _ _ _ _ T185 (mkF m 391 #[.val (.int p1), .val (.int p2), .val (.int p3), .val (.int p4), .val (.int p5), .val (.int p6), .val (.int c1), .val (.int c2), .val (.int c3), .val (.int kd), .val (.int (0 : Int32)), .val (.ref f), .val (.ref x), .val (.ref s1), .unset, .unset, .unset] [(.ref s2)])
    have f_x := f_x.ext E185
    have f_f := f_f.ext E185
    refine g_astore S185.here hx (hb hby at_391) rfl #[.val (.int p1), .val (.int p2), .val (.int p3), .val (.int p4), .val (.int p5), .val (.int p6), .val (.int c1), .val (.int c2), .val (.int c3), .val (.int kd), .val (.int (0 : Int32)), .val (.ref f), .val (.ref x), .val (.ref s1), .val (.ref s2), .unset, .unset] rfl 393 rfl ?_
    have f_x_0 := f_x
    have f_f_0 := f_f
    refine S185.new hx (own_q38 hw) (own_q39 hw) (own_q40 hw) (hb hby at_393) (by decide) (by decide) 396 rfl (fun T186 h186 q S186 g186 E186 A186 D186 F186 R186 U186 => ?_)
    have ga186 : Z.heap.size ≤ q := by rw [g186]; exact S185.size
    have f_x := f_x.ext E186
    have f_f := f_f.ext E186
    have rq : own_rawq Z h186 q := ⟨A186, ⟨_, D186 (Or.inr (own_q61 hw)) (ty := (.object "java/lang/String")) (by decide)⟩, ⟨_, D186 (Or.inr (own_q63 hw)) (ty := (.object "java/lang/String")) (by decide)⟩, ⟨_, D186 (Or.inr (own_q65 hw)) (ty := .boolean) (by decide)⟩, ⟨_, D186 (Or.inr (own_q67 hw)) (ty := (.object "java/lang/String")) (by decide)⟩, ⟨_, D186 (Or.inr (own_q69 hw)) (ty := .boolean) (by decide)⟩, ⟨_, D186 (Or.inr (own_q71 hw)) (ty := (.object "com/example/stanchion/stanchion/changelog/Dbms")) (by decide)⟩⟩
    refine g_dup S186.here hx (hb hby at_396) rfl 397 rfl ?_
    refine g_aload S186.here hx (hb hby at_397) rfl rfl 399 rfl ?_
    refine g_aload S186.here hx (hb hby at_399) rfl rfl 401 rfl ?_
    refine g_iload S186.here hx (hb hby at_401) rfl 403 rfl ?_
    refine g_iconst S186.here hx (hb hby at_403) (1 : Int32) (by decide) 404 rfl ?_
    refine g_iand S186.here hx (hb hby at_404) 405 rfl ?_
    generalize p6 &&& (1 : Int32) = b1
    refine g_if S186.here hx (hb hby at_405) b1.toInt rfl 412 408 (by decide) (by decide) rfl (fun (hc405 : b1.toInt = 0) => ?_) (fun (hc405 : ¬ (b1.toInt = 0)) => ?_)
    · refine g_iconst S186.here hx (hb hby at_412) (0 : Int32) (by decide) 413 rfl ?_
      refine g_aload S186.here hx (hb hby at_413) rfl rfl 415 rfl ?_
      refine g_iload S186.here hx (hb hby at_415) rfl 417 rfl ?_
      refine g_iconst S186.here hx (hb hby at_417) (2 : Int32) (by decide) 418 rfl ?_
      refine g_iand S186.here hx (hb hby at_418) 419 rfl ?_
      generalize p6 &&& (2 : Int32) = b2
      refine g_if S186.here hx (hb hby at_419) b2.toInt rfl 426 422 (by decide) (by decide) rfl (fun (hc419 : b2.toInt = 0) => ?_) (fun (hc419 : ¬ (b2.toInt = 0)) => ?_)
      · refine g_iconst S186.here hx (hb hby at_426) (0 : Int32) (by decide) 427 rfl ?_
        refine S186.getS hx (host := "") (Or.inl (own_q41 hw)) Via.refl (G3.ext S186.old.2) (hb hby at_427) 430 rfl (fun T187 S187 => ?_)
        refine S187.callI hx (W := 1) (a := q) rfl (own_q44 hw) (own_q45 hw) (own_q46 hw) (by decide) (own_q40 hw) (ctSq00 l Z a0 hw q s1 f s2 g h186 S187.old rq ga186) (fun x hx => by cases List.mem_singleton.mp hx; exact ⟨A186.lt, F186⟩) (by decide) (by decide) (by rw [hml]; rfl) [(.ref s1), (.ref f), (.int (0 : Int32)), (.ref s2), (.int (0 : Int32)), (.ref g)] [(.ref q)] (lenOf own_pd356 rfl) rfl rfl (Nat.le_refl _) (hb hby at_430) (by decide) (by decide) 433 rfl (fun v188 vm188 T188 h188 S188 Q188 R188 => ?_)
        obtain ⟨rfl, XQ, FQ, KQ⟩ := Q188
        show Goes _ _ _ _ T188 (mkF m 433 #[.val (.int p1), .val (.int p2), .val (.int p3), .val (.int p4), .val (.int p5), .val (.int p6), .val (.int c1), .val (.int c2), .val (.int c3), .val (.int kd), .val (.int (0 : Int32)), .val (.ref f), .val (.ref x), .val (.ref s1), .val (.ref s2), .unset, .unset] [(.ref q)])
        have f_x := f_x_0.keep (own_keep_ext E186 KQ) (fun x hx => by cases List.mem_singleton.mp hx; exact Nat.le_of_eq g186.symm)
        have f_f := f_f_0.keep (own_keep_ext E186 KQ) (fun x hx => by cases List.mem_singleton.mp hx; exact Nat.le_of_eq g186.symm)
        refine g_astore S188.here hx (hb hby at_433) rfl #[.val (.int p1), .val (.int p2), .val (.int p3), .val (.int p4), .val (.int p5), .val (.int p6), .val (.int c1), .val (.int c2), .val (.int c3), .val (.int kd), .val (.int (0 : Int32)), .val (.ref f), .val (.ref x), .val (.ref s1), .val (.ref s2), .val (.ref q), .unset] rfl 435 rfl ?_
        refine g_aload S188.here hx (hb hby at_435) rfl rfl 437 rfl ?_
        refine S188.callV hx (W := 0) (C := "com/example/stanchion/stanchion/changelog/Sql") (own_q72 hw) (own_q73 hw) (notFace_of_selects (args := #[]) (mvT S188.warm (own_q75 hw))) (own_q75 hw) (own_q74 hw) (by decide) XQ (own_q76 hw) (own_q40 hw) (ctD l Z a0 hw q f cs h188 S188.old G FQ f_f l3) nosf (by decide) (by decide) (by rw [hml]; rfl) [] [] (lenOf own_pd350 rfl) rfl rfl (Nat.le_refl _) (hb hby at_437) (by decide) (by decide) 440 rfl (fun v189 vm189 T189 h189 S189 Q189 R189 => ?_)
        obtain ⟨d, rfl, f_d, E189⟩ := Q189
        show Goes _ _ _ _ T189 (mkF m 440 #[.val (.int p1), .val (.int p2), .val (.int p3), .val (.int p4), .val (.int p5), .val (.int p6), .val (.int c1), .val (.int c2), .val (.int c3), .val (.int kd), .val (.int (0 : Int32)), .val (.ref f), .val (.ref x), .val (.ref s1), .val (.ref s2), .val (.ref q), .unset] [(.ref d)])
        have f_x := f_x.ext E189
        refine g_astore S189.here hx (hb hby at_440) rfl #[.val (.int p1), .val (.int p2), .val (.int p3), .val (.int p4), .val (.int p5), .val (.int p6), .val (.int c1), .val (.int c2), .val (.int c3), .val (.int kd), .val (.int (0 : Int32)), .val (.ref f), .val (.ref x), .val (.ref s1), .val (.ref s2), .val (.ref q), .val (.ref d)] rfl 442 rfl ?_
        refine g_aload S189.here hx (hb hby at_442) rfl rfl 444 rfl ?_
        refine g_ifnullF S189.here hx (hb hby at_444) 447 rfl ?_
        refine g_aload S189.here hx (hb hby at_447) rfl rfl 449 rfl ?_
        refine g_aload S189.here hx (hb hby at_449) rfl rfl 451 rfl ?_
        refine own_eq S189 hx hw G (W := 0) (own_q188 hw) f_d f_x (by decide) (by decide) (by rw [hml]; rfl) [] (Nat.le_refl _) (hb hby at_451) (by decide) (by decide) 454 rfl (fun T190 z190 S190 Z190 => ?_)
        obtain rfl : z190 = 1 := own_is1 Z190 rfl
        refine g_ifF S190.here hx (hb hby at_454) 1 (by decide) (by show ¬ (1 = 0); decide) 457 rfl ?_
        refine g_iconst S190.here hx (hb hby at_457) (1 : Int32) (by decide) 458 rfl ?_
        refine g_goto S190.here hx (hb hby at_458) 462 (by decide) (by decide) ?_
        exact S190.iret hx hlk hret (Or.inr (Or.inl rfl)) rfl (hb hby at_462) rfl (by decide) (by decide)
      · refine g_iconst S186.here hx (hb hby at_422) (1 : Int32) (by decide) 423 rfl ?_
        refine g_goto S186.here hx (hb hby at_423) 427 (by decide) (by decide) ?_
        refine S186.getS hx (host := "") (Or.inl (own_q41 hw)) Via.refl (G3.ext S186.old.2) (hb hby at_427) 430 rfl (fun T191 S191 => ?_)
        refine S191.callI hx (W := 1) (a := q) rfl (own_q44 hw) (own_q45 hw) (own_q46 hw) (by decide) (own_q40 hw) (ctSq01 l Z a0 hw q s1 f s2 g h186 S191.old rq ga186) (fun x hx => by cases List.mem_singleton.mp hx; exact ⟨A186.lt, F186⟩) (by decide) (by decide) (by rw [hml]; rfl) [(.ref s1), (.ref f), (.int (0 : Int32)), (.ref s2), (.int (1 : Int32)), (.ref g)] [(.ref q)] (lenOf own_pd356 rfl) rfl rfl (Nat.le_refl _) (hb hby at_430) (by decide) (by decide) 433 rfl (fun v192 vm192 T192 h192 S192 Q192 R192 => ?_)
        obtain ⟨rfl, XQ, FQ, KQ⟩ := Q192
        show Goes _ _ _ _ T192 (mkF m 433 #[.val (.int p1), .val (.int p2), .val (.int p3), .val (.int p4), .val (.int p5), .val (.int p6), .val (.int c1), .val (.int c2), .val (.int c3), .val (.int kd), .val (.int (0 : Int32)), .val (.ref f), .val (.ref x), .val (.ref s1), .val (.ref s2), .unset, .unset] [(.ref q)])
        have f_x := f_x_0.keep (own_keep_ext E186 KQ) (fun x hx => by cases List.mem_singleton.mp hx; exact Nat.le_of_eq g186.symm)
        have f_f := f_f_0.keep (own_keep_ext E186 KQ) (fun x hx => by cases List.mem_singleton.mp hx; exact Nat.le_of_eq g186.symm)
        refine g_astore S192.here hx (hb hby at_433) rfl #[.val (.int p1), .val (.int p2), .val (.int p3), .val (.int p4), .val (.int p5), .val (.int p6), .val (.int c1), .val (.int c2), .val (.int c3), .val (.int kd), .val (.int (0 : Int32)), .val (.ref f), .val (.ref x), .val (.ref s1), .val (.ref s2), .val (.ref q), .unset] rfl 435 rfl ?_
        refine g_aload S192.here hx (hb hby at_435) rfl rfl 437 rfl ?_
        refine S192.callV hx (W := 0) (C := "com/example/stanchion/stanchion/changelog/Sql") (own_q72 hw) (own_q73 hw) (notFace_of_selects (args := #[]) (mvT S192.warm (own_q75 hw))) (own_q75 hw) (own_q74 hw) (by decide) XQ (own_q76 hw) (own_q40 hw) (ctD l Z a0 hw q f cs h192 S192.old G FQ f_f l3) nosf (by decide) (by decide) (by rw [hml]; rfl) [] [] (lenOf own_pd350 rfl) rfl rfl (Nat.le_refl _) (hb hby at_437) (by decide) (by decide) 440 rfl (fun v193 vm193 T193 h193 S193 Q193 R193 => ?_)
        obtain ⟨d, rfl, f_d, E193⟩ := Q193
        show Goes _ _ _ _ T193 (mkF m 440 #[.val (.int p1), .val (.int p2), .val (.int p3), .val (.int p4), .val (.int p5), .val (.int p6), .val (.int c1), .val (.int c2), .val (.int c3), .val (.int kd), .val (.int (0 : Int32)), .val (.ref f), .val (.ref x), .val (.ref s1), .val (.ref s2), .val (.ref q), .unset] [(.ref d)])
        have f_x := f_x.ext E193
        refine g_astore S193.here hx (hb hby at_440) rfl #[.val (.int p1), .val (.int p2), .val (.int p3), .val (.int p4), .val (.int p5), .val (.int p6), .val (.int c1), .val (.int c2), .val (.int c3), .val (.int kd), .val (.int (0 : Int32)), .val (.ref f), .val (.ref x), .val (.ref s1), .val (.ref s2), .val (.ref q), .val (.ref d)] rfl 442 rfl ?_
        refine g_aload S193.here hx (hb hby at_442) rfl rfl 444 rfl ?_
        refine g_ifnullF S193.here hx (hb hby at_444) 447 rfl ?_
        refine g_aload S193.here hx (hb hby at_447) rfl rfl 449 rfl ?_
        refine g_aload S193.here hx (hb hby at_449) rfl rfl 451 rfl ?_
        refine own_eq S193 hx hw G (W := 0) (own_q188 hw) f_d f_x (by decide) (by decide) (by rw [hml]; rfl) [] (Nat.le_refl _) (hb hby at_451) (by decide) (by decide) 454 rfl (fun T194 z194 S194 Z194 => ?_)
        obtain rfl : z194 = 1 := own_is1 Z194 rfl
        refine g_ifF S194.here hx (hb hby at_454) 1 (by decide) (by show ¬ (1 = 0); decide) 457 rfl ?_
        refine g_iconst S194.here hx (hb hby at_457) (1 : Int32) (by decide) 458 rfl ?_
        refine g_goto S194.here hx (hb hby at_458) 462 (by decide) (by decide) ?_
        exact S194.iret hx hlk hret (Or.inr (Or.inl rfl)) rfl (hb hby at_462) rfl (by decide) (by decide)
    · refine g_iconst S186.here hx (hb hby at_408) (1 : Int32) (by decide) 409 rfl ?_
      refine g_goto S186.here hx (hb hby at_409) 413 (by decide) (by decide) ?_
      refine g_aload S186.here hx (hb hby at_413) rfl rfl 415 rfl ?_
      refine g_iload S186.here hx (hb hby at_415) rfl 417 rfl ?_
      refine g_iconst S186.here hx (hb hby at_417) (2 : Int32) (by decide) 418 rfl ?_
      refine g_iand S186.here hx (hb hby at_418) 419 rfl ?_
      generalize p6 &&& (2 : Int32) = b2
      refine g_if S186.here hx (hb hby at_419) b2.toInt rfl 426 422 (by decide) (by decide) rfl (fun (hc419 : b2.toInt = 0) => ?_) (fun (hc419 : ¬ (b2.toInt = 0)) => ?_)
      · refine g_iconst S186.here hx (hb hby at_426) (0 : Int32) (by decide) 427 rfl ?_
        refine S186.getS hx (host := "") (Or.inl (own_q41 hw)) Via.refl (G3.ext S186.old.2) (hb hby at_427) 430 rfl (fun T195 S195 => ?_)
        refine S195.callI hx (W := 1) (a := q) rfl (own_q44 hw) (own_q45 hw) (own_q46 hw) (by decide) (own_q40 hw) (ctSq10 l Z a0 hw q s1 f s2 g h186 S195.old rq ga186) (fun x hx => by cases List.mem_singleton.mp hx; exact ⟨A186.lt, F186⟩) (by decide) (by decide) (by rw [hml]; rfl) [(.ref s1), (.ref f), (.int (1 : Int32)), (.ref s2), (.int (0 : Int32)), (.ref g)] [(.ref q)] (lenOf own_pd356 rfl) rfl rfl (Nat.le_refl _) (hb hby at_430) (by decide) (by decide) 433 rfl (fun v196 vm196 T196 h196 S196 Q196 R196 => ?_)
        obtain ⟨rfl, XQ, FQ, KQ⟩ := Q196
        show Goes _ _ _ _ T196 (mkF m 433 #[.val (.int p1), .val (.int p2), .val (.int p3), .val (.int p4), .val (.int p5), .val (.int p6), .val (.int c1), .val (.int c2), .val (.int c3), .val (.int kd), .val (.int (0 : Int32)), .val (.ref f), .val (.ref x), .val (.ref s1), .val (.ref s2), .unset, .unset] [(.ref q)])
        have f_x := f_x_0.keep (own_keep_ext E186 KQ) (fun x hx => by cases List.mem_singleton.mp hx; exact Nat.le_of_eq g186.symm)
        have f_f := f_f_0.keep (own_keep_ext E186 KQ) (fun x hx => by cases List.mem_singleton.mp hx; exact Nat.le_of_eq g186.symm)
        refine g_astore S196.here hx (hb hby at_433) rfl #[.val (.int p1), .val (.int p2), .val (.int p3), .val (.int p4), .val (.int p5), .val (.int p6), .val (.int c1), .val (.int c2), .val (.int c3), .val (.int kd), .val (.int (0 : Int32)), .val (.ref f), .val (.ref x), .val (.ref s1), .val (.ref s2), .val (.ref q), .unset] rfl 435 rfl ?_
        refine g_aload S196.here hx (hb hby at_435) rfl rfl 437 rfl ?_
        refine S196.callV hx (W := 0) (C := "com/example/stanchion/stanchion/changelog/Sql") (own_q72 hw) (own_q73 hw) (notFace_of_selects (args := #[]) (mvT S196.warm (own_q75 hw))) (own_q75 hw) (own_q74 hw) (by decide) XQ (own_q76 hw) (own_q40 hw) (ctD l Z a0 hw q f cs h196 S196.old G FQ f_f l3) nosf (by decide) (by decide) (by rw [hml]; rfl) [] [] (lenOf own_pd350 rfl) rfl rfl (Nat.le_refl _) (hb hby at_437) (by decide) (by decide) 440 rfl (fun v197 vm197 T197 h197 S197 Q197 R197 => ?_)
        obtain ⟨d, rfl, f_d, E197⟩ := Q197
        show Goes _ _ _ _ T197 (mkF m 440 #[.val (.int p1), .val (.int p2), .val (.int p3), .val (.int p4), .val (.int p5), .val (.int p6), .val (.int c1), .val (.int c2), .val (.int c3), .val (.int kd), .val (.int (0 : Int32)), .val (.ref f), .val (.ref x), .val (.ref s1), .val (.ref s2), .val (.ref q), .unset] [(.ref d)])
        have f_x := f_x.ext E197
        refine g_astore S197.here hx (hb hby at_440) rfl #[.val (.int p1), .val (.int p2), .val (.int p3), .val (.int p4), .val (.int p5), .val (.int p6), .val (.int c1), .val (.int c2), .val (.int c3), .val (.int kd), .val (.int (0 : Int32)), .val (.ref f), .val (.ref x), .val (.ref s1), .val (.ref s2), .val (.ref q), .val (.ref d)] rfl 442 rfl ?_
        refine g_aload S197.here hx (hb hby at_442) rfl rfl 444 rfl ?_
        refine g_ifnullF S197.here hx (hb hby at_444) 447 rfl ?_
        refine g_aload S197.here hx (hb hby at_447) rfl rfl 449 rfl ?_
        refine g_aload S197.here hx (hb hby at_449) rfl rfl 451 rfl ?_
        refine own_eq S197 hx hw G (W := 0) (own_q188 hw) f_d f_x (by decide) (by decide) (by rw [hml]; rfl) [] (Nat.le_refl _) (hb hby at_451) (by decide) (by decide) 454 rfl (fun T198 z198 S198 Z198 => ?_)
        obtain rfl : z198 = 1 := own_is1 Z198 rfl
        refine g_ifF S198.here hx (hb hby at_454) 1 (by decide) (by show ¬ (1 = 0); decide) 457 rfl ?_
        refine g_iconst S198.here hx (hb hby at_457) (1 : Int32) (by decide) 458 rfl ?_
        refine g_goto S198.here hx (hb hby at_458) 462 (by decide) (by decide) ?_
        exact S198.iret hx hlk hret (Or.inr (Or.inl rfl)) rfl (hb hby at_462) rfl (by decide) (by decide)
      · refine g_iconst S186.here hx (hb hby at_422) (1 : Int32) (by decide) 423 rfl ?_
        refine g_goto S186.here hx (hb hby at_423) 427 (by decide) (by decide) ?_
        refine S186.getS hx (host := "") (Or.inl (own_q41 hw)) Via.refl (G3.ext S186.old.2) (hb hby at_427) 430 rfl (fun T199 S199 => ?_)
        refine S199.callI hx (W := 1) (a := q) rfl (own_q44 hw) (own_q45 hw) (own_q46 hw) (by decide) (own_q40 hw) (ctSq11 l Z a0 hw q s1 f s2 g h186 S199.old rq ga186) (fun x hx => by cases List.mem_singleton.mp hx; exact ⟨A186.lt, F186⟩) (by decide) (by decide) (by rw [hml]; rfl) [(.ref s1), (.ref f), (.int (1 : Int32)), (.ref s2), (.int (1 : Int32)), (.ref g)] [(.ref q)] (lenOf own_pd356 rfl) rfl rfl (Nat.le_refl _) (hb hby at_430) (by decide) (by decide) 433 rfl (fun v200 vm200 T200 h200 S200 Q200 R200 => ?_)
        obtain ⟨rfl, XQ, FQ, KQ⟩ := Q200
        show Goes _ _ _ _ T200 (mkF m 433 #[.val (.int p1), .val (.int p2), .val (.int p3), .val (.int p4), .val (.int p5), .val (.int p6), .val (.int c1), .val (.int c2), .val (.int c3), .val (.int kd), .val (.int (0 : Int32)), .val (.ref f), .val (.ref x), .val (.ref s1), .val (.ref s2), .unset, .unset] [(.ref q)])
        have f_x := f_x_0.keep (own_keep_ext E186 KQ) (fun x hx => by cases List.mem_singleton.mp hx; exact Nat.le_of_eq g186.symm)
        have f_f := f_f_0.keep (own_keep_ext E186 KQ) (fun x hx => by cases List.mem_singleton.mp hx; exact Nat.le_of_eq g186.symm)
        refine g_astore S200.here hx (hb hby at_433) rfl #[.val (.int p1), .val (.int p2), .val (.int p3), .val (.int p4), .val (.int p5), .val (.int p6), .val (.int c1), .val (.int c2), .val (.int c3), .val (.int kd), .val (.int (0 : Int32)), .val (.ref f), .val (.ref x), .val (.ref s1), .val (.ref s2), .val (.ref q), .unset] rfl 435 rfl ?_
        refine g_aload S200.here hx (hb hby at_435) rfl rfl 437 rfl ?_
        refine S200.callV hx (W := 0) (C := "com/example/stanchion/stanchion/changelog/Sql") (own_q72 hw) (own_q73 hw) (notFace_of_selects (args := #[]) (mvT S200.warm (own_q75 hw))) (own_q75 hw) (own_q74 hw) (by decide) XQ (own_q76 hw) (own_q40 hw) (ctD l Z a0 hw q f cs h200 S200.old G FQ f_f l3) nosf (by decide) (by decide) (by rw [hml]; rfl) [] [] (lenOf own_pd350 rfl) rfl rfl (Nat.le_refl _) (hb hby at_437) (by decide) (by decide) 440 rfl (fun v201 vm201 T201 h201 S201 Q201 R201 => ?_)
        obtain ⟨d, rfl, f_d, E201⟩ := Q201
        show Goes _ _ _ _ T201 (mkF m 440 #[.val (.int p1), .val (.int p2), .val (.int p3), .val (.int p4), .val (.int p5), .val (.int p6), .val (.int c1), .val (.int c2), .val (.int c3), .val (.int kd), .val (.int (0 : Int32)), .val (.ref f), .val (.ref x), .val (.ref s1), .val (.ref s2), .val (.ref q), .unset] [(.ref d)])
        have f_x := f_x.ext E201
        refine g_astore S201.here hx (hb hby at_440) rfl #[.val (.int p1), .val (.int p2), .val (.int p3), .val (.int p4), .val (.int p5), .val (.int p6), .val (.int c1), .val (.int c2), .val (.int c3), .val (.int kd), .val (.int (0 : Int32)), .val (.ref f), .val (.ref x), .val (.ref s1), .val (.ref s2), .val (.ref q), .val (.ref d)] rfl 442 rfl ?_
        refine g_aload S201.here hx (hb hby at_442) rfl rfl 444 rfl ?_
        refine g_ifnullF S201.here hx (hb hby at_444) 447 rfl ?_
        refine g_aload S201.here hx (hb hby at_447) rfl rfl 449 rfl ?_
        refine g_aload S201.here hx (hb hby at_449) rfl rfl 451 rfl ?_
        refine own_eq S201 hx hw G (W := 0) (own_q188 hw) f_d f_x (by decide) (by decide) (by rw [hml]; rfl) [] (Nat.le_refl _) (hb hby at_451) (by decide) (by decide) 454 rfl (fun T202 z202 S202 Z202 => ?_)
        obtain rfl : z202 = 1 := own_is1 Z202 rfl
        refine g_ifF S202.here hx (hb hby at_454) 1 (by decide) (by show ¬ (1 = 0); decide) 457 rfl ?_
        refine g_iconst S202.here hx (hb hby at_457) (1 : Int32) (by decide) 458 rfl ?_
        refine g_goto S202.here hx (hb hby at_458) 462 (by decide) (by decide) ?_
        exact S202.iret hx hlk hret (Or.inr (Or.inl rfl)) rfl (hb hby at_462) rfl (by decide) (by decide)
  have joinN : ∀ (vm' : Vm) (T' : State) (h1' : Heap) (x : Addr), St 1 p l e room_1 s m #[(.int p1), (.int p2), (.int p3), (.int p4), (.int p5), (.int p6)] below meth c "com/example/stanchion/stanchion/changelog/SqlDescriptionPinLaw" Z consts_1 vm' T' h1' 12 200 → own_str Z h1' x own_tq → Goes p.tables e below (Pof 1 Z consts_1 s room_1 (fun v h' => v = some (.int 1))) T' (mkF m 366 #[.val (.int p1), .val (.int p2), .val (.int p3), .val (.int p4), .val (.int p5), .val (.int p6), .val (.int c1), .val (.int c2), .val (.int c3), .val (.int kd), .val (.int (1 : Int32)), .val .null, .val (.ref x), .unset, .unset, .unset, .unset] []) := by
    intro vm' T' h1' x S1' f_x
    refine g_iload S1'.here hx (hb hby at_366) rfl 368 rfl ?_
    refine g_sipush S1'.here hx (hb hby at_368) (255 : Int32) (by decide) 371 rfl ?_
    refine g_iand S1'.here hx (hb hby at_371) 372 rfl ?_
    refine g_i2c S1'.here hx (hb hby at_372) 373 rfl ?_
    refine S1'.callS hx (W := 0) (own_q23 hw) (own_q24 hw) (own_q2 hw) (own_q25 hw) (by decide) (ctVO l Z a0 hw ((p5 &&& (255 : Int32)).toUInt32.toUInt16.toUInt32.toInt32) h1' S1'.old G (own_b8 _)) nosf (by decide) (by decide) (by rw [hml]; rfl) [(.int ((p5 &&& (255 : Int32)).toUInt32.toUInt16.toUInt32.toInt32))] [] (lenOf own_pd355 rfl) rfl rfl (Nat.le_refl _) (hb hby at_373) (by decide) (by decide) 376 rfl (fun v203 vm203 T203 h203 S203 Q203 R203 => ?_)
    obtain ⟨s1, rfl, -, E203⟩ := Q203
    show Goes _ _ _ _ T203 (mkF m 376 #[.val (.int p1), .val (.int p2), .val (.int p3), .val (.int p4), .val (.int p5), .val (.int p6), .val (.int c1), .val (.int c2), .val (.int c3), .val (.int kd), .val (.int (1 : Int32)), .val .null, .val (.ref x), .unset, .unset, .unset, .unset] [(.ref s1)])
    have f_x := f_x.ext E203
    refine g_astore S203.here hx (hb hby at_376) rfl #[.val (.int p1), .val (.int p2), .val (.int p3), .val (.int p4), .val (.int p5), .val (.int p6), .val (.int c1), .val (.int c2), .val (.int c3), .val (.int kd), .val (.int (1 : Int32)), .val .null, .val (.ref x), .val (.ref s1), .unset, .unset, .unset] rfl 378 rfl ?_
    refine g_iload S203.here hx (hb hby at_378) rfl 380 rfl ?_
    refine g_bipush S203.here hx (hb hby at_380) (8 : Int32) (by decide) 382 rfl ?_
    refine g_iushr S203.here hx (hb hby at_382) 383 rfl ?_
    refine g_sipush S203.here hx (hb hby at_383) (255 : Int32) (by decide) 386 rfl ?_
    refine g_iand S203.here hx (hb hby at_386) 387 rfl ?_
    refine g_i2c S203.here hx (hb hby at_387) 388 rfl ?_
    refine S203.callS hx (W := 0) (own_q23 hw) (own_q24 hw) (own_q2 hw) (own_q25 hw) (by decide) (ctVO l Z a0 hw ((((p5.toUInt32 >>> ((8 : Int32) &&& 31).toUInt32).toInt32) &&& (255 : Int32)).toUInt32.toUInt16.toUInt32.toInt32) h203 S203.old G (own_b8 _)) nosf (by decide) (by decide) (by rw [hml]; rfl) [(.int ((((p5.toUInt32 >>> ((8 : Int32) &&& 31).toUInt32).toInt32) &&& (255 : Int32)).toUInt32.toUInt16.toUInt32.toInt32))] [] (lenOf own_pd355 rfl) rfl rfl (Nat.le_refl _) (hb hby at_388) (by decide) (by decide) 391 rfl (fun v204 vm204 T204 h204 S204 Q204 R204 => ?_)
    obtain ⟨s2, rfl, -, E204⟩ := Q204
    show Goes _ _ _ _ T204 (mkF m 391 #[.val (.int p1), .val (.int p2), .val (.int p3), .val (.int p4), .val (.int p5), .val (.int p6), .val (.int c1), .val (.int c2), .val (.int c3), .val (.int kd), .val (.int (1 : Int32)), .val .null, .val (.ref x), .val (.ref s1), .unset, .unset, .unset] [(.ref s2)])
    have f_x := f_x.ext E204
    refine g_astore S204.here hx (hb hby at_391) rfl #[.val (.int p1), .val (.int p2), .val (.int p3), .val (.int p4), .val (.int p5), .val (.int p6), .val (.int c1), .val (.int c2), .val (.int c3), .val (.int kd), .val (.int (1 : Int32)), .val .null, .val (.ref x), .val (.ref s1), .val (.ref s2), .unset, .unset] rfl 393 rfl ?_
    have f_x_0 := f_x
    refine S204.new hx (own_q38 hw) (own_q39 hw) (own_q40 hw) (hb hby at_393) (by decide) (by decide) 396 rfl (fun T205 h205 q S205 g205 E205 A205 D205 F205 R205 U205 => ?_)
    have ga205 : Z.heap.size ≤ q := by rw [g205]; exact S204.size
    have f_x := f_x.ext E205
    have rq : own_rawq Z h205 q := ⟨A205, ⟨_, D205 (Or.inr (own_q61 hw)) (ty := (.object "java/lang/String")) (by decide)⟩, ⟨_, D205 (Or.inr (own_q63 hw)) (ty := (.object "java/lang/String")) (by decide)⟩, ⟨_, D205 (Or.inr (own_q65 hw)) (ty := .boolean) (by decide)⟩, ⟨_, D205 (Or.inr (own_q67 hw)) (ty := (.object "java/lang/String")) (by decide)⟩, ⟨_, D205 (Or.inr (own_q69 hw)) (ty := .boolean) (by decide)⟩, ⟨_, D205 (Or.inr (own_q71 hw)) (ty := (.object "com/example/stanchion/stanchion/changelog/Dbms")) (by decide)⟩⟩
    refine g_dup S205.here hx (hb hby at_396) rfl 397 rfl ?_
    refine g_aload S205.here hx (hb hby at_397) rfl rfl 399 rfl ?_
    refine g_aload S205.here hx (hb hby at_399) rfl rfl 401 rfl ?_
    refine g_iload S205.here hx (hb hby at_401) rfl 403 rfl ?_
    refine g_iconst S205.here hx (hb hby at_403) (1 : Int32) (by decide) 404 rfl ?_
    refine g_iand S205.here hx (hb hby at_404) 405 rfl ?_
    generalize p6 &&& (1 : Int32) = b1
    refine g_if S205.here hx (hb hby at_405) b1.toInt rfl 412 408 (by decide) (by decide) rfl (fun (hc405 : b1.toInt = 0) => ?_) (fun (hc405 : ¬ (b1.toInt = 0)) => ?_)
    · refine g_iconst S205.here hx (hb hby at_412) (0 : Int32) (by decide) 413 rfl ?_
      refine g_aload S205.here hx (hb hby at_413) rfl rfl 415 rfl ?_
      refine g_iload S205.here hx (hb hby at_415) rfl 417 rfl ?_
      refine g_iconst S205.here hx (hb hby at_417) (2 : Int32) (by decide) 418 rfl ?_
      refine g_iand S205.here hx (hb hby at_418) 419 rfl ?_
      generalize p6 &&& (2 : Int32) = b2
      refine g_if S205.here hx (hb hby at_419) b2.toInt rfl 426 422 (by decide) (by decide) rfl (fun (hc419 : b2.toInt = 0) => ?_) (fun (hc419 : ¬ (b2.toInt = 0)) => ?_)
      · refine g_iconst S205.here hx (hb hby at_426) (0 : Int32) (by decide) 427 rfl ?_
        refine S205.getS hx (host := "") (Or.inl (own_q41 hw)) Via.refl (G3.ext S205.old.2) (hb hby at_427) 430 rfl (fun T206 S206 => ?_)
        refine S206.callI hx (W := 1) (a := q) rfl (own_q44 hw) (own_q45 hw) (own_q46 hw) (by decide) (own_q40 hw) (ctSqN00 l Z a0 hw q s1 s2 g h205 S206.old rq ga205) (fun x hx => by cases List.mem_singleton.mp hx; exact ⟨A205.lt, F205⟩) (by decide) (by decide) (by rw [hml]; rfl) [(.ref s1), .null, (.int (0 : Int32)), (.ref s2), (.int (0 : Int32)), (.ref g)] [(.ref q)] (lenOf own_pd356 rfl) rfl rfl (Nat.le_refl _) (hb hby at_430) (by decide) (by decide) 433 rfl (fun v207 vm207 T207 h207 S207 Q207 R207 => ?_)
        obtain ⟨rfl, XQ, FQ, KQ⟩ := Q207
        show Goes _ _ _ _ T207 (mkF m 433 #[.val (.int p1), .val (.int p2), .val (.int p3), .val (.int p4), .val (.int p5), .val (.int p6), .val (.int c1), .val (.int c2), .val (.int c3), .val (.int kd), .val (.int (1 : Int32)), .val .null, .val (.ref x), .val (.ref s1), .val (.ref s2), .unset, .unset] [(.ref q)])
        have f_x := f_x_0.keep (own_keep_ext E205 KQ) (fun x hx => by cases List.mem_singleton.mp hx; exact Nat.le_of_eq g205.symm)
        refine g_astore S207.here hx (hb hby at_433) rfl #[.val (.int p1), .val (.int p2), .val (.int p3), .val (.int p4), .val (.int p5), .val (.int p6), .val (.int c1), .val (.int c2), .val (.int c3), .val (.int kd), .val (.int (1 : Int32)), .val .null, .val (.ref x), .val (.ref s1), .val (.ref s2), .val (.ref q), .unset] rfl 435 rfl ?_
        refine g_aload S207.here hx (hb hby at_435) rfl rfl 437 rfl ?_
        refine S207.callV hx (W := 0) (C := "com/example/stanchion/stanchion/changelog/Sql") (own_q72 hw) (own_q73 hw) (notFace_of_selects (args := #[]) (mvT S207.warm (own_q75 hw))) (own_q75 hw) (own_q74 hw) (by decide) XQ (own_q76 hw) (own_q40 hw) (ctDN l Z a0 hw q h207 S207.old FQ) nosf (by decide) (by decide) (by rw [hml]; rfl) [] [] (lenOf own_pd350 rfl) rfl rfl (Nat.le_refl _) (hb hby at_437) (by decide) (by decide) 440 rfl (fun v208 vm208 T208 h208 S208 Q208 R208 => ?_)
        obtain ⟨d, rfl, f_d, E208⟩ := Q208
        show Goes _ _ _ _ T208 (mkF m 440 #[.val (.int p1), .val (.int p2), .val (.int p3), .val (.int p4), .val (.int p5), .val (.int p6), .val (.int c1), .val (.int c2), .val (.int c3), .val (.int kd), .val (.int (1 : Int32)), .val .null, .val (.ref x), .val (.ref s1), .val (.ref s2), .val (.ref q), .unset] [(.ref d)])
        have f_x := f_x.ext E208
        refine g_astore S208.here hx (hb hby at_440) rfl #[.val (.int p1), .val (.int p2), .val (.int p3), .val (.int p4), .val (.int p5), .val (.int p6), .val (.int c1), .val (.int c2), .val (.int c3), .val (.int kd), .val (.int (1 : Int32)), .val .null, .val (.ref x), .val (.ref s1), .val (.ref s2), .val (.ref q), .val (.ref d)] rfl 442 rfl ?_
        refine g_aload S208.here hx (hb hby at_442) rfl rfl 444 rfl ?_
        refine g_ifnullF S208.here hx (hb hby at_444) 447 rfl ?_
        refine g_aload S208.here hx (hb hby at_447) rfl rfl 449 rfl ?_
        refine g_aload S208.here hx (hb hby at_449) rfl rfl 451 rfl ?_
        refine own_eq S208 hx hw G (W := 0) (own_q188 hw) f_d f_x (by decide) (by decide) (by rw [hml]; rfl) [] (Nat.le_refl _) (hb hby at_451) (by decide) (by decide) 454 rfl (fun T209 z209 S209 Z209 => ?_)
        obtain rfl : z209 = 1 := own_is1 Z209 rfl
        refine g_ifF S209.here hx (hb hby at_454) 1 (by decide) (by show ¬ (1 = 0); decide) 457 rfl ?_
        refine g_iconst S209.here hx (hb hby at_457) (1 : Int32) (by decide) 458 rfl ?_
        refine g_goto S209.here hx (hb hby at_458) 462 (by decide) (by decide) ?_
        exact S209.iret hx hlk hret (Or.inr (Or.inl rfl)) rfl (hb hby at_462) rfl (by decide) (by decide)
      · refine g_iconst S205.here hx (hb hby at_422) (1 : Int32) (by decide) 423 rfl ?_
        refine g_goto S205.here hx (hb hby at_423) 427 (by decide) (by decide) ?_
        refine S205.getS hx (host := "") (Or.inl (own_q41 hw)) Via.refl (G3.ext S205.old.2) (hb hby at_427) 430 rfl (fun T210 S210 => ?_)
        refine S210.callI hx (W := 1) (a := q) rfl (own_q44 hw) (own_q45 hw) (own_q46 hw) (by decide) (own_q40 hw) (ctSqN01 l Z a0 hw q s1 s2 g h205 S210.old rq ga205) (fun x hx => by cases List.mem_singleton.mp hx; exact ⟨A205.lt, F205⟩) (by decide) (by decide) (by rw [hml]; rfl) [(.ref s1), .null, (.int (0 : Int32)), (.ref s2), (.int (1 : Int32)), (.ref g)] [(.ref q)] (lenOf own_pd356 rfl) rfl rfl (Nat.le_refl _) (hb hby at_430) (by decide) (by decide) 433 rfl (fun v211 vm211 T211 h211 S211 Q211 R211 => ?_)
        obtain ⟨rfl, XQ, FQ, KQ⟩ := Q211
        show Goes _ _ _ _ T211 (mkF m 433 #[.val (.int p1), .val (.int p2), .val (.int p3), .val (.int p4), .val (.int p5), .val (.int p6), .val (.int c1), .val (.int c2), .val (.int c3), .val (.int kd), .val (.int (1 : Int32)), .val .null, .val (.ref x), .val (.ref s1), .val (.ref s2), .unset, .unset] [(.ref q)])
        have f_x := f_x_0.keep (own_keep_ext E205 KQ) (fun x hx => by cases List.mem_singleton.mp hx; exact Nat.le_of_eq g205.symm)
        refine g_astore S211.here hx (hb hby at_433) rfl #[.val (.int p1), .val (.int p2), .val (.int p3), .val (.int p4), .val (.int p5), .val (.int p6), .val (.int c1), .val (.int c2), .val (.int c3), .val (.int kd), .val (.int (1 : Int32)), .val .null, .val (.ref x), .val (.ref s1), .val (.ref s2), .val (.ref q), .unset] rfl 435 rfl ?_
        refine g_aload S211.here hx (hb hby at_435) rfl rfl 437 rfl ?_
        refine S211.callV hx (W := 0) (C := "com/example/stanchion/stanchion/changelog/Sql") (own_q72 hw) (own_q73 hw) (notFace_of_selects (args := #[]) (mvT S211.warm (own_q75 hw))) (own_q75 hw) (own_q74 hw) (by decide) XQ (own_q76 hw) (own_q40 hw) (ctDN l Z a0 hw q h211 S211.old FQ) nosf (by decide) (by decide) (by rw [hml]; rfl) [] [] (lenOf own_pd350 rfl) rfl rfl (Nat.le_refl _) (hb hby at_437) (by decide) (by decide) 440 rfl (fun v212 vm212 T212 h212 S212 Q212 R212 => ?_)
        obtain ⟨d, rfl, f_d, E212⟩ := Q212
        show Goes _ _ _ _ T212 (mkF m 440 #[.val (.int p1), .val (.int p2), .val (.int p3), .val (.int p4), .val (.int p5), .val (.int p6), .val (.int c1), .val (.int c2), .val (.int c3), .val (.int kd), .val (.int (1 : Int32)), .val .null, .val (.ref x), .val (.ref s1), .val (.ref s2), .val (.ref q), .unset] [(.ref d)])
        have f_x := f_x.ext E212
        refine g_astore S212.here hx (hb hby at_440) rfl #[.val (.int p1), .val (.int p2), .val (.int p3), .val (.int p4), .val (.int p5), .val (.int p6), .val (.int c1), .val (.int c2), .val (.int c3), .val (.int kd), .val (.int (1 : Int32)), .val .null, .val (.ref x), .val (.ref s1), .val (.ref s2), .val (.ref q), .val (.ref d)] rfl 442 rfl ?_
        refine g_aload S212.here hx (hb hby at_442) rfl rfl 444 rfl ?_
        refine g_ifnullF S212.here hx (hb hby at_444) 447 rfl ?_
        refine g_aload S212.here hx (hb hby at_447) rfl rfl 449 rfl ?_
        refine g_aload S212.here hx (hb hby at_449) rfl rfl 451 rfl ?_
        refine own_eq S212 hx hw G (W := 0) (own_q188 hw) f_d f_x (by decide) (by decide) (by rw [hml]; rfl) [] (Nat.le_refl _) (hb hby at_451) (by decide) (by decide) 454 rfl (fun T213 z213 S213 Z213 => ?_)
        obtain rfl : z213 = 1 := own_is1 Z213 rfl
        refine g_ifF S213.here hx (hb hby at_454) 1 (by decide) (by show ¬ (1 = 0); decide) 457 rfl ?_
        refine g_iconst S213.here hx (hb hby at_457) (1 : Int32) (by decide) 458 rfl ?_
        refine g_goto S213.here hx (hb hby at_458) 462 (by decide) (by decide) ?_
        exact S213.iret hx hlk hret (Or.inr (Or.inl rfl)) rfl (hb hby at_462) rfl (by decide) (by decide)
    · refine g_iconst S205.here hx (hb hby at_408) (1 : Int32) (by decide) 409 rfl ?_
      refine g_goto S205.here hx (hb hby at_409) 413 (by decide) (by decide) ?_
      refine g_aload S205.here hx (hb hby at_413) rfl rfl 415 rfl ?_
      refine g_iload S205.here hx (hb hby at_415) rfl 417 rfl ?_
      refine g_iconst S205.here hx (hb hby at_417) (2 : Int32) (by decide) 418 rfl ?_
      refine g_iand S205.here hx (hb hby at_418) 419 rfl ?_
      generalize p6 &&& (2 : Int32) = b2
      refine g_if S205.here hx (hb hby at_419) b2.toInt rfl 426 422 (by decide) (by decide) rfl (fun (hc419 : b2.toInt = 0) => ?_) (fun (hc419 : ¬ (b2.toInt = 0)) => ?_)
      · refine g_iconst S205.here hx (hb hby at_426) (0 : Int32) (by decide) 427 rfl ?_
        refine S205.getS hx (host := "") (Or.inl (own_q41 hw)) Via.refl (G3.ext S205.old.2) (hb hby at_427) 430 rfl (fun T214 S214 => ?_)
        refine S214.callI hx (W := 1) (a := q) rfl (own_q44 hw) (own_q45 hw) (own_q46 hw) (by decide) (own_q40 hw) (ctSqN10 l Z a0 hw q s1 s2 g h205 S214.old rq ga205) (fun x hx => by cases List.mem_singleton.mp hx; exact ⟨A205.lt, F205⟩) (by decide) (by decide) (by rw [hml]; rfl) [(.ref s1), .null, (.int (1 : Int32)), (.ref s2), (.int (0 : Int32)), (.ref g)] [(.ref q)] (lenOf own_pd356 rfl) rfl rfl (Nat.le_refl _) (hb hby at_430) (by decide) (by decide) 433 rfl (fun v215 vm215 T215 h215 S215 Q215 R215 => ?_)
        obtain ⟨rfl, XQ, FQ, KQ⟩ := Q215
        show Goes _ _ _ _ T215 (mkF m 433 #[.val (.int p1), .val (.int p2), .val (.int p3), .val (.int p4), .val (.int p5), .val (.int p6), .val (.int c1), .val (.int c2), .val (.int c3), .val (.int kd), .val (.int (1 : Int32)), .val .null, .val (.ref x), .val (.ref s1), .val (.ref s2), .unset, .unset] [(.ref q)])
        have f_x := f_x_0.keep (own_keep_ext E205 KQ) (fun x hx => by cases List.mem_singleton.mp hx; exact Nat.le_of_eq g205.symm)
        refine g_astore S215.here hx (hb hby at_433) rfl #[.val (.int p1), .val (.int p2), .val (.int p3), .val (.int p4), .val (.int p5), .val (.int p6), .val (.int c1), .val (.int c2), .val (.int c3), .val (.int kd), .val (.int (1 : Int32)), .val .null, .val (.ref x), .val (.ref s1), .val (.ref s2), .val (.ref q), .unset] rfl 435 rfl ?_
        refine g_aload S215.here hx (hb hby at_435) rfl rfl 437 rfl ?_
        refine S215.callV hx (W := 0) (C := "com/example/stanchion/stanchion/changelog/Sql") (own_q72 hw) (own_q73 hw) (notFace_of_selects (args := #[]) (mvT S215.warm (own_q75 hw))) (own_q75 hw) (own_q74 hw) (by decide) XQ (own_q76 hw) (own_q40 hw) (ctDN l Z a0 hw q h215 S215.old FQ) nosf (by decide) (by decide) (by rw [hml]; rfl) [] [] (lenOf own_pd350 rfl) rfl rfl (Nat.le_refl _) (hb hby at_437) (by decide) (by decide) 440 rfl (fun v216 vm216 T216 h216 S216 Q216 R216 => ?_)
        obtain ⟨d, rfl, f_d, E216⟩ := Q216
        show Goes _ _ _ _ T216 (mkF m 440 #[.val (.int p1), .val (.int p2), .val (.int p3), .val (.int p4), .val (.int p5), .val (.int p6), .val (.int c1), .val (.int c2), .val (.int c3), .val (.int kd), .val (.int (1 : Int32)), .val .null, .val (.ref x), .val (.ref s1), .val (.ref s2), .val (.ref q), .unset] [(.ref d)])
        have f_x := f_x.ext E216
        refine g_astore S216.here hx (hb hby at_440) rfl #[.val (.int p1), .val (.int p2), .val (.int p3), .val (.int p4), .val (.int p5), .val (.int p6), .val (.int c1), .val (.int c2), .val (.int c3), .val (.int kd), .val (.int (1 : Int32)), .val .null, .val (.ref x), .val (.ref s1), .val (.ref s2), .val (.ref q), .val (.ref d)] rfl 442 rfl ?_
        refine g_aload S216.here hx (hb hby at_442) rfl rfl 444 rfl ?_
        refine g_ifnullF S216.here hx (hb hby at_444) 447 rfl ?_
        refine g_aload S216.here hx (hb hby at_447) rfl rfl 449 rfl ?_
        refine g_aload S216.here hx (hb hby at_449) rfl rfl 451 rfl ?_
        refine own_eq S216 hx hw G (W := 0) (own_q188 hw) f_d f_x (by decide) (by decide) (by rw [hml]; rfl) [] (Nat.le_refl _) (hb hby at_451) (by decide) (by decide) 454 rfl (fun T217 z217 S217 Z217 => ?_)
        obtain rfl : z217 = 1 := own_is1 Z217 rfl
        refine g_ifF S217.here hx (hb hby at_454) 1 (by decide) (by show ¬ (1 = 0); decide) 457 rfl ?_
        refine g_iconst S217.here hx (hb hby at_457) (1 : Int32) (by decide) 458 rfl ?_
        refine g_goto S217.here hx (hb hby at_458) 462 (by decide) (by decide) ?_
        exact S217.iret hx hlk hret (Or.inr (Or.inl rfl)) rfl (hb hby at_462) rfl (by decide) (by decide)
      · refine g_iconst S205.here hx (hb hby at_422) (1 : Int32) (by decide) 423 rfl ?_
        refine g_goto S205.here hx (hb hby at_423) 427 (by decide) (by decide) ?_
        refine S205.getS hx (host := "") (Or.inl (own_q41 hw)) Via.refl (G3.ext S205.old.2) (hb hby at_427) 430 rfl (fun T218 S218 => ?_)
        refine S218.callI hx (W := 1) (a := q) rfl (own_q44 hw) (own_q45 hw) (own_q46 hw) (by decide) (own_q40 hw) (ctSqN11 l Z a0 hw q s1 s2 g h205 S218.old rq ga205) (fun x hx => by cases List.mem_singleton.mp hx; exact ⟨A205.lt, F205⟩) (by decide) (by decide) (by rw [hml]; rfl) [(.ref s1), .null, (.int (1 : Int32)), (.ref s2), (.int (1 : Int32)), (.ref g)] [(.ref q)] (lenOf own_pd356 rfl) rfl rfl (Nat.le_refl _) (hb hby at_430) (by decide) (by decide) 433 rfl (fun v219 vm219 T219 h219 S219 Q219 R219 => ?_)
        obtain ⟨rfl, XQ, FQ, KQ⟩ := Q219
        show Goes _ _ _ _ T219 (mkF m 433 #[.val (.int p1), .val (.int p2), .val (.int p3), .val (.int p4), .val (.int p5), .val (.int p6), .val (.int c1), .val (.int c2), .val (.int c3), .val (.int kd), .val (.int (1 : Int32)), .val .null, .val (.ref x), .val (.ref s1), .val (.ref s2), .unset, .unset] [(.ref q)])
        have f_x := f_x_0.keep (own_keep_ext E205 KQ) (fun x hx => by cases List.mem_singleton.mp hx; exact Nat.le_of_eq g205.symm)
        refine g_astore S219.here hx (hb hby at_433) rfl #[.val (.int p1), .val (.int p2), .val (.int p3), .val (.int p4), .val (.int p5), .val (.int p6), .val (.int c1), .val (.int c2), .val (.int c3), .val (.int kd), .val (.int (1 : Int32)), .val .null, .val (.ref x), .val (.ref s1), .val (.ref s2), .val (.ref q), .unset] rfl 435 rfl ?_
        refine g_aload S219.here hx (hb hby at_435) rfl rfl 437 rfl ?_
        refine S219.callV hx (W := 0) (C := "com/example/stanchion/stanchion/changelog/Sql") (own_q72 hw) (own_q73 hw) (notFace_of_selects (args := #[]) (mvT S219.warm (own_q75 hw))) (own_q75 hw) (own_q74 hw) (by decide) XQ (own_q76 hw) (own_q40 hw) (ctDN l Z a0 hw q h219 S219.old FQ) nosf (by decide) (by decide) (by rw [hml]; rfl) [] [] (lenOf own_pd350 rfl) rfl rfl (Nat.le_refl _) (hb hby at_437) (by decide) (by decide) 440 rfl (fun v220 vm220 T220 h220 S220 Q220 R220 => ?_)
        obtain ⟨d, rfl, f_d, E220⟩ := Q220
        show Goes _ _ _ _ T220 (mkF m 440 #[.val (.int p1), .val (.int p2), .val (.int p3), .val (.int p4), .val (.int p5), .val (.int p6), .val (.int c1), .val (.int c2), .val (.int c3), .val (.int kd), .val (.int (1 : Int32)), .val .null, .val (.ref x), .val (.ref s1), .val (.ref s2), .val (.ref q), .unset] [(.ref d)])
        have f_x := f_x.ext E220
        refine g_astore S220.here hx (hb hby at_440) rfl #[.val (.int p1), .val (.int p2), .val (.int p3), .val (.int p4), .val (.int p5), .val (.int p6), .val (.int c1), .val (.int c2), .val (.int c3), .val (.int kd), .val (.int (1 : Int32)), .val .null, .val (.ref x), .val (.ref s1), .val (.ref s2), .val (.ref q), .val (.ref d)] rfl 442 rfl ?_
        refine g_aload S220.here hx (hb hby at_442) rfl rfl 444 rfl ?_
        refine g_ifnullF S220.here hx (hb hby at_444) 447 rfl ?_
        refine g_aload S220.here hx (hb hby at_447) rfl rfl 449 rfl ?_
        refine g_aload S220.here hx (hb hby at_449) rfl rfl 451 rfl ?_
        refine own_eq S220 hx hw G (W := 0) (own_q188 hw) f_d f_x (by decide) (by decide) (by rw [hml]; rfl) [] (Nat.le_refl _) (hb hby at_451) (by decide) (by decide) 454 rfl (fun T221 z221 S221 Z221 => ?_)
        obtain rfl : z221 = 1 := own_is1 Z221 rfl
        refine g_ifF S221.here hx (hb hby at_454) 1 (by decide) (by show ¬ (1 = 0); decide) 457 rfl ?_
        refine g_iconst S221.here hx (hb hby at_457) (1 : Int32) (by decide) 458 rfl ?_
        refine g_goto S221.here hx (hb hby at_458) 462 (by decide) (by decide) ?_
        exact S221.iret hx hlk hret (Or.inr (Or.inl rfl)) rfl (hb hby at_462) rfl (by decide) (by decide)
  refine g_if S0.here hx (hb hby at_32) nl.toInt rfl 39 35 (by decide) (by decide) rfl (fun (hc32 : nl.toInt = 0) => ?_) (fun (hc32 : ¬ (nl.toInt = 0)) => ?_)
  · refine g_iconst S0.here hx (hb hby at_39) (0 : Int32) (by decide) 40 rfl ?_
    refine g_istore S0.here hx (hb hby at_40) #[.val (.int p1), .val (.int p2), .val (.int p3), .val (.int p4), .val (.int p5), .val (.int p6), .val (.int c1), .val (.int c2), .val (.int c3), .val (.int kd), .val (.int (0 : Int32)), .unset, .unset, .unset, .unset, .unset, .unset] rfl 42 rfl ?_
    refine g_iload S0.here hx (hb hby at_42) rfl 44 rfl ?_
    refine g_ifT S0.here hx (hb hby at_44) 0 (by decide) (by show 0 = 0; decide) 57 (by decide) (by decide) ?_
    refine g_iload S0.here hx (hb hby at_57) rfl 59 rfl ?_
    refine g_if S0.here hx (hb hby at_59) kd.toInt rfl 81 62 (by decide) (by decide) rfl (fun (hc59 : ¬ kd.toInt = 0) => ?_) (fun (hc59 : ¬ (¬ kd.toInt = 0)) => ?_)
    · refine g_iload S0.here hx (hb hby at_81) rfl 83 rfl ?_
      refine g_iconst S0.here hx (hb hby at_83) (1 : Int32) (by decide) 84 rfl ?_
      refine g_icmp S0.here hx (hb hby at_84) kd.toInt 1 rfl (by decide) 168 87 (by decide) (by decide) rfl (fun (hc84 : ¬ kd.toInt = 1) => ?_) (fun (hc84 : ¬ (¬ kd.toInt = 1)) => ?_)
      · refine g_iload S0.here hx (hb hby at_168) rfl 170 rfl ?_
        refine g_iconst S0.here hx (hb hby at_170) (2 : Int32) (by decide) 171 rfl ?_
        refine g_icmp S0.here hx (hb hby at_171) kd.toInt 2 rfl (by decide) 266 174 (by decide) (by decide) rfl (fun (hc171 : ¬ kd.toInt = 2) => ?_) (fun (hc171 : ¬ (¬ kd.toInt = 2)) => ?_)
        · refine S0.new hx (own_q0 hw) (own_q1 hw) (own_q2 hw) (hb hby at_266) (by decide) (by decide) 269 rfl (fun T222 h222 f S222 g222 E222 A222 D222 F222 R222 _ => ?_)
          have r222 : own_raw Z h222 f := ⟨A222, ⟨_, D222 (Or.inr (own_q16 hw)) (ty := .array .byte) (by decide)⟩, _, D222 (Or.inr (own_q17 hw)) (ty := .byte) (by decide)⟩
          have ga222 : Z.heap.size ≤ f := by rw [g222]; exact S0.size
          refine g_dup S222.here hx (hb hby at_269) rfl 270 rfl ?_
          refine g_iconst S222.here hx (hb hby at_270) (3 : Int32) (by decide) 271 rfl ?_
          refine S222.newA (aty := .char) hx (own_q3 hw) (n := (3 : Int32)) (by decide) (cap := 3) (by decide) (by decide) (hb hby at_271) (by decide) (by decide) 273 rfl (fun T223 h223 b223 k223 S223 g223 E223 V223 _ R223 => ?_)
          have ga223 : Z.heap.size ≤ b223 := by rw [g223]; exact S222.size
          have ne223 : f ≠ b223 := Nat.ne_of_lt (by rw [g223]; exact r222.1.lt)
          have F223 := R223.safe r222.1.lt F222
          have r223 := r222.ext E223
          have E223 := own_ext_trans E222 E223
          have gg223 : h.size ≤ b223 := by rw [g223]; exact E222.1
          refine g_dup S223.here hx (hb hby at_273) rfl 274 rfl ?_
          refine g_iconst S223.here hx (hb hby at_274) (0 : Int32) (by decide) 275 rfl ?_
          refine g_iload S223.here hx (hb hby at_275) rfl 277 rfl ?_
          refine S223.stC hx V223 0 ⟨by decide, by decide⟩ (by decide) (by simp) ga223 c1 (own_nar (own_b16 k_c1)) (hb hby at_277) 278 rfl (fun T224 h224 S224 W224 V224 R224 => ?_)
          have F224 := R224.safe r223.1.lt F223
          have r224 := r223.wr W224 ne223
          have E224 := own_ext_wr E223 W224 gg223
          refine g_dup S224.here hx (hb hby at_278) rfl 279 rfl ?_
          refine g_iconst S224.here hx (hb hby at_279) (1 : Int32) (by decide) 280 rfl ?_
          refine g_iload S224.here hx (hb hby at_280) rfl 282 rfl ?_
          refine S224.stC hx V224 1 ⟨by decide, by decide⟩ (by decide) (by simp) ga223 c2 (own_nar (own_b16 k_c2)) (hb hby at_282) 283 rfl (fun T225 h225 S225 W225 V225 R225 => ?_)
          have F225 := R225.safe r224.1.lt F224
          have r225 := r224.wr W225 ne223
          have E225 := own_ext_wr E224 W225 gg223
          refine g_dup S225.here hx (hb hby at_283) rfl 284 rfl ?_
          refine g_iconst S225.here hx (hb hby at_284) (2 : Int32) (by decide) 285 rfl ?_
          refine g_iload S225.here hx (hb hby at_285) rfl 287 rfl ?_
          refine S225.stC hx V225 2 ⟨by decide, by decide⟩ (by decide) (by simp) ga223 c3 (own_nar (own_b16 k_c3)) (hb hby at_287) 288 rfl (fun T226 h226 S226 W226 V226 R226 => ?_)
          have F226 := R226.safe r225.1.lt F225
          have r226 := r225.wr W226 ne223
          have E226 := own_ext_wr E225 W226 gg223
          refine own_mk S226 hx hw G (W := 1) (cs := [c1, c2, c3]) 3 rfl (own_q4 hw) r226 V226 F226 ga222 (by decide) (by decide) (own_lat_cons k_c1 (own_lat_cons k_c2 (own_lat_cons k_c3 own_lat_nil))) (by decide) (by decide) (by rw [hml]; rfl) [(.ref f)] (Nat.le_refl _) (hb hby at_288) (by decide) (by decide) 291 rfl (fun T227 h227 S227 f_f K227 R227 => ?_)
          have E227 : Ext h h227 := own_ext_keep E226 K227 (fun x hx => by cases List.mem_singleton.mp hx; exact Nat.le_of_eq g222.symm)
          refine g_astore S227.here hx (hb hby at_291) rfl #[.val (.int p1), .val (.int p2), .val (.int p3), .val (.int p4), .val (.int p5), .val (.int p6), .val (.int c1), .val (.int c2), .val (.int c3), .val (.int kd), .val (.int (0 : Int32)), .val (.ref f), .unset, .unset, .unset, .unset, .unset] rfl 293 rfl ?_
          refine S227.new hx (own_q0 hw) (own_q1 hw) (own_q2 hw) (hb hby at_293) (by decide) (by decide) 296 rfl (fun T228 h228 x S228 g228 E228 A228 D228 F228 R228 _ => ?_)
          have r228 : own_raw Z h228 x := ⟨A228, ⟨_, D228 (Or.inr (own_q16 hw)) (ty := .array .byte) (by decide)⟩, _, D228 (Or.inr (own_q17 hw)) (ty := .byte) (by decide)⟩
          have ga228 : Z.heap.size ≤ x := by rw [g228]; exact S227.size
          refine g_dup S228.here hx (hb hby at_296) rfl 297 rfl ?_
          refine g_bipush S228.here hx (hb hby at_297) (11 : Int32) (by decide) 299 rfl ?_
          refine S228.newA (aty := .char) hx (own_q3 hw) (n := (11 : Int32)) (by decide) (cap := 11) (by decide) (by decide) (hb hby at_299) (by decide) (by decide) 301 rfl (fun T229 h229 b229 k229 S229 g229 E229 V229 _ R229 => ?_)
          have ga229 : Z.heap.size ≤ b229 := by rw [g229]; exact S228.size
          have ne229 : x ≠ b229 := Nat.ne_of_lt (by rw [g229]; exact r228.1.lt)
          have F229 := R229.safe r228.1.lt F228
          have r229 := r228.ext E229
          have E229 := own_ext_trans E228 E229
          have gg229 : h227.size ≤ b229 := by rw [g229]; exact E228.1
          refine g_dup S229.here hx (hb hby at_301) rfl 302 rfl ?_
          refine g_iconst S229.here hx (hb hby at_302) (0 : Int32) (by decide) 303 rfl ?_
          refine g_bipush S229.here hx (hb hby at_303) (115 : Int32) (by decide) 305 rfl ?_
          refine S229.stC hx V229 0 ⟨by decide, by decide⟩ (by decide) (by simp) ga229 (115 : Int32) (by decide) (hb hby at_305) 306 rfl (fun T230 h230 S230 W230 V230 R230 => ?_)
          have F230 := R230.safe r229.1.lt F229
          have r230 := r229.wr W230 ne229
          have E230 := own_ext_wr E229 W230 gg229
          refine g_dup S230.here hx (hb hby at_306) rfl 307 rfl ?_
          refine g_iconst S230.here hx (hb hby at_307) (1 : Int32) (by decide) 308 rfl ?_
          refine g_bipush S230.here hx (hb hby at_308) (113 : Int32) (by decide) 310 rfl ?_
          refine S230.stC hx V230 1 ⟨by decide, by decide⟩ (by decide) (by simp) ga229 (113 : Int32) (by decide) (hb hby at_310) 311 rfl (fun T231 h231 S231 W231 V231 R231 => ?_)
          have F231 := R231.safe r230.1.lt F230
          have r231 := r230.wr W231 ne229
          have E231 := own_ext_wr E230 W231 gg229
          refine g_dup S231.here hx (hb hby at_311) rfl 312 rfl ?_
          refine g_iconst S231.here hx (hb hby at_312) (2 : Int32) (by decide) 313 rfl ?_
          refine g_bipush S231.here hx (hb hby at_313) (108 : Int32) (by decide) 315 rfl ?_
          refine S231.stC hx V231 2 ⟨by decide, by decide⟩ (by decide) (by simp) ga229 (108 : Int32) (by decide) (hb hby at_315) 316 rfl (fun T232 h232 S232 W232 V232 R232 => ?_)
          have F232 := R232.safe r231.1.lt F231
          have r232 := r231.wr W232 ne229
          have E232 := own_ext_wr E231 W232 gg229
          refine g_dup S232.here hx (hb hby at_316) rfl 317 rfl ?_
          refine g_iconst S232.here hx (hb hby at_317) (3 : Int32) (by decide) 318 rfl ?_
          refine g_bipush S232.here hx (hb hby at_318) (70 : Int32) (by decide) 320 rfl ?_
          refine S232.stC hx V232 3 ⟨by decide, by decide⟩ (by decide) (by simp) ga229 (70 : Int32) (by decide) (hb hby at_320) 321 rfl (fun T233 h233 S233 W233 V233 R233 => ?_)
          have F233 := R233.safe r232.1.lt F232
          have r233 := r232.wr W233 ne229
          have E233 := own_ext_wr E232 W233 gg229
          refine g_dup S233.here hx (hb hby at_321) rfl 322 rfl ?_
          refine g_iconst S233.here hx (hb hby at_322) (4 : Int32) (by decide) 323 rfl ?_
          refine g_bipush S233.here hx (hb hby at_323) (105 : Int32) (by decide) 325 rfl ?_
          refine S233.stC hx V233 4 ⟨by decide, by decide⟩ (by decide) (by simp) ga229 (105 : Int32) (by decide) (hb hby at_325) 326 rfl (fun T234 h234 S234 W234 V234 R234 => ?_)
          have F234 := R234.safe r233.1.lt F233
          have r234 := r233.wr W234 ne229
          have E234 := own_ext_wr E233 W234 gg229
          refine g_dup S234.here hx (hb hby at_326) rfl 327 rfl ?_
          refine g_iconst S234.here hx (hb hby at_327) (5 : Int32) (by decide) 328 rfl ?_
          refine g_bipush S234.here hx (hb hby at_328) (108 : Int32) (by decide) 330 rfl ?_
          refine S234.stC hx V234 5 ⟨by decide, by decide⟩ (by decide) (by simp) ga229 (108 : Int32) (by decide) (hb hby at_330) 331 rfl (fun T235 h235 S235 W235 V235 R235 => ?_)
          have F235 := R235.safe r234.1.lt F234
          have r235 := r234.wr W235 ne229
          have E235 := own_ext_wr E234 W235 gg229
          refine g_dup S235.here hx (hb hby at_331) rfl 332 rfl ?_
          refine g_bipush S235.here hx (hb hby at_332) (6 : Int32) (by decide) 334 rfl ?_
          refine g_bipush S235.here hx (hb hby at_334) (101 : Int32) (by decide) 336 rfl ?_
          refine S235.stC hx V235 6 ⟨by decide, by decide⟩ (by decide) (by simp) ga229 (101 : Int32) (by decide) (hb hby at_336) 337 rfl (fun T236 h236 S236 W236 V236 R236 => ?_)
          have F236 := R236.safe r235.1.lt F235
          have r236 := r235.wr W236 ne229
          have E236 := own_ext_wr E235 W236 gg229
          refine g_dup S236.here hx (hb hby at_337) rfl 338 rfl ?_
          refine g_bipush S236.here hx (hb hby at_338) (7 : Int32) (by decide) 340 rfl ?_
          refine g_bipush S236.here hx (hb hby at_340) (32 : Int32) (by decide) 342 rfl ?_
          refine S236.stC hx V236 7 ⟨by decide, by decide⟩ (by decide) (by simp) ga229 (32 : Int32) (by decide) (hb hby at_342) 343 rfl (fun T237 h237 S237 W237 V237 R237 => ?_)
          have F237 := R237.safe r236.1.lt F236
          have r237 := r236.wr W237 ne229
          have E237 := own_ext_wr E236 W237 gg229
          refine g_dup S237.here hx (hb hby at_343) rfl 344 rfl ?_
          refine g_bipush S237.here hx (hb hby at_344) (8 : Int32) (by decide) 346 rfl ?_
          refine g_iload S237.here hx (hb hby at_346) rfl 348 rfl ?_
          refine S237.stC hx V237 8 ⟨by decide, by decide⟩ (by decide) (by simp) ga229 c1 (own_nar (own_b16 k_c1)) (hb hby at_348) 349 rfl (fun T238 h238 S238 W238 V238 R238 => ?_)
          have F238 := R238.safe r237.1.lt F237
          have r238 := r237.wr W238 ne229
          have E238 := own_ext_wr E237 W238 gg229
          refine g_dup S238.here hx (hb hby at_349) rfl 350 rfl ?_
          refine g_bipush S238.here hx (hb hby at_350) (9 : Int32) (by decide) 352 rfl ?_
          refine g_iload S238.here hx (hb hby at_352) rfl 354 rfl ?_
          refine S238.stC hx V238 9 ⟨by decide, by decide⟩ (by decide) (by simp) ga229 c2 (own_nar (own_b16 k_c2)) (hb hby at_354) 355 rfl (fun T239 h239 S239 W239 V239 R239 => ?_)
          have F239 := R239.safe r238.1.lt F238
          have r239 := r238.wr W239 ne229
          have E239 := own_ext_wr E238 W239 gg229
          refine g_dup S239.here hx (hb hby at_355) rfl 356 rfl ?_
          refine g_bipush S239.here hx (hb hby at_356) (10 : Int32) (by decide) 358 rfl ?_
          refine g_iload S239.here hx (hb hby at_358) rfl 360 rfl ?_
          refine S239.stC hx V239 10 ⟨by decide, by decide⟩ (by decide) (by simp) ga229 c3 (own_nar (own_b16 k_c3)) (hb hby at_360) 361 rfl (fun T240 h240 S240 W240 V240 R240 => ?_)
          have F240 := R240.safe r239.1.lt F239
          have r240 := r239.wr W240 ne229
          have E240 := own_ext_wr E239 W240 gg229
          refine own_mk S240 hx hw G (W := 1) (cs := [(115 : Int32), (113 : Int32), (108 : Int32), (70 : Int32), (105 : Int32), (108 : Int32), (101 : Int32), (32 : Int32), c1, c2, c3]) 11 rfl (own_q4 hw) r240 V240 F240 ga228 (by decide) (by decide) (own_lat_cons (by decide) (own_lat_cons (by decide) (own_lat_cons (by decide) (own_lat_cons (by decide) (own_lat_cons (by decide) (own_lat_cons (by decide) (own_lat_cons (by decide) (own_lat_cons (by decide) (own_lat_cons k_c1 (own_lat_cons k_c2 (own_lat_cons k_c3 own_lat_nil))))))))))) (by decide) (by decide) (by rw [hml]; rfl) [(.ref x)] (Nat.le_refl _) (hb hby at_361) (by decide) (by decide) 364 rfl (fun T241 h241 S241 f_x K241 R241 => ?_)
          have E241 : Ext h227 h241 := own_ext_keep E240 K241 (fun x hx => by cases List.mem_singleton.mp hx; exact Nat.le_of_eq g228.symm)
          have f_f := f_f.ext E241
          refine g_astore S241.here hx (hb hby at_364) rfl #[.val (.int p1), .val (.int p2), .val (.int p3), .val (.int p4), .val (.int p5), .val (.int p6), .val (.int c1), .val (.int c2), .val (.int c3), .val (.int kd), .val (.int (0 : Int32)), .val (.ref f), .val (.ref x), .unset, .unset, .unset, .unset] rfl 366 rfl ?_
          exact joinS _ _ _ _ _ [c1, c2, c3] (S241.more (by decide) (by decide)) f_f (by simp) f_x
        · refine S0.new hx (own_q0 hw) (own_q1 hw) (own_q2 hw) (hb hby at_174) (by decide) (by decide) 177 rfl (fun T242 h242 f S242 g242 E242 A242 D242 F242 R242 _ => ?_)
          have r242 : own_raw Z h242 f := ⟨A242, ⟨_, D242 (Or.inr (own_q16 hw)) (ty := .array .byte) (by decide)⟩, _, D242 (Or.inr (own_q17 hw)) (ty := .byte) (by decide)⟩
          have ga242 : Z.heap.size ≤ f := by rw [g242]; exact S0.size
          refine g_dup S242.here hx (hb hby at_177) rfl 178 rfl ?_
          refine g_iconst S242.here hx (hb hby at_178) (2 : Int32) (by decide) 179 rfl ?_
          refine S242.newA (aty := .char) hx (own_q3 hw) (n := (2 : Int32)) (by decide) (cap := 2) (by decide) (by decide) (hb hby at_179) (by decide) (by decide) 181 rfl (fun T243 h243 b243 k243 S243 g243 E243 V243 _ R243 => ?_)
          have ga243 : Z.heap.size ≤ b243 := by rw [g243]; exact S242.size
          have ne243 : f ≠ b243 := Nat.ne_of_lt (by rw [g243]; exact r242.1.lt)
          have F243 := R243.safe r242.1.lt F242
          have r243 := r242.ext E243
          have E243 := own_ext_trans E242 E243
          have gg243 : h.size ≤ b243 := by rw [g243]; exact E242.1
          refine g_dup S243.here hx (hb hby at_181) rfl 182 rfl ?_
          refine g_iconst S243.here hx (hb hby at_182) (0 : Int32) (by decide) 183 rfl ?_
          refine g_iload S243.here hx (hb hby at_183) rfl 185 rfl ?_
          refine S243.stC hx V243 0 ⟨by decide, by decide⟩ (by decide) (by simp) ga243 c1 (own_nar (own_b16 k_c1)) (hb hby at_185) 186 rfl (fun T244 h244 S244 W244 V244 R244 => ?_)
          have F244 := R244.safe r243.1.lt F243
          have r244 := r243.wr W244 ne243
          have E244 := own_ext_wr E243 W244 gg243
          refine g_dup S244.here hx (hb hby at_186) rfl 187 rfl ?_
          refine g_iconst S244.here hx (hb hby at_187) (1 : Int32) (by decide) 188 rfl ?_
          refine g_iload S244.here hx (hb hby at_188) rfl 190 rfl ?_
          refine S244.stC hx V244 1 ⟨by decide, by decide⟩ (by decide) (by simp) ga243 c2 (own_nar (own_b16 k_c2)) (hb hby at_190) 191 rfl (fun T245 h245 S245 W245 V245 R245 => ?_)
          have F245 := R245.safe r244.1.lt F244
          have r245 := r244.wr W245 ne243
          have E245 := own_ext_wr E244 W245 gg243
          refine own_mk S245 hx hw G (W := 1) (cs := [c1, c2]) 2 rfl (own_q4 hw) r245 V245 F245 ga242 (by decide) (by decide) (own_lat_cons k_c1 (own_lat_cons k_c2 own_lat_nil)) (by decide) (by decide) (by rw [hml]; rfl) [(.ref f)] (Nat.le_refl _) (hb hby at_191) (by decide) (by decide) 194 rfl (fun T246 h246 S246 f_f K246 R246 => ?_)
          have E246 : Ext h h246 := own_ext_keep E245 K246 (fun x hx => by cases List.mem_singleton.mp hx; exact Nat.le_of_eq g242.symm)
          refine g_astore S246.here hx (hb hby at_194) rfl #[.val (.int p1), .val (.int p2), .val (.int p3), .val (.int p4), .val (.int p5), .val (.int p6), .val (.int c1), .val (.int c2), .val (.int c3), .val (.int kd), .val (.int (0 : Int32)), .val (.ref f), .unset, .unset, .unset, .unset, .unset] rfl 196 rfl ?_
          refine S246.new hx (own_q0 hw) (own_q1 hw) (own_q2 hw) (hb hby at_196) (by decide) (by decide) 199 rfl (fun T247 h247 x S247 g247 E247 A247 D247 F247 R247 _ => ?_)
          have r247 : own_raw Z h247 x := ⟨A247, ⟨_, D247 (Or.inr (own_q16 hw)) (ty := .array .byte) (by decide)⟩, _, D247 (Or.inr (own_q17 hw)) (ty := .byte) (by decide)⟩
          have ga247 : Z.heap.size ≤ x := by rw [g247]; exact S246.size
          refine g_dup S247.here hx (hb hby at_199) rfl 200 rfl ?_
          refine g_bipush S247.here hx (hb hby at_200) (10 : Int32) (by decide) 202 rfl ?_
          refine S247.newA (aty := .char) hx (own_q3 hw) (n := (10 : Int32)) (by decide) (cap := 10) (by decide) (by decide) (hb hby at_202) (by decide) (by decide) 204 rfl (fun T248 h248 b248 k248 S248 g248 E248 V248 _ R248 => ?_)
          have ga248 : Z.heap.size ≤ b248 := by rw [g248]; exact S247.size
          have ne248 : x ≠ b248 := Nat.ne_of_lt (by rw [g248]; exact r247.1.lt)
          have F248 := R248.safe r247.1.lt F247
          have r248 := r247.ext E248
          have E248 := own_ext_trans E247 E248
          have gg248 : h246.size ≤ b248 := by rw [g248]; exact E247.1
          refine g_dup S248.here hx (hb hby at_204) rfl 205 rfl ?_
          refine g_iconst S248.here hx (hb hby at_205) (0 : Int32) (by decide) 206 rfl ?_
          refine g_bipush S248.here hx (hb hby at_206) (115 : Int32) (by decide) 208 rfl ?_
          refine S248.stC hx V248 0 ⟨by decide, by decide⟩ (by decide) (by simp) ga248 (115 : Int32) (by decide) (hb hby at_208) 209 rfl (fun T249 h249 S249 W249 V249 R249 => ?_)
          have F249 := R249.safe r248.1.lt F248
          have r249 := r248.wr W249 ne248
          have E249 := own_ext_wr E248 W249 gg248
          refine g_dup S249.here hx (hb hby at_209) rfl 210 rfl ?_
          refine g_iconst S249.here hx (hb hby at_210) (1 : Int32) (by decide) 211 rfl ?_
          refine g_bipush S249.here hx (hb hby at_211) (113 : Int32) (by decide) 213 rfl ?_
          refine S249.stC hx V249 1 ⟨by decide, by decide⟩ (by decide) (by simp) ga248 (113 : Int32) (by decide) (hb hby at_213) 214 rfl (fun T250 h250 S250 W250 V250 R250 => ?_)
          have F250 := R250.safe r249.1.lt F249
          have r250 := r249.wr W250 ne248
          have E250 := own_ext_wr E249 W250 gg248
          refine g_dup S250.here hx (hb hby at_214) rfl 215 rfl ?_
          refine g_iconst S250.here hx (hb hby at_215) (2 : Int32) (by decide) 216 rfl ?_
          refine g_bipush S250.here hx (hb hby at_216) (108 : Int32) (by decide) 218 rfl ?_
          refine S250.stC hx V250 2 ⟨by decide, by decide⟩ (by decide) (by simp) ga248 (108 : Int32) (by decide) (hb hby at_218) 219 rfl (fun T251 h251 S251 W251 V251 R251 => ?_)
          have F251 := R251.safe r250.1.lt F250
          have r251 := r250.wr W251 ne248
          have E251 := own_ext_wr E250 W251 gg248
          refine g_dup S251.here hx (hb hby at_219) rfl 220 rfl ?_
          refine g_iconst S251.here hx (hb hby at_220) (3 : Int32) (by decide) 221 rfl ?_
          refine g_bipush S251.here hx (hb hby at_221) (70 : Int32) (by decide) 223 rfl ?_
          refine S251.stC hx V251 3 ⟨by decide, by decide⟩ (by decide) (by simp) ga248 (70 : Int32) (by decide) (hb hby at_223) 224 rfl (fun T252 h252 S252 W252 V252 R252 => ?_)
          have F252 := R252.safe r251.1.lt F251
          have r252 := r251.wr W252 ne248
          have E252 := own_ext_wr E251 W252 gg248
          refine g_dup S252.here hx (hb hby at_224) rfl 225 rfl ?_
          refine g_iconst S252.here hx (hb hby at_225) (4 : Int32) (by decide) 226 rfl ?_
          refine g_bipush S252.here hx (hb hby at_226) (105 : Int32) (by decide) 228 rfl ?_
          refine S252.stC hx V252 4 ⟨by decide, by decide⟩ (by decide) (by simp) ga248 (105 : Int32) (by decide) (hb hby at_228) 229 rfl (fun T253 h253 S253 W253 V253 R253 => ?_)
          have F253 := R253.safe r252.1.lt F252
          have r253 := r252.wr W253 ne248
          have E253 := own_ext_wr E252 W253 gg248
          refine g_dup S253.here hx (hb hby at_229) rfl 230 rfl ?_
          refine g_iconst S253.here hx (hb hby at_230) (5 : Int32) (by decide) 231 rfl ?_
          refine g_bipush S253.here hx (hb hby at_231) (108 : Int32) (by decide) 233 rfl ?_
          refine S253.stC hx V253 5 ⟨by decide, by decide⟩ (by decide) (by simp) ga248 (108 : Int32) (by decide) (hb hby at_233) 234 rfl (fun T254 h254 S254 W254 V254 R254 => ?_)
          have F254 := R254.safe r253.1.lt F253
          have r254 := r253.wr W254 ne248
          have E254 := own_ext_wr E253 W254 gg248
          refine g_dup S254.here hx (hb hby at_234) rfl 235 rfl ?_
          refine g_bipush S254.here hx (hb hby at_235) (6 : Int32) (by decide) 237 rfl ?_
          refine g_bipush S254.here hx (hb hby at_237) (101 : Int32) (by decide) 239 rfl ?_
          refine S254.stC hx V254 6 ⟨by decide, by decide⟩ (by decide) (by simp) ga248 (101 : Int32) (by decide) (hb hby at_239) 240 rfl (fun T255 h255 S255 W255 V255 R255 => ?_)
          have F255 := R255.safe r254.1.lt F254
          have r255 := r254.wr W255 ne248
          have E255 := own_ext_wr E254 W255 gg248
          refine g_dup S255.here hx (hb hby at_240) rfl 241 rfl ?_
          refine g_bipush S255.here hx (hb hby at_241) (7 : Int32) (by decide) 243 rfl ?_
          refine g_bipush S255.here hx (hb hby at_243) (32 : Int32) (by decide) 245 rfl ?_
          refine S255.stC hx V255 7 ⟨by decide, by decide⟩ (by decide) (by simp) ga248 (32 : Int32) (by decide) (hb hby at_245) 246 rfl (fun T256 h256 S256 W256 V256 R256 => ?_)
          have F256 := R256.safe r255.1.lt F255
          have r256 := r255.wr W256 ne248
          have E256 := own_ext_wr E255 W256 gg248
          refine g_dup S256.here hx (hb hby at_246) rfl 247 rfl ?_
          refine g_bipush S256.here hx (hb hby at_247) (8 : Int32) (by decide) 249 rfl ?_
          refine g_iload S256.here hx (hb hby at_249) rfl 251 rfl ?_
          refine S256.stC hx V256 8 ⟨by decide, by decide⟩ (by decide) (by simp) ga248 c1 (own_nar (own_b16 k_c1)) (hb hby at_251) 252 rfl (fun T257 h257 S257 W257 V257 R257 => ?_)
          have F257 := R257.safe r256.1.lt F256
          have r257 := r256.wr W257 ne248
          have E257 := own_ext_wr E256 W257 gg248
          refine g_dup S257.here hx (hb hby at_252) rfl 253 rfl ?_
          refine g_bipush S257.here hx (hb hby at_253) (9 : Int32) (by decide) 255 rfl ?_
          refine g_iload S257.here hx (hb hby at_255) rfl 257 rfl ?_
          refine S257.stC hx V257 9 ⟨by decide, by decide⟩ (by decide) (by simp) ga248 c2 (own_nar (own_b16 k_c2)) (hb hby at_257) 258 rfl (fun T258 h258 S258 W258 V258 R258 => ?_)
          have F258 := R258.safe r257.1.lt F257
          have r258 := r257.wr W258 ne248
          have E258 := own_ext_wr E257 W258 gg248
          refine own_mk S258 hx hw G (W := 1) (cs := [(115 : Int32), (113 : Int32), (108 : Int32), (70 : Int32), (105 : Int32), (108 : Int32), (101 : Int32), (32 : Int32), c1, c2]) 10 rfl (own_q4 hw) r258 V258 F258 ga247 (by decide) (by decide) (own_lat_cons (by decide) (own_lat_cons (by decide) (own_lat_cons (by decide) (own_lat_cons (by decide) (own_lat_cons (by decide) (own_lat_cons (by decide) (own_lat_cons (by decide) (own_lat_cons (by decide) (own_lat_cons k_c1 (own_lat_cons k_c2 own_lat_nil)))))))))) (by decide) (by decide) (by rw [hml]; rfl) [(.ref x)] (Nat.le_refl _) (hb hby at_258) (by decide) (by decide) 261 rfl (fun T259 h259 S259 f_x K259 R259 => ?_)
          have E259 : Ext h246 h259 := own_ext_keep E258 K259 (fun x hx => by cases List.mem_singleton.mp hx; exact Nat.le_of_eq g247.symm)
          have f_f := f_f.ext E259
          refine g_astore S259.here hx (hb hby at_261) rfl #[.val (.int p1), .val (.int p2), .val (.int p3), .val (.int p4), .val (.int p5), .val (.int p6), .val (.int c1), .val (.int c2), .val (.int c3), .val (.int kd), .val (.int (0 : Int32)), .val (.ref f), .val (.ref x), .unset, .unset, .unset, .unset] rfl 263 rfl ?_
          refine g_goto S259.here hx (hb hby at_263) 366 (by decide) (by decide) ?_
          exact joinS _ _ _ _ _ [c1, c2] (S259.more (by decide) (by decide)) f_f (by simp) f_x
      · refine S0.new hx (own_q0 hw) (own_q1 hw) (own_q2 hw) (hb hby at_87) (by decide) (by decide) 90 rfl (fun T260 h260 f S260 g260 E260 A260 D260 F260 R260 _ => ?_)
        have r260 : own_raw Z h260 f := ⟨A260, ⟨_, D260 (Or.inr (own_q16 hw)) (ty := .array .byte) (by decide)⟩, _, D260 (Or.inr (own_q17 hw)) (ty := .byte) (by decide)⟩
        have ga260 : Z.heap.size ≤ f := by rw [g260]; exact S0.size
        refine g_dup S260.here hx (hb hby at_90) rfl 91 rfl ?_
        refine g_iconst S260.here hx (hb hby at_91) (1 : Int32) (by decide) 92 rfl ?_
        refine S260.newA (aty := .char) hx (own_q3 hw) (n := (1 : Int32)) (by decide) (cap := 1) (by decide) (by decide) (hb hby at_92) (by decide) (by decide) 94 rfl (fun T261 h261 b261 k261 S261 g261 E261 V261 _ R261 => ?_)
        have ga261 : Z.heap.size ≤ b261 := by rw [g261]; exact S260.size
        have ne261 : f ≠ b261 := Nat.ne_of_lt (by rw [g261]; exact r260.1.lt)
        have F261 := R261.safe r260.1.lt F260
        have r261 := r260.ext E261
        have E261 := own_ext_trans E260 E261
        have gg261 : h.size ≤ b261 := by rw [g261]; exact E260.1
        refine g_dup S261.here hx (hb hby at_94) rfl 95 rfl ?_
        refine g_iconst S261.here hx (hb hby at_95) (0 : Int32) (by decide) 96 rfl ?_
        refine g_iload S261.here hx (hb hby at_96) rfl 98 rfl ?_
        refine S261.stC hx V261 0 ⟨by decide, by decide⟩ (by decide) (by simp) ga261 c1 (own_nar (own_b16 k_c1)) (hb hby at_98) 99 rfl (fun T262 h262 S262 W262 V262 R262 => ?_)
        have F262 := R262.safe r261.1.lt F261
        have r262 := r261.wr W262 ne261
        have E262 := own_ext_wr E261 W262 gg261
        refine own_mk S262 hx hw G (W := 1) (cs := [c1]) 1 rfl (own_q4 hw) r262 V262 F262 ga260 (by decide) (by decide) (own_lat_cons k_c1 own_lat_nil) (by decide) (by decide) (by rw [hml]; rfl) [(.ref f)] (Nat.le_refl _) (hb hby at_99) (by decide) (by decide) 102 rfl (fun T263 h263 S263 f_f K263 R263 => ?_)
        have E263 : Ext h h263 := own_ext_keep E262 K263 (fun x hx => by cases List.mem_singleton.mp hx; exact Nat.le_of_eq g260.symm)
        refine g_astore S263.here hx (hb hby at_102) rfl #[.val (.int p1), .val (.int p2), .val (.int p3), .val (.int p4), .val (.int p5), .val (.int p6), .val (.int c1), .val (.int c2), .val (.int c3), .val (.int kd), .val (.int (0 : Int32)), .val (.ref f), .unset, .unset, .unset, .unset, .unset] rfl 104 rfl ?_
        refine S263.new hx (own_q0 hw) (own_q1 hw) (own_q2 hw) (hb hby at_104) (by decide) (by decide) 107 rfl (fun T264 h264 x S264 g264 E264 A264 D264 F264 R264 _ => ?_)
        have r264 : own_raw Z h264 x := ⟨A264, ⟨_, D264 (Or.inr (own_q16 hw)) (ty := .array .byte) (by decide)⟩, _, D264 (Or.inr (own_q17 hw)) (ty := .byte) (by decide)⟩
        have ga264 : Z.heap.size ≤ x := by rw [g264]; exact S263.size
        refine g_dup S264.here hx (hb hby at_107) rfl 108 rfl ?_
        refine g_bipush S264.here hx (hb hby at_108) (9 : Int32) (by decide) 110 rfl ?_
        refine S264.newA (aty := .char) hx (own_q3 hw) (n := (9 : Int32)) (by decide) (cap := 9) (by decide) (by decide) (hb hby at_110) (by decide) (by decide) 112 rfl (fun T265 h265 b265 k265 S265 g265 E265 V265 _ R265 => ?_)
        have ga265 : Z.heap.size ≤ b265 := by rw [g265]; exact S264.size
        have ne265 : x ≠ b265 := Nat.ne_of_lt (by rw [g265]; exact r264.1.lt)
        have F265 := R265.safe r264.1.lt F264
        have r265 := r264.ext E265
        have E265 := own_ext_trans E264 E265
        have gg265 : h263.size ≤ b265 := by rw [g265]; exact E264.1
        refine g_dup S265.here hx (hb hby at_112) rfl 113 rfl ?_
        refine g_iconst S265.here hx (hb hby at_113) (0 : Int32) (by decide) 114 rfl ?_
        refine g_bipush S265.here hx (hb hby at_114) (115 : Int32) (by decide) 116 rfl ?_
        refine S265.stC hx V265 0 ⟨by decide, by decide⟩ (by decide) (by simp) ga265 (115 : Int32) (by decide) (hb hby at_116) 117 rfl (fun T266 h266 S266 W266 V266 R266 => ?_)
        have F266 := R266.safe r265.1.lt F265
        have r266 := r265.wr W266 ne265
        have E266 := own_ext_wr E265 W266 gg265
        refine g_dup S266.here hx (hb hby at_117) rfl 118 rfl ?_
        refine g_iconst S266.here hx (hb hby at_118) (1 : Int32) (by decide) 119 rfl ?_
        refine g_bipush S266.here hx (hb hby at_119) (113 : Int32) (by decide) 121 rfl ?_
        refine S266.stC hx V266 1 ⟨by decide, by decide⟩ (by decide) (by simp) ga265 (113 : Int32) (by decide) (hb hby at_121) 122 rfl (fun T267 h267 S267 W267 V267 R267 => ?_)
        have F267 := R267.safe r266.1.lt F266
        have r267 := r266.wr W267 ne265
        have E267 := own_ext_wr E266 W267 gg265
        refine g_dup S267.here hx (hb hby at_122) rfl 123 rfl ?_
        refine g_iconst S267.here hx (hb hby at_123) (2 : Int32) (by decide) 124 rfl ?_
        refine g_bipush S267.here hx (hb hby at_124) (108 : Int32) (by decide) 126 rfl ?_
        refine S267.stC hx V267 2 ⟨by decide, by decide⟩ (by decide) (by simp) ga265 (108 : Int32) (by decide) (hb hby at_126) 127 rfl (fun T268 h268 S268 W268 V268 R268 => ?_)
        have F268 := R268.safe r267.1.lt F267
        have r268 := r267.wr W268 ne265
        have E268 := own_ext_wr E267 W268 gg265
        refine g_dup S268.here hx (hb hby at_127) rfl 128 rfl ?_
        refine g_iconst S268.here hx (hb hby at_128) (3 : Int32) (by decide) 129 rfl ?_
        refine g_bipush S268.here hx (hb hby at_129) (70 : Int32) (by decide) 131 rfl ?_
        refine S268.stC hx V268 3 ⟨by decide, by decide⟩ (by decide) (by simp) ga265 (70 : Int32) (by decide) (hb hby at_131) 132 rfl (fun T269 h269 S269 W269 V269 R269 => ?_)
        have F269 := R269.safe r268.1.lt F268
        have r269 := r268.wr W269 ne265
        have E269 := own_ext_wr E268 W269 gg265
        refine g_dup S269.here hx (hb hby at_132) rfl 133 rfl ?_
        refine g_iconst S269.here hx (hb hby at_133) (4 : Int32) (by decide) 134 rfl ?_
        refine g_bipush S269.here hx (hb hby at_134) (105 : Int32) (by decide) 136 rfl ?_
        refine S269.stC hx V269 4 ⟨by decide, by decide⟩ (by decide) (by simp) ga265 (105 : Int32) (by decide) (hb hby at_136) 137 rfl (fun T270 h270 S270 W270 V270 R270 => ?_)
        have F270 := R270.safe r269.1.lt F269
        have r270 := r269.wr W270 ne265
        have E270 := own_ext_wr E269 W270 gg265
        refine g_dup S270.here hx (hb hby at_137) rfl 138 rfl ?_
        refine g_iconst S270.here hx (hb hby at_138) (5 : Int32) (by decide) 139 rfl ?_
        refine g_bipush S270.here hx (hb hby at_139) (108 : Int32) (by decide) 141 rfl ?_
        refine S270.stC hx V270 5 ⟨by decide, by decide⟩ (by decide) (by simp) ga265 (108 : Int32) (by decide) (hb hby at_141) 142 rfl (fun T271 h271 S271 W271 V271 R271 => ?_)
        have F271 := R271.safe r270.1.lt F270
        have r271 := r270.wr W271 ne265
        have E271 := own_ext_wr E270 W271 gg265
        refine g_dup S271.here hx (hb hby at_142) rfl 143 rfl ?_
        refine g_bipush S271.here hx (hb hby at_143) (6 : Int32) (by decide) 145 rfl ?_
        refine g_bipush S271.here hx (hb hby at_145) (101 : Int32) (by decide) 147 rfl ?_
        refine S271.stC hx V271 6 ⟨by decide, by decide⟩ (by decide) (by simp) ga265 (101 : Int32) (by decide) (hb hby at_147) 148 rfl (fun T272 h272 S272 W272 V272 R272 => ?_)
        have F272 := R272.safe r271.1.lt F271
        have r272 := r271.wr W272 ne265
        have E272 := own_ext_wr E271 W272 gg265
        refine g_dup S272.here hx (hb hby at_148) rfl 149 rfl ?_
        refine g_bipush S272.here hx (hb hby at_149) (7 : Int32) (by decide) 151 rfl ?_
        refine g_bipush S272.here hx (hb hby at_151) (32 : Int32) (by decide) 153 rfl ?_
        refine S272.stC hx V272 7 ⟨by decide, by decide⟩ (by decide) (by simp) ga265 (32 : Int32) (by decide) (hb hby at_153) 154 rfl (fun T273 h273 S273 W273 V273 R273 => ?_)
        have F273 := R273.safe r272.1.lt F272
        have r273 := r272.wr W273 ne265
        have E273 := own_ext_wr E272 W273 gg265
        refine g_dup S273.here hx (hb hby at_154) rfl 155 rfl ?_
        refine g_bipush S273.here hx (hb hby at_155) (8 : Int32) (by decide) 157 rfl ?_
        refine g_iload S273.here hx (hb hby at_157) rfl 159 rfl ?_
        refine S273.stC hx V273 8 ⟨by decide, by decide⟩ (by decide) (by simp) ga265 c1 (own_nar (own_b16 k_c1)) (hb hby at_159) 160 rfl (fun T274 h274 S274 W274 V274 R274 => ?_)
        have F274 := R274.safe r273.1.lt F273
        have r274 := r273.wr W274 ne265
        have E274 := own_ext_wr E273 W274 gg265
        refine own_mk S274 hx hw G (W := 1) (cs := [(115 : Int32), (113 : Int32), (108 : Int32), (70 : Int32), (105 : Int32), (108 : Int32), (101 : Int32), (32 : Int32), c1]) 9 rfl (own_q4 hw) r274 V274 F274 ga264 (by decide) (by decide) (own_lat_cons (by decide) (own_lat_cons (by decide) (own_lat_cons (by decide) (own_lat_cons (by decide) (own_lat_cons (by decide) (own_lat_cons (by decide) (own_lat_cons (by decide) (own_lat_cons (by decide) (own_lat_cons k_c1 own_lat_nil))))))))) (by decide) (by decide) (by rw [hml]; rfl) [(.ref x)] (Nat.le_refl _) (hb hby at_160) (by decide) (by decide) 163 rfl (fun T275 h275 S275 f_x K275 R275 => ?_)
        have E275 : Ext h263 h275 := own_ext_keep E274 K275 (fun x hx => by cases List.mem_singleton.mp hx; exact Nat.le_of_eq g264.symm)
        have f_f := f_f.ext E275
        refine g_astore S275.here hx (hb hby at_163) rfl #[.val (.int p1), .val (.int p2), .val (.int p3), .val (.int p4), .val (.int p5), .val (.int p6), .val (.int c1), .val (.int c2), .val (.int c3), .val (.int kd), .val (.int (0 : Int32)), .val (.ref f), .val (.ref x), .unset, .unset, .unset, .unset] rfl 165 rfl ?_
        refine g_goto S275.here hx (hb hby at_165) 366 (by decide) (by decide) ?_
        exact joinS _ _ _ _ _ [c1] (S275.more (by decide) (by decide)) f_f (by simp) f_x
    · refine S0.new hx (own_q0 hw) (own_q1 hw) (own_q2 hw) (hb hby at_62) (by decide) (by decide) 65 rfl (fun T276 h276 f S276 g276 E276 A276 D276 F276 R276 U276 => ?_)
      have ga276 : Z.heap.size ≤ f := by rw [g276]; exact S0.size
      have r276 : own_raw Z h276 f := ⟨A276, ⟨_, D276 (Or.inr (own_q16 hw)) (ty := .array .byte) (by decide)⟩, _, D276 (Or.inr (own_q17 hw)) (ty := .byte) (by decide)⟩
      refine g_dup S276.here hx (hb hby at_65) rfl 66 rfl ?_
      refine g_iconst S276.here hx (hb hby at_66) (0 : Int32) (by decide) 67 rfl ?_
      refine S276.newA (aty := .char) hx (own_q3 hw) (n := (0 : Int32)) (by decide) (cap := 0) (by decide) (by decide) (hb hby at_67) (by decide) (by decide) 69 rfl (fun T277 h277 b277 k277 S277 g277 E277 V277 _ R277 => ?_)
      have F277 := R277.safe r276.1.lt F276
      have r277 := r276.ext E277
      have E277 := own_ext_trans E276 E277
      refine S277.callI hx (W := 1) (a := f) rfl (own_q4 hw) (own_q5 hw) (own_q6 hw) (by decide) (own_q2 hw) (ctE1 l Z a0 hw f b277 _ _ _ h277 S277.old r277 ga276 V277) (fun x hx => by cases List.mem_singleton.mp hx; exact ⟨r277.1.lt, F277⟩) (by decide) (by decide) (by rw [hml]; rfl) [(.ref b277)] [(.ref f)] (lenOf own_pd0 rfl) rfl rfl (Nat.le_refl _) (hb hby at_69) (by decide) (by decide) 72 rfl (fun v278 vm278 T278 h278 S278 Q278 R278 => ?_)
      obtain ⟨rfl, f_f, K278⟩ := Q278
      show Goes _ _ _ _ T278 (mkF m 72 #[.val (.int p1), .val (.int p2), .val (.int p3), .val (.int p4), .val (.int p5), .val (.int p6), .val (.int c1), .val (.int c2), .val (.int c3), .val (.int kd), .val (.int (0 : Int32)), .unset, .unset, .unset, .unset, .unset, .unset] [(.ref f)])
      have E278 : Ext h h278 := own_ext_keep E277 K278 (fun x hx => by cases List.mem_singleton.mp hx; exact Nat.le_of_eq g276.symm)
      refine g_astore S278.here hx (hb hby at_72) rfl #[.val (.int p1), .val (.int p2), .val (.int p3), .val (.int p4), .val (.int p5), .val (.int p6), .val (.int c1), .val (.int c2), .val (.int c3), .val (.int kd), .val (.int (0 : Int32)), .val (.ref f), .unset, .unset, .unset, .unset, .unset] rfl 74 rfl ?_
      refine S278.ldcC hx (by decide) (own_q22 hw) (own_wS hw) (by decide) (vs := (own_tf.map fun c => c.toInt8.toInt32).map Value.int) (z := Int32.ofNat own_tf.length) (by decide +kernel) (by decide +kernel) (by decide +kernel) (hb hby at_74) (n := 32) (by decide +kernel) (by decide) (by decide) (by decide) 76 rfl (fun vm279 T279 h279 x b279 k279 S279 E279 R279 q279a q279b q279c q279d N279 => ?_)
      have f_x : own_str Z h279 x own_tf := ⟨own_tf_lat, by decide +kernel, b279, k279, q279a, q279b, q279c, q279d⟩
      have f_f := f_f.ext E279
      refine g_astore S279.here hx (hb hby at_76) rfl #[.val (.int p1), .val (.int p2), .val (.int p3), .val (.int p4), .val (.int p5), .val (.int p6), .val (.int c1), .val (.int c2), .val (.int c3), .val (.int kd), .val (.int (0 : Int32)), .val (.ref f), .val (.ref x), .unset, .unset, .unset, .unset] rfl 78 rfl ?_
      refine g_goto S279.here hx (hb hby at_78) 366 (by decide) (by decide) ?_
      exact joinS _ _ _ _ _ own_t0 (S279.more (by decide) (by decide)) f_f (by decide) f_x
  · refine g_iconst S0.here hx (hb hby at_35) (1 : Int32) (by decide) 36 rfl ?_
    refine g_goto S0.here hx (hb hby at_36) 40 (by decide) (by decide) ?_
    refine g_istore S0.here hx (hb hby at_40) #[.val (.int p1), .val (.int p2), .val (.int p3), .val (.int p4), .val (.int p5), .val (.int p6), .val (.int c1), .val (.int c2), .val (.int c3), .val (.int kd), .val (.int (1 : Int32)), .unset, .unset, .unset, .unset, .unset, .unset] rfl 42 rfl ?_
    refine g_iload S0.here hx (hb hby at_42) rfl 44 rfl ?_
    refine g_ifF S0.here hx (hb hby at_44) 1 (by decide) (by show ¬ (1 = 0); decide) 47 rfl ?_
    refine g_aconst_null S0.here hx (hb hby at_47) 48 rfl ?_
    refine g_astore S0.here hx (hb hby at_48) rfl #[.val (.int p1), .val (.int p2), .val (.int p3), .val (.int p4), .val (.int p5), .val (.int p6), .val (.int c1), .val (.int c2), .val (.int c3), .val (.int kd), .val (.int (1 : Int32)), .val .null, .unset, .unset, .unset, .unset, .unset] rfl 50 rfl ?_
    refine S0.ldcC hx (by decide) (own_q196 hw) (own_wS hw) (by decide) (vs := (own_tq.map fun c => c.toInt8.toInt32).map Value.int) (z := Int32.ofNat own_tq.length) (by decide +kernel) (by decide +kernel) (by decide +kernel) (hb hby at_50) (n := 12) (by decide +kernel) (by decide) (by decide) (by decide) 52 rfl (fun vm280 T280 h280 x b280 k280 S280 E280 R280 q280a q280b q280c q280d N280 => ?_)
    have f_x : own_str Z h280 x own_tq := ⟨own_tq_lat, by decide +kernel, b280, k280, q280a, q280b, q280c, q280d⟩
    refine g_astore S280.here hx (hb hby at_52) rfl #[.val (.int p1), .val (.int p2), .val (.int p3), .val (.int p4), .val (.int p5), .val (.int p6), .val (.int c1), .val (.int c2), .val (.int c3), .val (.int kd), .val (.int (1 : Int32)), .val .null, .val (.ref x), .unset, .unset, .unset, .unset] rfl 54 rfl ?_
    refine g_goto S280.here hx (hb hby at_54) 366 (by decide) (by decide) ?_
    exact joinN _ _ _ _ (S280.more (by decide) (by decide)) f_x
set_option maxRecDepth 65536 in
set_option maxHeartbeats 40000000 in
theorem comes_1 {Post : Tables → Env → Array Value → State → Outcome → State → Prop} (hpost : ∀ tb e args s v u, (limb_1_1.after args s (.returned v) u = true ∧ limb_1_2.after args s (.returned v) u = true ∧ True) → ReturnedEndW s (.returned v) u (Jvm.fieldLocs frame_1_writes args s ++ Jvm.arrayLocs frame_1_arrays args s ++ Jvm.staticLocs frame_1_statics s) 56 8512 → Post tb e args s (.returned v) u) :
    ArmFor flags0 classFile x code maxLocals ret World_1 tables_1 room_1 Calls_1 rest_1 Pre_1 Post := by
  intro l hfl _ _ p e ha hc hk s m args below hf hA hF happ hP
  obtain ⟨hcalls, hrest, hpre⟩ := hP
  obtain ⟨-, -, -, hnamed, -, -, -, hat⟩ := (Spec.applies_iff hf).mp happ
  obtain ⟨hg, hn⟩ := and_e (Cond.before_iff.mp (show (Jvm.Cond.and given_1 narrow_1).before args s = true from hpre))
  obtain ⟨gc, gr⟩ := and_e hg
  obtain ⟨g0, gr0⟩ := and_e gr
  obtain ⟨g1, gr1⟩ := and_e gr0
  obtain ⟨g2, gr2⟩ := and_e gr1
  obtain ⟨g3, gr3⟩ := and_e gr2
  obtain ⟨g4, gr4⟩ := and_e gr3
  have g5 := gr4
  obtain ⟨w0, w1, w2, w3, w4, w5, rfl⟩ : ∃ w0 w1 w2 w3 w4 w5 : Value, args = #[w0, w1, w2, w3, w4, w5] := by
    have hs : args.size = 6 := by simpa [Cond.value, given_1] using gc
    obtain ⟨L⟩ := args
    match L, hs with
    | [w0, w1, w2, w3, w4, w5], _ => exact ⟨w0, w1, w2, w3, w4, w5, rfl⟩
  have hw := fun d (hd : d ∈ tables_1) => atoms_spec (ws := Jvm.Cond.code x code maxLocals ret :: tables_1) hat d (List.mem_cons_of_mem _ hd)
  have hfit : Fit s := fun {y c} hc i hi => by
    obtain ⟨ha, rfl⟩ := Array.getElem?_eq_some_iff.mp hc
    have q := List.all_eq_true.mp ((Array.all_eq_true_iff_forall_mem.mp hF) _ (Array.getElem_mem ha)) i (List.mem_range.mpr hi)
    simpa [Array.getElem?_eq_getElem hi] using q
  obtain ⟨i0, e0⟩ := is_v g0
  obtain rfl : w0 = (.int i0) := Option.some.inj e0
  obtain ⟨i1, e1⟩ := is_v g1
  obtain rfl : w1 = (.int i1) := Option.some.inj e1
  obtain ⟨i2, e2⟩ := is_v g2
  obtain rfl : w2 = (.int i2) := Option.some.inj e2
  obtain ⟨i3, e3⟩ := is_v g3
  obtain rfl : w3 = (.int i3) := Option.some.inj e3
  obtain ⟨i4, e4⟩ := is_v g4
  obtain rfl : w4 = (.int i4) := Option.some.inj e4
  obtain ⟨i5, e5⟩ := is_v g5
  obtain rfl : w5 = (.int i5) := Option.some.inj e5
  obtain ⟨hsets, hown0⟩ := atoms_of _ (rest_1_c_eq ▸ (show rest_1_c.before _ s = true from hrest))
  have n5 := not_v (Cond.before_iff.mp (hsets _ (List.mem_of_getElem? (i := 2) rfl)))
  obtain ⟨z, ez⟩ := is_v (Cond.before_iff.mp (hsets _ (List.mem_of_getElem? (i := 1) rfl)))
  have G : own_cs s := ⟨z, Sta.start ez (Or.inl (hsets _ (List.mem_of_getElem? (i := 0) rfl))), gotF (Cond.eq_ints ez (Term.int_eval (0))) n5⟩
  obtain ⟨fm, ef, rf⟩ := isR_v (Cond.before_iff.mp (hsets _ (List.mem_of_getElem? (i := 8) rfl)))
  have G2 : own_sf s := ⟨fm, Sta.start ef (Or.inl (hsets _ (List.mem_of_getElem? (i := 7) rfl))), rf⟩
  obtain ⟨g, eg⟩ := exa_v hn
  have G3 : Sta s s.heap "com/example/stanchion/stanchion/changelog/Dbms" "ALL" "Lcom/example/stanchion/stanchion/changelog/Dbms;" (.ref g) := Sta.start eg (Or.inr ⟨(own_q42 hw), (own_q43 hw)⟩)
  have hC := CHv.start (own_ew hw) (fun q hq => hcalls.1 q hq) (hsets _ (List.mem_of_getElem? (i := 2) rfl)) (own_wS hw _ (by simp [Bundle.stringAtoms])) (own_wS hw _ (by simp [Bundle.stringAtoms, Bundle.sN]))
  obtain ⟨n, o, h1, h2, h3, v, L, rfl, ⟨rfl, N, -⟩, -, hq⟩ := ct0 l s _ hw i0 i1 i2 i3 i4 i5 g s.heap (Old.start s) G G3 tables_1 p e ha hc hk s m _ below hf ((Spec.applies_iff_loose hf).mp happ).1 ⟨rfl, State.Warmed39.refl s, rfl, hC, fun _ q => nomatch q⟩ (fun q => by cases q)
  have hq := hq.2 (by decide)
  refine ⟨n, _, h1, h2, h3, hpost _ _ _ _ _ _ ⟨Cond.after_iff.mpr rfl, Cond.after_iff.mpr (eq_i res_at (Term.int_eval (1)) rfl), trivial⟩ ⟨hq.1, hq.2.1, hq.2.2.1, (hq.2.2.2.sift fun y hy => Or.inr (N y hy)).mono (by decide) (by decide)⟩⟩
theorem main_1_1 : Claimed_1_1 := comes_1 fun _ _ _ _ _ _ h hF => ⟨h.1, hF⟩
theorem main_1_2 : Claimed_1_2 := comes_1 fun _ _ _ _ _ _ h hF => ⟨h.2.1, hF⟩
end Jvm.Pilot.@@N@@
namespace Jvm.Pilot.@@N@@
open Jvm Jvm.ClassFile Sem Op Lib Jvm.Free Jvm.Stand Jvm.Pilot.@@N@@.Jvm.D
/-! MADE BY PROGRAM (witnessworld.py) out of the Statement's table words and the real class files: 30 classes; the members and pool entries that the words name. The judged class is class 1, her method 1. -/
namespace start1
open Jvm.ClassFile
def u (s : String) : CpInfo := .utf8 (stringToUtf16 s)
/-- a pool by its gaps: so many unusable entries, then the entry; so many at the end -/
def gap : Nat → List CpInfo → List CpInfo
  | 0, r => r
  | n + 1, r => .unusable :: gap n r
def poolList (es : List (Nat × CpInfo)) (last : Nat) : List CpInfo := es.foldr (fun e r => gap e.1 (e.2 :: r)) (gap last [])
def pool (es : List (Nat × CpInfo)) (last : Nat) : Array CpInfo := ⟨poolList es last⟩
def fileOf (pool : Array CpInfo) (this : Nat) (attrs : Array Attribute := #[]) (ms : Array MethodInfo := #[]) (fl : Nat := 33) (sup : Nat := 0) (ifs : Array Nat := #[]) (fds : Array FieldInfo := #[]) : ClassFile where
  minorVersion := 0
  majorVersion := 65
  constantPool := pool
  accessFlags := fl
  thisClass := this
  superClass := sup
  interfaces := ifs
  fields := fds
  methods := ms
  attributes := attrs
def plain (name : String) (sup : Option ClassId) : Class where
  name := name
  kind := .ordinary
  loader := none
  accessFlags := 33
  super := sup
  interfaces := #[]
  cf := none
  fields := #[]
  methods := #[]
  instanceTypes := #[]
  staticTypes := #[]
  resolved := #[]
  callSites := []
  init := .initialized
  statics := none
  mirror := none

def pool0 : Array CpInfo := pool [(5, u "<init>"), (0, u "()V"), (1, .class_ 10), (1, u "java/lang/Object")] 113

def k0c0 : Code := { maxStack := 0, maxLocals := 1, code := object_method_1_code, exceptionTable := #[], attributes := #[] }
def k0m0 : Method := { name := "<init>", desc := "()V", sig := { parameters := [], returnType := none }, accessFlags := 1, code := some k0c0 }
/-- java/lang/Object -/
def k0 : Class := { plain "java/lang/Object" none with
  accessFlags := 33
  interfaces := #[]
  cf := some (fileOf pool0 8 #[] #[{ accessFlags := 1, nameIndex := 5, descriptorIndex := 6, attributes := #[] }] 33 0 #[] #[])
  fields := #[]
  methods := #[k0m0]
  instanceTypes := #[]
  staticTypes := #[]
  resolved := Array.replicate 124 none
  statics := none }

def pool1 : Array CpInfo := pool [(2, .class_ 4), (1, u "java/lang/Object"), (0, u "<init>"), (0, u "()V"), (0, .string 8), (0, u "sql"), (0, .class_ 10), (0, u "java/lang/String"), (0, .methodref 9 12), (0, .nameAndType 5 13), (0, u "([C)V"), (0, .string 15), (0, u "sqlFile "), (0, .methodref 9 17), (0, .nameAndType 18 19), (0, u "valueOf"), (0, u "(C)Ljava/lang/String;"), (0, .class_ 21), (0, u "com/example/stanchion/stanchion/changelog/Sql"), (0, .fieldref 23 24), (0, .class_ 25), (0, .nameAndType 26 27), (0, u "com/example/stanchion/stanchion/changelog/Dbms"), (0, u "ALL"), (0, u "Lcom/example/stanchion/stanchion/changelog/Dbms;"), (0, .methodref 20 29), (0, .nameAndType 5 30), (0, u "(Ljava/lang/String;Ljava/lang/String;ZLjava/lang/String;ZLcom/example/stanchion/stanchion/changelog/Dbms;)V"), (0, .methodref 20 32), (0, .nameAndType 33 34), (0, u "description"), (0, u "()Ljava/lang/String;"), (0, .methodref 9 36), (0, .nameAndType 37 38), (0, u "equals"), (0, u "(Ljava/lang/Object;)Z"), (0, .class_ 40), (0, u "com/example/stanchion/stanchion/changelog/SqlDescriptionPinLaw"), (2, u "law"), (0, u "(IIIIII)Z")] 3

def k1m0 : Method := { name := "<init>", desc := "()V", sig := { parameters := [], returnType := none }, accessFlags := 1, code := none }
def k1c1 : Code := { maxStack := 8, maxLocals := 17, code := code, exceptionTable := #[], attributes := #[] }
def k1m1 : Method := { name := "law", desc := "(IIIIII)Z", sig := { parameters := [.int, .int, .int, .int, .int, .int], returnType := some .boolean }, accessFlags := 9, code := some k1c1 }
/-- com/example/stanchion/stanchion/changelog/SqlDescriptionPinLaw -/
def k1 : Class := { plain "com/example/stanchion/stanchion/changelog/SqlDescriptionPinLaw" (some 0) with
  accessFlags := 49
  interfaces := #[]
  cf := some (fileOf pool1 39 #[] #[{ accessFlags := 1, nameIndex := 5, descriptorIndex := 6, attributes := #[] }, { accessFlags := 9, nameIndex := 43, descriptorIndex := 44, attributes := #[] }] 49 2 #[] #[])
  fields := #[]
  methods := #[k1m0, k1m1]
  instanceTypes := #[]
  staticTypes := #[]
  resolved := Array.replicate 48 none
  statics := none }

def pool2 : Array CpInfo := pool [(1, .class_ 2), (0, u "java/io/Serializable"), (0, .class_ 4), (0, u "java/lang/Object")] 2

/-- java/io/Serializable -/
def k2 : Class := { plain "java/io/Serializable" (some 0) with
  accessFlags := 1537
  interfaces := #[]
  cf := some (fileOf pool2 1 #[] #[] 1537 3 #[] #[])
  fields := #[]
  methods := #[]
  instanceTypes := #[]
  staticTypes := #[]
  resolved := Array.replicate 7 none
  statics := none }

def pool3 : Array CpInfo := pool [(1, .class_ 2), (0, u "java/lang/Comparable"), (0, .class_ 4), (0, u "java/lang/Object")] 7

/-- java/lang/Comparable -/
def k3 : Class := { plain "java/lang/Comparable" (some 0) with
  accessFlags := 1537
  interfaces := #[]
  cf := some (fileOf pool3 1 #[] #[] 1537 3 #[] #[])
  fields := #[]
  methods := #[]
  instanceTypes := #[]
  staticTypes := #[]
  resolved := Array.replicate 12 none
  statics := none }

def pool4 : Array CpInfo := pool [(2, .class_ 4), (1, u "java/lang/CharSequence"), (42, .class_ 48), (0, u "java/lang/CharSequence$1CodePointIterator"), (10, .class_ 60), (0, u "java/lang/CharSequence$1CharIterator"), (5, .class_ 67), (0, u "java/lang/Object")] 63

/-- java/lang/CharSequence -/
def k4 : Class := { plain "java/lang/CharSequence" (some 0) with
  accessFlags := 1537
  interfaces := #[]
  cf := some (fileOf pool4 2 #[.nestMembers #[47, 59]] #[] 1537 66 #[] #[])
  fields := #[]
  methods := #[]
  instanceTypes := #[]
  staticTypes := #[]
  resolved := Array.replicate 131 none
  statics := none }

def pool5 : Array CpInfo := pool [(1, .class_ 2), (0, u "java/lang/constant/Constable"), (0, .class_ 4), (0, u "java/lang/Object")] 6

/-- java/lang/constant/Constable -/
def k5 : Class := { plain "java/lang/constant/Constable" (some 0) with
  accessFlags := 1537
  interfaces := #[]
  cf := some (fileOf pool5 1 #[] #[] 1537 3 #[] #[])
  fields := #[]
  methods := #[]
  instanceTypes := #[]
  staticTypes := #[]
  resolved := Array.replicate 11 none
  statics := none }

def pool6 : Array CpInfo := pool [(1, .class_ 2), (0, u "java/lang/constant/ConstantDesc"), (0, .class_ 4), (0, u "java/lang/Object")] 32

/-- java/lang/constant/ConstantDesc -/
def k6 : Class := { plain "java/lang/constant/ConstantDesc" (some 0) with
  accessFlags := 1537
  interfaces := #[]
  cf := some (fileOf pool6 1 #[] #[] 1537 3 #[] #[])
  fields := #[]
  methods := #[]
  instanceTypes := #[]
  staticTypes := #[]
  resolved := Array.replicate 37 none
  statics := none }

def pool7 : Array CpInfo := pool [(1, .methodref 2 3), (0, .class_ 4), (0, .nameAndType 5 6), (0, u "java/lang/Object"), (0, u "<init>"), (0, u "()V"), (0, .string 8), (0, u ""), (0, .fieldref 10 11), (0, .class_ 12), (0, .nameAndType 13 14), (0, u "java/lang/String"), (0, u "value"), (0, u "[B"), (0, .fieldref 10 16), (0, .nameAndType 17 18), (0, u "coder"), (0, u "B"), (2, u "hash"), (0, u "I"), (2, u "hashIsZero"), (0, u "Z"), (0, .methodref 10 28), (0, .nameAndType 5 29), (0, u "([CIILjava/lang/Void;)V"), (8, .fieldref 10 39), (0, .nameAndType 40 26), (0, u "COMPACT_STRINGS"), (1, .class_ 44), (1, u "java/lang/StringUTF16"), (0, u "compress"), (1, .methodref 42 48), (0, .nameAndType 49 50), (0, u "coderFromArrayLen"), (0, u "([BI)B"), (2, u "toBytes"), (0, .methodref 55 56), (0, .class_ 57), (0, .nameAndType 58 59), (0, u "java/util/Arrays"), (0, u "copyOfRange"), (0, u "([BII)[B"), (47, .class_ 109), (1, u "java/lang/StringLatin1"), (32, u "()Z"), (34, .methodref 42 178), (0, .nameAndType 45 179), (0, u "([CII)[B"), (13, .class_ 195), (1, u "java/lang/System"), (13, .methodref 10 210), (0, .nameAndType 5 211), (0, u "([BB)V"), (0, .methodref 193 213), (0, .nameAndType 214 215), (0, u "arraycopy"), (0, u "(Ljava/lang/Object;ILjava/lang/Object;II)V"), (118, u "()I"), (0, .methodref 10 336), (0, .nameAndType 17 337), (0, u "()B"), (2, u "()[B"), (28, u "(C)Z"), (119, .methodref 10 490), (0, .nameAndType 5 491), (0, u "(Ljava/lang/AbstractStringBuilder;Ljava/lang/Void;)V"), (1, .nameAndType 494 142), (0, u "isLatin1"), (11, .nameAndType 507 334), (0, u "length"), (24, u "getBytes"), (8, .methodref 107 542), (0, .nameAndType 543 544), (0, u "equals"), (0, u "([B[B)Z"), (4, .methodref 550 506), (0, .class_ 551), (0, u "java/lang/AbstractStringBuilder"), (0, .methodref 550 553), (0, .nameAndType 554 340), (0, u "getValue"), (18, u "(Ljava/lang/Object;)Z"), (1, .class_ 576), (0, u "java/lang/CharSequence"), (22, u "CASE_INSENSITIVE_ORDER"), (0, u "Ljava/util/Comparator;"), (181, u "valueOf"), (0, u "(C)Ljava/lang/String;"), (37, u "([BIB)V"), (188, u "([C)V"), (4, .methodref 107 1016), (0, .nameAndType 1017 369), (0, u "canEncode"), (0, .methodref 107 1019), (0, .nameAndType 53 1020), (0, u "(C)[B"), (26, .methodref 550 493), (53, u "serialPersistentFields"), (0, u "[Ljava/io/ObjectStreamField;"), (0, .class_ 1104), (0, u "java/lang/String$CaseInsensitiveComparator"), (1, .class_ 1107), (0, u "java/io/Serializable"), (0, .class_ 1109), (0, u "java/lang/Comparable"), (0, .class_ 1111), (0, u "java/lang/constant/Constable"), (0, .class_ 1113), (0, u "java/lang/constant/ConstantDesc"), (2, u "serialVersionUID"), (0, u "J"), (3, u "REPL"), (0, u "C"), (2, u "LATIN1"), (1, u "UTF16"), (105, u "(Ljava/lang/StringBuilder;)V")] 217

def k7m0 : Method := { name := "<init>", desc := "()V", sig := { parameters := [], returnType := none }, accessFlags := 1, code := none }
def k7c1 : Code := { maxStack := 5, maxLocals := 2, code := jdk_42_method_3_code, exceptionTable := #[], attributes := #[] }
def k7m1 : Method := { name := "<init>", desc := "([C)V", sig := { parameters := [(.array .char)], returnType := none }, accessFlags := 1, code := some k7c1 }
def k7c2 : Code := { maxStack := 3, maxLocals := 2, code := jdk_42_method_53_code, exceptionTable := #[], attributes := #[] }
def k7m2 : Method := { name := "<init>", desc := "(Ljava/lang/StringBuilder;)V", sig := { parameters := [(.object "java/lang/StringBuilder")], returnType := none }, accessFlags := 1, code := some k7c2 }
def k7c3 : Code := { maxStack := 2, maxLocals := 1, code := jdk_42_method_54_code, exceptionTable := #[], attributes := #[] }
def k7m3 : Method := { name := "length", desc := "()I", sig := { parameters := [], returnType := some .int }, accessFlags := 1, code := some k7c3 }
def k7c4 : Code := { maxStack := 2, maxLocals := 3, code := jdk_42_method_66_code, exceptionTable := #[], attributes := #[] }
def k7m4 : Method := { name := "equals", desc := "(Ljava/lang/Object;)Z", sig := { parameters := [(.object "java/lang/Object")], returnType := some .boolean }, accessFlags := 1, code := some k7c4 }
def k7c5 : Code := { maxStack := 4, maxLocals := 1, code := jdk_42_method_139_code, exceptionTable := #[], attributes := #[] }
def k7m5 : Method := { name := "valueOf", desc := "(C)Ljava/lang/String;", sig := { parameters := [.char], returnType := some (.object "java/lang/String") }, accessFlags := 9, code := some k7c5 }
def k7c6 : Code := { maxStack := 5, maxLocals := 4, code := jdk_42_method_147_code, exceptionTable := #[], attributes := #[] }
def k7m6 : Method := { name := "getBytes", desc := "([BIB)V", sig := { parameters := [(.array .byte), .int, .byte], returnType := none }, accessFlags := 0, code := some k7c6 }
def k7c7 : Code := { maxStack := 4, maxLocals := 6, code := jdk_42_method_149_code, exceptionTable := #[], attributes := #[] }
def k7m7 : Method := { name := "<init>", desc := "([CIILjava/lang/Void;)V", sig := { parameters := [(.array .char), .int, .int, (.object "java/lang/Void")], returnType := none }, accessFlags := 2, code := some k7c7 }
def k7c8 : Code := { maxStack := 5, maxLocals := 5, code := jdk_42_method_150_code, exceptionTable := #[], attributes := #[] }
def k7m8 : Method := { name := "<init>", desc := "(Ljava/lang/AbstractStringBuilder;Ljava/lang/Void;)V", sig := { parameters := [(.object "java/lang/AbstractStringBuilder"), (.object "java/lang/Void")], returnType := none }, accessFlags := 0, code := some k7c8 }
def k7c9 : Code := { maxStack := 2, maxLocals := 3, code := jdk_42_method_151_code, exceptionTable := #[], attributes := #[] }
def k7m9 : Method := { name := "<init>", desc := "([BB)V", sig := { parameters := [(.array .byte), .byte], returnType := none }, accessFlags := 0, code := some k7c9 }
def k7c10 : Code := { maxStack := 1, maxLocals := 1, code := jdk_42_method_152_code, exceptionTable := #[], attributes := #[] }
def k7m10 : Method := { name := "coder", desc := "()B", sig := { parameters := [], returnType := some .byte }, accessFlags := 0, code := some k7c10 }
/-- java/lang/String -/
def k7 : Class := { plain "java/lang/String" (some 0) with
  accessFlags := 49
  interfaces := #[2, 3, 4, 5, 6]
  cf := some (fileOf pool7 10 #[.nestMembers #[1103]] #[{ accessFlags := 1, nameIndex := 5, descriptorIndex := 6, attributes := #[] }, { accessFlags := 1, nameIndex := 5, descriptorIndex := 1010, attributes := #[] }, { accessFlags := 1, nameIndex := 5, descriptorIndex := 1233, attributes := #[] }, { accessFlags := 1, nameIndex := 507, descriptorIndex := 334, attributes := #[] }, { accessFlags := 1, nameIndex := 543, descriptorIndex := 573, attributes := #[] }, { accessFlags := 9, nameIndex := 782, descriptorIndex := 783, attributes := #[] }, { accessFlags := 0, nameIndex := 532, descriptorIndex := 821, attributes := #[] }, { accessFlags := 2, nameIndex := 5, descriptorIndex := 29, attributes := #[] }, { accessFlags := 0, nameIndex := 5, descriptorIndex := 491, attributes := #[] }, { accessFlags := 0, nameIndex := 5, descriptorIndex := 211, attributes := #[] }, { accessFlags := 0, nameIndex := 17, descriptorIndex := 337, attributes := #[] }] 49 2 #[1106, 1108, 575, 1110, 1112] #[{ accessFlags := 18, nameIndex := 13, descriptorIndex := 14, attributes := #[] }, { accessFlags := 18, nameIndex := 17, descriptorIndex := 18, attributes := #[] }, { accessFlags := 2, nameIndex := 21, descriptorIndex := 22, attributes := #[] }, { accessFlags := 2, nameIndex := 25, descriptorIndex := 26, attributes := #[] }, { accessFlags := 26, nameIndex := 1116, descriptorIndex := 1117, attributes := #[] }, { accessFlags := 24, nameIndex := 40, descriptorIndex := 26, attributes := #[] }, { accessFlags := 26, nameIndex := 1101, descriptorIndex := 1102, attributes := #[] }, { accessFlags := 26, nameIndex := 1121, descriptorIndex := 1122, attributes := #[] }, { accessFlags := 25, nameIndex := 599, descriptorIndex := 600, attributes := #[] }, { accessFlags := 24, nameIndex := 1125, descriptorIndex := 18, attributes := #[] }, { accessFlags := 24, nameIndex := 1127, descriptorIndex := 18, attributes := #[] }])
  fields := #[{ name := "value", type := (.array .byte), accessFlags := 18, slot := 0, constantValue := 0 }, { name := "coder", type := .byte, accessFlags := 18, slot := 1, constantValue := 0 }, { name := "hash", type := .int, accessFlags := 2, slot := 2, constantValue := 0 }, { name := "hashIsZero", type := .boolean, accessFlags := 2, slot := 3, constantValue := 0 }, { name := "serialVersionUID", type := .long, accessFlags := 26, slot := 0, constantValue := 0 }, { name := "COMPACT_STRINGS", type := .boolean, accessFlags := 24, slot := 1, constantValue := 0 }, { name := "serialPersistentFields", type := (.array (.object "java/io/ObjectStreamField")), accessFlags := 26, slot := 2, constantValue := 0 }, { name := "REPL", type := .char, accessFlags := 26, slot := 3, constantValue := 0 }, { name := "CASE_INSENSITIVE_ORDER", type := (.object "java/util/Comparator"), accessFlags := 25, slot := 4, constantValue := 0 }, { name := "LATIN1", type := .byte, accessFlags := 24, slot := 5, constantValue := 0 }, { name := "UTF16", type := .byte, accessFlags := 24, slot := 6, constantValue := 0 }]
  methods := #[k7m0, k7m1, k7m2, k7m3, k7m4, k7m5, k7m6, k7m7, k7m8, k7m9, k7m10]
  instanceTypes := #[(.array .byte), .byte, .int, .boolean]
  staticTypes := #[.long, .boolean, (.array (.object "java/io/ObjectStreamField")), .char, (.object "java/util/Comparator"), .byte, .byte]
  resolved := Array.replicate 1451 none
  statics := some 0 }

def pool8 : Array CpInfo := pool [(4, .class_ 6), (1, u "java/lang/Object"), (0, u "<init>"), (0, u "()V"), (5, .class_ 16), (1, u "java/lang/StringLatin1"), (73, u "canEncode"), (14, u "(C)Z"), (15, u "$assertionsDisabled"), (0, u "Z"), (98, .class_ 223), (1, u "java/lang/StringLatin1$LinesSpliterator"), (57, u "equals"), (0, u "([B[B)Z"), (97, u "toBytes"), (1, u "(C)[B"), (7, .class_ 391), (0, u "java/lang/StringLatin1$CharsSpliterator")] 3

def k8m0 : Method := { name := "<init>", desc := "()V", sig := { parameters := [], returnType := none }, accessFlags := 0, code := none }
def k8c1 : Code := { maxStack := 2, maxLocals := 1, code := jdk_43_method_3_code, exceptionTable := #[], attributes := #[] }
def k8m1 : Method := { name := "canEncode", desc := "(C)Z", sig := { parameters := [.char], returnType := some .boolean }, accessFlags := 9, code := some k8c1 }
def k8c2 : Code := { maxStack := 3, maxLocals := 3, code := jdk_43_method_13_code, exceptionTable := #[], attributes := #[] }
def k8m2 : Method := { name := "equals", desc := "([B[B)Z", sig := { parameters := [(.array .byte), (.array .byte)], returnType := some .boolean }, accessFlags := 9, code := some k8c2 }
def k8c3 : Code := { maxStack := 4, maxLocals := 1, code := jdk_43_method_46_code, exceptionTable := #[], attributes := #[] }
def k8m3 : Method := { name := "toBytes", desc := "(C)[B", sig := { parameters := [.char], returnType := some (.array .byte) }, accessFlags := 9, code := some k8c3 }
/-- java/lang/StringLatin1 -/
def k8 : Class := { plain "java/lang/StringLatin1" (some 0) with
  accessFlags := 48
  interfaces := #[]
  cf := some (fileOf pool8 14 #[.nestMembers #[390, 221]] #[{ accessFlags := 0, nameIndex := 7, descriptorIndex := 8, attributes := #[] }, { accessFlags := 9, nameIndex := 90, descriptorIndex := 105, attributes := #[] }, { accessFlags := 9, nameIndex := 281, descriptorIndex := 282, attributes := #[] }, { accessFlags := 9, nameIndex := 380, descriptorIndex := 382, attributes := #[] }] 48 4 #[] #[{ accessFlags := 4120, nameIndex := 121, descriptorIndex := 122, attributes := #[] }])
  fields := #[{ name := "$assertionsDisabled", type := .boolean, accessFlags := 4120, slot := 0, constantValue := 0 }]
  methods := #[k8m0, k8m1, k8m2, k8m3]
  instanceTypes := #[]
  staticTypes := #[.boolean]
  resolved := Array.replicate 395 none
  statics := none }

def pool9 : Array CpInfo := pool [(1, .methodref 2 3), (0, .class_ 4), (0, .nameAndType 5 6), (0, u "java/lang/Object"), (0, u "<init>"), (0, u "()V"), (0, .class_ 8), (0, u "java/lang/Record")] 13

def k9c0 : Code := { maxStack := 1, maxLocals := 1, code := jdk_30_method_1_code, exceptionTable := #[], attributes := #[] }
def k9m0 : Method := { name := "<init>", desc := "()V", sig := { parameters := [], returnType := none }, accessFlags := 4, code := some k9c0 }
/-- java/lang/Record -/
def k9 : Class := { plain "java/lang/Record" (some 0) with
  accessFlags := 1057
  interfaces := #[]
  cf := some (fileOf pool9 7 #[] #[{ accessFlags := 4, nameIndex := 5, descriptorIndex := 6, attributes := #[] }] 1057 2 #[] #[])
  fields := #[]
  methods := #[k9m0]
  instanceTypes := #[]
  staticTypes := #[]
  resolved := Array.replicate 22 none
  statics := none }

def pool10 : Array CpInfo := pool [(1, .class_ 2), (0, u "com/example/stanchion/stanchion/changelog/Change"), (0, .class_ 4), (0, u "java/lang/Object")] 23

/-- com/example/stanchion/stanchion/changelog/Change -/
def k10 : Class := { plain "com/example/stanchion/stanchion/changelog/Change" (some 0) with
  accessFlags := 1537
  interfaces := #[]
  cf := some (fileOf pool10 1 #[] #[] 1537 3 #[] #[])
  fields := #[]
  methods := #[]
  instanceTypes := #[]
  staticTypes := #[]
  resolved := Array.replicate 28 none
  statics := none }

def pool11 : Array CpInfo := pool [(1, .methodref 2 3), (0, .class_ 4), (0, .nameAndType 5 6), (0, u "java/lang/Record"), (0, u "<init>"), (0, u "()V"), (0, .string 8), (0, u "text"), (0, .methodref 10 11), (0, .class_ 12), (0, .nameAndType 13 14), (0, u "java/util/Objects"), (0, u "requireNonNull"), (0, u "(Ljava/lang/Object;Ljava/lang/String;)Ljava/lang/Object;"), (0, .string 16), (0, u "endDelimiter"), (0, .string 18), (0, u "dbms"), (0, .fieldref 20 21), (0, .class_ 22), (0, .nameAndType 8 23), (0, u "com/example/stanchion/stanchion/changelog/Sql"), (0, u "Ljava/lang/String;"), (0, .fieldref 20 25), (0, .nameAndType 26 23), (0, u "file"), (0, .fieldref 20 28), (0, .nameAndType 29 30), (0, u "splitStatements"), (0, u "Z"), (0, .fieldref 20 32), (0, .nameAndType 16 23), (0, .fieldref 20 34), (0, .nameAndType 35 30), (0, u "stripComments"), (0, .fieldref 20 37), (0, .nameAndType 18 38), (0, u "Lcom/example/stanchion/stanchion/changelog/Dbms;"), (0, .string 40), (0, u "sql"), (0, .class_ 42), (0, u "java/lang/StringBuilder"), (0, .methodref 41 3), (0, .string 45), (0, u "sqlFile "), (0, .methodref 41 47), (0, .nameAndType 48 49), (0, u "append"), (0, u "(Ljava/lang/String;)Ljava/lang/StringBuilder;"), (0, .methodref 41 51), (0, .nameAndType 52 53), (0, u "toString"), (0, u "()Ljava/lang/String;"), (11, .class_ 66), (0, u "com/example/stanchion/stanchion/changelog/Change"), (0, u "(Ljava/lang/String;Ljava/lang/String;ZLjava/lang/String;ZLcom/example/stanchion/stanchion/changelog/Dbms;)V"), (3, u "description")] 32

def k11c0 : Code := { maxStack := 2, maxLocals := 7, code := prog_20_method_1_code, exceptionTable := #[], attributes := #[] }
def k11m0 : Method := { name := "<init>", desc := "(Ljava/lang/String;Ljava/lang/String;ZLjava/lang/String;ZLcom/example/stanchion/stanchion/changelog/Dbms;)V", sig := { parameters := [(.object "java/lang/String"), (.object "java/lang/String"), .boolean, (.object "java/lang/String"), .boolean, (.object "com/example/stanchion/stanchion/changelog/Dbms")], returnType := none }, accessFlags := 1, code := some k11c0 }
def k11c1 : Code := { maxStack := 2, maxLocals := 1, code := prog_20_method_2_code, exceptionTable := #[], attributes := #[] }
def k11m1 : Method := { name := "description", desc := "()Ljava/lang/String;", sig := { parameters := [], returnType := some (.object "java/lang/String") }, accessFlags := 1, code := some k11c1 }
/-- com/example/stanchion/stanchion/changelog/Sql -/
def k11 : Class := { plain "com/example/stanchion/stanchion/changelog/Sql" (some 9) with
  accessFlags := 49
  interfaces := #[10]
  cf := some (fileOf pool11 20 #[] #[{ accessFlags := 1, nameIndex := 5, descriptorIndex := 67, attributes := #[] }, { accessFlags := 1, nameIndex := 71, descriptorIndex := 53, attributes := #[] }] 49 2 #[65] #[{ accessFlags := 18, nameIndex := 8, descriptorIndex := 23, attributes := #[] }, { accessFlags := 18, nameIndex := 26, descriptorIndex := 23, attributes := #[] }, { accessFlags := 18, nameIndex := 29, descriptorIndex := 30, attributes := #[] }, { accessFlags := 18, nameIndex := 16, descriptorIndex := 23, attributes := #[] }, { accessFlags := 18, nameIndex := 35, descriptorIndex := 30, attributes := #[] }, { accessFlags := 18, nameIndex := 18, descriptorIndex := 38, attributes := #[] }])
  fields := #[{ name := "text", type := (.object "java/lang/String"), accessFlags := 18, slot := 0, constantValue := 0 }, { name := "file", type := (.object "java/lang/String"), accessFlags := 18, slot := 1, constantValue := 0 }, { name := "splitStatements", type := .boolean, accessFlags := 18, slot := 2, constantValue := 0 }, { name := "endDelimiter", type := (.object "java/lang/String"), accessFlags := 18, slot := 3, constantValue := 0 }, { name := "stripComments", type := .boolean, accessFlags := 18, slot := 4, constantValue := 0 }, { name := "dbms", type := (.object "com/example/stanchion/stanchion/changelog/Dbms"), accessFlags := 18, slot := 5, constantValue := 0 }]
  methods := #[k11m0, k11m1]
  instanceTypes := #[(.object "java/lang/String"), (.object "java/lang/String"), .boolean, (.object "java/lang/String"), .boolean, (.object "com/example/stanchion/stanchion/changelog/Dbms")]
  staticTypes := #[]
  resolved := Array.replicate 104 none
  statics := none }

def pool12 : Array CpInfo := pool [(2, .class_ 4), (1, u "java/lang/Record"), (9, .class_ 16), (1, u "com/example/stanchion/stanchion/changelog/Dbms"), (0, u "names"), (0, u "Ljava/util/List;"), (45, u "ALL"), (0, u "Lcom/example/stanchion/stanchion/changelog/Dbms;")] 46

/-- com/example/stanchion/stanchion/changelog/Dbms -/
def k12 : Class := { plain "com/example/stanchion/stanchion/changelog/Dbms" (some 9) with
  accessFlags := 49
  interfaces := #[]
  cf := some (fileOf pool12 14 #[] #[] 49 2 #[] #[{ accessFlags := 18, nameIndex := 17, descriptorIndex := 18, attributes := #[] }, { accessFlags := 25, nameIndex := 64, descriptorIndex := 65, attributes := #[] }])
  fields := #[{ name := "names", type := (.object "java/util/List"), accessFlags := 18, slot := 0, constantValue := 0 }, { name := "ALL", type := (.object "com/example/stanchion/stanchion/changelog/Dbms"), accessFlags := 25, slot := 0, constantValue := 0 }]
  methods := #[]
  instanceTypes := #[(.object "java/util/List")]
  staticTypes := #[(.object "com/example/stanchion/stanchion/changelog/Dbms")]
  resolved := Array.replicate 112 none
  statics := some 1 }

def pool13 : Array CpInfo := pool [(2, .class_ 4), (1, u "java/lang/Object"), (0, u "<init>"), (0, u "()V"), (35, .class_ 44), (1, u "java/util/Objects"), (0, u "requireNonNull"), (48, u "(Ljava/lang/Object;Ljava/lang/String;)Ljava/lang/Object;")] 89

def k13m0 : Method := { name := "<init>", desc := "()V", sig := { parameters := [], returnType := none }, accessFlags := 2, code := none }
def k13c1 : Code := { maxStack := 3, maxLocals := 2, code := jdk_31_method_11_code, exceptionTable := #[], attributes := #[] }
def k13m1 : Method := { name := "requireNonNull", desc := "(Ljava/lang/Object;Ljava/lang/String;)Ljava/lang/Object;", sig := { parameters := [(.object "java/lang/Object"), (.object "java/lang/String")], returnType := some (.object "java/lang/Object") }, accessFlags := 9, code := some k13c1 }
/-- java/util/Objects -/
def k13 : Class := { plain "java/util/Objects" (some 0) with
  accessFlags := 49
  interfaces := #[]
  cf := some (fileOf pool13 42 #[] #[{ accessFlags := 2, nameIndex := 5, descriptorIndex := 6, attributes := #[] }, { accessFlags := 9, nameIndex := 45, descriptorIndex := 94, attributes := #[] }] 49 2 #[] #[])
  fields := #[]
  methods := #[k13m0, k13m1]
  instanceTypes := #[]
  staticTypes := #[]
  resolved := Array.replicate 184 none
  statics := none }

def pool14 : Array CpInfo := pool [(1, .class_ 2), (0, u "java/lang/Appendable"), (0, .class_ 4), (0, u "java/lang/Object")] 9

/-- java/lang/Appendable -/
def k14 : Class := { plain "java/lang/Appendable" (some 0) with
  accessFlags := 1537
  interfaces := #[]
  cf := some (fileOf pool14 1 #[] #[] 1537 3 #[] #[])
  fields := #[]
  methods := #[]
  instanceTypes := #[]
  staticTypes := #[]
  resolved := Array.replicate 14 none
  statics := none }

def pool15 : Array CpInfo := pool [(1, .class_ 2), (0, u "java/lang/String"), (0, .methodref 4 5), (0, .class_ 6), (0, .nameAndType 7 8), (0, u "java/lang/Object"), (0, u "<init>"), (0, u "()V"), (1, .class_ 12), (1, u "java/lang/AbstractStringBuilder"), (0, u "EMPTYVALUE"), (0, u "[B"), (0, .fieldref 10 16), (0, .nameAndType 17 14), (0, u "value"), (0, .fieldref 1 19), (0, .nameAndType 20 21), (0, u "COMPACT_STRINGS"), (0, u "Z"), (0, .fieldref 10 23), (0, .nameAndType 24 25), (0, u "coder"), (0, u "B"), (6, .methodref 1 33), (0, .nameAndType 34 35), (0, u "length"), (0, u "()I"), (4, .methodref 1 41), (0, .nameAndType 24 42), (0, u "()B"), (2, u "append"), (0, u "(Ljava/lang/String;)Ljava/lang/AbstractStringBuilder;"), (1, .class_ 49), (0, u "java/lang/CharSequence"), (19, u "(Ljava/lang/String;)V"), (5, u "maybeLatin1"), (3, .fieldref 10 80), (0, .nameAndType 81 82), (0, u "count"), (0, u "I"), (2, u "isLatin1"), (0, u "()Z"), (13, .methodref 10 101), (0, .nameAndType 102 103), (0, u "ensureCapacityInternal"), (0, u "(I)V"), (104, .methodref 10 209), (0, .nameAndType 210 211), (0, u "putStringAt"), (0, u "(ILjava/lang/String;)V"), (5, u "inflateIfNeededFor"), (2, .nameAndType 221 222), (0, u "getBytes"), (0, u "([BIB)V"), (174, .methodref 10 398), (0, .nameAndType 217 69), (0, .methodref 1 220), (3, u "()[B"), (40, .class_ 445), (0, u "java/lang/Appendable"), (106, u "getValue")] 56

def k15m0 : Method := { name := "<init>", desc := "()V", sig := { parameters := [], returnType := none }, accessFlags := 0, code := none }
def k15c1 : Code := { maxStack := 2, maxLocals := 2, code := jdk_68_method_2_code, exceptionTable := #[], attributes := #[] }
def k15m1 : Method := { name := "<init>", desc := "(I)V", sig := { parameters := [.int], returnType := none }, accessFlags := 0, code := some k15c1 }
def k15c2 : Code := { maxStack := 1, maxLocals := 1, code := jdk_68_method_6_code, exceptionTable := #[], attributes := #[] }
def k15m2 : Method := { name := "length", desc := "()I", sig := { parameters := [], returnType := some .int }, accessFlags := 1, code := some k15c2 }
def k15c3 : Code := { maxStack := 4, maxLocals := 3, code := jdk_68_method_9_code, exceptionTable := #[], attributes := #[] }
def k15m3 : Method := { name := "ensureCapacityInternal", desc := "(I)V", sig := { parameters := [.int], returnType := none }, accessFlags := 2, code := some k15c3 }
def k15c4 : Code := { maxStack := 3, maxLocals := 3, code := jdk_68_method_22_code, exceptionTable := #[], attributes := #[] }
def k15m4 : Method := { name := "append", desc := "(Ljava/lang/String;)Ljava/lang/AbstractStringBuilder;", sig := { parameters := [(.object "java/lang/String")], returnType := some (.object "java/lang/AbstractStringBuilder") }, accessFlags := 1, code := some k15c4 }
def k15c5 : Code := { maxStack := 1, maxLocals := 1, code := jdk_68_method_64_code, exceptionTable := #[], attributes := #[] }
def k15m5 : Method := { name := "getValue", desc := "()[B", sig := { parameters := [], returnType := some (.array .byte) }, accessFlags := 16, code := some k15c5 }
def k15c6 : Code := { maxStack := 1, maxLocals := 1, code := jdk_68_method_68_code, exceptionTable := #[], attributes := #[] }
def k15m6 : Method := { name := "isLatin1", desc := "()Z", sig := { parameters := [], returnType := some .boolean }, accessFlags := 16, code := some k15c6 }
def k15c7 : Code := { maxStack := 2, maxLocals := 2, code := jdk_68_method_71_code, exceptionTable := #[], attributes := #[] }
def k15m7 : Method := { name := "inflateIfNeededFor", desc := "(Ljava/lang/String;)V", sig := { parameters := [(.object "java/lang/String")], returnType := none }, accessFlags := 2, code := some k15c7 }
def k15c8 : Code := { maxStack := 4, maxLocals := 3, code := jdk_68_method_73_code, exceptionTable := #[], attributes := #[] }
def k15m8 : Method := { name := "putStringAt", desc := "(ILjava/lang/String;)V", sig := { parameters := [.int, (.object "java/lang/String")], returnType := none }, accessFlags := 2, code := some k15c8 }
/-- java/lang/AbstractStringBuilder -/
def k15 : Class := { plain "java/lang/AbstractStringBuilder" (some 0) with
  accessFlags := 1056
  interfaces := #[14, 4]
  cf := some (fileOf pool15 10 #[] #[{ accessFlags := 0, nameIndex := 7, descriptorIndex := 8, attributes := #[] }, { accessFlags := 0, nameIndex := 7, descriptorIndex := 103, attributes := #[] }, { accessFlags := 1, nameIndex := 34, descriptorIndex := 35, attributes := #[] }, { accessFlags := 2, nameIndex := 102, descriptorIndex := 103, attributes := #[] }, { accessFlags := 1, nameIndex := 45, descriptorIndex := 46, attributes := #[] }, { accessFlags := 16, nameIndex := 552, descriptorIndex := 403, attributes := #[] }, { accessFlags := 16, nameIndex := 85, descriptorIndex := 86, attributes := #[] }, { accessFlags := 2, nameIndex := 217, descriptorIndex := 69, attributes := #[] }, { accessFlags := 2, nameIndex := 210, descriptorIndex := 211, attributes := #[] }] 1056 4 #[444, 48] #[{ accessFlags := 0, nameIndex := 17, descriptorIndex := 14, attributes := #[] }, { accessFlags := 0, nameIndex := 24, descriptorIndex := 25, attributes := #[] }, { accessFlags := 0, nameIndex := 75, descriptorIndex := 21, attributes := #[] }, { accessFlags := 0, nameIndex := 81, descriptorIndex := 82, attributes := #[] }, { accessFlags := 26, nameIndex := 13, descriptorIndex := 14, attributes := #[] }])
  fields := #[{ name := "value", type := (.array .byte), accessFlags := 0, slot := 0, constantValue := 0 }, { name := "coder", type := .byte, accessFlags := 0, slot := 1, constantValue := 0 }, { name := "maybeLatin1", type := .boolean, accessFlags := 0, slot := 2, constantValue := 0 }, { name := "count", type := .int, accessFlags := 0, slot := 3, constantValue := 0 }, { name := "EMPTYVALUE", type := (.array .byte), accessFlags := 26, slot := 0, constantValue := 0 }]
  methods := #[k15m0, k15m1, k15m2, k15m3, k15m4, k15m5, k15m6, k15m7, k15m8]
  instanceTypes := #[(.array .byte), .byte, .boolean, .int]
  staticTypes := #[(.array .byte)]
  resolved := Array.replicate 609 none
  statics := none }

def pool16 : Array CpInfo := pool [(1, .methodref 2 3), (0, .class_ 4), (0, .nameAndType 5 6), (0, u "java/lang/AbstractStringBuilder"), (0, u "<init>"), (0, u "(I)V"), (11, .class_ 20), (1, u "java/lang/String"), (3, .class_ 26), (1, u "java/lang/StringBuilder"), (0, u "append"), (0, u "(Ljava/lang/String;)Ljava/lang/StringBuilder;"), (0, .methodref 2 30), (0, .nameAndType 27 31), (0, u "(Ljava/lang/String;)Ljava/lang/AbstractStringBuilder;"), (105, .methodref 18 138), (0, .nameAndType 5 139), (0, u "(Ljava/lang/StringBuilder;)V"), (5, u "()V"), (10, u "()I"), (186, .methodref 2 344), (0, .nameAndType 345 156), (0, u "length"), (3, .class_ 350), (0, u "java/lang/Appendable"), (0, .class_ 352), (0, u "java/io/Serializable"), (0, .class_ 354), (0, u "java/lang/Comparable"), (0, .class_ 356), (0, u "java/lang/CharSequence"), (0, u "serialVersionUID"), (0, u "J"), (40, u "toString"), (0, u "()Ljava/lang/String;")] 21

def k16c0 : Code := { maxStack := 2, maxLocals := 1, code := jdk_67_method_1_code, exceptionTable := #[], attributes := #[] }
def k16m0 : Method := { name := "<init>", desc := "()V", sig := { parameters := [], returnType := none }, accessFlags := 1, code := some k16c0 }
def k16c1 : Code := { maxStack := 2, maxLocals := 2, code := jdk_67_method_7_code, exceptionTable := #[], attributes := #[] }
def k16m1 : Method := { name := "append", desc := "(Ljava/lang/String;)Ljava/lang/StringBuilder;", sig := { parameters := [(.object "java/lang/String")], returnType := some (.object "java/lang/StringBuilder") }, accessFlags := 1, code := some k16c1 }
def k16c2 : Code := { maxStack := 3, maxLocals := 1, code := jdk_67_method_42_code, exceptionTable := #[], attributes := #[] }
def k16m2 : Method := { name := "toString", desc := "()Ljava/lang/String;", sig := { parameters := [], returnType := some (.object "java/lang/String") }, accessFlags := 1, code := some k16c2 }
def k16c3 : Code := { maxStack := 1, maxLocals := 1, code := jdk_67_method_93_code, exceptionTable := #[], attributes := #[] }
def k16m3 : Method := { name := "length", desc := "()I", sig := { parameters := [], returnType := some .int }, accessFlags := 4161, code := some k16c3 }
/-- java/lang/StringBuilder -/
def k16 : Class := { plain "java/lang/StringBuilder" (some 15) with
  accessFlags := 49
  interfaces := #[14, 2, 3, 4]
  cf := some (fileOf pool16 24 #[] #[{ accessFlags := 1, nameIndex := 5, descriptorIndex := 145, attributes := #[] }, { accessFlags := 1, nameIndex := 27, descriptorIndex := 28, attributes := #[] }, { accessFlags := 1, nameIndex := 399, descriptorIndex := 400, attributes := #[] }, { accessFlags := 4161, nameIndex := 345, descriptorIndex := 156, attributes := #[] }] 49 2 #[349, 351, 353, 355] #[{ accessFlags := 24, nameIndex := 357, descriptorIndex := 358, attributes := #[] }])
  fields := #[{ name := "serialVersionUID", type := .long, accessFlags := 24, slot := 0, constantValue := 0 }]
  methods := #[k16m0, k16m1, k16m2, k16m3]
  instanceTypes := #[(.array .byte), .byte, .boolean, .int]
  staticTypes := #[.long]
  resolved := Array.replicate 422 none
  statics := none }

def pool17 : Array CpInfo := pool [(2, .class_ 4), (1, u "java/lang/Object"), (0, u "<init>"), (0, u "()V"), (1, .class_ 10), (1, u "java/lang/System"), (0, u "allowSecurityManager"), (0, u "I"), (16, u "cons"), (0, u "Ljava/io/Console;"), (77, .class_ 110), (1, u "java/lang/System$CallersHolder"), (43, u "initialErrStream"), (0, u "Ljava/io/PrintStream;"), (19, u "security"), (0, u "Ljava/lang/SecurityManager;"), (31, .class_ 209), (0, u "java/lang/System$1"), (7, u "props"), (0, u "Ljava/util/Properties;"), (2, u "lineSeparator"), (0, u "Ljava/lang/String;"), (96, .class_ 321), (1, u "java/lang/System$LoggerFinder"), (5, .class_ 328), (0, u "java/lang/System$Logger"), (67, u "err"), (2, u "out"), (91, u "notSupportedJnuEncoding"), (15, u "in"), (17, u "initialIn"), (0, u "Ljava/io/InputStream;"), (35, u "bootLayer"), (0, u "Ljava/lang/ModuleLayer;"), (99, .class_ 664), (0, u "java/lang/System$2"), (9, u "NEVER"), (2, u "MAYBE"), (49, u "arraycopy"), (0, u "(Ljava/lang/Object;ILjava/lang/Object;II)V"), (72, .class_ 802), (0, u "java/lang/System$Logger$Level")] 31

def k17m0 : Method := { name := "<init>", desc := "()V", sig := { parameters := [], returnType := none }, accessFlags := 2, code := none }
def k17m1 : Method := { name := "arraycopy", desc := "(Ljava/lang/Object;ILjava/lang/Object;II)V", sig := { parameters := [(.object "java/lang/Object"), .int, (.object "java/lang/Object"), .int, .int], returnType := none }, accessFlags := 265, code := none }
/-- java/lang/System -/
def k17 : Class := { plain "java/lang/System" (some 0) with
  accessFlags := 49
  interfaces := #[]
  cf := some (fileOf pool17 8 #[.nestMembers #[319, 327, 801, 108, 663, 208]] #[{ accessFlags := 2, nameIndex := 5, descriptorIndex := 6, attributes := #[] }, { accessFlags := 265, nameIndex := 727, descriptorIndex := 728, attributes := #[] }] 49 2 #[] #[{ accessFlags := 25, nameIndex := 507, descriptorIndex := 526, attributes := #[] }, { accessFlags := 25, nameIndex := 399, descriptorIndex := 155, attributes := #[] }, { accessFlags := 25, nameIndex := 396, descriptorIndex := 155, attributes := #[] }, { accessFlags := 10, nameIndex := 525, descriptorIndex := 526, attributes := #[] }, { accessFlags := 26, nameIndex := 674, descriptorIndex := 12, attributes := #[] }, { accessFlags := 26, nameIndex := 677, descriptorIndex := 12, attributes := #[] }, { accessFlags := 10, nameIndex := 11, descriptorIndex := 12, attributes := #[] }, { accessFlags := 74, nameIndex := 175, descriptorIndex := 176, attributes := #[] }, { accessFlags := 10, nameIndex := 491, descriptorIndex := 222, attributes := #[] }, { accessFlags := 74, nameIndex := 29, descriptorIndex := 30, attributes := #[] }, { accessFlags := 74, nameIndex := 154, descriptorIndex := 155, attributes := #[] }, { accessFlags := 10, nameIndex := 217, descriptorIndex := 218, attributes := #[] }, { accessFlags := 10, nameIndex := 221, descriptorIndex := 222, attributes := #[] }, { accessFlags := 8, nameIndex := 562, descriptorIndex := 563, attributes := #[] }])
  fields := #[{ name := "in", type := (.object "java/io/InputStream"), accessFlags := 25, slot := 0, constantValue := 0 }, { name := "out", type := (.object "java/io/PrintStream"), accessFlags := 25, slot := 1, constantValue := 0 }, { name := "err", type := (.object "java/io/PrintStream"), accessFlags := 25, slot := 2, constantValue := 0 }, { name := "initialIn", type := (.object "java/io/InputStream"), accessFlags := 10, slot := 3, constantValue := 0 }, { name := "NEVER", type := .int, accessFlags := 26, slot := 4, constantValue := 0 }, { name := "MAYBE", type := .int, accessFlags := 26, slot := 5, constantValue := 0 }, { name := "allowSecurityManager", type := .int, accessFlags := 10, slot := 6, constantValue := 0 }, { name := "security", type := (.object "java/lang/SecurityManager"), accessFlags := 74, slot := 7, constantValue := 0 }, { name := "notSupportedJnuEncoding", type := (.object "java/lang/String"), accessFlags := 10, slot := 8, constantValue := 0 }, { name := "cons", type := (.object "java/io/Console"), accessFlags := 74, slot := 9, constantValue := 0 }, { name := "initialErrStream", type := (.object "java/io/PrintStream"), accessFlags := 74, slot := 10, constantValue := 0 }, { name := "props", type := (.object "java/util/Properties"), accessFlags := 10, slot := 11, constantValue := 0 }, { name := "lineSeparator", type := (.object "java/lang/String"), accessFlags := 10, slot := 12, constantValue := 0 }, { name := "bootLayer", type := (.object "java/lang/ModuleLayer"), accessFlags := 8, slot := 13, constantValue := 0 }]
  methods := #[k17m0, k17m1]
  instanceTypes := #[]
  staticTypes := #[(.object "java/io/InputStream"), (.object "java/io/PrintStream"), (.object "java/io/PrintStream"), (.object "java/io/InputStream"), .int, .int, .int, (.object "java/lang/SecurityManager"), (.object "java/lang/String"), (.object "java/io/Console"), (.object "java/io/PrintStream"), (.object "java/util/Properties"), (.object "java/lang/String"), (.object "java/lang/ModuleLayer")]
  resolved := Array.replicate 834 none
  statics := none }

def pool18 : Array CpInfo := pool [(2, .class_ 4), (1, u "java/lang/Object"), (0, u "<init>"), (0, u "()V"), (7, .class_ 16), (1, u "java/util/Arrays"), (57, .class_ 76), (1, u "java/util/Arrays$NaturalOrder"), (36, .class_ 115), (1, u "java/util/Arrays$LegacyMergeSort"), (1, u "Z"), (21, u "copyOfRange"), (10, .methodref 151 152), (0, .class_ 153), (0, .nameAndType 154 155), (0, u "java/lang/System"), (0, u "arraycopy"), (0, u "(Ljava/lang/Object;ILjava/lang/Object;II)V"), (148, .methodref 305 306), (0, .class_ 307), (0, .nameAndType 308 309), (0, u "java/lang/Math"), (0, u "min"), (0, u "(II)I"), (29, .methodref 14 340), (0, .nameAndType 341 342), (0, u "copyOfRangeByte"), (0, u "([BII)[B"), (0, .methodref 14 344), (0, .nameAndType 345 346), (0, u "checkLength"), (0, u "(II)V"), (28, .class_ 376), (0, u "java/util/Arrays$ArrayList"), (68, u "$assertionsDisabled"), (269, u "MIN_ARRAY_SORT_GRAN"), (0, u "I"), (2, u "INSERTIONSORT_THRESHOLD"), (255, .class_ 976), (0, u "java/util/Arrays$ArrayItr")] 52

def k18m0 : Method := { name := "<init>", desc := "()V", sig := { parameters := [], returnType := none }, accessFlags := 2, code := none }
def k18c1 : Code := { maxStack := 4, maxLocals := 2, code := jdk_65_method_131_code, exceptionTable := #[], attributes := #[] }
def k18m1 : Method := { name := "checkLength", desc := "(II)V", sig := { parameters := [.int, .int], returnType := none }, accessFlags := 10, code := some k18c1 }
def k18c2 : Code := { maxStack := 3, maxLocals := 3, code := jdk_65_method_132_code, exceptionTable := #[], attributes := #[] }
def k18m2 : Method := { name := "copyOfRange", desc := "([BII)[B", sig := { parameters := [(.array .byte), .int, .int], returnType := some (.array .byte) }, accessFlags := 9, code := some k18c2 }
def k18c3 : Code := { maxStack := 6, maxLocals := 5, code := jdk_65_method_133_code, exceptionTable := #[], attributes := #[] }
def k18m3 : Method := { name := "copyOfRangeByte", desc := "([BII)[B", sig := { parameters := [(.array .byte), .int, .int], returnType := some (.array .byte) }, accessFlags := 10, code := some k18c3 }
/-- java/util/Arrays -/
def k18 : Class := { plain "java/util/Arrays" (some 0) with
  accessFlags := 49
  interfaces := #[]
  cf := some (fileOf pool18 14 #[.nestMembers #[975, 375, 113, 74]] #[{ accessFlags := 2, nameIndex := 5, descriptorIndex := 6, attributes := #[] }, { accessFlags := 10, nameIndex := 345, descriptorIndex := 346, attributes := #[] }, { accessFlags := 9, nameIndex := 139, descriptorIndex := 342, attributes := #[] }, { accessFlags := 10, nameIndex := 341, descriptorIndex := 342, attributes := #[] }] 49 2 #[] #[{ accessFlags := 26, nameIndex := 715, descriptorIndex := 716, attributes := #[] }, { accessFlags := 26, nameIndex := 719, descriptorIndex := 716, attributes := #[] }, { accessFlags := 4120, nameIndex := 445, descriptorIndex := 117, attributes := #[] }])
  fields := #[{ name := "MIN_ARRAY_SORT_GRAN", type := .int, accessFlags := 26, slot := 0, constantValue := 0 }, { name := "INSERTIONSORT_THRESHOLD", type := .int, accessFlags := 26, slot := 1, constantValue := 0 }, { name := "$assertionsDisabled", type := .boolean, accessFlags := 4120, slot := 2, constantValue := 0 }]
  methods := #[k18m0, k18m1, k18m2, k18m3]
  instanceTypes := #[]
  staticTypes := #[.int, .int, .boolean]
  resolved := Array.replicate 1029 none
  statics := none }

def pool19 : Array CpInfo := pool [(1, .class_ 2), (0, u "java/lang/Math"), (1, .class_ 6), (1, u "java/lang/Object"), (0, u "<init>"), (0, u "()V"), (89, .class_ 100), (1, u "java/lang/Math$RandomNumberGeneratorHolder"), (71, u "negativeZeroFloatBits"), (0, u "J"), (2, u "negativeZeroDoubleBits"), (24, u "min"), (43, u "$assertionsDisabled"), (0, u "Z"), (88, u "(II)I"), (2, u "twoToTheDoubleScaleDown"), (0, u "D"), (4, u "twoToTheDoubleScaleUp"), (9, u "E"), (3, u "PI"), (2, u "TAU"), (2, u "DEGREES_TO_RADIANS"), (0, u "RADIANS_TO_DEGREES")] 94

def k19m0 : Method := { name := "<init>", desc := "()V", sig := { parameters := [], returnType := none }, accessFlags := 2, code := none }
def k19c1 : Code := { maxStack := 2, maxLocals := 2, code := jdk_29_method_69_code, exceptionTable := #[], attributes := #[] }
def k19m1 : Method := { name := "min", desc := "(II)I", sig := { parameters := [.int, .int], returnType := some .int }, accessFlags := 9, code := some k19c1 }
/-- java/lang/Math -/
def k19 : Class := { plain "java/lang/Math" (some 0) with
  accessFlags := 49
  interfaces := #[]
  cf := some (fileOf pool19 1 #[.nestMembers #[98]] #[{ accessFlags := 2, nameIndex := 7, descriptorIndex := 8, attributes := #[] }, { accessFlags := 9, nameIndex := 201, descriptorIndex := 335, attributes := #[] }] 49 4 #[] #[{ accessFlags := 25, nameIndex := 354, descriptorIndex := 339, attributes := #[] }, { accessFlags := 25, nameIndex := 358, descriptorIndex := 339, attributes := #[] }, { accessFlags := 25, nameIndex := 361, descriptorIndex := 339, attributes := #[] }, { accessFlags := 26, nameIndex := 364, descriptorIndex := 339, attributes := #[] }, { accessFlags := 26, nameIndex := 365, descriptorIndex := 339, attributes := #[] }, { accessFlags := 26, nameIndex := 172, descriptorIndex := 173, attributes := #[] }, { accessFlags := 26, nameIndex := 176, descriptorIndex := 173, attributes := #[] }, { accessFlags := 8, nameIndex := 344, descriptorIndex := 339, attributes := #[] }, { accessFlags := 8, nameIndex := 338, descriptorIndex := 339, attributes := #[] }, { accessFlags := 4120, nameIndex := 245, descriptorIndex := 246, attributes := #[] }])
  fields := #[{ name := "E", type := .double, accessFlags := 25, slot := 0, constantValue := 0 }, { name := "PI", type := .double, accessFlags := 25, slot := 1, constantValue := 0 }, { name := "TAU", type := .double, accessFlags := 25, slot := 2, constantValue := 0 }, { name := "DEGREES_TO_RADIANS", type := .double, accessFlags := 26, slot := 3, constantValue := 0 }, { name := "RADIANS_TO_DEGREES", type := .double, accessFlags := 26, slot := 4, constantValue := 0 }, { name := "negativeZeroFloatBits", type := .long, accessFlags := 26, slot := 5, constantValue := 0 }, { name := "negativeZeroDoubleBits", type := .long, accessFlags := 26, slot := 6, constantValue := 0 }, { name := "twoToTheDoubleScaleUp", type := .double, accessFlags := 8, slot := 7, constantValue := 0 }, { name := "twoToTheDoubleScaleDown", type := .double, accessFlags := 8, slot := 8, constantValue := 0 }, { name := "$assertionsDisabled", type := .boolean, accessFlags := 4120, slot := 9, constantValue := 0 }]
  methods := #[k19m0, k19m1]
  instanceTypes := #[]
  staticTypes := #[.double, .double, .double, .double, .double, .long, .long, .double, .double, .boolean]
  resolved := Array.replicate 460 none
  statics := none }

def pool20 : Array CpInfo := pool [(6, .class_ 8), (1, u "java/lang/Object"), (0, u "<init>"), (0, u "()V"), (1, .class_ 14), (1, u "java/lang/StringUTF16"), (31, u "$assertionsDisabled"), (0, u "Z"), (13, u "HI_BYTE_SHIFT"), (0, u "I"), (2, u "LO_BYTE_SHIFT"), (49, .methodref 12 116), (0, .nameAndType 117 118), (0, u "compress"), (0, u "([CI[BII)I"), (3, u "([CII)[B"), (138, u "coderFromArrayLen"), (0, u "([BI)B"), (106, .class_ 371), (1, u "java/lang/StringUTF16$LinesSpliterator"), (58, u "MAX_LENGTH"), (196, .class_ 628), (0, u "java/lang/StringUTF16$CodePointsSpliterator"), (0, .class_ 630), (0, u "java/lang/StringUTF16$CharsSpliterator")] 4

def k20m0 : Method := { name := "<init>", desc := "()V", sig := { parameters := [], returnType := none }, accessFlags := 0, code := none }
def k20c1 : Code := { maxStack := 2, maxLocals := 2, code := jdk_52_method_15_code, exceptionTable := #[], attributes := #[] }
def k20m1 : Method := { name := "coderFromArrayLen", desc := "([BI)B", sig := { parameters := [(.array .byte), .int], returnType := some .byte }, accessFlags := 8, code := some k20c1 }
def k20c2 : Code := { maxStack := 5, maxLocals := 6, code := jdk_52_method_16_code, exceptionTable := #[], attributes := #[] }
def k20m2 : Method := { name := "compress", desc := "([CII)[B", sig := { parameters := [(.array .char), .int, .int], returnType := some (.array .byte) }, accessFlags := 9, code := some k20c2 }
def k20c3 : Code := { maxStack := 3, maxLocals := 7, code := jdk_52_method_21_code, exceptionTable := #[], attributes := #[] }
def k20m3 : Method := { name := "compress", desc := "([CI[BII)I", sig := { parameters := [(.array .char), .int, (.array .byte), .int, .int], returnType := some .int }, accessFlags := 9, code := some k20c3 }
/-- java/lang/StringUTF16 -/
def k20 : Class := { plain "java/lang/StringUTF16" (some 0) with
  accessFlags := 48
  interfaces := #[]
  cf := some (fileOf pool20 12 #[.nestMembers #[627, 629, 369]] #[{ accessFlags := 0, nameIndex := 9, descriptorIndex := 10, attributes := #[] }, { accessFlags := 8, nameIndex := 261, descriptorIndex := 262, attributes := #[] }, { accessFlags := 9, nameIndex := 117, descriptorIndex := 122, attributes := #[] }, { accessFlags := 9, nameIndex := 117, descriptorIndex := 118, attributes := #[] }] 48 6 #[] #[{ accessFlags := 26, nameIndex := 61, descriptorIndex := 62, attributes := #[] }, { accessFlags := 26, nameIndex := 65, descriptorIndex := 62, attributes := #[] }, { accessFlags := 24, nameIndex := 430, descriptorIndex := 62, attributes := #[] }, { accessFlags := 4120, nameIndex := 46, descriptorIndex := 47, attributes := #[] }])
  fields := #[{ name := "HI_BYTE_SHIFT", type := .int, accessFlags := 26, slot := 0, constantValue := 0 }, { name := "LO_BYTE_SHIFT", type := .int, accessFlags := 26, slot := 1, constantValue := 0 }, { name := "MAX_LENGTH", type := .int, accessFlags := 24, slot := 2, constantValue := 0 }, { name := "$assertionsDisabled", type := .boolean, accessFlags := 4120, slot := 3, constantValue := 0 }]
  methods := #[k20m0, k20m1, k20m2, k20m3]
  instanceTypes := #[]
  staticTypes := #[.int, .int, .int, .boolean]
  resolved := Array.replicate 635 none
  statics := none }

def pool21 : Array CpInfo := pool [(2, .class_ 4), (1, u "java/lang/Object"), (0, u "<init>"), (0, u "()V"), (17, .class_ 26), (1, u "jdk/internal/util/Preconditions"), (28, .class_ 56), (0, u "jdk/internal/util/Preconditions$4"), (57, .class_ 115), (0, u "jdk/internal/util/Preconditions$1"), (7, u "SIOOBE_FORMATTER"), (0, u "Ljava/util/function/BiFunction;"), (0, .class_ 126), (0, u "jdk/internal/util/Preconditions$2"), (3, u "AIOOBE_FORMATTER"), (0, .class_ 132), (0, u "jdk/internal/util/Preconditions$3"), (3, u "IOOBE_FORMATTER")] 57

def k21m0 : Method := { name := "<init>", desc := "()V", sig := { parameters := [], returnType := none }, accessFlags := 1, code := none }
/-- jdk/internal/util/Preconditions -/
def k21 : Class := { plain "jdk/internal/util/Preconditions" (some 0) with
  accessFlags := 33
  interfaces := #[]
  cf := some (fileOf pool21 24 #[.nestMembers #[55, 131, 125, 114]] #[{ accessFlags := 1, nameIndex := 5, descriptorIndex := 6, attributes := #[] }] 33 2 #[] #[{ accessFlags := 25, nameIndex := 123, descriptorIndex := 124, attributes := #[] }, { accessFlags := 25, nameIndex := 130, descriptorIndex := 124, attributes := #[] }, { accessFlags := 25, nameIndex := 136, descriptorIndex := 124, attributes := #[] }])
  fields := #[{ name := "SIOOBE_FORMATTER", type := (.object "java/util/function/BiFunction"), accessFlags := 25, slot := 0, constantValue := 0 }, { name := "AIOOBE_FORMATTER", type := (.object "java/util/function/BiFunction"), accessFlags := 25, slot := 1, constantValue := 0 }, { name := "IOOBE_FORMATTER", type := (.object "java/util/function/BiFunction"), accessFlags := 25, slot := 2, constantValue := 0 }]
  methods := #[k21m0]
  instanceTypes := #[]
  staticTypes := #[(.object "java/util/function/BiFunction"), (.object "java/util/function/BiFunction"), (.object "java/util/function/BiFunction")]
  resolved := Array.replicate 194 none
  statics := some 2 }

def pool22 : Array CpInfo := pool [(9, u "<init>"), (6, .class_ 18), (1, u "java/lang/Object"), (0, u "()V"), (1, .class_ 23), (1, u "jdk/internal/util/ArraysSupport"), (0, u "LOG2_ARRAY_LONG_INDEX_SCALE"), (0, u "I"), (2, u "U"), (0, u "Ljdk/internal/misc/Unsafe;"), (8, u "BIG_ENDIAN"), (0, u "Z"), (8, u "LOG2_BYTE_BIT_SIZE"), (4, u "LOG2_ARRAY_INT_INDEX_SCALE"), (54, u "JLA"), (0, u "Ljdk/internal/access/JavaLangAccess;"), (11, u "LOG2_ARRAY_BOOLEAN_INDEX_SCALE"), (9, u "LOG2_ARRAY_BYTE_INDEX_SCALE"), (5, u "LOG2_ARRAY_CHAR_INDEX_SCALE"), (5, u "LOG2_ARRAY_SHORT_INDEX_SCALE"), (18, u "LOG2_ARRAY_FLOAT_INDEX_SCALE"), (24, u "LOG2_ARRAY_DOUBLE_INDEX_SCALE"), (89, u "T_BOOLEAN"), (2, u "T_CHAR"), (1, u "T_FLOAT"), (1, u "T_DOUBLE"), (1, u "T_BYTE"), (1, u "T_SHORT"), (1, u "T_INT"), (1, u "T_LONG"), (1, u "SOFT_MAX_ARRAY_LENGTH")] 83

def k22m0 : Method := { name := "<init>", desc := "()V", sig := { parameters := [], returnType := none }, accessFlags := 2, code := none }
/-- jdk/internal/util/ArraysSupport -/
def k22 : Class := { plain "jdk/internal/util/ArraysSupport" (some 0) with
  accessFlags := 33
  interfaces := #[]
  cf := some (fileOf pool22 21 #[] #[{ accessFlags := 2, nameIndex := 9, descriptorIndex := 19, attributes := #[] }] 33 16 #[] #[{ accessFlags := 24, nameIndex := 28, descriptorIndex := 29, attributes := #[] }, { accessFlags := 26, nameIndex := 38, descriptorIndex := 39, attributes := #[] }, { accessFlags := 25, nameIndex := 121, descriptorIndex := 25, attributes := #[] }, { accessFlags := 25, nameIndex := 131, descriptorIndex := 25, attributes := #[] }, { accessFlags := 25, nameIndex := 137, descriptorIndex := 25, attributes := #[] }, { accessFlags := 25, nameIndex := 143, descriptorIndex := 25, attributes := #[] }, { accessFlags := 25, nameIndex := 53, descriptorIndex := 25, attributes := #[] }, { accessFlags := 25, nameIndex := 24, descriptorIndex := 25, attributes := #[] }, { accessFlags := 25, nameIndex := 162, descriptorIndex := 25, attributes := #[] }, { accessFlags := 25, nameIndex := 187, descriptorIndex := 25, attributes := #[] }, { accessFlags := 26, nameIndex := 48, descriptorIndex := 25, attributes := #[] }, { accessFlags := 25, nameIndex := 277, descriptorIndex := 25, attributes := #[] }, { accessFlags := 25, nameIndex := 280, descriptorIndex := 25, attributes := #[] }, { accessFlags := 25, nameIndex := 282, descriptorIndex := 25, attributes := #[] }, { accessFlags := 25, nameIndex := 284, descriptorIndex := 25, attributes := #[] }, { accessFlags := 25, nameIndex := 286, descriptorIndex := 25, attributes := #[] }, { accessFlags := 25, nameIndex := 288, descriptorIndex := 25, attributes := #[] }, { accessFlags := 25, nameIndex := 290, descriptorIndex := 25, attributes := #[] }, { accessFlags := 25, nameIndex := 292, descriptorIndex := 25, attributes := #[] }, { accessFlags := 26, nameIndex := 108, descriptorIndex := 109, attributes := #[] }, { accessFlags := 25, nameIndex := 294, descriptorIndex := 25, attributes := #[] }])
  fields := #[{ name := "U", type := (.object "jdk/internal/misc/Unsafe"), accessFlags := 24, slot := 0, constantValue := 0 }, { name := "BIG_ENDIAN", type := .boolean, accessFlags := 26, slot := 1, constantValue := 0 }, { name := "LOG2_ARRAY_BOOLEAN_INDEX_SCALE", type := .int, accessFlags := 25, slot := 2, constantValue := 0 }, { name := "LOG2_ARRAY_BYTE_INDEX_SCALE", type := .int, accessFlags := 25, slot := 3, constantValue := 0 }, { name := "LOG2_ARRAY_CHAR_INDEX_SCALE", type := .int, accessFlags := 25, slot := 4, constantValue := 0 }, { name := "LOG2_ARRAY_SHORT_INDEX_SCALE", type := .int, accessFlags := 25, slot := 5, constantValue := 0 }, { name := "LOG2_ARRAY_INT_INDEX_SCALE", type := .int, accessFlags := 25, slot := 6, constantValue := 0 }, { name := "LOG2_ARRAY_LONG_INDEX_SCALE", type := .int, accessFlags := 25, slot := 7, constantValue := 0 }, { name := "LOG2_ARRAY_FLOAT_INDEX_SCALE", type := .int, accessFlags := 25, slot := 8, constantValue := 0 }, { name := "LOG2_ARRAY_DOUBLE_INDEX_SCALE", type := .int, accessFlags := 25, slot := 9, constantValue := 0 }, { name := "LOG2_BYTE_BIT_SIZE", type := .int, accessFlags := 26, slot := 10, constantValue := 0 }, { name := "T_BOOLEAN", type := .int, accessFlags := 25, slot := 11, constantValue := 0 }, { name := "T_CHAR", type := .int, accessFlags := 25, slot := 12, constantValue := 0 }, { name := "T_FLOAT", type := .int, accessFlags := 25, slot := 13, constantValue := 0 }, { name := "T_DOUBLE", type := .int, accessFlags := 25, slot := 14, constantValue := 0 }, { name := "T_BYTE", type := .int, accessFlags := 25, slot := 15, constantValue := 0 }, { name := "T_SHORT", type := .int, accessFlags := 25, slot := 16, constantValue := 0 }, { name := "T_INT", type := .int, accessFlags := 25, slot := 17, constantValue := 0 }, { name := "T_LONG", type := .int, accessFlags := 25, slot := 18, constantValue := 0 }, { name := "JLA", type := (.object "jdk/internal/access/JavaLangAccess"), accessFlags := 26, slot := 19, constantValue := 0 }, { name := "SOFT_MAX_ARRAY_LENGTH", type := .int, accessFlags := 25, slot := 20, constantValue := 0 }]
  methods := #[k22m0]
  instanceTypes := #[]
  staticTypes := #[(.object "jdk/internal/misc/Unsafe"), .boolean, .int, .int, .int, .int, .int, .int, .int, .int, .int, .int, .int, .int, .int, .int, .int, .int, .int, (.object "jdk/internal/access/JavaLangAccess"), .int]
  resolved := Array.replicate 378 none
  statics := none }

def pool23 : Array CpInfo := pool [(1, u "java/lang/Cloneable"), (0, .class_ 1), (0, u "java/lang/Object"), (0, .class_ 3)] 3

/-- java/lang/Cloneable -/
def k23 : Class := { plain "java/lang/Cloneable" (some 0) with
  accessFlags := 1537
  interfaces := #[]
  cf := some (fileOf pool23 2 #[] #[] 1537 4 #[] #[])
  fields := #[]
  methods := #[]
  instanceTypes := #[]
  staticTypes := #[]
  resolved := Array.replicate 8 none
  statics := none }

/-- the primitive byte -/
def k24 : Class := { plain "byte" none with kind := .primitive 'B', accessFlags := 0x411 }
/-- [B -/
def k25 : Class := { plain "[B" (some 0) with kind := .array 24 .byte, interfaces := #[23, 2], accessFlags := 1041 }

/-- the primitive char -/
def k26 : Class := { plain "char" none with kind := .primitive 'C', accessFlags := 0x411 }
/-- [C -/
def k27 : Class := { plain "[C" (some 0) with kind := .array 26 .char, interfaces := #[23, 2], accessFlags := 1041 }

/-- the primitive int -/
def k28 : Class := { plain "int" none with kind := .primitive 'I', accessFlags := 0x411 }
/-- [I -/
def k29 : Class := { plain "[I" (some 0) with kind := .array 28 .int, interfaces := #[23, 2], accessFlags := 1041 }

def heap : Heap := #[{ cls := 7, slots := #[.long 0, .int 1, .null, .int 0, .null, .int 0, .int 0], vm := .statics 7 },
  { cls := 12, slots := #[.ref 3], vm := .statics 12 },
  { cls := 21, slots := #[.null, .null, .null], vm := .statics 21 },
  { cls := 12, slots := #[.null], vm := .none }]
def classes : Array Class := #[k0, k1, k2, k3, k4, k5, k6, k7, k8, k9, k10, k11, k12, k13, k14, k15, k16, k17, k18, k19, k20, k21, k22, k23, k24, k25, k26, k27, k28, k29]
def interned : List (Array UInt16 × Addr) := []
def slotsUsed : Nat := 12
def theMethod : MethodId := ⟨1, 1⟩
def args0 : Array Value := #[.int 5, .int 5, .int 5, .int 5, .int 5, .int 5]
def aboutOver (below : List Frame) : State where
  vm := { classes := classes, interned := interned.toArray }
  heap := heap
  slotsUsed := slotsUsed
  threads := #[{ frames := .invoking theMethod args0 :: below }]
def below0 : List Frame := [.native { method := ⟨0, 0⟩, args := #[] }]
def about1 : State := aboutOver below0
def p0 : Program := .bare "" "" ""
def e0 : Env := launch0.env 0 0 0
theorem w_frames : about1.frames = Frame.invoking theMethod args0 :: below0 := rfl
set_option maxRecDepth 65536 in
theorem w_args : argsFit about1.vm theMethod args0 = true := by decide +kernel
set_option maxRecDepth 65536 in
theorem w_heap : heapFits about1 = true := by decide +kernel
set_option maxRecDepth 65536 in
theorem w_runnable : about1.curStatus? = some .runnable := by decide +kernel
set_option maxRecDepth 65536 in
theorem w_alone : about1.alone = true := by decide +kernel
set_option maxRecDepth 65536 in
theorem w_named : about1.methodNamed? x = some theMethod := by decide +kernel
set_option maxRecDepth 65536 in
theorem w_hears : about1.hears theMethod below0 = true := by decide +kernel
set_option maxRecDepth 65536 in
theorem w_ripe : about1.ripe theMethod args0 below0 = true := by decide +kernel
theorem w_running : about1.status = .running := rfl
set_option maxRecDepth 65536 in
theorem w_room : about1.hasRoom e0.platform room_1 = true :=
  launch0.hasRoom_least _ room_1 (by decide +kernel) (by decide +kernel) (by decide +kernel) (by decide +kernel) (by decide +kernel) (by decide +kernel)
theorem allAtoms_all (ts : List Jvm.Cond) (a : Array Jvm.Value) (st : Jvm.State) : (allAtoms ts).before a st = ts.all (fun c => c.before a st) := by
  induction ts with
  | nil => rfl
  | cons c t ih =>
    show (Jvm.Cond.and c (allAtoms t)).before a st = _
    rw [Jvm.Cond.before_and, ih, List.all_cons]
def words1 : List Jvm.Cond := Jvm.Cond.code x code maxLocals ret :: tables_1
/-- a 'code' word, met by the world's own term for the bytes: nothing is compared byte by byte -/
theorem code_word {y : MethodName} {bytes : ByteArray} {mx : Nat} {rt : Option FieldType} {a : Array Value} {s : State} {m : MethodId} {meth : Method} {c : Code} (h1 : s.methodNamed? y = some m) (h2 : s.vm.method? m = some meth) (h3 : meth.code = some c) (h4 : c.code = bytes)
    (h5 : (c.maxLocals == mx && c.exceptionTable.isEmpty && decide (c.maxStack ≤ mostOperands) && decide (meth.sig.returnType = rt) && !meth.locks && decide (parseMethodDescriptor y.desc = some meth.sig)) = true) : (Jvm.Cond.code y bytes mx rt).before a s = true := by
  simp only [Bool.and_eq_true, beq_iff_eq, Bool.not_eq_true', decide_eq_true_eq] at h5
  obtain ⟨⟨⟨⟨⟨g1, g2⟩, g3⟩, g4⟩, g5⟩, g6⟩ := h5
  simp [Cond.before, Cond.holds, Cond.value, h1, h2, h3, h4, g1, g2, g3, g4, g5, g6]
def isCode : Jvm.Cond → Bool
  | .code _ _ _ _ => true
  | _ => false
theorem all_split {L : List Jvm.Cond} {P : Jvm.Cond → Bool} (h1 : L.all (fun c => isCode c || P c) = true) (h2 : ∀ c ∈ L.filter isCode, P c = true) : L.all P = true := by
  refine List.all_eq_true.mpr fun c hc => ?_
  have h := List.all_eq_true.mp h1 c hc
  rcases Bool.eq_false_or_eq_true (isCode c) with hi | hi
  · exact h2 c (List.mem_filter.mpr ⟨hc, hi⟩)
  · simpa [hi] using h
set_option maxRecDepth 65536 in
theorem w_c0 : (Jvm.Cond.code x code maxLocals ret).before args0 about1 = true := code_word (m := ⟨1, 1⟩) (meth := k1m1) (c := k1c1) (by decide +kernel) rfl rfl rfl (by decide +kernel)
set_option maxRecDepth 65536 in
theorem w_c1 : (Jvm.Cond.code ({ cls := "java/lang/String", name := "<init>", desc := "([C)V" } : Jvm.MethodName) jdk_42_method_3_code (2 : Nat) (Option.none : Option Jvm.ClassFile.FieldType)).before args0 about1 = true := code_word (m := ⟨7, 1⟩) (meth := k7m1) (c := k7c1) (by decide +kernel) rfl rfl rfl (by decide +kernel)
set_option maxRecDepth 65536 in
theorem w_c2 : (Jvm.Cond.code ({ cls := "java/lang/String", name := "<init>", desc := "([CIILjava/lang/Void;)V" } : Jvm.MethodName) jdk_42_method_149_code (6 : Nat) (Option.none : Option Jvm.ClassFile.FieldType)).before args0 about1 = true := code_word (m := ⟨7, 7⟩) (meth := k7m7) (c := k7c7) (by decide +kernel) rfl rfl rfl (by decide +kernel)
set_option maxRecDepth 65536 in
theorem w_c3 : (Jvm.Cond.code ({ cls := "java/lang/Object", name := "<init>", desc := "()V" } : Jvm.MethodName) object_method_1_code (1 : Nat) (Option.none : Option Jvm.ClassFile.FieldType)).before args0 about1 = true := code_word (m := ⟨0, 0⟩) (meth := k0m0) (c := k0c0) (by decide +kernel) rfl rfl rfl (by decide +kernel)
set_option maxRecDepth 65536 in
theorem w_c4 : (Jvm.Cond.code ({ cls := "java/lang/String", name := "valueOf", desc := "(C)Ljava/lang/String;" } : Jvm.MethodName) jdk_42_method_139_code (1 : Nat) (Option.some (Jvm.ClassFile.FieldType.object "java/lang/String"))).before args0 about1 = true := code_word (m := ⟨7, 5⟩) (meth := k7m5) (c := k7c5) (by decide +kernel) rfl rfl rfl (by decide +kernel)
set_option maxRecDepth 65536 in
theorem w_c5 : (Jvm.Cond.code ({ cls := "java/lang/StringLatin1", name := "canEncode", desc := "(C)Z" } : Jvm.MethodName) jdk_43_method_3_code (1 : Nat) (Option.some Jvm.ClassFile.FieldType.boolean)).before args0 about1 = true := code_word (m := ⟨8, 1⟩) (meth := k8m1) (c := k8c1) (by decide +kernel) rfl rfl rfl (by decide +kernel)
set_option maxRecDepth 65536 in
theorem w_c6 : (Jvm.Cond.code ({ cls := "java/lang/StringLatin1", name := "toBytes", desc := "(C)[B" } : Jvm.MethodName) jdk_43_method_46_code (1 : Nat) (Option.some (Jvm.ClassFile.FieldType.array Jvm.ClassFile.FieldType.byte))).before args0 about1 = true := code_word (m := ⟨8, 3⟩) (meth := k8m3) (c := k8c3) (by decide +kernel) rfl rfl rfl (by decide +kernel)
set_option maxRecDepth 65536 in
theorem w_c7 : (Jvm.Cond.code ({ cls := "java/lang/String", name := "<init>", desc := "([BB)V" } : Jvm.MethodName) jdk_42_method_151_code (3 : Nat) (Option.none : Option Jvm.ClassFile.FieldType)).before args0 about1 = true := code_word (m := ⟨7, 9⟩) (meth := k7m9) (c := k7c9) (by decide +kernel) rfl rfl rfl (by decide +kernel)
set_option maxRecDepth 65536 in
theorem w_c8 : (Jvm.Cond.code ({ cls := "com/example/stanchion/stanchion/changelog/Sql", name := "<init>", desc := "(Ljava/lang/String;Ljava/lang/String;ZLjava/lang/String;ZLcom/example/stanchion/stanchion/changelog/Dbms;)V" } : Jvm.MethodName) prog_20_method_1_code (7 : Nat) (Option.none : Option Jvm.ClassFile.FieldType)).before args0 about1 = true := code_word (m := ⟨11, 0⟩) (meth := k11m0) (c := k11c0) (by decide +kernel) rfl rfl rfl (by decide +kernel)
set_option maxRecDepth 65536 in
theorem w_c9 : (Jvm.Cond.code ({ cls := "java/lang/Record", name := "<init>", desc := "()V" } : Jvm.MethodName) jdk_30_method_1_code (1 : Nat) (Option.none : Option Jvm.ClassFile.FieldType)).before args0 about1 = true := code_word (m := ⟨9, 0⟩) (meth := k9m0) (c := k9c0) (by decide +kernel) rfl rfl rfl (by decide +kernel)
set_option maxRecDepth 65536 in
theorem w_c10 : (Jvm.Cond.code ({ cls := "java/util/Objects", name := "requireNonNull", desc := "(Ljava/lang/Object;Ljava/lang/String;)Ljava/lang/Object;" } : Jvm.MethodName) jdk_31_method_11_code (2 : Nat) (Option.some (Jvm.ClassFile.FieldType.object "java/lang/Object"))).before args0 about1 = true := code_word (m := ⟨13, 1⟩) (meth := k13m1) (c := k13c1) (by decide +kernel) rfl rfl rfl (by decide +kernel)
set_option maxRecDepth 65536 in
theorem w_c11 : (Jvm.Cond.code ({ cls := "com/example/stanchion/stanchion/changelog/Sql", name := "description", desc := "()Ljava/lang/String;" } : Jvm.MethodName) prog_20_method_2_code (1 : Nat) (Option.some (Jvm.ClassFile.FieldType.object "java/lang/String"))).before args0 about1 = true := code_word (m := ⟨11, 1⟩) (meth := k11m1) (c := k11c1) (by decide +kernel) rfl rfl rfl (by decide +kernel)
set_option maxRecDepth 65536 in
theorem w_c12 : (Jvm.Cond.code ({ cls := "java/lang/StringBuilder", name := "<init>", desc := "()V" } : Jvm.MethodName) jdk_67_method_1_code (1 : Nat) (Option.none : Option Jvm.ClassFile.FieldType)).before args0 about1 = true := code_word (m := ⟨16, 0⟩) (meth := k16m0) (c := k16c0) (by decide +kernel) rfl rfl rfl (by decide +kernel)
set_option maxRecDepth 65536 in
theorem w_c13 : (Jvm.Cond.code ({ cls := "java/lang/AbstractStringBuilder", name := "<init>", desc := "(I)V" } : Jvm.MethodName) jdk_68_method_2_code (2 : Nat) (Option.none : Option Jvm.ClassFile.FieldType)).before args0 about1 = true := code_word (m := ⟨15, 1⟩) (meth := k15m1) (c := k15c1) (by decide +kernel) rfl rfl rfl (by decide +kernel)
set_option maxRecDepth 65536 in
theorem w_c14 : (Jvm.Cond.code ({ cls := "java/lang/StringBuilder", name := "append", desc := "(Ljava/lang/String;)Ljava/lang/StringBuilder;" } : Jvm.MethodName) jdk_67_method_7_code (2 : Nat) (Option.some (Jvm.ClassFile.FieldType.object "java/lang/StringBuilder"))).before args0 about1 = true := code_word (m := ⟨16, 1⟩) (meth := k16m1) (c := k16c1) (by decide +kernel) rfl rfl rfl (by decide +kernel)
set_option maxRecDepth 65536 in
theorem w_c15 : (Jvm.Cond.code ({ cls := "java/lang/AbstractStringBuilder", name := "append", desc := "(Ljava/lang/String;)Ljava/lang/AbstractStringBuilder;" } : Jvm.MethodName) jdk_68_method_22_code (3 : Nat) (Option.some (Jvm.ClassFile.FieldType.object "java/lang/AbstractStringBuilder"))).before args0 about1 = true := code_word (m := ⟨15, 4⟩) (meth := k15m4) (c := k15c4) (by decide +kernel) rfl rfl rfl (by decide +kernel)
set_option maxRecDepth 65536 in
theorem w_c16 : (Jvm.Cond.code ({ cls := "java/lang/String", name := "length", desc := "()I" } : Jvm.MethodName) jdk_42_method_54_code (1 : Nat) (Option.some Jvm.ClassFile.FieldType.int)).before args0 about1 = true := code_word (m := ⟨7, 3⟩) (meth := k7m3) (c := k7c3) (by decide +kernel) rfl rfl rfl (by decide +kernel)
set_option maxRecDepth 65536 in
theorem w_c17 : (Jvm.Cond.code ({ cls := "java/lang/String", name := "coder", desc := "()B" } : Jvm.MethodName) jdk_42_method_152_code (1 : Nat) (Option.some Jvm.ClassFile.FieldType.byte)).before args0 about1 = true := code_word (m := ⟨7, 10⟩) (meth := k7m10) (c := k7c10) (by decide +kernel) rfl rfl rfl (by decide +kernel)
set_option maxRecDepth 65536 in
theorem w_c18 : (Jvm.Cond.code ({ cls := "java/lang/AbstractStringBuilder", name := "ensureCapacityInternal", desc := "(I)V" } : Jvm.MethodName) jdk_68_method_9_code (3 : Nat) (Option.none : Option Jvm.ClassFile.FieldType)).before args0 about1 = true := code_word (m := ⟨15, 3⟩) (meth := k15m3) (c := k15c3) (by decide +kernel) rfl rfl rfl (by decide +kernel)
set_option maxRecDepth 65536 in
theorem w_c19 : (Jvm.Cond.code ({ cls := "java/lang/AbstractStringBuilder", name := "putStringAt", desc := "(ILjava/lang/String;)V" } : Jvm.MethodName) jdk_68_method_73_code (3 : Nat) (Option.none : Option Jvm.ClassFile.FieldType)).before args0 about1 = true := code_word (m := ⟨15, 8⟩) (meth := k15m8) (c := k15c8) (by decide +kernel) rfl rfl rfl (by decide +kernel)
set_option maxRecDepth 65536 in
theorem w_c20 : (Jvm.Cond.code ({ cls := "java/lang/AbstractStringBuilder", name := "inflateIfNeededFor", desc := "(Ljava/lang/String;)V" } : Jvm.MethodName) jdk_68_method_71_code (2 : Nat) (Option.none : Option Jvm.ClassFile.FieldType)).before args0 about1 = true := code_word (m := ⟨15, 7⟩) (meth := k15m7) (c := k15c7) (by decide +kernel) rfl rfl rfl (by decide +kernel)
set_option maxRecDepth 65536 in
theorem w_c21 : (Jvm.Cond.code ({ cls := "java/lang/String", name := "getBytes", desc := "([BIB)V" } : Jvm.MethodName) jdk_42_method_147_code (4 : Nat) (Option.none : Option Jvm.ClassFile.FieldType)).before args0 about1 = true := code_word (m := ⟨7, 6⟩) (meth := k7m6) (c := k7c6) (by decide +kernel) rfl rfl rfl (by decide +kernel)
set_option maxRecDepth 65536 in
theorem w_c22 : (Jvm.Cond.code ({ cls := "java/lang/StringBuilder", name := "toString", desc := "()Ljava/lang/String;" } : Jvm.MethodName) jdk_67_method_42_code (1 : Nat) (Option.some (Jvm.ClassFile.FieldType.object "java/lang/String"))).before args0 about1 = true := code_word (m := ⟨16, 2⟩) (meth := k16m2) (c := k16c2) (by decide +kernel) rfl rfl rfl (by decide +kernel)
set_option maxRecDepth 65536 in
theorem w_c23 : (Jvm.Cond.code ({ cls := "java/lang/String", name := "<init>", desc := "(Ljava/lang/StringBuilder;)V" } : Jvm.MethodName) jdk_42_method_53_code (2 : Nat) (Option.none : Option Jvm.ClassFile.FieldType)).before args0 about1 = true := code_word (m := ⟨7, 2⟩) (meth := k7m2) (c := k7c2) (by decide +kernel) rfl rfl rfl (by decide +kernel)
set_option maxRecDepth 65536 in
theorem w_c24 : (Jvm.Cond.code ({ cls := "java/lang/String", name := "<init>", desc := "(Ljava/lang/AbstractStringBuilder;Ljava/lang/Void;)V" } : Jvm.MethodName) jdk_42_method_150_code (5 : Nat) (Option.none : Option Jvm.ClassFile.FieldType)).before args0 about1 = true := code_word (m := ⟨7, 8⟩) (meth := k7m8) (c := k7c8) (by decide +kernel) rfl rfl rfl (by decide +kernel)
set_option maxRecDepth 65536 in
theorem w_c25 : (Jvm.Cond.code ({ cls := "java/lang/AbstractStringBuilder", name := "getValue", desc := "()[B" } : Jvm.MethodName) jdk_68_method_64_code (1 : Nat) (Option.some (Jvm.ClassFile.FieldType.array Jvm.ClassFile.FieldType.byte))).before args0 about1 = true := code_word (m := ⟨15, 5⟩) (meth := k15m5) (c := k15c5) (by decide +kernel) rfl rfl rfl (by decide +kernel)
set_option maxRecDepth 65536 in
theorem w_c26 : (Jvm.Cond.code ({ cls := "java/lang/StringBuilder", name := "length", desc := "()I" } : Jvm.MethodName) jdk_67_method_93_code (1 : Nat) (Option.some Jvm.ClassFile.FieldType.int)).before args0 about1 = true := code_word (m := ⟨16, 3⟩) (meth := k16m3) (c := k16c3) (by decide +kernel) rfl rfl rfl (by decide +kernel)
set_option maxRecDepth 65536 in
theorem w_c27 : (Jvm.Cond.code ({ cls := "java/lang/AbstractStringBuilder", name := "length", desc := "()I" } : Jvm.MethodName) jdk_68_method_6_code (1 : Nat) (Option.some Jvm.ClassFile.FieldType.int)).before args0 about1 = true := code_word (m := ⟨15, 2⟩) (meth := k15m2) (c := k15c2) (by decide +kernel) rfl rfl rfl (by decide +kernel)
set_option maxRecDepth 65536 in
theorem w_c28 : (Jvm.Cond.code ({ cls := "java/lang/AbstractStringBuilder", name := "isLatin1", desc := "()Z" } : Jvm.MethodName) jdk_68_method_68_code (1 : Nat) (Option.some Jvm.ClassFile.FieldType.boolean)).before args0 about1 = true := code_word (m := ⟨15, 6⟩) (meth := k15m6) (c := k15c6) (by decide +kernel) rfl rfl rfl (by decide +kernel)
set_option maxRecDepth 65536 in
theorem w_c29 : (Jvm.Cond.code ({ cls := "java/util/Arrays", name := "copyOfRange", desc := "([BII)[B" } : Jvm.MethodName) jdk_65_method_132_code (3 : Nat) (Option.some (Jvm.ClassFile.FieldType.array Jvm.ClassFile.FieldType.byte))).before args0 about1 = true := code_word (m := ⟨18, 2⟩) (meth := k18m2) (c := k18c2) (by decide +kernel) rfl rfl rfl (by decide +kernel)
set_option maxRecDepth 65536 in
theorem w_c30 : (Jvm.Cond.code ({ cls := "java/util/Arrays", name := "copyOfRangeByte", desc := "([BII)[B" } : Jvm.MethodName) jdk_65_method_133_code (5 : Nat) (Option.some (Jvm.ClassFile.FieldType.array Jvm.ClassFile.FieldType.byte))).before args0 about1 = true := code_word (m := ⟨18, 3⟩) (meth := k18m3) (c := k18c3) (by decide +kernel) rfl rfl rfl (by decide +kernel)
set_option maxRecDepth 65536 in
theorem w_c31 : (Jvm.Cond.code ({ cls := "java/util/Arrays", name := "checkLength", desc := "(II)V" } : Jvm.MethodName) jdk_65_method_131_code (2 : Nat) (Option.none : Option Jvm.ClassFile.FieldType)).before args0 about1 = true := code_word (m := ⟨18, 1⟩) (meth := k18m1) (c := k18c1) (by decide +kernel) rfl rfl rfl (by decide +kernel)
set_option maxRecDepth 65536 in
theorem w_c32 : (Jvm.Cond.code ({ cls := "java/lang/Math", name := "min", desc := "(II)I" } : Jvm.MethodName) jdk_29_method_69_code (2 : Nat) (Option.some Jvm.ClassFile.FieldType.int)).before args0 about1 = true := code_word (m := ⟨19, 1⟩) (meth := k19m1) (c := k19c1) (by decide +kernel) rfl rfl rfl (by decide +kernel)
set_option maxRecDepth 65536 in
theorem w_c33 : (Jvm.Cond.code ({ cls := "java/lang/String", name := "equals", desc := "(Ljava/lang/Object;)Z" } : Jvm.MethodName) jdk_42_method_66_code (3 : Nat) (Option.some Jvm.ClassFile.FieldType.boolean)).before args0 about1 = true := code_word (m := ⟨7, 4⟩) (meth := k7m4) (c := k7c4) (by decide +kernel) rfl rfl rfl (by decide +kernel)
set_option maxRecDepth 65536 in
theorem w_c34 : (Jvm.Cond.code ({ cls := "java/lang/StringLatin1", name := "equals", desc := "([B[B)Z" } : Jvm.MethodName) jdk_43_method_13_code (3 : Nat) (Option.some Jvm.ClassFile.FieldType.boolean)).before args0 about1 = true := code_word (m := ⟨8, 2⟩) (meth := k8m2) (c := k8c2) (by decide +kernel) rfl rfl rfl (by decide +kernel)
set_option maxRecDepth 65536 in
theorem w_c35 : (Jvm.Cond.code ({ cls := "java/lang/StringUTF16", name := "compress", desc := "([CII)[B" } : Jvm.MethodName) jdk_52_method_16_code (6 : Nat) (Option.some (Jvm.ClassFile.FieldType.array Jvm.ClassFile.FieldType.byte))).before args0 about1 = true := code_word (m := ⟨20, 2⟩) (meth := k20m2) (c := k20c2) (by decide +kernel) rfl rfl rfl (by decide +kernel)
set_option maxRecDepth 65536 in
theorem w_c36 : (Jvm.Cond.code ({ cls := "java/lang/StringUTF16", name := "compress", desc := "([CI[BII)I" } : Jvm.MethodName) jdk_52_method_21_code (7 : Nat) (Option.some Jvm.ClassFile.FieldType.int)).before args0 about1 = true := code_word (m := ⟨20, 3⟩) (meth := k20m3) (c := k20c3) (by decide +kernel) rfl rfl rfl (by decide +kernel)
set_option maxRecDepth 65536 in
theorem w_c37 : (Jvm.Cond.code ({ cls := "java/lang/StringUTF16", name := "coderFromArrayLen", desc := "([BI)B" } : Jvm.MethodName) jdk_52_method_15_code (2 : Nat) (Option.some Jvm.ClassFile.FieldType.byte)).before args0 about1 = true := code_word (m := ⟨20, 1⟩) (meth := k20m1) (c := k20c1) (by decide +kernel) rfl rfl rfl (by decide +kernel)
def codes1 : List Jvm.Cond := [Jvm.Cond.code x code maxLocals ret, Jvm.Cond.code ({ cls := "java/lang/String", name := "<init>", desc := "([C)V" } : Jvm.MethodName) jdk_42_method_3_code (2 : Nat) (Option.none : Option Jvm.ClassFile.FieldType), Jvm.Cond.code ({ cls := "java/lang/String", name := "<init>", desc := "([CIILjava/lang/Void;)V" } : Jvm.MethodName) jdk_42_method_149_code (6 : Nat) (Option.none : Option Jvm.ClassFile.FieldType), Jvm.Cond.code ({ cls := "java/lang/Object", name := "<init>", desc := "()V" } : Jvm.MethodName) object_method_1_code (1 : Nat) (Option.none : Option Jvm.ClassFile.FieldType), Jvm.Cond.code ({ cls := "java/lang/String", name := "valueOf", desc := "(C)Ljava/lang/String;" } : Jvm.MethodName) jdk_42_method_139_code (1 : Nat) (Option.some (Jvm.ClassFile.FieldType.object "java/lang/String")), Jvm.Cond.code ({ cls := "java/lang/StringLatin1", name := "canEncode", desc := "(C)Z" } : Jvm.MethodName) jdk_43_method_3_code (1 : Nat) (Option.some Jvm.ClassFile.FieldType.boolean), Jvm.Cond.code ({ cls := "java/lang/StringLatin1", name := "toBytes", desc := "(C)[B" } : Jvm.MethodName) jdk_43_method_46_code (1 : Nat) (Option.some (Jvm.ClassFile.FieldType.array Jvm.ClassFile.FieldType.byte)), Jvm.Cond.code ({ cls := "java/lang/String", name := "<init>", desc := "([BB)V" } : Jvm.MethodName) jdk_42_method_151_code (3 : Nat) (Option.none : Option Jvm.ClassFile.FieldType), Jvm.Cond.code ({ cls := "com/example/stanchion/stanchion/changelog/Sql", name := "<init>", desc := "(Ljava/lang/String;Ljava/lang/String;ZLjava/lang/String;ZLcom/example/stanchion/stanchion/changelog/Dbms;)V" } : Jvm.MethodName) prog_20_method_1_code (7 : Nat) (Option.none : Option Jvm.ClassFile.FieldType), Jvm.Cond.code ({ cls := "java/lang/Record", name := "<init>", desc := "()V" } : Jvm.MethodName) jdk_30_method_1_code (1 : Nat) (Option.none : Option Jvm.ClassFile.FieldType), Jvm.Cond.code ({ cls := "java/util/Objects", name := "requireNonNull", desc := "(Ljava/lang/Object;Ljava/lang/String;)Ljava/lang/Object;" } : Jvm.MethodName) jdk_31_method_11_code (2 : Nat) (Option.some (Jvm.ClassFile.FieldType.object "java/lang/Object")), Jvm.Cond.code ({ cls := "com/example/stanchion/stanchion/changelog/Sql", name := "description", desc := "()Ljava/lang/String;" } : Jvm.MethodName) prog_20_method_2_code (1 : Nat) (Option.some (Jvm.ClassFile.FieldType.object "java/lang/String")), Jvm.Cond.code ({ cls := "java/lang/StringBuilder", name := "<init>", desc := "()V" } : Jvm.MethodName) jdk_67_method_1_code (1 : Nat) (Option.none : Option Jvm.ClassFile.FieldType), Jvm.Cond.code ({ cls := "java/lang/AbstractStringBuilder", name := "<init>", desc := "(I)V" } : Jvm.MethodName) jdk_68_method_2_code (2 : Nat) (Option.none : Option Jvm.ClassFile.FieldType), Jvm.Cond.code ({ cls := "java/lang/StringBuilder", name := "append", desc := "(Ljava/lang/String;)Ljava/lang/StringBuilder;" } : Jvm.MethodName) jdk_67_method_7_code (2 : Nat) (Option.some (Jvm.ClassFile.FieldType.object "java/lang/StringBuilder")), Jvm.Cond.code ({ cls := "java/lang/AbstractStringBuilder", name := "append", desc := "(Ljava/lang/String;)Ljava/lang/AbstractStringBuilder;" } : Jvm.MethodName) jdk_68_method_22_code (3 : Nat) (Option.some (Jvm.ClassFile.FieldType.object "java/lang/AbstractStringBuilder")), Jvm.Cond.code ({ cls := "java/lang/String", name := "length", desc := "()I" } : Jvm.MethodName) jdk_42_method_54_code (1 : Nat) (Option.some Jvm.ClassFile.FieldType.int), Jvm.Cond.code ({ cls := "java/lang/String", name := "coder", desc := "()B" } : Jvm.MethodName) jdk_42_method_152_code (1 : Nat) (Option.some Jvm.ClassFile.FieldType.byte), Jvm.Cond.code ({ cls := "java/lang/AbstractStringBuilder", name := "ensureCapacityInternal", desc := "(I)V" } : Jvm.MethodName) jdk_68_method_9_code (3 : Nat) (Option.none : Option Jvm.ClassFile.FieldType), Jvm.Cond.code ({ cls := "java/lang/AbstractStringBuilder", name := "putStringAt", desc := "(ILjava/lang/String;)V" } : Jvm.MethodName) jdk_68_method_73_code (3 : Nat) (Option.none : Option Jvm.ClassFile.FieldType), Jvm.Cond.code ({ cls := "java/lang/AbstractStringBuilder", name := "inflateIfNeededFor", desc := "(Ljava/lang/String;)V" } : Jvm.MethodName) jdk_68_method_71_code (2 : Nat) (Option.none : Option Jvm.ClassFile.FieldType), Jvm.Cond.code ({ cls := "java/lang/String", name := "getBytes", desc := "([BIB)V" } : Jvm.MethodName) jdk_42_method_147_code (4 : Nat) (Option.none : Option Jvm.ClassFile.FieldType), Jvm.Cond.code ({ cls := "java/lang/StringBuilder", name := "toString", desc := "()Ljava/lang/String;" } : Jvm.MethodName) jdk_67_method_42_code (1 : Nat) (Option.some (Jvm.ClassFile.FieldType.object "java/lang/String")), Jvm.Cond.code ({ cls := "java/lang/String", name := "<init>", desc := "(Ljava/lang/StringBuilder;)V" } : Jvm.MethodName) jdk_42_method_53_code (2 : Nat) (Option.none : Option Jvm.ClassFile.FieldType), Jvm.Cond.code ({ cls := "java/lang/String", name := "<init>", desc := "(Ljava/lang/AbstractStringBuilder;Ljava/lang/Void;)V" } : Jvm.MethodName) jdk_42_method_150_code (5 : Nat) (Option.none : Option Jvm.ClassFile.FieldType), Jvm.Cond.code ({ cls := "java/lang/AbstractStringBuilder", name := "getValue", desc := "()[B" } : Jvm.MethodName) jdk_68_method_64_code (1 : Nat) (Option.some (Jvm.ClassFile.FieldType.array Jvm.ClassFile.FieldType.byte)), Jvm.Cond.code ({ cls := "java/lang/StringBuilder", name := "length", desc := "()I" } : Jvm.MethodName) jdk_67_method_93_code (1 : Nat) (Option.some Jvm.ClassFile.FieldType.int), Jvm.Cond.code ({ cls := "java/lang/AbstractStringBuilder", name := "length", desc := "()I" } : Jvm.MethodName) jdk_68_method_6_code (1 : Nat) (Option.some Jvm.ClassFile.FieldType.int), Jvm.Cond.code ({ cls := "java/lang/AbstractStringBuilder", name := "isLatin1", desc := "()Z" } : Jvm.MethodName) jdk_68_method_68_code (1 : Nat) (Option.some Jvm.ClassFile.FieldType.boolean), Jvm.Cond.code ({ cls := "java/util/Arrays", name := "copyOfRange", desc := "([BII)[B" } : Jvm.MethodName) jdk_65_method_132_code (3 : Nat) (Option.some (Jvm.ClassFile.FieldType.array Jvm.ClassFile.FieldType.byte)), Jvm.Cond.code ({ cls := "java/util/Arrays", name := "copyOfRangeByte", desc := "([BII)[B" } : Jvm.MethodName) jdk_65_method_133_code (5 : Nat) (Option.some (Jvm.ClassFile.FieldType.array Jvm.ClassFile.FieldType.byte)), Jvm.Cond.code ({ cls := "java/util/Arrays", name := "checkLength", desc := "(II)V" } : Jvm.MethodName) jdk_65_method_131_code (2 : Nat) (Option.none : Option Jvm.ClassFile.FieldType), Jvm.Cond.code ({ cls := "java/lang/Math", name := "min", desc := "(II)I" } : Jvm.MethodName) jdk_29_method_69_code (2 : Nat) (Option.some Jvm.ClassFile.FieldType.int), Jvm.Cond.code ({ cls := "java/lang/String", name := "equals", desc := "(Ljava/lang/Object;)Z" } : Jvm.MethodName) jdk_42_method_66_code (3 : Nat) (Option.some Jvm.ClassFile.FieldType.boolean), Jvm.Cond.code ({ cls := "java/lang/StringLatin1", name := "equals", desc := "([B[B)Z" } : Jvm.MethodName) jdk_43_method_13_code (3 : Nat) (Option.some Jvm.ClassFile.FieldType.boolean), Jvm.Cond.code ({ cls := "java/lang/StringUTF16", name := "compress", desc := "([CII)[B" } : Jvm.MethodName) jdk_52_method_16_code (6 : Nat) (Option.some (Jvm.ClassFile.FieldType.array Jvm.ClassFile.FieldType.byte)), Jvm.Cond.code ({ cls := "java/lang/StringUTF16", name := "compress", desc := "([CI[BII)I" } : Jvm.MethodName) jdk_52_method_21_code (7 : Nat) (Option.some Jvm.ClassFile.FieldType.int), Jvm.Cond.code ({ cls := "java/lang/StringUTF16", name := "coderFromArrayLen", desc := "([BI)B" } : Jvm.MethodName) jdk_52_method_15_code (2 : Nat) (Option.some Jvm.ClassFile.FieldType.byte)]
set_option maxRecDepth 65536 in
theorem codes_eq : words1.filter isCode = codes1 := rfl
theorem w_codes : ∀ c ∈ words1.filter isCode, c.before args0 about1 = true := by
  rw [codes_eq]
  intro c hc
  simp only [codes1, List.mem_cons, List.not_mem_nil, or_false] at hc
  rcases hc with rfl | rfl | rfl | rfl | rfl | rfl | rfl | rfl | rfl | rfl | rfl | rfl | rfl | rfl | rfl | rfl | rfl | rfl | rfl | rfl | rfl | rfl | rfl | rfl | rfl | rfl | rfl | rfl | rfl | rfl | rfl | rfl | rfl | rfl | rfl | rfl | rfl | rfl
  · exact w_c0
  · exact w_c1
  · exact w_c2
  · exact w_c3
  · exact w_c4
  · exact w_c5
  · exact w_c6
  · exact w_c7
  · exact w_c8
  · exact w_c9
  · exact w_c10
  · exact w_c11
  · exact w_c12
  · exact w_c13
  · exact w_c14
  · exact w_c15
  · exact w_c16
  · exact w_c17
  · exact w_c18
  · exact w_c19
  · exact w_c20
  · exact w_c21
  · exact w_c22
  · exact w_c23
  · exact w_c24
  · exact w_c25
  · exact w_c26
  · exact w_c27
  · exact w_c28
  · exact w_c29
  · exact w_c30
  · exact w_c31
  · exact w_c32
  · exact w_c33
  · exact w_c34
  · exact w_c35
  · exact w_c36
  · exact w_c37
set_option maxRecDepth 65536 in
theorem w_t1 : (words1.take 24).all (fun c => isCode c || c.before args0 about1) = true := by decide +kernel
set_option maxRecDepth 65536 in
theorem w_t2 : ((words1.drop 24).take 24).all (fun c => isCode c || c.before args0 about1) = true := by decide +kernel
set_option maxRecDepth 65536 in
theorem w_t3 : (((words1.drop 24).drop 24).take 24).all (fun c => isCode c || c.before args0 about1) = true := by decide +kernel
set_option maxRecDepth 65536 in
theorem w_t4 : ((((words1.drop 24).drop 24).drop 24).take 24).all (fun c => isCode c || c.before args0 about1) = true := by decide +kernel
set_option maxRecDepth 65536 in
theorem w_t5 : (((((words1.drop 24).drop 24).drop 24).drop 24).take 24).all (fun c => isCode c || c.before args0 about1) = true := by decide +kernel
set_option maxRecDepth 65536 in
theorem w_t6 : ((((((words1.drop 24).drop 24).drop 24).drop 24).drop 24).take 24).all (fun c => isCode c || c.before args0 about1) = true := by decide +kernel
set_option maxRecDepth 65536 in
theorem w_t7 : (((((((words1.drop 24).drop 24).drop 24).drop 24).drop 24).drop 24).take 24).all (fun c => isCode c || c.before args0 about1) = true := by decide +kernel
set_option maxRecDepth 65536 in
theorem w_t8 : ((((((((words1.drop 24).drop 24).drop 24).drop 24).drop 24).drop 24).drop 24).take 24).all (fun c => isCode c || c.before args0 about1) = true := by decide +kernel
set_option maxRecDepth 65536 in
theorem w_t9 : ((((((((words1.drop 24).drop 24).drop 24).drop 24).drop 24).drop 24).drop 24).drop 24).all (fun c => isCode c || c.before args0 about1) = true := by decide +kernel
theorem w_tables : (allAtoms (Jvm.Cond.code x code maxLocals ret :: tables_1)).before args0 about1 = true := by
  rw [allAtoms_all]
  show words1.all (fun c => c.before args0 about1) = true
  refine all_split ?_ w_codes
  rw [← List.take_append_drop 24 words1, List.all_append, w_t1, ← List.take_append_drop 24 (words1.drop 24), List.all_append, w_t2, ← List.take_append_drop 24 ((words1.drop 24).drop 24), List.all_append, w_t3, ← List.take_append_drop 24 (((words1.drop 24).drop 24).drop 24), List.all_append, w_t4, ← List.take_append_drop 24 ((((words1.drop 24).drop 24).drop 24).drop 24), List.all_append, w_t5, ← List.take_append_drop 24 (((((words1.drop 24).drop 24).drop 24).drop 24).drop 24), List.all_append, w_t6, ← List.take_append_drop 24 ((((((words1.drop 24).drop 24).drop 24).drop 24).drop 24).drop 24), List.all_append, w_t7, ← List.take_append_drop 24 (((((((words1.drop 24).drop 24).drop 24).drop 24).drop 24).drop 24).drop 24), List.all_append, w_t8, w_t9]
  rfl
set_option maxRecDepth 65536 in
theorem w_rest : rest_1_c.before args0 about1 = true := by decide +kernel
set_option maxRecDepth 65536 in
theorem w_case : (Jvm.Cond.and given_1 narrow_1).before args0 about1 = true := by decide +kernel
set_option maxRecDepth 65536 in
theorem w_consts : constsHeld consts_1 about1 := Jvm.Lit.constsHeldB_iff.mp (by decide +kernel)
theorem w_applies : (headSpec (Jvm.Cond.code x code maxLocals ret :: tables_1) room_1).applies x e0.platform about1 = true :=
  (Spec.applies_iff w_frames).mpr ⟨w_running, w_runnable, w_alone, w_named, w_hears, w_ripe, w_room, w_tables⟩
theorem atStart : AtStart classFile x code maxLocals ret World_1 tables_1 room_1 Calls_1 rest_1 Pre_1 launch0 p0 e0 about1 theMethod args0 below0 :=
  ⟨lists_1, trivial, launch0.admits_env _ _ _, launch0.least_env, fairChoices_fair.cas, fairChoices_fair.clock, w_frames, w_args, w_heap, w_applies, ⟨w_consts, trivial⟩, w_rest, w_case⟩
end start1
theorem witness_1 : WitnessClaimed_1 := ⟨start1.p0, start1.e0, start1.about1, start1.theMethod, start1.args0, start1.below0, start1.atStart⟩
end Jvm.Pilot.@@N@@
