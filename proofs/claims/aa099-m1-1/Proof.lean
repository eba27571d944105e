import JvmDerived
import JvmDerived.Pilot.@@N@@Statement
import JvmDerived.Pilot.@@N@@Code
set_option linter.unusedVariables false
set_option linter.unusedSimpArgs false

namespace Jvm.Own
open Sem ClassFile Op Lib Jvm.Stand Jvm.Free Jvm.LawKit Jvm.RoadKit
/-- the goal of a walk: from here the invocation ends, and P holds of its end -/
def Goes (tb : Tables) (e : Env) (below : List Frame) (P : Outcome → State → Prop) (T : State) (F : JFrame) : Prop :=
  ∃ t o, Steps tb e below (T.setTop F) t ∧ t.status = .running ∧ Ended t below o ∧ P o t
/-- what a comparison says, of the integers -/
def icR : ClassFile.Cond → Int → Int → Prop
  | .eq, x, y => x = y
  | .ne, x, y => ¬ x = y
  | .lt, x, y => x < y
  | .ge, x, y => y ≤ x
  | .gt, x, y => y < x
  | .le, x, y => x ≤ y
theorem icR_iff (cd : ClassFile.Cond) (x y : Int32) : if_icmp.holds cd x y = true ↔ icR cd x.toInt y.toInt := by
  cases cd <;> simp [if_icmp.holds, icR, Int32.lt_iff_toInt_lt, Int32.le_iff_toInt_le, Int32.toInt_inj]
theorem icR_yes {cd : ClassFile.Cond} {x y : Int32} {X Y : Int} (ex : x.toInt = X) (ey : y.toInt = Y) (h : icR cd X Y) : if_icmp.holds cd x y = true := by
  subst ex ey; exact (icR_iff cd x y).mpr h
theorem icR_no {cd : ClassFile.Cond} {x y : Int32} {X Y : Int} (ex : x.toInt = X) (ey : y.toInt = Y) (h : ¬ icR cd X Y) : if_icmp.holds cd x y = false := by
  subst ex ey; exact Bool.eq_false_iff.mpr fun q => h ((icR_iff cd x y).mp q)
section G
variable {tb : Tables} {e : Env} {below : List Frame} {P : Outcome → State → Prop} {T T' : State} {F F' : JFrame}
theorem Goes.via (k : Goes tb e below P T' F') (st : ∀ target, Steps tb e below (T'.setTop F') target → Steps tb e below (T.setTop F) target) : Goes tb e below P T F := by
  obtain ⟨t, o, h1, h2⟩ := k; exact ⟨t, o, st _ h1, h2⟩
theorem Goes.to (k : Goes tb e below P T' F') (st : Steps tb e below (T.setTop F) (T'.setTop F')) : Goes tb e below P T F := k.via fun _ h => st.trans h
theorem Goes.cast (q : F = F') (k : Goes tb e below P T F') : Goes tb e below P T F := q ▸ k
variable [Ours tb] {m : MethodId} {c : Code} {pc : Nat} {L L' : Array Slot} {S : List Value}
theorem g_aloadN (h : At T m c below) (hx : tb.exec = Jvm.exec) {k : Fin 4} {v : Value} (hd : decode c.code pc = .ok (.aload_n k, 1)) (hl : L[k.val]? = some (.val v)) (hv : v.isRef = true) (p' : Nat) (hp : p' = pc + 1) (q : Goes tb e below P T (mkF m p' L (v :: S))) : Goes tb e below P T (mkF m pc L (S)) := by
  subst hp; exact q.via fun _ k => XS.aloadN h hx rfl hd hl hv k
theorem g_aload (h : At T m c below) (hx : tb.exec = Jvm.exec) {k : Nat} {v : Value} (hd : decode c.code pc = .ok (.aload k, 2)) (hl : L[k]? = some (.val v)) (hv : v.isRef = true) (p' : Nat) (hp : p' = pc + 2) (q : Goes tb e below P T (mkF m p' L (v :: S))) : Goes tb e below P T (mkF m pc L (S)) := by
  subst hp; exact q.via fun _ k => XS.aload h hx rfl hd hl hv k
theorem g_iloadN (h : At T m c below) (hx : tb.exec = Jvm.exec) {k : Fin 4} {v : Int32} (hd : decode c.code pc = .ok (.iload_n k, 1)) (hl : L[k.val]? = some (.val (.int v))) (p' : Nat) (hp : p' = pc + 1) (q : Goes tb e below P T (mkF m p' L (.int v :: S))) : Goes tb e below P T (mkF m pc L (S)) := by
  subst hp; exact q.via fun _ k => XS.iloadN h hx rfl hd hl k
theorem g_iload (h : At T m c below) (hx : tb.exec = Jvm.exec) {k : Nat} {v : Int32} (hd : decode c.code pc = .ok (.iload k, 2)) (hl : L[k]? = some (.val (.int v))) (p' : Nat) (hp : p' = pc + 2) (q : Goes tb e below P T (mkF m p' L (.int v :: S))) : Goes tb e below P T (mkF m pc L (S)) := by
  subst hp; exact q.via fun _ k => XS.iload h hx rfl hd hl k
theorem g_lloadN (h : At T m c below) (hx : tb.exec = Jvm.exec) {k : Fin 4} {v : Int64} (hd : decode c.code pc = .ok (.lload_n k, 1)) (hl : L[k.val]? = some (.val (.long v))) (p' : Nat) (hp : p' = pc + 1) (q : Goes tb e below P T (mkF m p' L (.long v :: S))) : Goes tb e below P T (mkF m pc L (S)) := by
  subst hp; exact q.via fun _ k => XS.lloadN h hx rfl hd hl k
theorem g_lload (h : At T m c below) (hx : tb.exec = Jvm.exec) {k : Nat} {v : Int64} (hd : decode c.code pc = .ok (.lload k, 2)) (hl : L[k]? = some (.val (.long v))) (p' : Nat) (hp : p' = pc + 2) (q : Goes tb e below P T (mkF m p' L (.long v :: S))) : Goes tb e below P T (mkF m pc L (S)) := by
  subst hp; exact q.via fun _ k => XS.lload h hx rfl hd hl k
theorem g_istoreN (h : At T m c below) (hx : tb.exec = Jvm.exec) {k : Fin 4} {x : Int32} (hd : decode c.code pc = .ok (.istore_n k, 1)) (L2 : Array Slot) (hl : storeLocals L k.val (.int x) = some L2) (p' : Nat) (hp : p' = pc + 1) (q : Goes tb e below P T (mkF m p' L2 (S))) : Goes tb e below P T (mkF m pc L (.int x :: S)) := by
  subst hp; exact q.via fun _ k => XS.istoreN h hx rfl hd rfl hl k
theorem g_istore (h : At T m c below) (hx : tb.exec = Jvm.exec) {k : Nat} {x : Int32} (hd : decode c.code pc = .ok (.istore k, 2)) (L2 : Array Slot) (hl : storeLocals L k (.int x) = some L2) (p' : Nat) (hp : p' = pc + 2) (q : Goes tb e below P T (mkF m p' L2 (S))) : Goes tb e below P T (mkF m pc L (.int x :: S)) := by
  subst hp; exact q.via fun _ k => XS.istore h hx rfl hd rfl hl k
theorem g_lstoreN (h : At T m c below) (hx : tb.exec = Jvm.exec) {k : Fin 4} {x : Int64} (hd : decode c.code pc = .ok (.lstore_n k, 1)) (L2 : Array Slot) (hl : storeLocals L k.val (.long x) = some L2) (p' : Nat) (hp : p' = pc + 1) (q : Goes tb e below P T (mkF m p' L2 (S))) : Goes tb e below P T (mkF m pc L (.long x :: S)) := by
  subst hp; exact q.via fun _ k => XS.lstoreN h hx rfl hd rfl hl k
theorem g_lstore (h : At T m c below) (hx : tb.exec = Jvm.exec) {k : Nat} {x : Int64} (hd : decode c.code pc = .ok (.lstore k, 2)) (L2 : Array Slot) (hl : storeLocals L k (.long x) = some L2) (p' : Nat) (hp : p' = pc + 2) (q : Goes tb e below P T (mkF m p' L2 (S))) : Goes tb e below P T (mkF m pc L (.long x :: S)) := by
  subst hp; exact q.via fun _ k => XS.lstore h hx rfl hd rfl hl k
theorem g_astoreN (h : At T m c below) (hx : tb.exec = Jvm.exec) {k : Fin 4} {x : Value} (hd : decode c.code pc = .ok (.astore_n k, 1)) (hv : x.isRef = true) (L2 : Array Slot) (hl : storeLocals L k.val x = some L2) (p' : Nat) (hp : p' = pc + 1) (q : Goes tb e below P T (mkF m p' L2 (S))) : Goes tb e below P T (mkF m pc L (x :: S)) := by
  subst hp; exact q.via fun _ k => XS.astoreN h hx rfl hd rfl hv hl k
theorem g_astore (h : At T m c below) (hx : tb.exec = Jvm.exec) {k : Nat} {x : Value} (hd : decode c.code pc = .ok (.astore k, 2)) (hv : x.isRef = true) (L2 : Array Slot) (hl : storeLocals L k x = some L2) (p' : Nat) (hp : p' = pc + 2) (q : Goes tb e below P T (mkF m p' L2 (S))) : Goes tb e below P T (mkF m pc L (x :: S)) := by
  subst hp; exact q.via fun _ k => XS.astore h hx rfl hd rfl hv hl k
theorem g_iconst (h : At T m c below) (hx : tb.exec = Jvm.exec) {i : Int} (hd : decode c.code pc = .ok (.iconst i, 1)) (v : Int32) (hv : Int32.ofInt i = v) (p' : Nat) (hp : p' = pc + 1) (q : Goes tb e below P T (mkF m p' L (.int v :: S))) : Goes tb e below P T (mkF m pc L (S)) := by
  subst hp hv; exact q.via fun _ k => XS.iconst h hx rfl hd  k
theorem g_bipush (h : At T m c below) (hx : tb.exec = Jvm.exec) {i : Int} (hd : decode c.code pc = .ok (.bipush i, 2)) (v : Int32) (hv : (Int8.ofInt i).toInt32 = v) (p' : Nat) (hp : p' = pc + 2) (q : Goes tb e below P T (mkF m p' L (.int v :: S))) : Goes tb e below P T (mkF m pc L (S)) := by
  subst hp hv; exact q.via fun _ k => XS.bipush h hx rfl hd  k
theorem g_sipush (h : At T m c below) (hx : tb.exec = Jvm.exec) {i : Int} (hd : decode c.code pc = .ok (.sipush i, 3)) (v : Int32) (hv : (Int16.ofInt i).toInt32 = v) (p' : Nat) (hp : p' = pc + 3) (q : Goes tb e below P T (mkF m p' L (.int v :: S))) : Goes tb e below P T (mkF m pc L (S)) := by
  subst hp hv; exact q.via fun _ k => XS.sipush h hx rfl hd  k
theorem g_aconst_null (h : At T m c below) (hx : tb.exec = Jvm.exec)  (hd : decode c.code pc = .ok (.aconst_null, 1))  (p' : Nat) (hp : p' = pc + 1) (q : Goes tb e below P T (mkF m p' L (.null :: S))) : Goes tb e below P T (mkF m pc L (S)) := by
  subst hp; exact q.via fun _ k => XS.aconstNull h hx rfl hd  k
theorem g_iadd (h : At T m c below) (hx : tb.exec = Jvm.exec) {x y : Int32} (hd : decode c.code pc = .ok (.iadd, 1))  (p' : Nat) (hp : p' = pc + 1) (q : Goes tb e below P T (mkF m p' L (.int (x + y) :: S))) : Goes tb e below P T (mkF m pc L (.int y :: .int x :: S)) := by
  subst hp; exact q.via fun _ k => XS.iadd h hx rfl hd rfl k
theorem g_isub (h : At T m c below) (hx : tb.exec = Jvm.exec) {x y : Int32} (hd : decode c.code pc = .ok (.isub, 1))  (p' : Nat) (hp : p' = pc + 1) (q : Goes tb e below P T (mkF m p' L (.int (x - y) :: S))) : Goes tb e below P T (mkF m pc L (.int y :: .int x :: S)) := by
  subst hp; exact q.via fun _ k => XS.isub h hx rfl hd rfl k
theorem g_imul (h : At T m c below) (hx : tb.exec = Jvm.exec) {x y : Int32} (hd : decode c.code pc = .ok (.imul, 1))  (p' : Nat) (hp : p' = pc + 1) (q : Goes tb e below P T (mkF m p' L (.int (x * y) :: S))) : Goes tb e below P T (mkF m pc L (.int y :: .int x :: S)) := by
  subst hp; exact q.via fun _ k => XS.imul h hx rfl hd rfl k
theorem g_iand (h : At T m c below) (hx : tb.exec = Jvm.exec) {x y : Int32} (hd : decode c.code pc = .ok (.iand, 1))  (p' : Nat) (hp : p' = pc + 1) (q : Goes tb e below P T (mkF m p' L (.int (x &&& y) :: S))) : Goes tb e below P T (mkF m pc L (.int y :: .int x :: S)) := by
  subst hp; exact q.via fun _ k => XS.iand h hx rfl hd rfl k
theorem g_ior (h : At T m c below) (hx : tb.exec = Jvm.exec) {x y : Int32} (hd : decode c.code pc = .ok (.ior, 1))  (p' : Nat) (hp : p' = pc + 1) (q : Goes tb e below P T (mkF m p' L (.int (x ||| y) :: S))) : Goes tb e below P T (mkF m pc L (.int y :: .int x :: S)) := by
  subst hp; exact q.via fun _ k => XS.ior h hx rfl hd rfl k
theorem g_ixor (h : At T m c below) (hx : tb.exec = Jvm.exec) {x y : Int32} (hd : decode c.code pc = .ok (.ixor, 1))  (p' : Nat) (hp : p' = pc + 1) (q : Goes tb e below P T (mkF m p' L (.int (x ^^^ y) :: S))) : Goes tb e below P T (mkF m pc L (.int y :: .int x :: S)) := by
  subst hp; exact q.via fun _ k => XS.ixor h hx rfl hd rfl k
theorem g_ishl (h : At T m c below) (hx : tb.exec = Jvm.exec) {x y : Int32} (hd : decode c.code pc = .ok (.ishl, 1))  (p' : Nat) (hp : p' = pc + 1) (q : Goes tb e below P T (mkF m p' L (.int (x <<< (y &&& 31)) :: S))) : Goes tb e below P T (mkF m pc L (.int y :: .int x :: S)) := by
  subst hp; exact q.via fun _ k => XS.ishl h hx rfl hd rfl k
theorem g_ishr (h : At T m c below) (hx : tb.exec = Jvm.exec) {x y : Int32} (hd : decode c.code pc = .ok (.ishr, 1))  (p' : Nat) (hp : p' = pc + 1) (q : Goes tb e below P T (mkF m p' L (.int (x >>> (y &&& 31)) :: S))) : Goes tb e below P T (mkF m pc L (.int y :: .int x :: S)) := by
  subst hp; exact q.via fun _ k => XS.ishr h hx rfl hd rfl k
theorem g_iushr (h : At T m c below) (hx : tb.exec = Jvm.exec) {x y : Int32} (hd : decode c.code pc = .ok (.iushr, 1))  (p' : Nat) (hp : p' = pc + 1) (q : Goes tb e below P T (mkF m p' L (.int ((x.toUInt32 >>> (y &&& 31).toUInt32).toInt32) :: S))) : Goes tb e below P T (mkF m pc L (.int y :: .int x :: S)) := by
  subst hp; exact q.via fun _ k => XS.iushr h hx rfl hd rfl k
theorem g_ladd (h : At T m c below) (hx : tb.exec = Jvm.exec) {x y : Int64} (hd : decode c.code pc = .ok (.ladd, 1))  (p' : Nat) (hp : p' = pc + 1) (q : Goes tb e below P T (mkF m p' L (.long (x + y) :: S))) : Goes tb e below P T (mkF m pc L (.long y :: .long x :: S)) := by
  subst hp; exact q.via fun _ k => XS.ladd h hx rfl hd rfl k
theorem g_lsub (h : At T m c below) (hx : tb.exec = Jvm.exec) {x y : Int64} (hd : decode c.code pc = .ok (.lsub, 1))  (p' : Nat) (hp : p' = pc + 1) (q : Goes tb e below P T (mkF m p' L (.long (x - y) :: S))) : Goes tb e below P T (mkF m pc L (.long y :: .long x :: S)) := by
  subst hp; exact q.via fun _ k => XS.lsub h hx rfl hd rfl k
theorem g_lmul (h : At T m c below) (hx : tb.exec = Jvm.exec) {x y : Int64} (hd : decode c.code pc = .ok (.lmul, 1))  (p' : Nat) (hp : p' = pc + 1) (q : Goes tb e below P T (mkF m p' L (.long (x * y) :: S))) : Goes tb e below P T (mkF m pc L (.long y :: .long x :: S)) := by
  subst hp; exact q.via fun _ k => XS.lmul h hx rfl hd rfl k
theorem g_land (h : At T m c below) (hx : tb.exec = Jvm.exec) {x y : Int64} (hd : decode c.code pc = .ok (.land, 1))  (p' : Nat) (hp : p' = pc + 1) (q : Goes tb e below P T (mkF m p' L (.long (x &&& y) :: S))) : Goes tb e below P T (mkF m pc L (.long y :: .long x :: S)) := by
  subst hp; exact q.via fun _ k => XS.land h hx rfl hd rfl k
theorem g_lor (h : At T m c below) (hx : tb.exec = Jvm.exec) {x y : Int64} (hd : decode c.code pc = .ok (.lor, 1))  (p' : Nat) (hp : p' = pc + 1) (q : Goes tb e below P T (mkF m p' L (.long (x ||| y) :: S))) : Goes tb e below P T (mkF m pc L (.long y :: .long x :: S)) := by
  subst hp; exact q.via fun _ k => XS.lor h hx rfl hd rfl k
theorem g_lshl (h : At T m c below) (hx : tb.exec = Jvm.exec) {x : Int64} {y : Int32} (hd : decode c.code pc = .ok (.lshl, 1))  (p' : Nat) (hp : p' = pc + 1) (q : Goes tb e below P T (mkF m p' L (.long (x <<< (y &&& 0x3f).toInt64) :: S))) : Goes tb e below P T (mkF m pc L (.int y :: .long x :: S)) := by
  subst hp; exact q.via fun _ k => XS.lshl h hx rfl hd rfl k
theorem g_lshr (h : At T m c below) (hx : tb.exec = Jvm.exec) {x : Int64} {y : Int32} (hd : decode c.code pc = .ok (.lshr, 1))  (p' : Nat) (hp : p' = pc + 1) (q : Goes tb e below P T (mkF m p' L (.long (x >>> (y &&& 0x3f).toInt64) :: S))) : Goes tb e below P T (mkF m pc L (.int y :: .long x :: S)) := by
  subst hp; exact q.via fun _ k => XS.lshr h hx rfl hd rfl k
theorem g_lushr (h : At T m c below) (hx : tb.exec = Jvm.exec) {x : Int64} {y : Int32} (hd : decode c.code pc = .ok (.lushr, 1))  (p' : Nat) (hp : p' = pc + 1) (q : Goes tb e below P T (mkF m p' L (.long ((x.toUInt64 >>> (y &&& 0x3f).toInt64.toUInt64).toInt64) :: S))) : Goes tb e below P T (mkF m pc L (.int y :: .long x :: S)) := by
  subst hp; exact q.via fun _ k => XS.lushr h hx rfl hd rfl k
theorem g_lcmp (h : At T m c below) (hx : tb.exec = Jvm.exec) {x y : Int64} (hd : decode c.code pc = .ok (.lcmp, 1))  (p' : Nat) (hp : p' = pc + 1) (q : Goes tb e below P T (mkF m p' L (.int (lcmpW x y) :: S))) : Goes tb e below P T (mkF m pc L (.long y :: .long x :: S)) := by
  subst hp; exact q.via fun _ k => XS.lcmp h hx rfl hd rfl k
theorem g_i2l (h : At T m c below) (hx : tb.exec = Jvm.exec) {x : Int32} (hd : decode c.code pc = .ok (.i2l, 1))  (p' : Nat) (hp : p' = pc + 1) (q : Goes tb e below P T (mkF m p' L (.long (x.toInt64) :: S))) : Goes tb e below P T (mkF m pc L (.int x :: S)) := by
  subst hp; exact q.via fun _ k => XS.i2l h hx rfl hd rfl k
theorem g_l2i (h : At T m c below) (hx : tb.exec = Jvm.exec) {x : Int64} (hd : decode c.code pc = .ok (.l2i, 1))  (p' : Nat) (hp : p' = pc + 1) (q : Goes tb e below P T (mkF m p' L (.int (x.toInt32) :: S))) : Goes tb e below P T (mkF m pc L (.long x :: S)) := by
  subst hp; exact q.via fun _ k => XS.l2i h hx rfl hd rfl k
theorem g_i2b (h : At T m c below) (hx : tb.exec = Jvm.exec) {x : Int32} (hd : decode c.code pc = .ok (.i2b, 1))  (p' : Nat) (hp : p' = pc + 1) (q : Goes tb e below P T (mkF m p' L (.int (x.toInt8.toInt32) :: S))) : Goes tb e below P T (mkF m pc L (.int x :: S)) := by
  subst hp; exact q.via fun _ k => XS.i2b h hx rfl hd rfl k
theorem g_i2c (h : At T m c below) (hx : tb.exec = Jvm.exec) {x : Int32} (hd : decode c.code pc = .ok (.i2c, 1))  (p' : Nat) (hp : p' = pc + 1) (q : Goes tb e below P T (mkF m p' L (.int (x.toUInt32.toUInt16.toUInt32.toInt32) :: S))) : Goes tb e below P T (mkF m pc L (.int x :: S)) := by
  subst hp; exact q.via fun _ k => XS.i2c h hx rfl hd rfl k
theorem g_i2s (h : At T m c below) (hx : tb.exec = Jvm.exec) {x : Int32} (hd : decode c.code pc = .ok (.i2s, 1))  (p' : Nat) (hp : p' = pc + 1) (q : Goes tb e below P T (mkF m p' L (.int (x.toInt16.toInt32) :: S))) : Goes tb e below P T (mkF m pc L (.int x :: S)) := by
  subst hp; exact q.via fun _ k => XS.i2s h hx rfl hd rfl k
theorem g_irem (h : At T m c below) (hx : tb.exec = Jvm.exec) {x y : Int32} (hd : decode c.code pc = .ok (.irem, 1)) (hy : y ≠ 0) (p' : Nat) (hp : p' = pc + 1) (q : Goes tb e below P T (mkF m p' L (.int (x % y) :: S))) : Goes tb e below P T (mkF m pc L (.int y :: .int x :: S)) := by
  subst hp; exact q.via fun _ k => XS.irem h hx rfl hd rfl hy (by rw [show x - x / y * y = x % y from irem_eq_mod x y]; exact k)
theorem g_idiv (h : At T m c below) (hx : tb.exec = Jvm.exec) {x y : Int32} (hd : decode c.code pc = .ok (.idiv, 1)) (hy : y ≠ 0) (p' : Nat) (hp : p' = pc + 1) (q : Goes tb e below P T (mkF m p' L (.int (x / y) :: S))) : Goes tb e below P T (mkF m pc L (.int y :: .int x :: S)) := by
  subst hp; exact q.via fun _ k => XS.idiv h hx rfl hd rfl hy k
theorem g_dup (h : At T m c below) (hx : tb.exec = Jvm.exec) {x : Value} (hd : decode c.code pc = .ok (.dup, 1)) (hc : x.category = 1) (p' : Nat) (hp : p' = pc + 1) (q : Goes tb e below P T (mkF m p' L (x :: x :: S))) : Goes tb e below P T (mkF m pc L (x :: S)) := by
  subst hp; exact q.via fun _ k => XS.dup h hx rfl hd rfl hc k
theorem g_pop (h : At T m c below) (hx : tb.exec = Jvm.exec) {x : Value} (hd : decode c.code pc = .ok (.pop, 1)) (hc : x.category = 1) (p' : Nat) (hp : p' = pc + 1) (q : Goes tb e below P T (mkF m p' L (S))) : Goes tb e below P T (mkF m pc L (x :: S)) := by
  subst hp; exact q.via fun _ k => XS.pop h hx rfl hd rfl hc k
theorem g_dup_x1 (h : At T m c below) (hx : tb.exec = Jvm.exec) {x y : Value} (hd : decode c.code pc = .ok (.dup_x1, 1)) (hc : x.category = 1) (hc' : y.category = 1) (p' : Nat) (hp : p' = pc + 1) (q : Goes tb e below P T (mkF m p' L (x :: y :: x :: S))) : Goes tb e below P T (mkF m pc L (x :: y :: S)) := by
  subst hp; exact q.via fun _ k => XS.dupX1 h hx rfl hd rfl hc hc' k
theorem g_lconst (h : At T m c below) (hx : tb.exec = Jvm.exec) {k : Fin 2} (hd : decode c.code pc = .ok (.lconst k, 1)) (v : Int64) (hv : Int64.ofNat k.val = v) (p' : Nat) (hp : p' = pc + 1) (q : Goes tb e below P T (mkF m p' L (.long v :: S))) : Goes tb e below P T (mkF m pc L (S)) := by
  subst hp hv; exact q.via fun _ k => XS.lconst h hx rfl hd  k
theorem g_iinc (h : At T m c below) (hx : tb.exec = Jvm.exec) {k : Nat} {i : Int} {x : Int32} (hd : decode c.code pc = .ok (.iinc k i, 3)) (hl : L[k]? = some (.val (.int x))) (L2 : Array Slot) (hl2 : storeLocals L k (.int (x + Int32.ofInt i)) = some L2) (p' : Nat) (hp : p' = pc + 3) (q : Goes tb e below P T (mkF m p' L2 (S))) : Goes tb e below P T (mkF m pc L (S)) := by
  subst hp; exact q.via fun _ k => XS.iinc h hx rfl hd hl hl2 k
theorem g_goto (h : At T m c below) (hx : tb.exec = Jvm.exec) {o : Int} (hd : decode c.code pc = .ok (.goto o, 3)) (p' : Nat) (ho : 0 ≤ (pc : Int) + o) (hp : ((pc : Int) + o).toNat = p') (q : Goes tb e below P T (mkF m p' L S)) : Goes tb e below P T (mkF m pc L S) := q.via fun _ k => XS.goto h hx rfl rfl hd ho hp k
theorem g_icmpT (h : At T m c below) (hx : tb.exec = Jvm.exec) {cd : ClassFile.Cond} {x y : Int32} {o : Int} (hd : decode c.code pc = .ok (.if_icmp cd o, 3)) (X Y : Int) (ex : x.toInt = X) (ey : y.toInt = Y) (hc : icR cd X Y) (p' : Nat) (ho : 0 ≤ (pc : Int) + o) (hp : ((pc : Int) + o).toNat = p') (q : Goes tb e below P T (mkF m p' L S)) : Goes tb e below P T (mkF m pc L (.int y :: .int x :: S)) := q.via fun _ k => XS.icmpYes h hx rfl rfl hd rfl (icR_yes ex ey hc) ho hp k
theorem g_icmpF (h : At T m c below) (hx : tb.exec = Jvm.exec) {cd : ClassFile.Cond} {x y : Int32} {o : Int} (hd : decode c.code pc = .ok (.if_icmp cd o, 3)) (X Y : Int) (ex : x.toInt = X) (ey : y.toInt = Y) (hc : ¬ icR cd X Y) (p' : Nat) (hp : p' = pc + 3) (q : Goes tb e below P T (mkF m p' L S)) : Goes tb e below P T (mkF m pc L (.int y :: .int x :: S)) := by
  subst hp; exact q.via fun _ k => XS.icmpNo h hx rfl hd rfl (icR_no ex ey hc) k
theorem g_icmp (h : At T m c below) (hx : tb.exec = Jvm.exec) {cd : ClassFile.Cond} {x y : Int32} {o : Int} (hd : decode c.code pc = .ok (.if_icmp cd o, 3)) (X Y : Int) (ex : x.toInt = X) (ey : y.toInt = Y) (p1 p2 : Nat) (ho : 0 ≤ (pc : Int) + o) (hp : ((pc : Int) + o).toNat = p1) (hp2 : p2 = pc + 3) (q1 : icR cd X Y → Goes tb e below P T (mkF m p1 L S)) (q2 : ¬ icR cd X Y → Goes tb e below P T (mkF m p2 L S)) : Goes tb e below P T (mkF m pc L (.int y :: .int x :: S)) := by
  by_cases hc : icR cd X Y
  · exact g_icmpT h hx hd X Y ex ey hc p1 ho hp (q1 hc)
  · exact g_icmpF h hx hd X Y ex ey hc p2 hp2 (q2 hc)
theorem g_ifT (h : At T m c below) (hx : tb.exec = Jvm.exec) {cd : ClassFile.Cond} {x : Int32} {o : Int} (hd : decode c.code pc = .ok (.ifCond cd o, 3)) (X : Int) (ex : x.toInt = X) (hc : icR cd X 0) (p' : Nat) (ho : 0 ≤ (pc : Int) + o) (hp : ((pc : Int) + o).toNat = p') (q : Goes tb e below P T (mkF m p' L S)) : Goes tb e below P T (mkF m pc L (.int x :: S)) := q.via fun _ k => XS.ifYes h hx rfl rfl hd rfl ((if0 _ _).trans (icR_yes ex (by decide) hc)) ho hp k
theorem g_ifF (h : At T m c below) (hx : tb.exec = Jvm.exec) {cd : ClassFile.Cond} {x : Int32} {o : Int} (hd : decode c.code pc = .ok (.ifCond cd o, 3)) (X : Int) (ex : x.toInt = X) (hc : ¬ icR cd X 0) (p' : Nat) (hp : p' = pc + 3) (q : Goes tb e below P T (mkF m p' L S)) : Goes tb e below P T (mkF m pc L (.int x :: S)) := by
  subst hp; exact q.via fun _ k => XS.ifNo h hx rfl hd rfl ((if0 _ _).trans (icR_no ex (by decide) hc)) k
theorem g_if (h : At T m c below) (hx : tb.exec = Jvm.exec) {cd : ClassFile.Cond} {x : Int32} {o : Int} (hd : decode c.code pc = .ok (.ifCond cd o, 3)) (X : Int) (ex : x.toInt = X) (p1 p2 : Nat) (ho : 0 ≤ (pc : Int) + o) (hp : ((pc : Int) + o).toNat = p1) (hp2 : p2 = pc + 3) (q1 : icR cd X 0 → Goes tb e below P T (mkF m p1 L S)) (q2 : ¬ icR cd X 0 → Goes tb e below P T (mkF m p2 L S)) : Goes tb e below P T (mkF m pc L (.int x :: S)) := by
  by_cases hc : icR cd X 0
  · exact g_ifT h hx hd X ex hc p1 ho hp (q1 hc)
  · exact g_ifF h hx hd X ex hc p2 hp2 (q2 hc)
theorem g_ifnullT (h : At T m c below) (hx : tb.exec = Jvm.exec) {o : Int} (hd : decode c.code pc = .ok (.ifnull o, 3)) (p' : Nat) (ho : 0 ≤ (pc : Int) + o) (hp : ((pc : Int) + o).toNat = p') (q : Goes tb e below P T (mkF m p' L S)) : Goes tb e below P T (mkF m pc L (.null :: S)) := q.via fun _ k => XS.ifnullYes h hx rfl rfl hd rfl ho hp k
theorem g_ifnullF (h : At T m c below) (hx : tb.exec = Jvm.exec) {o : Int} {b : Addr} (hd : decode c.code pc = .ok (.ifnull o, 3)) (p' : Nat) (hp : p' = pc + 3) (q : Goes tb e below P T (mkF m p' L S)) : Goes tb e below P T (mkF m pc L (.ref b :: S)) := by
  subst hp; exact q.via fun _ k => XS.ifnullNo h hx rfl hd rfl k
theorem g_ifnonnullT (h : At T m c below) (hx : tb.exec = Jvm.exec) {o : Int} {b : Addr} (hd : decode c.code pc = .ok (.ifnonnull o, 3)) (p' : Nat) (ho : 0 ≤ (pc : Int) + o) (hp : ((pc : Int) + o).toNat = p') (q : Goes tb e below P T (mkF m p' L S)) : Goes tb e below P T (mkF m pc L (.ref b :: S)) := q.via fun _ k => XS.ifnonnullYes h hx rfl rfl hd rfl ho hp k
theorem g_ifnonnullF (h : At T m c below) (hx : tb.exec = Jvm.exec) {o : Int} (hd : decode c.code pc = .ok (.ifnonnull o, 3)) (p' : Nat) (hp : p' = pc + 3) (q : Goes tb e below P T (mkF m p' L S)) : Goes tb e below P T (mkF m pc L (.null :: S)) := by
  subst hp; exact q.via fun _ k => XS.ifnonnullNo h hx rfl hd rfl k
end G
/-! part B: the walk's state (St), one law a step that reads the tables or the heap -/
/-- md 0: no String constant is loaded; 1: some may be; 2: and a stack trace may be filled in -/
def EndOf (md : Nat) (s : State) (o : Outcome) (t : State) (L : List Loc) (k n : Nat) : Prop := (md = 0 → FrameEnd s o t L k n) ∧ (md ≠ 0 → ReturnedEndW s o t L k n)
def KnOf (md : Nat) (vm : Vm) (bl : List Frame) : Prop := md = 2 → vm.MethodsKnown ∧ vm.FramesKnown bl
def St (md : Nat) (p : Program) (l : Launch) (e : Env) (R : Room) (s : State) (m : MethodId) (args : Array Value) (below : List Frame) (meth : Method) (c : Code) (own : String) (Z : State) (EL : List (String × Nat)) (vm : Vm) (T : State) (h : Heap) (cells slots : Nat) : Prop :=
  ∃ locs k, Stand p l e R (s.setVm vm) m args below meth c T locs cells slots ∧ T.heap = h ∧ Z.Warmed39 vm ∧ vm.findClass own = some m.cls ∧ s.Since vm k ∧ k ≤ h.size ∧ CHr Z EL s.vm s.heap vm h ∧ Fr Z.heap.size locs ∧ Old Z Z.heap.size h ∧ (md = 0 → vm = s.vm ∧ EL = []) ∧ KnOf md vm below ∧ ∃ a0, EW Z a0 EL ∧ Old Z Z.heap.size s.heap
/-- what a body leaves, as its caller is told -/
def Pof (md : Nat) (Z : State) (EL : List (String × Nat)) (s : State) (rm : Room) (Q : Option Value → Heap → Prop) : Outcome → State → Prop :=
  fun o U => ∃ v L, o = .returned v ∧ (Q v U.heap ∧ Fr Z.heap.size L ∧ Old Z Z.heap.size U.heap) ∧ CHr Z EL s.vm s.heap U.vm U.heap ∧ EndOf md s o U L rm.cells rm.slots
/-- a contract -/
def Ct (md : Nat) (l : Launch) (Z : State) (EL : List (String × Nat)) (sf : List Addr) (y : MethodName) (bytes : ByteArray) (maxL : Nat) (ret : Option FieldType) (rm : Room) (as' : Array Value) (h : Heap) (Q : Option Value → Heap → Prop) : Prop :=
  ∀ ws, MetFree l y (head1 (Cond.code y bytes maxL ret :: ws) rm) (fun a U => a = as' ∧ Z.Warmed39 U.vm ∧ U.heap = h ∧ CHv Z EL U.vm h ∧ ∀ x ∈ sf, Safe Z EL U.vm h x) (fun _ _ bl s _ => KnOf md s.vm bl) (fun _ U o U' => Pof md Z EL U rm Q o U')
theorem own_is1 {z : Int32} {Q : Prop} (h : (z = 1 ∧ Q) ∨ (z = 0 ∧ ¬ Q)) (q : Q) : z = 1 := h.elim (fun r => r.1) fun r => absurd q r.2
theorem own_is0 {z : Int32} {Q : Prop} (h : (z = 1 ∧ Q) ∨ (z = 0 ∧ ¬ Q)) (q : ¬ Q) : z = 0 := h.elim (fun r => absurd r.2 q) fun r => r.1
theorem own_two {Q : Addr → Prop} {a b : Addr} (h1 : Q a) (h2 : Q b) : ∀ x ∈ [a, b], Q x := fun x hx => (List.mem_cons.mp hx).elim (fun e => e ▸ h1) fun e => (List.mem_singleton.mp e) ▸ h2
theorem own_ne_new {a b : Addr} {h : Heap} (g : b = h.size) (l : a < h.size) : b ≠ a := fun q => absurd l (by rw [← q, g]; exact Nat.lt_irrefl _)
section B
variable {md : Nat} {p : Program} {l : Launch} {e : Env} {R : Room} {s : State} {m : MethodId} {args : Array Value} {below : List Frame} {meth : Method} {c : Code} {own : String} {Z : State} {EL : List (String × Nat)} {vm vm' : Vm} {T : State} {h h' : Heap} {cells slots : Nat} {P : Outcome → State → Prop} {pc : Nat} {L : Array Slot} {K : List Value} {a0 : Array Value}
theorem safe_nil {x : Addr} : Safe Z [] vm h x := fun B => by obtain ⟨q, hq, -⟩ := B; cases hq
theorem chv_nil : CHv Z [] vm h := fun q hq => by cases hq
theorem chr_nil (g : h.size ≤ h'.size) : CHr Z [] vm h vm' h' := ⟨chv_nil, g, fun y B => by obtain ⟨q, hq, -⟩ := B; cases hq⟩
theorem ew_nil : EW Z a0 [] := EW.nil
theorem St.here (S : St md p l e R s m args below meth c own Z EL vm T h cells slots) : At T m c below := by obtain ⟨_, _, X, -⟩ := S; exact X.here
theorem St.old (S : St md p l e R s m args below meth c own Z EL vm T h cells slots) : Old Z Z.heap.size h := by obtain ⟨_, _, -, -, -, -, -, -, -, -, O, -⟩ := S; exact O
theorem St.warm (S : St md p l e R s m args below meth c own Z EL vm T h cells slots) : Z.Warmed39 vm := by obtain ⟨_, _, -, -, hZ, -⟩ := S; exact hZ
theorem St.chr (S : St md p l e R s m args below meth c own Z EL vm T h cells slots) : CHr Z EL s.vm s.heap vm h := by obtain ⟨_, _, -, -, -, -, -, -, C, -⟩ := S; exact C
theorem St.ew (S : St md p l e R s m args below meth c own Z EL vm T h cells slots) : ∃ a0, EW Z a0 EL := by obtain ⟨_, _, -, -, -, -, -, -, -, -, -, -, -, a0, E, -⟩ := S; exact ⟨a0, E⟩
theorem St.size (S : St md p l e R s m args below meth c own Z EL vm T h cells slots) : Z.heap.size ≤ h.size := S.old.2.1
theorem St.safeE (S : St md p l e R s m args below meth c own Z EL vm T h cells slots) {x : Addr} {C : String} (E : Exa Z h x C) (h1 : C ≠ "java/lang/String") (h2 : C ≠ "[B") : Safe Z EL vm h x := Safe.exa S.warm.alike E h1 h2
theorem St.safeA (S : St md p l e R s m args below meth c own Z EL vm T h cells slots) {x : Addr} {k : ClassId} {ty : FieldType} {z : Int32} {vs : List Value} {dv : Value} (F : Arv Z h x k ty z vs dv) (ht : ty ≠ .byte) : Safe Z EL vm h x := Safe.arv S.warm.alike F ht
/-- entering a body -/
theorem Ct.intro {y : MethodName} {bytes : ByteArray} {maxL : Nat} {ret : Option FieldType} {rm : Room} {as' : Array Value} {Q : Option Value → Heap → Prop} (hpl : plainFor y = true) (hO : Old Z Z.heap.size h) (hmd : md = 0 → EL = []) (hE : ∃ a0, EW Z a0 EL) {sf : List Addr}
    (body : ∀ p e s m below meth c T, p.tables.exec = Jvm.exec → c.code = bytes → c.maxLocals = maxL → meth.sig.returnType = ret → meth.name = y.name → meth.locks = false → (∀ x ∈ sf, Safe Z EL s.vm h x) →
      St md p l e rm s m as' below meth c y.cls Z EL s.vm T h 0 0 → Goes p.tables e below (Pof md Z EL s rm Q) T (entryFrame m as' maxL)) : Ct md l Z EL sf y bytes maxL ret rm as' h Q := by
  intro ws
  refine MetFree.of_bodySF hpl hisR ?_
  intro p e s m args below meth c s₁ Bd hml hP hK
  obtain ⟨rfl, hZ, rfl, hC, hsf⟩ := hP
  obtain ⟨a1, hE⟩ := hE
  have X0 : Stand p l e rm s m args below meth c s₁ [] 0 0 := Stand.of_body Bd
  have e0 : s₁.heap = s.heap := by rw [Bd.state]; rfl
  have hown : s.vm.findClass y.cls = some m.cls := findClass_of_methodNamed Bd.named
  refine body p e s m below meth c s₁ Bd.exec Bd.bytes hml Bd.returns (name_of_methodNamed Bd.named Bd.method).1 Bd.notSynchronized hsf ⟨[], 0, X0, e0, hZ, hown, (State.WarmedH.refl s).since 0, Nat.zero_le _, CHr.refl hC, Fr.nil _, hO, fun q => ⟨rfl, hmd q⟩, hK, a1, hE, hO⟩
/-- new -/
theorem St.new (S : St md p l e R s m args below meth c own Z EL vm T h cells slots) (hx : p.tables.exec = Jvm.exec) {C : String} {index n : Nat} (w : (Cond.classLink own index C).before a0 Z = true) (wi : (Cond.instantiable C n).before a0 Z = true) (wz : (Cond.initialized C).before a0 Z = true) (hd : decode c.code pc = .ok (.new index, 3)) (hc : cells + 1 ≤ R.cells) (hl : slots + n ≤ R.slots) (p' : Nat) (hp : p' = pc + 3)
    (q : ∀ T' h' a, St md p l e R s m args below meth c own Z EL vm T' h' (cells + 1) (slots + n) → a = h.size → Ext h h' → Exa Z h' a C → (∀ {O nm d : String} {ty : FieldType}, Laid Z a0 C O nm d → parseFieldDescriptor d = some ty → Fld Z h' a O nm d (defaultValue ty)) → Safe Z EL vm h' a → CHr Z EL vm h vm h' → (∃ cell : Cell, h'[a]? = some cell ∧ cell.vm = .none ∧ cell.monitor = {}) → Goes p.tables e below P T' (mkF m p' L (.ref a :: K))) : Goes p.tables e below P T (mkF m pc L K) := by
  subst hp
  obtain ⟨locs, k, X, eT, hZ, hown, hS, hk, hC, hF, hO, h0, h2, hE⟩ := S
  obtain ⟨T', h', X', e', E', A', D', U', st⟩ := newO X hx hZ hown w wi wz eT (g := mkF m pc L K) rfl hd hc hl
  exact (q T' h' h.size ⟨locs, k, X', e', hZ, hown, hS, Nat.le_trans hk E'.1, hC.trans (CHr.ext E' hC.1), hF, hO.ext E', h0, h2, hE⟩ rfl E' A' D' (Safe.ext E' hC.1 (Safe.new (Nat.le_refl _))) (CHr.ext E' hC.1) U').via st
theorem St.getF (S : St md p l e R s m args below meth c own Z EL vm T h cells slots) (hx : p.tables.exec = Jvm.exec) {R0 O n d host : String} {index : Nat} (w : (Cond.fieldLink own index R0 n d).before a0 Z = true ∨ (Cond.fieldLinkNest own index R0 n d host).before a0 Z = true) (via : Via Z R0 O n d) {a : Addr} {v : Value} (F : Fld Z h a O n d v) (hd : decode c.code pc = .ok (.getfield index, 3)) (p' : Nat) (hp : p' = pc + 3)
    (q : ∀ T', St md p l e R s m args below meth c own Z EL vm T' h cells slots → Goes p.tables e below P T' (mkF m p' L (v :: K))) : Goes p.tables e below P T (mkF m pc L (.ref a :: K)) := by
  subst hp
  obtain ⟨locs, k, X, eT, hZ, hown, r⟩ := S
  obtain ⟨T', X', e', st⟩ := RoadKit.getF X hx hZ hown w via eT F (g := mkF m pc L (.ref a :: K)) rfl rfl hd
  exact (q T' ⟨locs, k, X', e', hZ, hown, r⟩).via st
theorem St.putF (S : St md p l e R s m args below meth c own Z EL vm T h cells slots) (hx : p.tables.exec = Jvm.exec) {R0 O n d host C : String} {index kk : Nat} {ty : FieldType} (w : (Cond.fieldLink own index R0 n d).before a0 Z = true ∨ (Cond.fieldLinkNest own index R0 n d host).before a0 Z = true) (via : Via Z R0 O n d) {a : Addr} {v u : Value} (F : Fld Z h a O n d u) (E : Exa Z h a C)
    (Ly : (Cond.lays C O n d).before a0 Z = true ∨ ((Cond.laysFinal C O n d).before a0 Z = true ∧ own = O ∧ meth.name = "<init>")) (wi : (Cond.instantiable C kk).before a0 Z = true) (hty : parseFieldDescriptor d = some ty) (hn : narrow ty v = v) (hf : fits ty v = true) (sf : Safe Z EL vm h a) (ga : Z.heap.size ≤ a) (hd : decode c.code pc = .ok (.putfield index, 3)) (p' : Nat) (hp : p' = pc + 3)
    (q : ∀ T' h', St md p l e R s m args below meth c own Z EL vm T' h' cells slots → Wr h h' a (Jvm.RoadKit.slotOf Z O n d) v → CHr Z EL vm h vm h' → Goes p.tables e below P T' (mkF m p' L K)) : Goes p.tables e below P T (mkF m pc L (v :: .ref a :: K)) := by
  subst hp
  obtain ⟨locs, k, X, eT, hZ, hown, hS, hk, hC, hF, hO, h0, h2, hE⟩ := S
  obtain ⟨T', h', X', e', W', st⟩ := RoadKit.putF X hx hZ hown w via eT F E Ly wi hty hn hf (g := mkF m pc L (v :: .ref a :: K)) rfl rfl hd
  have hR := CHr.wr W' sf hC.1
  exact (q T' h' ⟨_, k, X', e', hZ, hown, hS, Nat.le_trans hk hR.2.1, hC.trans hR, Fr.snoc X' hF ga, hO.wr W' ga, h0, h2, hE⟩ W' hR).via st
theorem St.getS (S : St md p l e R s m args below meth c own Z EL vm T h cells slots) (hx : p.tables.exec = Jvm.exec) {R0 O n d host : String} {index : Nat} (w : (Cond.fieldLink own index R0 n d).before a0 Z = true ∨ (Cond.fieldLinkNest own index R0 n d host).before a0 Z = true) (via : Via Z R0 O n d) {v : Value} (F : Sta Z h O n d v) (hd : decode c.code pc = .ok (.getstatic index, 3)) (p' : Nat) (hp : p' = pc + 3)
    (q : ∀ T', St md p l e R s m args below meth c own Z EL vm T' h cells slots → Goes p.tables e below P T' (mkF m p' L (v :: K))) : Goes p.tables e below P T (mkF m pc L K) := by
  subst hp
  obtain ⟨locs, k, X, eT, hZ, hown, r⟩ := S
  obtain ⟨T', X', e', st⟩ := getS2 X hx hZ hown w via eT F (g := mkF m pc L K) rfl hd
  exact (q T' ⟨locs, k, X', e', hZ, hown, r⟩).via st
theorem St.castY (S : St md p l e R s m args below meth c own Z EL vm T h cells slots) (hx : p.tables.exec = Jvm.exec) {C : String} {index : Nat} (w : (Cond.classLink own index C).before a0 Z = true) {a : Addr} (F : Ins Z h a C true) (hd : decode c.code pc = .ok (.checkcast index, 3)) (p' : Nat) (hp : p' = pc + 3)
    (q : ∀ T', St md p l e R s m args below meth c own Z EL vm T' h cells slots → Goes p.tables e below P T' (mkF m p' L (.ref a :: K))) : Goes p.tables e below P T (mkF m pc L (.ref a :: K)) := by
  subst hp
  obtain ⟨locs, k, X, eT, hZ, hown, r⟩ := S
  obtain ⟨T', X', e', st⟩ := RoadKit.castY X hx hZ hown w eT F (g := mkF m pc L (.ref a :: K)) rfl rfl hd
  exact (q T' ⟨locs, k, X', e', hZ, hown, r⟩).via st
theorem St.instY (S : St md p l e R s m args below meth c own Z EL vm T h cells slots) (hx : p.tables.exec = Jvm.exec) {C : String} {index : Nat} (w : (Cond.classLink own index C).before a0 Z = true) {a : Addr} (F : Ins Z h a C true) (hd : decode c.code pc = .ok (.instanceof index, 3)) (p' : Nat) (hp : p' = pc + 3)
    (q : ∀ T', St md p l e R s m args below meth c own Z EL vm T' h cells slots → Goes p.tables e below P T' (mkF m p' L (.int 1 :: K))) : Goes p.tables e below P T (mkF m pc L (.ref a :: K)) := by
  subst hp
  obtain ⟨locs, k, X, eT, hZ, hown, r⟩ := S
  obtain ⟨T', X', e', st⟩ := RoadKit.instY X hx hZ hown w eT F (g := mkF m pc L (.ref a :: K)) rfl rfl hd
  exact (q T' ⟨locs, k, X', e', hZ, hown, r⟩).via st
theorem St.ldcI (S : St md p l e R s m args below meth c own Z EL vm T h cells slots) (hx : p.tables.exec = Jvm.exec) {index : Nat} {v : Int32} (w : (Cond.constant own index v).before a0 Z = true) (hd : decode c.code pc = .ok (.ldc index, 2)) (p' : Nat) (hp : p' = pc + 2)
    (q : Goes p.tables e below P T (mkF m p' L (.int v :: K))) : Goes p.tables e below P T (mkF m pc L K) := by
  subst hp
  obtain ⟨locs, k, X, eT, hZ, hown, r⟩ := S
  exact q.via fun t k => X.ldcInt hx hown (mvT (s := s.setVm vm) hZ w) (g := mkF m pc L K) rfl hd t k
theorem St.ldcJ (S : St md p l e R s m args below meth c own Z EL vm T h cells slots) (hx : p.tables.exec = Jvm.exec) {index : Nat} {v : Int64} (w : (Cond.constantLong own index v).before a0 Z = true) (hd : decode c.code pc = .ok (.ldc2_w index, 3)) (p' : Nat) (hp : p' = pc + 3)
    (q : Goes p.tables e below P T (mkF m p' L (.long v :: K))) : Goes p.tables e below P T (mkF m pc L K) := by
  subst hp
  obtain ⟨locs, k, X, eT, hZ, hown, r⟩ := S
  exact q.via fun t k => X.ldc2Long hx hown (mvT (s := s.setVm vm) hZ w) (g := mkF m pc L K) rfl hd t k
/-- newarray of a primitive kind -/
theorem St.newA (S : St md p l e R s m args below meth c own Z EL vm T h cells slots) (hx : p.tables.exec = Jvm.exec) {aty : ArrayType} (w : (Cond.arrayClass (newarray.typeOf aty)).before a0 Z = true) {n : Int32} (hn : ¬ n < 0) {cap : Nat} (hcap : n.toNatClampNeg ≤ cap) (hb : cap * 8 ≤ 536870912) (hd : decode c.code pc = .ok (.newarray aty, 2)) (hc : cells + 1 ≤ R.cells) (hl : slots + cap ≤ R.slots) (p' : Nat) (hp : p' = pc + 2)
    (q : ∀ T' h' a k, St md p l e R s m args below meth c own Z EL vm T' h' (cells + 1) (slots + cap) → a = h.size → Ext h h' → Arv Z h' a k (newarray.typeOf aty) n (List.replicate cap (defaultValue (newarray.typeOf aty))) (defaultValue (newarray.typeOf aty)) → Safe Z EL vm h' a → CHr Z EL vm h vm h' → Goes p.tables e below P T' (mkF m p' L (.ref a :: K))) : Goes p.tables e below P T (mkF m pc L (.int n :: K)) := by
  subst hp
  obtain ⟨locs, k, X, eT, hZ, hown, hS, hk, hC, hF, hO, h0, h2, hE⟩ := S
  obtain ⟨T', h', cA, X', e', E', A', st⟩ := newP X hx hZ w eT (g := mkF m pc L (.int n :: K)) rfl hd rfl hn hcap hb hc hl
  exact (q T' h' h.size cA ⟨locs, k, X', e', hZ, hown, hS, Nat.le_trans hk E'.1, hC.trans (CHr.ext E' hC.1), hF, hO.ext E', h0, h2, hE⟩ rfl E' ((Arv.new A' hn).pad (pad_rep [] _ cap)) (Safe.ext E' hC.1 (Safe.new (Nat.le_refl _))) (CHr.ext E' hC.1)).via st
/-- castore -/
theorem St.stC (S : St md p l e R s m args below meth c own Z EL vm T h cells slots) (hx : p.tables.exec = Jvm.exec) {a : Addr} {k : ClassId} {z j x : Int32} {vs : List Value} {dv : Value} (A : Arv Z h a k .char z vs dv) (i : Nat) (hj : ¬ j < 0 ∧ j < z) (hi : j.toNatClampNeg = i) (hv : i < vs.length) (ga : Z.heap.size ≤ a) (x' : Int32) (hx' : nar .char x = x') (hd : decode c.code pc = .ok (.castore, 1)) (p' : Nat) (hp : p' = pc + 1)
    (q : ∀ T' h', St md p l e R s m args below meth c own Z EL vm T' h' cells slots → Wr h h' a i (.int x') → Arv Z h' a k .char z (vs.set i (.int x')) dv → CHr Z EL vm h vm h' → Goes p.tables e below P T' (mkF m p' L K)) : Goes p.tables e below P T (mkF m pc L (.int x :: .int j :: .ref a :: K)) := by
  subst hp hx'
  have sf := S.safeA A (by decide)
  obtain ⟨locs, kk, X, eT, hZ, hown, hS, hk, hC, hF, hO, h0, h2, hE⟩ := S
  obtain ⟨cl, A1, A2, A3, A4, A5, A6⟩ := A
  obtain ⟨T', h', X', e', W', st⟩ := RoadKit.stC X hx hZ eT A1 (j := j) (inb_of A3 hj) (g := mkF m pc L (.int x :: .int j :: .ref a :: K)) rfl rfl hd
  have hR := CHr.wr W' sf hC.1
  exact (q T' h' ⟨_, kk, X', e', hZ, hown, hS, Nat.le_trans hk hR.2.1, hC.trans hR, Fr.snoc X' hF ga, hO.wr W' ga, h0, h2, hE⟩ (by rw [← hi]; exact W') (Arv.set A1 A2 A3 A4 A5 A6 (fits_nar_char x) W' i hi hv) hR).via st
theorem St.len (S : St md p l e R s m args below meth c own Z EL vm T h cells slots) (hx : p.tables.exec = Jvm.exec) {a : Addr} {k : ClassId} {ty : FieldType} {z : Int32} {vs : List Value} {dv : Value} (A : Arv Z h a k ty z vs dv) (hd : decode c.code pc = .ok (.arraylength, 1)) (p' : Nat) (hp : p' = pc + 1)
    (q : Goes p.tables e below P T (mkF m p' L (.int z :: K))) : Goes p.tables e below P T (mkF m pc L (.ref a :: K)) := by
  subst hp
  obtain ⟨locs, kk, X, eT, hZ, hown, r⟩ := S
  obtain ⟨cl, A1, A2, A3, A4, A5, A6⟩ := A
  refine q.via fun t k => X.arraylength hx (by rw [eT]; exact A1.1) (State.isArrayOf_alike (T := s.setVm vm) hZ.alike A1.2.1) (g := mkF m pc L (.ref a :: K)) rfl rfl hd t ?_
  rw [len_of A3 A4]; exact k
end B

/-! part C: calls, String constants, returns -/
abbrev PreN (R : Room) (as' : Array Value) (h : Heap) (k n : Nat) : Pt → Array Value → Prop := fun A a => a = as' ∧ A.U.heap = h ∧ A.cells + k ≤ R.cells ∧ A.slots + n ≤ R.slots
abbrev PostN (Q : Option Value → Heap → List Loc → Prop) (k n : Nat) : Pt → Array Value → Option Value → Pt → Prop := fun A _ v B => ∃ L, Q v B.U.heap L ∧ B.locs = A.locs ++ L ∧ B.cells = A.cells + k ∧ B.slots = A.slots + n
abbrev PostW (Q : Option Value → Heap → List Loc → Prop) (k n : Nat) (Z : State) (EL : List (String × Nat)) (vm : Vm) (h : Heap) : Pt → Array Value → Option Value → Pt → Prop := fun A _ v B => ∃ L, Q v B.U.heap L ∧ B.locs = A.locs ++ L ∧ B.cells = A.cells + k ∧ B.slots = A.slots + n ∧ CHr Z EL vm h B.U.vm B.U.heap
section C
variable {md : Nat} {p : Program} {l : Launch} {e : Env} {R : Room} {s : State} {m : MethodId} {args : Array Value} {below : List Frame} {meth : Method} {c : Code} {own : String} {Z : State} {EL : List (String × Nat)} {vm : Vm} {T : State} {h : Heap} {cells slots : Nat} {P : Outcome → State → Prop} {pc : Nat} {L : Array Slot} {K : List Value} {a0 : Array Value} {y : MethodName} {bytes : ByteArray} {maxL : Nat} {ret : Option FieldType} {rm : Room} {as' : Array Value} {Q : Option Value → Heap → Prop} {W len : Nat}
theorem nosf : ∀ x ∈ ([] : List Addr), x < h.size ∧ Safe Z EL vm h x := fun _ q => nomatch q
theorem ctBack {sf : List Addr} (hM : Ct 0 l Z [] sf y bytes maxL ret rm as' h Q) (hZ : Z.Warmed39 s.vm) (wc : (Cond.code y bytes maxL ret).before a0 Z = true) (wz : (Cond.initialized y.cls).before a0 Z = true) (hf : rm.frames + 1 ≤ R.frames) (hl : W + (maxL + 11) + rm.locals ≤ R.locals) :
    Back l R p e below s args y len W (PreN R as' h rm.cells rm.slots) (PostN (fun v h' L => Q v h' ∧ Fr Z.heap.size L ∧ Old Z Z.heap.size h' ∧ h.size ≤ h'.size) rm.cells rm.slots) := by
  have hM' : MetFree l y (head1 [Cond.code y bytes maxL ret] rm) (fun a U => a = as' ∧ Z.Warmed39 U.vm ∧ U.heap = h) (fun _ _ _ _ _ => True) (fun _ U o U' => ∃ v L, o = .returned v ∧ (Q v U'.heap ∧ Fr Z.heap.size L ∧ Old Z Z.heap.size U'.heap ∧ h.size ≤ U'.heap.size) ∧ FrameEnd U o U' L rm.cells rm.slots) := fun p e ha hc hk s m args below hf happ hP hK => by
    obtain ⟨n, o, h1, h2, h3, v, L, r1, r2, r3, r4⟩ := hM [] p e ha hc hk s m args below hf happ ⟨hP.1, hP.2.1, hP.2.2, chv_nil, fun _ _ => safe_nil⟩ (fun q => by cases q)
    exact ⟨n, o, h1, h2, h3, v, L, r1, ⟨r2.1, r2.2.1, r2.2.2, by rw [← hP.2.2]; exact r3.2.1⟩, r4.1 rfl⟩
  exact backOf (Q := fun v h' L => Q v h' ∧ Fr Z.heap.size L ∧ Old Z Z.heap.size h' ∧ h.size ≤ h'.size) hM' hZ wc wz hf hl
theorem ctBackS {sf : List Addr} (hmd : md ≠ 0) (hM : Ct md l Z EL sf y bytes maxL ret rm as' h Q) (hZ : Z.Warmed39 vm) (wc : (Cond.code y bytes maxL ret).before a0 Z = true) (wz : (Cond.initialized y.cls).before a0 Z = true) (hf : rm.frames + 1 ≤ R.frames) (hl : W + (maxL + 11) + rm.locals ≤ R.locals) {a1 : Array Value} (hEL : EW Z a1 EL) (H : CHv Z EL vm h) (hkn : KnOf md vm below) (hsf : ∀ x ∈ sf, x < h.size ∧ Safe Z EL vm h x) :
    BackS l R p e below (s.setVm vm) args y len W (PreN R as' h rm.cells rm.slots) (PostW (fun v h' L => Q v h' ∧ Fr Z.heap.size L ∧ Old Z Z.heap.size h') rm.cells rm.slots Z EL vm h) :=
  BackS.of_freeWG (bytes := bytes) (maxL := maxL) (ret := ret) (E := fun _ first o t L k n => k = rm.cells ∧ n = rm.slots ∧ (∃ v, o = .returned v ∧ Q v t.heap ∧ Fr Z.heap.size L ∧ Old Z Z.heap.size t.heap) ∧ CHr Z EL first.vm first.heap t.vm t.heap) (hM []) hf hl
    (fun m meth c A a Y hp => have hU : Z.Warmed39 A.U.vm := wtrans (s := s.setVm vm) hZ Y.warmed
      ⟨by show (Cond.and _ .tt).before a A.U = true; rw [Cond.before_and, mv hU wc]; rfl, mv hU wc, mv hU wz, hp.2.2.1, hp.2.2.2⟩)
    (fun m meth c A a g mk Y hp => ⟨hp.1, wtrans (s := s.setVm vm) hZ Y.warmed, hp.2.1, (CHv.at Y hZ hEL H).1, fun x hx => (CHv.at Y hZ hEL H).safe (hsf x hx).1 (hsf x hx).2⟩) (fun m meth c A a g mk Y _ hg q2 => known_frames Y hg (hkn q2).1 (hkn q2).2)
    (fun _ _ _ _ ⟨v, L, h1, h2, h3, h4⟩ => ⟨L, _, _, h4.2 hmd, rfl, rfl, ⟨v, h1, h2⟩, h3⟩)
    (fun m meth c A a g mk v t L k n Y hp _ _ ⟨e1, e2, ⟨v', e3, e4⟩, e5⟩ => by
      cases e3; subst e1 e2
      refine ⟨L, e4, rfl, rfl, rfl, (CHv.at Y hZ hEL H).trans ?_⟩
      rw [← hp.2.1]; exact e5)
theorem St.callSN (S : St md p l e R s m args below meth c own Z EL vm T h cells slots) (hx : p.tables.exec = Jvm.exec) {index : Nat}  (w1 : (Cond.methodLink own index y).before a0 Z = true) (w2 : (Cond.static y).before a0 Z = true) (w3 : (Cond.initialized y.cls).before a0 Z = true) (w4 : (Cond.code y bytes maxL ret).before a0 Z = true) (hy : y.cls ≠ "java/lang/invoke/MethodHandle" ∧ y.cls ≠ "java/lang/invoke/VarHandle") {k n : Nat} {QN : Option Value → Heap → List Loc → Prop} (hK : Back l R p e below (s.setVm vm) args y 3 W (PreN R as' h k n) (PostN QN k n)) (hQ : ∀ v h' Lc, QN v h' Lc → Fr Z.heap.size Lc ∧ Old Z Z.heap.size h' ∧ CHr Z EL vm h vm h') (hml : L.size = c.maxLocals) (argsL rest : List Value) (hlen : ∀ sig, parseMethodDescriptor y.desc = some sig → argsL.length = sig.parameters.length) (hst : K = argsL.reverse ++ rest) (has : argsL.toArray = as') (hW : (rest.map fun v => v.category).sum ≤ W) (hd : decode c.code pc = .ok (.invokestatic index, 3)) (hc : cells + k ≤ R.cells) (hs : slots + n ≤ R.slots) (p' : Nat) (hp : p' = pc + 3)
    (q : ∀ v T' h' Lc, St md p l e R s m args below meth c own Z EL vm T' h' (cells + k) (slots + n) → QN v h' Lc → CHr Z EL vm h vm h' → Goes p.tables e below P T' (mkF m p' L (v.toList ++ rest))) : Goes p.tables e below P T (mkF m pc L K) := by
  subst hp hst has
  obtain ⟨locs, k0, X, eT, hZ, hown, hS, hk, hC, hF, hO, h0, h2, hE⟩ := S
  obtain ⟨v, vm1, ⟨T', L', k', n'⟩, -, X', ⟨Lc, hq, l', y', z'⟩, st⟩ := Jvm.LawKit.callS X hx hown (mvT (s := s.setVm vm) hZ w1) (mvT (s := s.setVm vm) hZ w2) (mvT (s := s.setVm vm) hZ w3) (mvT (s := s.setVm vm) hZ w4) hy hK (g := mkF m pc L (argsL.reverse ++ rest)) rfl hml  (argsL := argsL) (rest := rest) hlen rfl (by show 2 * 0 + _ ≤ _; omega) hd (fun _ _ => ⟨rfl, eT, hc, hs⟩)
  dsimp only [Pt.U, Pt.locs, Pt.cells, Pt.slots] at X' l' y' z' st hq
  subst l' y' z'
  obtain ⟨r1, r2, r3⟩ := hQ v _ Lc hq
  exact (q v T' T'.heap Lc ⟨_, k0, X', rfl, hZ, hown, hS, Nat.le_trans hk r3.2.1, hC.trans r3, hF.app r1, r2, h0, h2, hE⟩ hq r3).via st
theorem St.callS {sf : List Addr} (S : St md p l e R s m args below meth c own Z EL vm T h cells slots) (hx : p.tables.exec = Jvm.exec) {index : Nat}  (w1 : (Cond.methodLink own index y).before a0 Z = true) (w2 : (Cond.static y).before a0 Z = true) (w3 : (Cond.initialized y.cls).before a0 Z = true) (w4 : (Cond.code y bytes maxL ret).before a0 Z = true) (hy : y.cls ≠ "java/lang/invoke/MethodHandle" ∧ y.cls ≠ "java/lang/invoke/VarHandle") (hM : Ct md l Z EL sf y bytes maxL ret rm as' h Q) (hsf : ∀ x ∈ sf, x < h.size ∧ Safe Z EL vm h x) (hf : rm.frames + 1 ≤ R.frames) (hl : W + (maxL + 11) + rm.locals ≤ R.locals) (hml : L.size = c.maxLocals) (argsL rest : List Value) (hlen : ∀ sig, parseMethodDescriptor y.desc = some sig → argsL.length = sig.parameters.length) (hst : K = argsL.reverse ++ rest) (has : argsL.toArray = as') (hW : (rest.map fun v => v.category).sum ≤ W) (hd : decode c.code pc = .ok (.invokestatic index, 3)) (hc : cells + rm.cells ≤ R.cells) (hs : slots + rm.slots ≤ R.slots) (p' : Nat) (hp : p' = pc + 3)
    (q : ∀ v vm' T' h', St md p l e R s m args below meth c own Z EL vm' T' h' (cells + rm.cells) (slots + rm.slots) → Q v h' → CHr Z EL vm h vm' h' → Goes p.tables e below P T' (mkF m p' L (v.toList ++ rest))) : Goes p.tables e below P T (mkF m pc L K) := by
  by_cases hmd : md = 0
  · subst hmd
    have hEL : EL = [] := by obtain ⟨_, _, -, -, -, -, -, -, -, -, -, h0, -⟩ := S; exact (h0 rfl).2
    subst hEL
    have hZ := S.warm
    exact St.callSN S hx w1 w2 w3 w4 hy (ctBack (s := s.setVm vm) hM hZ w4 w3 hf hl) (fun v h' Lc r => ⟨r.2.1, r.2.2.1, chr_nil r.2.2.2⟩) hml argsL rest hlen hst has hW hd hc hs p' hp (fun v T' h' Lc S' r R' => q v vm T' h' S' r.1 R')
  · subst hp hst has
    obtain ⟨locs, k0, X, eT, hZ, hown, hS, hk, hC, hF, hO, h0, h2, a1, hE⟩ := S
    have hK := ctBackS (s := s) (R := R) (p := p) (e := e) (below := below) (args := args) (W := W) (len := 3) hmd hM hZ w4 w3 hf hl hE.1 hC.1 h2 hsf
    obtain ⟨v, vm1, ⟨T', L', k', n'⟩, -, X', hS2, hgr, ⟨Lc, ⟨hq, r1, r2⟩, l', y', z', hR⟩, st⟩ := callSS X hx hown (mvT (s := s.setVm vm) hZ w1) (mvT (s := s.setVm vm) hZ w2) (mvT (s := s.setVm vm) hZ w3) (mvT (s := s.setVm vm) hZ w4) hy hK (g := mkF m pc L (argsL.reverse ++ rest)) rfl hml  (argsL := argsL) (rest := rest) hlen rfl (by show 2 * 0 + _ ≤ _; omega) hd (fun _ _ => ⟨rfl, eT, hc, hs⟩)
    dsimp only [Pt.U, Pt.locs, Pt.cells, Pt.slots] at X' l' y' z' st hq hS2 hgr hR
    subst l' y' z'
    obtain ⟨Y1, Y2, Y3, Y4⟩ := rebS hS (n1 := T.heap.size) (by rw [eT]; exact hk) X' hS2 hgr hZ hown
    exact (q v T'.vm T' T'.heap ⟨_, _, Y1, rfl, Y3, Y4, Y2, Nat.le_refl _, hC.trans hR, hF.app r1, r2, fun z => absurd z hmd, fun z => ⟨(h2 z).1.alikeC hS2.1.alike, (h2 z).2.alikeC hS2.1.alike⟩, a1, hE⟩ hq hR).to st
theorem St.callIN (S : St md p l e R s m args below meth c own Z EL vm T h cells slots) (hx : p.tables.exec = Jvm.exec) {index : Nat} {a : Addr} (hy1 : y.name = "<init>") (w1 : (Cond.methodLink own index y).before a0 Z = true) (w2 : (Cond.instanceMethod y).before a0 Z = true) (w4 : (Cond.code y bytes maxL none).before a0 Z = true) (hy : y.cls ≠ "java/lang/invoke/MethodHandle" ∧ y.cls ≠ "java/lang/invoke/VarHandle") {k n : Nat} {QN : Option Value → Heap → List Loc → Prop} (hK : Back l R p e below (s.setVm vm) args y 3 W (PreN R as' h k n) (PostN QN k n)) (hQ : ∀ v h' Lc, QN v h' Lc → Fr Z.heap.size Lc ∧ Old Z Z.heap.size h' ∧ CHr Z EL vm h vm h') (hml : L.size = c.maxLocals) (argsL rest : List Value) (hlen : ∀ sig, parseMethodDescriptor y.desc = some sig → argsL.length = sig.parameters.length) (hst : K = argsL.reverse ++ .ref a :: rest) (has : (.ref a :: argsL).toArray = as') (hW : (rest.map fun v => v.category).sum ≤ W) (hd : decode c.code pc = .ok (.invokespecial index, 3)) (hc : cells + k ≤ R.cells) (hs : slots + n ≤ R.slots) (p' : Nat) (hp : p' = pc + 3)
    (q : ∀ v T' h' Lc, St md p l e R s m args below meth c own Z EL vm T' h' (cells + k) (slots + n) → QN v h' Lc → CHr Z EL vm h vm h' → Goes p.tables e below P T' (mkF m p' L (v.toList ++ rest))) : Goes p.tables e below P T (mkF m pc L K) := by
  subst hp hst has
  obtain ⟨locs, k0, X, eT, hZ, hown, hS, hk, hC, hF, hO, h0, h2, hE⟩ := S
  obtain ⟨v, vm1, ⟨T', L', k', n'⟩, -, X', ⟨Lc, hq, l', y', z'⟩, st⟩ := X.specialBack hx hy1 hown (mvT (s := s.setVm vm) hZ w1) (mvT (s := s.setVm vm) hZ w2) (mvT (s := s.setVm vm) hZ w4) hy hK (g := mkF m pc L (argsL.reverse ++ .ref a :: rest)) rfl hml (Steps.refl _) (argsL := argsL) (rest := rest) hlen rfl (by show 2 * 0 + _ ≤ _; omega) hd (fun _ _ => ⟨rfl, eT, hc, hs⟩)
  dsimp only [Pt.U, Pt.locs, Pt.cells, Pt.slots] at X' l' y' z' st hq
  subst l' y' z'
  obtain ⟨r1, r2, r3⟩ := hQ v _ Lc hq
  exact (q v T' T'.heap Lc ⟨_, k0, X', rfl, hZ, hown, hS, Nat.le_trans hk r3.2.1, hC.trans r3, hF.app r1, r2, h0, h2, hE⟩ hq r3).to st
theorem St.callI {sf : List Addr} (S : St md p l e R s m args below meth c own Z EL vm T h cells slots) (hx : p.tables.exec = Jvm.exec) {index : Nat} {a : Addr} (hy1 : y.name = "<init>") (w1 : (Cond.methodLink own index y).before a0 Z = true) (w2 : (Cond.instanceMethod y).before a0 Z = true) (w4 : (Cond.code y bytes maxL none).before a0 Z = true) (hy : y.cls ≠ "java/lang/invoke/MethodHandle" ∧ y.cls ≠ "java/lang/invoke/VarHandle") (wz : (Cond.initialized y.cls).before a0 Z = true) (hM : Ct md l Z EL sf y bytes maxL none rm as' h Q) (hsf : ∀ x ∈ sf, x < h.size ∧ Safe Z EL vm h x) (hf : rm.frames + 1 ≤ R.frames) (hl : W + (maxL + 11) + rm.locals ≤ R.locals) (hml : L.size = c.maxLocals) (argsL rest : List Value) (hlen : ∀ sig, parseMethodDescriptor y.desc = some sig → argsL.length = sig.parameters.length) (hst : K = argsL.reverse ++ .ref a :: rest) (has : (.ref a :: argsL).toArray = as') (hW : (rest.map fun v => v.category).sum ≤ W) (hd : decode c.code pc = .ok (.invokespecial index, 3)) (hc : cells + rm.cells ≤ R.cells) (hs : slots + rm.slots ≤ R.slots) (p' : Nat) (hp : p' = pc + 3)
    (q : ∀ v vm' T' h', St md p l e R s m args below meth c own Z EL vm' T' h' (cells + rm.cells) (slots + rm.slots) → Q v h' → CHr Z EL vm h vm' h' → Goes p.tables e below P T' (mkF m p' L (v.toList ++ rest))) : Goes p.tables e below P T (mkF m pc L K) := by
  by_cases hmd : md = 0
  · subst hmd
    have hEL : EL = [] := by obtain ⟨_, _, -, -, -, -, -, -, -, -, -, h0, -⟩ := S; exact (h0 rfl).2
    subst hEL
    have hZ := S.warm
    exact St.callIN S hx hy1 w1 w2 w4 hy (ctBack (s := s.setVm vm) hM hZ w4 wz hf hl) (fun v h' Lc r => ⟨r.2.1, r.2.2.1, chr_nil r.2.2.2⟩) hml argsL rest hlen hst has hW hd hc hs p' hp (fun v T' h' Lc S' r R' => q v vm T' h' S' r.1 R')
  · subst hp hst has
    obtain ⟨locs, k0, X, eT, hZ, hown, hS, hk, hC, hF, hO, h0, h2, a1, hE⟩ := S
    have hK := ctBackS (s := s) (R := R) (p := p) (e := e) (below := below) (args := args) (W := W) (len := 3) hmd hM hZ w4 wz hf hl hE.1 hC.1 h2 hsf
    obtain ⟨v, vm1, ⟨T', L', k', n'⟩, -, X', hS2, hgr, ⟨Lc, ⟨hq, r1, r2⟩, l', y', z', hR⟩, st⟩ := X.specialBackS hx hy1 hown (mvT (s := s.setVm vm) hZ w1) (mvT (s := s.setVm vm) hZ w2) (mvT (s := s.setVm vm) hZ w4) hy hK (g := mkF m pc L (argsL.reverse ++ .ref a :: rest)) rfl hml (Steps.refl _) (argsL := argsL) (rest := rest) hlen rfl (by show 2 * 0 + _ ≤ _; omega) hd (fun _ _ => ⟨rfl, eT, hc, hs⟩)
    dsimp only [Pt.U, Pt.locs, Pt.cells, Pt.slots] at X' l' y' z' st hq hS2 hgr hR
    subst l' y' z'
    obtain ⟨Y1, Y2, Y3, Y4⟩ := rebS hS (n1 := T.heap.size) (by rw [eT]; exact hk) X' hS2 hgr hZ hown
    exact (q v T'.vm T' T'.heap ⟨_, _, Y1, rfl, Y3, Y4, Y2, Nat.le_refl _, hC.trans hR, hF.app r1, r2, fun z => absurd z hmd, fun z => ⟨(h2 z).1.alikeC hS2.1.alike, (h2 z).2.alikeC hS2.1.alike⟩, a1, hE⟩ hq hR).to st
theorem St.callVN (S : St md p l e R s m args below meth c own Z EL vm T h cells slots) (hx : p.tables.exec = Jvm.exec) {index : Nat} {a : Addr} {C : String} {x : MethodName} (w1 : (Cond.methodLink own index x).before a0 Z = true) (w2 : (Cond.declares x).before a0 Z = true) (nf : NotFace (s.setVm vm) x) (w5 : (Cond.selects C x y).before a0 Z = true) (w6 : (Cond.instanceMethod y).before a0 Z = true) (hy : x.cls ≠ "java/lang/invoke/MethodHandle" ∧ x.cls ≠ "java/lang/invoke/VarHandle") (E : Exa Z h a C) {k n : Nat} {QN : Option Value → Heap → List Loc → Prop} (hK : Back l R p e below (s.setVm vm) args y 3 W (PreN R as' h k n) (PostN QN k n)) (hQ : ∀ v h' Lc, QN v h' Lc → Fr Z.heap.size Lc ∧ Old Z Z.heap.size h' ∧ CHr Z EL vm h vm h') (hml : L.size = c.maxLocals) (argsL rest : List Value) (hlen : ∀ sig, parseMethodDescriptor x.desc = some sig → argsL.length = sig.parameters.length) (hst : K = argsL.reverse ++ .ref a :: rest) (has : (.ref a :: argsL).toArray = as') (hW : (rest.map fun v => v.category).sum ≤ W) (hd : decode c.code pc = .ok (.invokevirtual index, 3)) (hc : cells + k ≤ R.cells) (hs : slots + n ≤ R.slots) (p' : Nat) (hp : p' = pc + 3)
    (q : ∀ v T' h' Lc, St md p l e R s m args below meth c own Z EL vm T' h' (cells + k) (slots + n) → QN v h' Lc → CHr Z EL vm h vm h' → Goes p.tables e below P T' (mkF m p' L (v.toList ++ rest))) : Goes p.tables e below P T (mkF m pc L K) := by
  subst hp hst has
  obtain ⟨locs, k0, X, eT, hZ, hown, hS, hk, hC, hF, hO, h0, h2, hE⟩ := S
  obtain ⟨cq, kq, qa, qb, qc⟩ := isOf (s := s.setVm vm) hZ eT E
  obtain ⟨v, vm1, ⟨T', L', k', n'⟩, -, X', ⟨Lc, hq, l', y', z'⟩, st⟩ := X.virtualBack hx hown (mvT (s := s.setVm vm) hZ w1) (mvT (s := s.setVm vm) hZ w2) nf (mvT (s := s.setVm vm) hZ w5) (mvT (s := s.setVm vm) hZ w6) hy hK qa qc (g := mkF m pc L (argsL.reverse ++ .ref a :: rest)) rfl hml (Steps.refl _) (argsL := argsL) (rest := rest) hlen rfl (by show 2 * 0 + _ ≤ _; omega) hd (fun _ _ => ⟨rfl, eT, hc, hs⟩)
  dsimp only [Pt.U, Pt.locs, Pt.cells, Pt.slots] at X' l' y' z' st hq
  subst l' y' z'
  obtain ⟨r1, r2, r3⟩ := hQ v _ Lc hq
  exact (q v T' T'.heap Lc ⟨_, k0, X', rfl, hZ, hown, hS, Nat.le_trans hk r3.2.1, hC.trans r3, hF.app r1, r2, h0, h2, hE⟩ hq r3).to st
theorem St.callV {sf : List Addr} (S : St md p l e R s m args below meth c own Z EL vm T h cells slots) (hx : p.tables.exec = Jvm.exec) {index : Nat} {a : Addr} {C : String} {x : MethodName} (w1 : (Cond.methodLink own index x).before a0 Z = true) (w2 : (Cond.declares x).before a0 Z = true) (nf : NotFace (s.setVm vm) x) (w5 : (Cond.selects C x y).before a0 Z = true) (w6 : (Cond.instanceMethod y).before a0 Z = true) (hy : x.cls ≠ "java/lang/invoke/MethodHandle" ∧ x.cls ≠ "java/lang/invoke/VarHandle") (E : Exa Z h a C) (wc : (Cond.code y bytes maxL ret).before a0 Z = true) (wz : (Cond.initialized y.cls).before a0 Z = true) (hM : Ct md l Z EL sf y bytes maxL ret rm as' h Q) (hsf : ∀ x ∈ sf, x < h.size ∧ Safe Z EL vm h x) (hf : rm.frames + 1 ≤ R.frames) (hl : W + (maxL + 11) + rm.locals ≤ R.locals) (hml : L.size = c.maxLocals) (argsL rest : List Value) (hlen : ∀ sig, parseMethodDescriptor x.desc = some sig → argsL.length = sig.parameters.length) (hst : K = argsL.reverse ++ .ref a :: rest) (has : (.ref a :: argsL).toArray = as') (hW : (rest.map fun v => v.category).sum ≤ W) (hd : decode c.code pc = .ok (.invokevirtual index, 3)) (hc : cells + rm.cells ≤ R.cells) (hs : slots + rm.slots ≤ R.slots) (p' : Nat) (hp : p' = pc + 3)
    (q : ∀ v vm' T' h', St md p l e R s m args below meth c own Z EL vm' T' h' (cells + rm.cells) (slots + rm.slots) → Q v h' → CHr Z EL vm h vm' h' → Goes p.tables e below P T' (mkF m p' L (v.toList ++ rest))) : Goes p.tables e below P T (mkF m pc L K) := by
  by_cases hmd : md = 0
  · subst hmd
    have hEL : EL = [] := by obtain ⟨_, _, -, -, -, -, -, -, -, -, -, h0, -⟩ := S; exact (h0 rfl).2
    subst hEL
    have hZ := S.warm
    exact St.callVN S hx w1 w2 nf w5 w6 hy E (ctBack (s := s.setVm vm) hM hZ wc wz hf hl) (fun v h' Lc r => ⟨r.2.1, r.2.2.1, chr_nil r.2.2.2⟩) hml argsL rest hlen hst has hW hd hc hs p' hp (fun v T' h' Lc S' r R' => q v vm T' h' S' r.1 R')
  · subst hp hst has
    obtain ⟨locs, k0, X, eT, hZ, hown, hS, hk, hC, hF, hO, h0, h2, a1, hE⟩ := S
    obtain ⟨cq, kq, qa, qb, qc⟩ := isOf (s := s.setVm vm) hZ eT E
    have hK := ctBackS (s := s) (R := R) (p := p) (e := e) (below := below) (args := args) (W := W) (len := 3) hmd hM hZ wc wz hf hl hE.1 hC.1 h2 hsf
    obtain ⟨v, vm1, ⟨T', L', k', n'⟩, -, X', hS2, hgr, ⟨Lc, ⟨hq, r1, r2⟩, l', y', z', hR⟩, st⟩ := X.virtualBackS hx hown (mvT (s := s.setVm vm) hZ w1) (mvT (s := s.setVm vm) hZ w2) nf (mvT (s := s.setVm vm) hZ w5) (mvT (s := s.setVm vm) hZ w6) hy hK qa qc (g := mkF m pc L (argsL.reverse ++ .ref a :: rest)) rfl hml (Steps.refl _) (argsL := argsL) (rest := rest) hlen rfl (by show 2 * 0 + _ ≤ _; omega) hd (fun _ _ => ⟨rfl, eT, hc, hs⟩)
    dsimp only [Pt.U, Pt.locs, Pt.cells, Pt.slots] at X' l' y' z' st hq hS2 hgr hR
    subst l' y' z'
    obtain ⟨Y1, Y2, Y3, Y4⟩ := rebS hS (n1 := T.heap.size) (by rw [eT]; exact hk) X' hS2 hgr hZ hown
    exact (q v T'.vm T' T'.heap ⟨_, _, Y1, rfl, Y3, Y4, Y2, Nat.le_refl _, hC.trans hR, hF.app r1, r2, fun z => absurd z hmd, fun z => ⟨(h2 z).1.alikeC hS2.1.alike, (h2 z).2.alikeC hS2.1.alike⟩, a1, hE⟩ hq hR).to st
theorem St.callUN (S : St md p l e R s m args below meth c own Z EL vm T h cells slots) (hx : p.tables.exec = Jvm.exec) {index : Nat} {a : Addr} {C owner : String} {x : MethodName} (w1 : (Cond.methodLink own index x).before a0 Z = true) (w2 : (Cond.sameMethod x.cls owner x.name x.desc).before a0 Z = true) (w3 : (Cond.declares ⟨owner, x.name, x.desc⟩).before a0 Z = true) (w5 : (Cond.selects C x y).before a0 Z = true) (w6 : (Cond.instanceMethod y).before a0 Z = true) (hy : owner ≠ "java/lang/invoke/MethodHandle" ∧ owner ≠ "java/lang/invoke/VarHandle") (E : Exa Z h a C) {k n : Nat} {QN : Option Value → Heap → List Loc → Prop} (hK : Back l R p e below (s.setVm vm) args y 3 W (PreN R as' h k n) (PostN QN k n)) (hQ : ∀ v h' Lc, QN v h' Lc → Fr Z.heap.size Lc ∧ Old Z Z.heap.size h' ∧ CHr Z EL vm h vm h') (hml : L.size = c.maxLocals) (argsL rest : List Value) (hlen : ∀ sig, parseMethodDescriptor x.desc = some sig → argsL.length = sig.parameters.length) (hst : K = argsL.reverse ++ .ref a :: rest) (has : (.ref a :: argsL).toArray = as') (hW : (rest.map fun v => v.category).sum ≤ W) (hd : decode c.code pc = .ok (.invokevirtual index, 3)) (hc : cells + k ≤ R.cells) (hs : slots + n ≤ R.slots) (p' : Nat) (hp : p' = pc + 3)
    (q : ∀ v T' h' Lc, St md p l e R s m args below meth c own Z EL vm T' h' (cells + k) (slots + n) → QN v h' Lc → CHr Z EL vm h vm h' → Goes p.tables e below P T' (mkF m p' L (v.toList ++ rest))) : Goes p.tables e below P T (mkF m pc L K) := by
  subst hp hst has
  obtain ⟨locs, k0, X, eT, hZ, hown, hS, hk, hC, hF, hO, h0, h2, hE⟩ := S
  obtain ⟨cq, kq, qa, qb, qc⟩ := isOf (s := s.setVm vm) hZ eT E
  obtain ⟨v, vm1, ⟨T', L', k', n'⟩, -, X', ⟨Lc, hq, l', y', z'⟩, st⟩ := X.virtualBackUp hx hown (mvT (s := s.setVm vm) hZ w1) (mvT (s := s.setVm vm) hZ w2) (mvT (s := s.setVm vm) hZ w3) hy (mvT (s := s.setVm vm) hZ w5) (mvT (s := s.setVm vm) hZ w6) hK qa qc (g := mkF m pc L (argsL.reverse ++ .ref a :: rest)) rfl hml (Steps.refl _) (argsL := argsL) (rest := rest) hlen rfl (by show 2 * 0 + _ ≤ _; omega) hd (fun _ _ => ⟨rfl, eT, hc, hs⟩)
  dsimp only [Pt.U, Pt.locs, Pt.cells, Pt.slots] at X' l' y' z' st hq
  subst l' y' z'
  obtain ⟨r1, r2, r3⟩ := hQ v _ Lc hq
  exact (q v T' T'.heap Lc ⟨_, k0, X', rfl, hZ, hown, hS, Nat.le_trans hk r3.2.1, hC.trans r3, hF.app r1, r2, h0, h2, hE⟩ hq r3).to st
theorem St.callU {sf : List Addr} (S : St md p l e R s m args below meth c own Z EL vm T h cells slots) (hx : p.tables.exec = Jvm.exec) {index : Nat} {a : Addr} {C owner : String} {x : MethodName} (w1 : (Cond.methodLink own index x).before a0 Z = true) (w2 : (Cond.sameMethod x.cls owner x.name x.desc).before a0 Z = true) (w3 : (Cond.declares ⟨owner, x.name, x.desc⟩).before a0 Z = true) (w5 : (Cond.selects C x y).before a0 Z = true) (w6 : (Cond.instanceMethod y).before a0 Z = true) (hy : owner ≠ "java/lang/invoke/MethodHandle" ∧ owner ≠ "java/lang/invoke/VarHandle") (E : Exa Z h a C) (wc : (Cond.code y bytes maxL ret).before a0 Z = true) (wz : (Cond.initialized y.cls).before a0 Z = true) (hM : Ct md l Z EL sf y bytes maxL ret rm as' h Q) (hsf : ∀ x ∈ sf, x < h.size ∧ Safe Z EL vm h x) (hf : rm.frames + 1 ≤ R.frames) (hl : W + (maxL + 11) + rm.locals ≤ R.locals) (hml : L.size = c.maxLocals) (argsL rest : List Value) (hlen : ∀ sig, parseMethodDescriptor x.desc = some sig → argsL.length = sig.parameters.length) (hst : K = argsL.reverse ++ .ref a :: rest) (has : (.ref a :: argsL).toArray = as') (hW : (rest.map fun v => v.category).sum ≤ W) (hd : decode c.code pc = .ok (.invokevirtual index, 3)) (hc : cells + rm.cells ≤ R.cells) (hs : slots + rm.slots ≤ R.slots) (p' : Nat) (hp : p' = pc + 3)
    (q : ∀ v vm' T' h', St md p l e R s m args below meth c own Z EL vm' T' h' (cells + rm.cells) (slots + rm.slots) → Q v h' → CHr Z EL vm h vm' h' → Goes p.tables e below P T' (mkF m p' L (v.toList ++ rest))) : Goes p.tables e below P T (mkF m pc L K) := by
  by_cases hmd : md = 0
  · subst hmd
    have hEL : EL = [] := by obtain ⟨_, _, -, -, -, -, -, -, -, -, -, h0, -⟩ := S; exact (h0 rfl).2
    subst hEL
    have hZ := S.warm
    exact St.callUN S hx w1 w2 w3 w5 w6 hy E (ctBack (s := s.setVm vm) hM hZ wc wz hf hl) (fun v h' Lc r => ⟨r.2.1, r.2.2.1, chr_nil r.2.2.2⟩) hml argsL rest hlen hst has hW hd hc hs p' hp (fun v T' h' Lc S' r R' => q v vm T' h' S' r.1 R')
  · subst hp hst has
    obtain ⟨locs, k0, X, eT, hZ, hown, hS, hk, hC, hF, hO, h0, h2, a1, hE⟩ := S
    obtain ⟨cq, kq, qa, qb, qc⟩ := isOf (s := s.setVm vm) hZ eT E
    have hK := ctBackS (s := s) (R := R) (p := p) (e := e) (below := below) (args := args) (W := W) (len := 3) hmd hM hZ wc wz hf hl hE.1 hC.1 h2 hsf
    obtain ⟨v, vm1, ⟨T', L', k', n'⟩, -, X', hS2, hgr, ⟨Lc, ⟨hq, r1, r2⟩, l', y', z', hR⟩, st⟩ := virtualBackUpS X hx hown (mvT (s := s.setVm vm) hZ w1) (mvT (s := s.setVm vm) hZ w2) (mvT (s := s.setVm vm) hZ w3) hy (mvT (s := s.setVm vm) hZ w5) (mvT (s := s.setVm vm) hZ w6) hK qa qc (g := mkF m pc L (argsL.reverse ++ .ref a :: rest)) rfl hml (Steps.refl _) (argsL := argsL) (rest := rest) hlen rfl (by show 2 * 0 + _ ≤ _; omega) hd (fun _ _ => ⟨rfl, eT, hc, hs⟩)
    dsimp only [Pt.U, Pt.locs, Pt.cells, Pt.slots] at X' l' y' z' st hq hS2 hgr hR
    subst l' y' z'
    obtain ⟨Y1, Y2, Y3, Y4⟩ := rebS hS (n1 := T.heap.size) (by rw [eT]; exact hk) X' hS2 hgr hZ hown
    exact (q v T'.vm T' T'.heap ⟨_, _, Y1, rfl, Y3, Y4, Y2, Nat.le_refl _, hC.trans hR, hF.app r1, r2, fun z => absurd z hmd, fun z => ⟨(h2 z).1.alikeC hS2.1.alike, (h2 z).2.alikeC hS2.1.alike⟩, a1, hE⟩ hq hR).to st
theorem St.callPN (S : St md p l e R s m args below meth c own Z EL vm T h cells slots) (hx : p.tables.exec = Jvm.exec) {index : Nat} {a : Addr} (w1 : (Cond.methodLink own index y).before a0 Z = true) (w6 : (Cond.instanceMethod y).before a0 Z = true) (w5 : (Cond.selects y.cls y y).before a0 Z = true) (w7 : (Cond.privateMethod y).before a0 Z = true) (w4 : (Cond.code y bytes maxL ret).before a0 Z = true) (hy : y.cls ≠ "java/lang/invoke/MethodHandle" ∧ y.cls ≠ "java/lang/invoke/VarHandle") {C : String} (E : Exa Z h a C) {k n : Nat} {QN : Option Value → Heap → List Loc → Prop} (hK : Back l R p e below (s.setVm vm) args y 3 W (PreN R as' h k n) (PostN QN k n)) (hQ : ∀ v h' Lc, QN v h' Lc → Fr Z.heap.size Lc ∧ Old Z Z.heap.size h' ∧ CHr Z EL vm h vm h') (hml : L.size = c.maxLocals) (argsL rest : List Value) (hlen : ∀ sig, parseMethodDescriptor y.desc = some sig → argsL.length = sig.parameters.length) (hst : K = argsL.reverse ++ .ref a :: rest) (has : (.ref a :: argsL).toArray = as') (hW : (rest.map fun v => v.category).sum ≤ W) (hd : decode c.code pc = .ok (.invokevirtual index, 3)) (hc : cells + k ≤ R.cells) (hs : slots + n ≤ R.slots) (p' : Nat) (hp : p' = pc + 3)
    (q : ∀ v T' h' Lc, St md p l e R s m args below meth c own Z EL vm T' h' (cells + k) (slots + n) → QN v h' Lc → CHr Z EL vm h vm h' → Goes p.tables e below P T' (mkF m p' L (v.toList ++ rest))) : Goes p.tables e below P T (mkF m pc L K) := by
  subst hp hst has
  obtain ⟨locs, k0, X, eT, hZ, hown, hS, hk, hC, hF, hO, h0, h2, hE⟩ := S
  obtain ⟨cq, qa, qb⟩ := E.cell
  obtain ⟨v, vm1, ⟨T', L', k', n'⟩, -, X', ⟨Lc, hq, l', y', z'⟩, st⟩ := X.privateBack hx hown (mvT (s := s.setVm vm) hZ w1) (mvT (s := s.setVm vm) hZ w6) (mvT (s := s.setVm vm) hZ w5) (Cond.privateMethod_at (mvP (s := s.setVm vm) hZ w7 (args := #[]))) (mvT (s := s.setVm vm) hZ w4) hy hK (g := mkF m pc L (argsL.reverse ++ .ref a :: rest)) rfl hml (Steps.refl _) (a := a) (by rw [eT]; exact qa) qb (argsL := argsL) (rest := rest) hlen rfl (by show 2 * 0 + _ ≤ _; omega) hd (fun _ _ => ⟨rfl, eT, hc, hs⟩)
  dsimp only [Pt.U, Pt.locs, Pt.cells, Pt.slots] at X' l' y' z' st hq
  subst l' y' z'
  obtain ⟨r1, r2, r3⟩ := hQ v _ Lc hq
  exact (q v T' T'.heap Lc ⟨_, k0, X', rfl, hZ, hown, hS, Nat.le_trans hk r3.2.1, hC.trans r3, hF.app r1, r2, h0, h2, hE⟩ hq r3).to st
theorem St.callP {sf : List Addr} (S : St md p l e R s m args below meth c own Z EL vm T h cells slots) (hx : p.tables.exec = Jvm.exec) {index : Nat} {a : Addr} (w1 : (Cond.methodLink own index y).before a0 Z = true) (w6 : (Cond.instanceMethod y).before a0 Z = true) (w5 : (Cond.selects y.cls y y).before a0 Z = true) (w7 : (Cond.privateMethod y).before a0 Z = true) (w4 : (Cond.code y bytes maxL ret).before a0 Z = true) (hy : y.cls ≠ "java/lang/invoke/MethodHandle" ∧ y.cls ≠ "java/lang/invoke/VarHandle") {C : String} (E : Exa Z h a C) (wz : (Cond.initialized y.cls).before a0 Z = true) (hM : Ct md l Z EL sf y bytes maxL ret rm as' h Q) (hsf : ∀ x ∈ sf, x < h.size ∧ Safe Z EL vm h x) (hf : rm.frames + 1 ≤ R.frames) (hl : W + (maxL + 11) + rm.locals ≤ R.locals) (hml : L.size = c.maxLocals) (argsL rest : List Value) (hlen : ∀ sig, parseMethodDescriptor y.desc = some sig → argsL.length = sig.parameters.length) (hst : K = argsL.reverse ++ .ref a :: rest) (has : (.ref a :: argsL).toArray = as') (hW : (rest.map fun v => v.category).sum ≤ W) (hd : decode c.code pc = .ok (.invokevirtual index, 3)) (hc : cells + rm.cells ≤ R.cells) (hs : slots + rm.slots ≤ R.slots) (p' : Nat) (hp : p' = pc + 3)
    (q : ∀ v vm' T' h', St md p l e R s m args below meth c own Z EL vm' T' h' (cells + rm.cells) (slots + rm.slots) → Q v h' → CHr Z EL vm h vm' h' → Goes p.tables e below P T' (mkF m p' L (v.toList ++ rest))) : Goes p.tables e below P T (mkF m pc L K) := by
  by_cases hmd : md = 0
  · subst hmd
    have hEL : EL = [] := by obtain ⟨_, _, -, -, -, -, -, -, -, -, -, h0, -⟩ := S; exact (h0 rfl).2
    subst hEL
    have hZ := S.warm
    exact St.callPN S hx w1 w6 w5 w7 w4 hy E (ctBack (s := s.setVm vm) hM hZ w4 wz hf hl) (fun v h' Lc r => ⟨r.2.1, r.2.2.1, chr_nil r.2.2.2⟩) hml argsL rest hlen hst has hW hd hc hs p' hp (fun v T' h' Lc S' r R' => q v vm T' h' S' r.1 R')
  · subst hp hst has
    obtain ⟨locs, k0, X, eT, hZ, hown, hS, hk, hC, hF, hO, h0, h2, a1, hE⟩ := S
    obtain ⟨cq, qa, qb⟩ := E.cell
    have hK := ctBackS (s := s) (R := R) (p := p) (e := e) (below := below) (args := args) (W := W) (len := 3) hmd hM hZ w4 wz hf hl hE.1 hC.1 h2 hsf
    obtain ⟨v, vm1, ⟨T', L', k', n'⟩, -, X', hS2, hgr, ⟨Lc, ⟨hq, r1, r2⟩, l', y', z', hR⟩, st⟩ := privateBackS X hx hown (mvT (s := s.setVm vm) hZ w1) (mvT (s := s.setVm vm) hZ w6) (mvT (s := s.setVm vm) hZ w5) (Cond.privateMethod_at (mvP (s := s.setVm vm) hZ w7 (args := #[]))) (mvT (s := s.setVm vm) hZ w4) hy hK (g := mkF m pc L (argsL.reverse ++ .ref a :: rest)) rfl hml (Steps.refl _) (a := a) (by rw [eT]; exact qa) qb (argsL := argsL) (rest := rest) hlen rfl (by show 2 * 0 + _ ≤ _; omega) hd (fun _ _ => ⟨rfl, eT, hc, hs⟩)
    dsimp only [Pt.U, Pt.locs, Pt.cells, Pt.slots] at X' l' y' z' st hq hS2 hgr hR
    subst l' y' z'
    obtain ⟨Y1, Y2, Y3, Y4⟩ := rebS hS (n1 := T.heap.size) (by rw [eT]; exact hk) X' hS2 hgr hZ hown
    exact (q v T'.vm T' T'.heap ⟨_, _, Y1, rfl, Y3, Y4, Y2, Nat.le_refl _, hC.trans hR, hF.app r1, r2, fun z => absurd z hmd, fun z => ⟨(h2 z).1.alikeC hS2.1.alike, (h2 z).2.alikeC hS2.1.alike⟩, a1, hE⟩ hq hR).to st
theorem St.callFN (S : St md p l e R s m args below meth c own Z EL vm T h cells slots) (hx : p.tables.exec = Jvm.exec) {index : Nat} {a : Addr} {C : String} {x : MethodName} {count : Nat} (w1 : (Cond.methodLink own index x).before a0 Z = true) (w2 : (Cond.declares x).before a0 Z = true) (w3 : (Cond.interfaceMethod x.cls x.cls x.name x.desc).before a0 Z = true) (w5 : (Cond.selects C x y).before a0 Z = true) (w6 : (Cond.instanceMethod y).before a0 Z = true) (w7 : (Cond.publicMethod y).before a0 Z = true) (w8 : (Cond.unhidden C x.name x.desc).before a0 Z = true) (w9 : (Cond.castable C x.cls).before a0 Z = true) (hy : x.cls ≠ "java/lang/invoke/MethodHandle" ∧ x.cls ≠ "java/lang/invoke/VarHandle") (E : Exa Z h a C) {k n : Nat} {QN : Option Value → Heap → List Loc → Prop} (hK : Back l R p e below (s.setVm vm) args y 5 W (PreN R as' h k n) (PostN QN k n)) (hQ : ∀ v h' Lc, QN v h' Lc → Fr Z.heap.size Lc ∧ Old Z Z.heap.size h' ∧ CHr Z EL vm h vm h') (hml : L.size = c.maxLocals) (argsL rest : List Value) (hlen : ∀ sig, parseMethodDescriptor x.desc = some sig → argsL.length = sig.parameters.length) (hst : K = argsL.reverse ++ .ref a :: rest) (has : (.ref a :: argsL).toArray = as') (hW : (rest.map fun v => v.category).sum ≤ W) (hd : decode c.code pc = .ok (.invokeinterface index count, 5)) (hc : cells + k ≤ R.cells) (hs : slots + n ≤ R.slots) (p' : Nat) (hp : p' = pc + 5)
    (q : ∀ v T' h' Lc, St md p l e R s m args below meth c own Z EL vm T' h' (cells + k) (slots + n) → QN v h' Lc → CHr Z EL vm h vm h' → Goes p.tables e below P T' (mkF m p' L (v.toList ++ rest))) : Goes p.tables e below P T (mkF m pc L K) := by
  subst hp hst has
  obtain ⟨locs, k0, X, eT, hZ, hown, hS, hk, hC, hF, hO, h0, h2, hE⟩ := S
  obtain ⟨cq, kq, qa, qb, qc⟩ := isOf (s := s.setVm vm) hZ eT E
  obtain ⟨v, vm1, ⟨T', L', k', n'⟩, -, X', ⟨Lc, hq, l', y', z'⟩, st⟩ := X.interfaceBack hx hown (mvT (s := s.setVm vm) hZ w1) (mvT (s := s.setVm vm) hZ w2) (mvT (s := s.setVm vm) hZ w3 (by simp [Cond.onTables, Cond.keepsFace, Cond.keeps, Cond.steady, Cond.faceAtom]; exact hy)) (mvT (s := s.setVm vm) hZ w5) (mvT (s := s.setVm vm) hZ w6) (mvT (s := s.setVm vm) hZ w7) (mvT (s := s.setVm vm) hZ w8) (mvT (s := s.setVm vm) hZ w9) hy hK qa qb qc (g := mkF m pc L (argsL.reverse ++ .ref a :: rest)) rfl hml (Steps.refl _) (argsL := argsL) (rest := rest) hlen rfl (by show 2 * 0 + _ ≤ _; omega) hd (fun _ _ => ⟨rfl, eT, hc, hs⟩)
  dsimp only [Pt.U, Pt.locs, Pt.cells, Pt.slots] at X' l' y' z' st hq
  subst l' y' z'
  obtain ⟨r1, r2, r3⟩ := hQ v _ Lc hq
  exact (q v T' T'.heap Lc ⟨_, k0, X', rfl, hZ, hown, hS, Nat.le_trans hk r3.2.1, hC.trans r3, hF.app r1, r2, h0, h2, hE⟩ hq r3).to st
theorem St.callF {sf : List Addr} (S : St md p l e R s m args below meth c own Z EL vm T h cells slots) (hx : p.tables.exec = Jvm.exec) {index : Nat} {a : Addr} {C : String} {x : MethodName} {count : Nat} (w1 : (Cond.methodLink own index x).before a0 Z = true) (w2 : (Cond.declares x).before a0 Z = true) (w3 : (Cond.interfaceMethod x.cls x.cls x.name x.desc).before a0 Z = true) (w5 : (Cond.selects C x y).before a0 Z = true) (w6 : (Cond.instanceMethod y).before a0 Z = true) (w7 : (Cond.publicMethod y).before a0 Z = true) (w8 : (Cond.unhidden C x.name x.desc).before a0 Z = true) (w9 : (Cond.castable C x.cls).before a0 Z = true) (hy : x.cls ≠ "java/lang/invoke/MethodHandle" ∧ x.cls ≠ "java/lang/invoke/VarHandle") (E : Exa Z h a C) (wc : (Cond.code y bytes maxL ret).before a0 Z = true) (wz : (Cond.initialized y.cls).before a0 Z = true) (hM : Ct md l Z EL sf y bytes maxL ret rm as' h Q) (hsf : ∀ x ∈ sf, x < h.size ∧ Safe Z EL vm h x) (hf : rm.frames + 1 ≤ R.frames) (hl : W + (maxL + 11) + rm.locals ≤ R.locals) (hml : L.size = c.maxLocals) (argsL rest : List Value) (hlen : ∀ sig, parseMethodDescriptor x.desc = some sig → argsL.length = sig.parameters.length) (hst : K = argsL.reverse ++ .ref a :: rest) (has : (.ref a :: argsL).toArray = as') (hW : (rest.map fun v => v.category).sum ≤ W) (hd : decode c.code pc = .ok (.invokeinterface index count, 5)) (hc : cells + rm.cells ≤ R.cells) (hs : slots + rm.slots ≤ R.slots) (p' : Nat) (hp : p' = pc + 5)
    (q : ∀ v vm' T' h', St md p l e R s m args below meth c own Z EL vm' T' h' (cells + rm.cells) (slots + rm.slots) → Q v h' → CHr Z EL vm h vm' h' → Goes p.tables e below P T' (mkF m p' L (v.toList ++ rest))) : Goes p.tables e below P T (mkF m pc L K) := by
  by_cases hmd : md = 0
  · subst hmd
    have hEL : EL = [] := by obtain ⟨_, _, -, -, -, -, -, -, -, -, -, h0, -⟩ := S; exact (h0 rfl).2
    subst hEL
    have hZ := S.warm
    exact St.callFN S hx w1 w2 w3 w5 w6 w7 w8 w9 hy E (ctBack (s := s.setVm vm) hM hZ wc wz hf hl) (fun v h' Lc r => ⟨r.2.1, r.2.2.1, chr_nil r.2.2.2⟩) hml argsL rest hlen hst has hW hd hc hs p' hp (fun v T' h' Lc S' r R' => q v vm T' h' S' r.1 R')
  · subst hp hst has
    obtain ⟨locs, k0, X, eT, hZ, hown, hS, hk, hC, hF, hO, h0, h2, a1, hE⟩ := S
    obtain ⟨cq, kq, qa, qb, qc⟩ := isOf (s := s.setVm vm) hZ eT E
    have hK := ctBackS (s := s) (R := R) (p := p) (e := e) (below := below) (args := args) (W := W) (len := 5) hmd hM hZ wc wz hf hl hE.1 hC.1 h2 hsf
    obtain ⟨v, vm1, ⟨T', L', k', n'⟩, -, X', hS2, hgr, ⟨Lc, ⟨hq, r1, r2⟩, l', y', z', hR⟩, st⟩ := X.interfaceBackS hx hown (mvT (s := s.setVm vm) hZ w1) (mvT (s := s.setVm vm) hZ w2) (mvT (s := s.setVm vm) hZ w3 (by simp [Cond.onTables, Cond.keepsFace, Cond.keeps, Cond.steady, Cond.faceAtom]; exact hy)) (mvT (s := s.setVm vm) hZ w5) (mvT (s := s.setVm vm) hZ w6) (mvT (s := s.setVm vm) hZ w7) (mvT (s := s.setVm vm) hZ w8) (mvT (s := s.setVm vm) hZ w9) hy hK qa qb qc (g := mkF m pc L (argsL.reverse ++ .ref a :: rest)) rfl hml (Steps.refl _) (argsL := argsL) (rest := rest) hlen rfl (by show 2 * 0 + _ ≤ _; omega) hd (fun _ _ => ⟨rfl, eT, hc, hs⟩)
    dsimp only [Pt.U, Pt.locs, Pt.cells, Pt.slots] at X' l' y' z' st hq hS2 hgr hR
    subst l' y' z'
    obtain ⟨Y1, Y2, Y3, Y4⟩ := rebS hS (n1 := T.heap.size) (by rw [eT]; exact hk) X' hS2 hgr hZ hown
    exact (q v T'.vm T' T'.heap ⟨_, _, Y1, rfl, Y3, Y4, Y2, Nat.le_refl _, hC.trans hR, hF.app r1, r2, fun z => absurd z hmd, fun z => ⟨(h2 z).1.alikeC hS2.1.alike, (h2 z).2.alikeC hS2.1.alike⟩, a1, hE⟩ hq hR).to st
/-- a String constant, whatever it says -/
theorem St.ldcO (S : St md p l e R s m args below meth c own Z EL vm T h cells slots) (hx : p.tables.exec = Jvm.exec) (hmd : md ≠ 0) {index : Nat} {text : String} (w : (Cond.stringLink own index text).before a0 Z = true) (wS : ∀ a ∈ Bundle.stringAtoms, a.before a0 Z = true) (hd : decode c.code pc = .ok (.ldc index, 2)) {n : Nat} (hn : 4 * text.toList.length ≤ n) (hbig : n ≤ 536870912) (hc : cells + 2 ≤ R.cells) (hl : slots + (n + 4) ≤ R.slots) (p' : Nat) (hp : p' = pc + 2)
    (q : ∀ vm' T' h' a, St md p l e R s m args below meth c own Z EL vm' T' h' (cells + 2) (slots + (n + 4)) → Ext h h' → CHr Z EL vm h vm' h' → Goes p.tables e below P T' (mkF m p' L (.ref a :: K))) : Goes p.tables e below P T (mkF m pc L K) := by
  subst hp
  obtain ⟨locs, k0, X, eT, hZ, hown, hS, hk, hC, hF, hO, h0, h2, a1, hE⟩ := S
  obtain ⟨a, T', h', k1, X', e', E', hS', hk', hZ', hown', hR, -, st⟩ := ldcOH X hx hZ hown w wS eT hS hk hE.1 hC.1 (g := mkF m pc L K) rfl hd hn hbig hc hl
  have hal : vm.Alike T'.vm := hZ.alike.symm.trans hZ'.alike
  exact (q T'.vm T' h' a ⟨locs, k1, X', e', hZ', hown', hS', hk', hC.trans hR, hF, hO.ext E', fun z => absurd z hmd, fun z => ⟨(h2 z).1.alikeC hal, (h2 z).2.alikeC hal⟩, a1, hE⟩ E' hR).via st
/-- a String constant of the list, read -/
theorem St.ldcC (S : St md p l e R s m args below meth c own Z EL vm T h cells slots) (hx : p.tables.exec = Jvm.exec) (hmd : md ≠ 0) {index : Nat} {text : String} (w : (Cond.stringLink own index text).before a0 Z = true) (wS : ∀ a ∈ Bundle.stringAtoms, a.before a0 Z = true) (hmem : (own, index) ∈ EL) {vs : List Value} {z : Int32} (ht : (∀ c ∈ text.toList, c.toNat < 256) ∧ text.toList.map (fun c => Value.int (Jvm.Lit.byteI c.toNat.toUInt16)) = vs) (hz : ¬ z < 0) (hzl : z.toNatClampNeg = vs.length)
    (hd : decode c.code pc = .ok (.ldc index, 2)) {n : Nat} (hn : 4 * text.toList.length ≤ n) (hbig : n ≤ 536870912) (hc : cells + 2 ≤ R.cells) (hl : slots + (n + 4) ≤ R.slots) (p' : Nat) (hp : p' = pc + 2)
    (q : ∀ vm' T' h' a b k, St md p l e R s m args below meth c own Z EL vm' T' h' (cells + 2) (slots + (n + 4)) → Ext h h' → CHr Z EL vm h vm' h' → Exa Z h' a "java/lang/String" → Fld Z h' a "java/lang/String" "coder" "B" (.int 0) → Fld Z h' a "java/lang/String" "value" "[B" (.ref b) → Arv Z h' b k .byte z vs (.int 0) → (∀ x, Safe Z EL vm' h' x → x ≠ a ∧ x ≠ b) → Goes p.tables e below P T' (mkF m p' L (.ref a :: K))) : Goes p.tables e below P T (mkF m pc L K) := by
  subst hp
  obtain ⟨locs, k0, X, eT, hZ, hown, hS, hk, hC, hF, hO, h0, h2, a1, hE⟩ := S
  obtain ⟨a, T', h', k1, b, k, X', e', E', hS', hk', hZ', hown', q1, q2, q3, q4, -, -, hR, -, hne, st⟩ := ldcCH X hx hZ hown w wS eT hS hk hE.1 hmem hC.1 ht hz hzl (g := mkF m pc L K) rfl hd hn hbig hc hl
  have hal : vm.Alike T'.vm := hZ.alike.symm.trans hZ'.alike
  exact (q T'.vm T' h' a b k ⟨locs, k1, X', e', hZ', hown', hS', hk', hC.trans hR, hF, hO.ext E', fun z => absurd z hmd, fun z => ⟨(h2 z).1.alikeC hal, (h2 z).2.alikeC hal⟩, a1, hE⟩ E' hR q1 q2 q3 q4 hne).via st
/-- the end of a body -/
theorem St.leave' (S : St md p l e R s m args below meth c own Z EL vm T h cells slots) (hlk : meth.locks = false) {v : Option Value} (hv : meth.sig.returnType = none → v = none) (hq : Q v h) (hc : cells ≤ R.cells) (hs : slots ≤ R.slots) {F : JFrame}
    (step : ∀ (locs : List Loc) (fs : List Frame), Stand p l e R (s.setVm vm) m args below meth c T locs cells slots → (∀ (f : JFrame) (acts : List Action), f.method = m → f.locked = none → f.entered = [] → (doReturn e (T.setTop f) acts v).1 = T.setFrames fs) → Steps p.tables e below (T.setTop F) (T.setFrames fs)) :
    Goes p.tables e below (Pof md Z EL s R Q) T F := by
  obtain ⟨locs, k0, X, eT, hZ, hown, hS, hk, hC, hF, hO, h0, h2, a1, hE⟩ := S
  have hR := CHv.at X hZ hE.1 hC.1
  by_cases hmd : md = 0
  · obtain ⟨rfl, rfl⟩ := h0 hmd
    obtain ⟨fs, hr, hrun, hended, hW, hsame⟩ := X.leave hv
    exact ⟨_, _, step locs fs X hr, hrun, hended, v, locs, rfl, ⟨by show Q v T.heap; rw [eT]; exact hq, hF, by show Old Z _ T.heap; rw [eT]; exact hO⟩, by show CHr Z _ _ _ T.vm T.heap; rw [eT]; exact hC.trans hR, fun _ => ⟨⟨_, rfl⟩, hW, hsame.mono hc hs⟩, fun q => absurd hmd q⟩
  · obtain ⟨fs, hr, hrun, hended, r1, r2, r3, r4⟩ := leaveW X hS (by rw [eT]; exact hk) hv hlk
    exact ⟨_, _, step locs fs X hr, hrun, hended, v, locs, rfl, ⟨by show Q v T.heap; rw [eT]; exact hq, hF, by show Old Z _ T.heap; rw [eT]; exact hO⟩, by show CHr Z _ _ _ T.vm T.heap; rw [eT]; exact hC.trans hR, fun q => absurd q hmd, fun _ => ⟨r1, r2, r3, r4.mono hc hs⟩⟩
theorem St.iret (S : St md p l e R s m args below meth c own Z EL vm T h cells slots) (hx : p.tables.exec = Jvm.exec) (hlk : meth.locks = false) {t : FieldType} {z : Int32} (hret : meth.sig.returnType = some t) (ht : t = .int ∨ t = .boolean ∨ t = .byte ∨ t = .char ∨ t = .short) (hn : narrow t (.int z) = .int z) (hd : decode c.code pc = .ok (.ireturn, 1)) (hq : Q (some (.int z)) h) (hc : cells ≤ R.cells) (hs : slots ≤ R.slots) : Goes p.tables e below (Pof md Z EL s R Q) T (mkF m pc L (.int z :: K)) :=
  S.leave' hlk (fun q => by rw [hret] at q; cases q) hq hc hs fun locs fs X hr => retOut X hx hret hn (Or.inl ⟨rfl, ht, z, rfl⟩) hd hr
theorem St.lret (S : St md p l e R s m args below meth c own Z EL vm T h cells slots) (hx : p.tables.exec = Jvm.exec) (hlk : meth.locks = false) {z : Int64} (hret : meth.sig.returnType = some .long) (hd : decode c.code pc = .ok (.lreturn, 1)) (hq : Q (some (.long z)) h) (hc : cells ≤ R.cells) (hs : slots ≤ R.slots) : Goes p.tables e below (Pof md Z EL s R Q) T (mkF m pc L (.long z :: K)) :=
  S.leave' hlk (fun q => by rw [hret] at q; cases q) hq hc hs fun locs fs X hr => retOut X hx hret rfl (Or.inr (Or.inl ⟨rfl, rfl, z, rfl⟩)) hd hr
theorem St.aret (S : St md p l e R s m args below meth c own Z EL vm T h cells slots) (hx : p.tables.exec = Jvm.exec) (hlk : meth.locks = false) {t : FieldType} {v : Value} (hret : meth.sig.returnType = some t) (ht : t.isReference = true) (hv : v.isRef = true) (hn : narrow t v = v) (hd : decode c.code pc = .ok (.areturn, 1)) (hq : Q (some v) h) (hc : cells ≤ R.cells) (hs : slots ≤ R.slots) : Goes p.tables e below (Pof md Z EL s R Q) T (mkF m pc L (v :: K)) :=
  S.leave' hlk (fun q => by rw [hret] at q; cases q) hq hc hs fun locs fs X hr => retOut X hx hret hn (Or.inr (Or.inr (Or.inr (Or.inr ⟨rfl, ht, hv⟩)))) hd hr
theorem St.vret (S : St md p l e R s m args below meth c own Z EL vm T h cells slots) (hx : p.tables.exec = Jvm.exec) (hlk : meth.locks = false) (hret : meth.sig.returnType = none) (hd : decode c.code pc = .ok (.return_, 1)) (hq : Q none h) (hc : cells ≤ R.cells) (hs : slots ≤ R.slots) : Goes p.tables e below (Pof md Z EL s R Q) T (mkF m pc L []) :=
  S.leave' hlk (fun _ => rfl) hq hc hs fun locs fs X hr => X.returnOut hx hret hd hr
end C

/-! part E: more steps -/
section E
variable {md : Nat} {p : Program} {l : Launch} {e : Env} {R : Room} {s : State} {m : MethodId} {args : Array Value} {below : List Frame} {meth : Method} {c : Code} {own : String} {Z : State} {EL : List (String × Nat)} {vm : Vm} {T : State} {h : Heap} {cells slots : Nat} {P : Outcome → State → Prop} {pc : Nat} {L : Array Slot} {K : List Value} {a0 : Array Value}
theorem St.initO (S : St md p l e R s m args below meth c own Z EL vm T h cells slots) (hx : p.tables.exec = Jvm.exec) {index : Nat} (w1 : (Cond.methodLink own index Lib.objectInit).before a0 Z = true) (w2 : (Cond.instanceMethod Lib.objectInit).before a0 Z = true) (w3 : (Cond.code Lib.objectInit ⟨#[0xb1]⟩ 1 none).before a0 Z = true) (hml : L.size = c.maxLocals) {a : Addr} {W : Nat} (hf : 1 ≤ R.frames) (hW : (K.map fun v => v.category).sum ≤ W) (hl : W + 12 ≤ R.locals) (hd : decode c.code pc = .ok (.invokespecial index, 3)) (p' : Nat) (hp : p' = pc + 3)
    (q : ∀ T', St md p l e R s m args below meth c own Z EL vm T' h cells slots → Goes p.tables e below P T' (mkF m p' L K)) : Goes p.tables e below P T (mkF m pc L (.ref a :: K)) := by
  subst hp
  obtain ⟨locs, k, X, eT, hZ, hown, r⟩ := S
  obtain ⟨T', X', e', st⟩ := RoadKit.initO X hx hZ hown w1 w2 w3 eT (g := mkF m pc L (.ref a :: K)) rfl hml rfl hd hf (W := W) (by show 2 * 0 + _ ≤ _; omega) hl
  exact (q T' ⟨locs, k, X', e', hZ, hown, r⟩).via st
theorem St.instNull (S : St md p l e R s m args below meth c own Z EL vm T h cells slots) (hx : p.tables.exec = Jvm.exec) {index : Nat} (hd : decode c.code pc = .ok (.instanceof index, 3)) (p' : Nat) (hp : p' = pc + 3)
    (q : Goes p.tables e below P T (mkF m p' L (.int 0 :: K))) : Goes p.tables e below P T (mkF m pc L (.null :: K)) := by
  subst hp
  obtain ⟨locs, k, X, eT, hZ, hown, r⟩ := S
  exact q.via fun t k => X.instanceofNull hx (g := mkF m pc L (.null :: K)) rfl rfl hd t k
theorem St.acmp (S : St md p l e R s m args below meth c own Z EL vm T h cells slots) (hx : p.tables.exec = Jvm.exec) {cd : ACond} {x y : Value} {o : Int} (hd : decode c.code pc = .ok (.if_acmp cd o, 3)) (h1 : x.isRef = true) (h2 : y.isRef = true) (same : Bool) (hq : decide (x = y) = same) (ho : 0 ≤ (pc : Int) + o) (p' : Nat) (hp : p' = if acV cd same = true then ((pc : Int) + o).toNat else pc + 3)
    (q : Goes p.tables e below P T (mkF m p' L K)) : Goes p.tables e below P T (mkF m pc L (y :: x :: K)) := by
  obtain ⟨locs, k, X, eT, hZ, hown, r⟩ := S
  exact q.via fun t k => RoadKit.acmp X hx (g := mkF m pc L (y :: x :: K)) rfl h1 h2 rfl hd rfl hq ho hp k
theorem Arv.at' {a : Addr} {k : ClassId} {ty : FieldType} {z j : Int32} {vs : List Value} {dv v : Value} (A : Arv Z h a k ty z vs dv) (hj : ¬ j < 0 ∧ j < z) (hv : vs.getD j.toNatClampNeg dv = v) : ∃ cl : Cell, Arr Z h a cl ty ∧ ¬ (j < 0 ∨ cl.slots.size ≤ j.toNatClampNeg) ∧ cl.slots[j.toNatClampNeg]? = some v := by
  obtain ⟨cl, A1, A2, A3, A4, A5, A6⟩ := A
  exact ⟨cl, A1, inb_of A3 hj, A5.at (inb_of A3 hj) hv⟩
theorem St.aald (S : St md p l e R s m args below meth c own Z EL vm T h cells slots) (hx : p.tables.exec = Jvm.exec) {a : Addr} {k : ClassId} {ty : FieldType} {z j : Int32} {vs : List Value} {dv v : Value} (A : Arv Z h a k ty z vs dv) (hty : ty.isReference = true) (hj : ¬ j < 0 ∧ j < z) (hv : vs.getD j.toNatClampNeg dv = v) (hd : decode c.code pc = .ok (.aaload, 1)) (p' : Nat) (hp : p' = pc + 1)
    (q : Goes p.tables e below P T (mkF m p' L (v :: K))) : Goes p.tables e below P T (mkF m pc L (.int j :: .ref a :: K)) := by
  subst hp
  obtain ⟨locs, kk, X, eT, hZ, hown, r⟩ := S
  obtain ⟨cl, A1, A2, A3⟩ := Arv.at' A hj hv
  exact q.via fun t k => X.aaload hx (j := j) (v := v) (by rw [eT]; exact A1.1) (State.isArrayOf_alike (T := s.setVm vm) hZ.alike A1.2.1) hty A1.2.2 A2 A3 (g := mkF m pc L (.int j :: .ref a :: K)) rfl rfl hd t k
theorem St.cald (S : St md p l e R s m args below meth c own Z EL vm T h cells slots) (hx : p.tables.exec = Jvm.exec) {a : Addr} {k : ClassId} {z j : Int32} {vs : List Value} {dv v : Value} (A : Arv Z h a k .char z vs dv) (hj : ¬ j < 0 ∧ j < z) (hv : vs.getD j.toNatClampNeg dv = v) (hd : decode c.code pc = .ok (.caload, 1)) (p' : Nat) (hp : p' = pc + 1)
    (q : Goes p.tables e below P T (mkF m p' L (v :: K))) : Goes p.tables e below P T (mkF m pc L (.int j :: .ref a :: K)) := by
  subst hp
  obtain ⟨locs, kk, X, eT, hZ, hown, r⟩ := S
  obtain ⟨cl, A1, A2, A3⟩ := Arv.at' A hj hv
  exact q.via fun t k => X.caload hx (j := j) (v := v) (by rw [eT]; exact A1.1) (State.isArrayOf_alike (T := s.setVm vm) hZ.alike A1.2.1) A1.2.2 A2 A3 (g := mkF m pc L (.int j :: .ref a :: K)) rfl rfl hd t k
theorem St.bald (S : St md p l e R s m args below meth c own Z EL vm T h cells slots) (hx : p.tables.exec = Jvm.exec) {a : Addr} {k : ClassId} {z j : Int32} {vs : List Value} {dv v : Value} (A : Arv Z h a k .byte z vs dv) (hj : ¬ j < 0 ∧ j < z) (hv : vs.getD j.toNatClampNeg dv = v) (hd : decode c.code pc = .ok (.baload, 1)) (p' : Nat) (hp : p' = pc + 1)
    (q : Goes p.tables e below P T (mkF m p' L (v :: K))) : Goes p.tables e below P T (mkF m pc L (.int j :: .ref a :: K)) := by
  subst hp
  obtain ⟨locs, kk, X, eT, hZ, hown, r⟩ := S
  obtain ⟨cl, A1, A2, A3⟩ := Arv.at' A hj hv
  exact q.via fun t k => X.baloadBytes hx (j := j) (v := v) (by rw [eT]; exact A1.1) (State.isArrayOf_alike (T := s.setVm vm) hZ.alike A1.2.1) A1.2.2 A2 A3 (g := mkF m pc L (.int j :: .ref a :: K)) rfl rfl hd t k
theorem St.clone (S : St md p l e R s m args below meth c own Z EL vm T h cells slots) (hx : p.tables.exec = Jvm.exec) {ad : String} {index : Nat} (w1 : (Cond.methodLink own index ⟨ad, "clone", "()Ljava/lang/Object;"⟩).before a0 Z = true) (w2 : (Cond.sameMethod ad "java/lang/Object" "clone" "()Ljava/lang/Object;").before a0 Z = true) (w3 : (Cond.native ⟨"java/lang/Object", "clone", "()Ljava/lang/Object;"⟩).before a0 Z = true)
    (w4 : (Cond.instanceMethod ⟨"java/lang/Object", "clone", "()Ljava/lang/Object;"⟩).before a0 Z = true) (w5 : (Cond.selects ad ⟨ad, "clone", "()Ljava/lang/Object;"⟩ ⟨"java/lang/Object", "clone", "()Ljava/lang/Object;"⟩).before a0 Z = true) (w6 : (Cond.castable ad "java/lang/Cloneable").before a0 Z = true)
    {a : Addr} {k : ClassId} {ty : FieldType} {z : Int32} {vs : List Value} {dv : Value} (F : Arv Z h a k ty z vs dv) (E : Exa Z h a ad) (hml : L.size = c.maxLocals) {W cap : Nat} (hf : 1 ≤ R.frames) (hW : (K.map fun v => v.category).sum ≤ W) (hl : W + 14 ≤ R.locals) (hcap : z.toNatClampNeg ≤ cap) (hc : cells + 1 ≤ R.cells) (hsl : slots + cap ≤ R.slots) (hd : decode c.code pc = .ok (.invokevirtual index, 3)) (p' : Nat) (hp : p' = pc + 3)
    (q : ∀ T' h' b, St md p l e R s m args below meth c own Z EL vm T' h' (cells + 1) (slots + cap) → b = h.size → Ext h h' → Arv Z h' b k ty z vs dv → Exa Z h' b ad → Goes p.tables e below P T' (mkF m p' L (.ref b :: K))) : Goes p.tables e below P T (mkF m pc L (.ref a :: K)) := by
  subst hp
  obtain ⟨locs, k0, X, eT, hZ, hown, hS, hk, hC, hF, hO, h0, h2, hE⟩ := S
  obtain ⟨T', h', X', e', E', A', B', st⟩ := cloneH X hx hZ hown w1 w2 w3 w4 w5 w6 eT F.arh E (g := mkF m pc L (.ref a :: K)) rfl hml rfl hd hf (W := W) (by show 2 * 0 + _ ≤ _; omega) hl hcap hc hsl
  exact (q T' h' h.size ⟨locs, k0, X', e', hZ, hown, hS, Nat.le_trans hk E'.1, hC.trans (CHr.ext E' hC.1), hF, hO.ext E', h0, h2, hE⟩ rfl E' A' B').via st
/-- anewarray of a class -/
theorem St.newR (S : St md p l e R s m args below meth c own Z EL vm T h cells slots) (hx : p.tables.exec = Jvm.exec) {C : String} {index : Nat} (w1 : (Cond.classLink own index C).before a0 Z = true) (w2 : (Cond.arrayOver (.object C)).before a0 Z = true) {n : Int32} (hn : ¬ n < 0) {cap : Nat} (hcap : n.toNatClampNeg ≤ cap) (hb : cap * 8 ≤ 536870912) (hd : decode c.code pc = .ok (.anewarray index, 3)) (hc : cells + 1 ≤ R.cells) (hl : slots + cap ≤ R.slots) (p' : Nat) (hp : p' = pc + 3)
    (q : ∀ T' h' a k, St md p l e R s m args below meth c own Z EL vm T' h' (cells + 1) (slots + cap) → a = h.size → Ext h h' → Arv Z h' a k (.object C) n (List.replicate cap .null) .null → Ovr Z k C → CHr Z EL vm h vm h' → Goes p.tables e below P T' (mkF m p' L (.ref a :: K))) : Goes p.tables e below P T (mkF m pc L (.int n :: K)) := by
  subst hp
  obtain ⟨locs, k, X, eT, hZ, hown, hS, hk, hC, hF, hO, h0, h2, hE⟩ := S
  obtain ⟨T', h', cA, X', e', E', A', O', st⟩ := RoadKit.newR X hx hZ hown w1 w2 eT (g := mkF m pc L (.int n :: K)) rfl hd rfl hn hcap hb hc hl
  exact (q T' h' h.size cA ⟨locs, k, X', e', hZ, hown, hS, Nat.le_trans hk E'.1, hC.trans (CHr.ext E' hC.1), hF, hO.ext E', h0, h2, hE⟩ rfl E' ((Arv.new A' hn).pad (pad_rep [] _ cap)) O' (CHr.ext E' hC.1)).via st
/-- aastore -/
theorem St.stR (S : St md p l e R s m args below meth c own Z EL vm T h cells slots) (hx : p.tables.exec = Jvm.exec) {a : Addr} {k : ClassId} {ty : FieldType} {z j : Int32} {vs : List Value} {dv v : Value} (A : Arv Z h a k ty z vs dv) (hty : ty.isReference = true) (hf : fits ty v = true) (i : Nat) (hj : ¬ j < 0 ∧ j < z) (hi : j.toNatClampNeg = i) (hv : i < vs.length) (ga : Z.heap.size ≤ a) (F : Sto Z h a v) (sf : Safe Z EL vm h a) (hd : decode c.code pc = .ok (.aastore, 1)) (p' : Nat) (hp : p' = pc + 1)
    (q : ∀ T' h', St md p l e R s m args below meth c own Z EL vm T' h' cells slots → Wr h h' a i v → Arv Z h' a k ty z (vs.set i v) dv → CHr Z EL vm h vm h' → Goes p.tables e below P T' (mkF m p' L K)) : Goes p.tables e below P T (mkF m pc L (v :: .int j :: .ref a :: K)) := by
  subst hp
  obtain ⟨locs, kk, X, eT, hZ, hown, hS, hk, hC, hF, hO, h0, h2, hE⟩ := S
  obtain ⟨cl, A1, A2, A3, A4, A5, A6⟩ := A
  obtain ⟨T', h', X', e', W', st⟩ := RoadKit.stR X hx hZ eT A1 (j := j) (inb_of A3 hj) hty F (g := mkF m pc L (v :: .int j :: .ref a :: K)) rfl rfl hd
  have hR := CHr.wr W' sf hC.1
  exact (q T' h' ⟨_, kk, X', e', hZ, hown, hS, Nat.le_trans hk hR.2.1, hC.trans hR, Fr.snoc X' hF ga, hO.wr W' ga, h0, h2, hE⟩ (by rw [← hi]; exact W') (Arv.set A1 A2 A3 A4 A5 A6 hf W' i hi hv) hR).via st
/-- bastore into a byte[] -/
theorem St.stB (S : St md p l e R s m args below meth c own Z EL vm T h cells slots) (hx : p.tables.exec = Jvm.exec) {a : Addr} {k : ClassId} {z j x : Int32} {vs : List Value} {dv : Value} (A : Arv Z h a k .byte z vs dv) (i : Nat) (hj : ¬ j < 0 ∧ j < z) (hi : j.toNatClampNeg = i) (hv : i < vs.length) (ga : Z.heap.size ≤ a) (sf : Safe Z EL vm h a) (hd : decode c.code pc = .ok (.bastore, 1)) (p' : Nat) (hp : p' = pc + 1)
    (q : ∀ T' h', St md p l e R s m args below meth c own Z EL vm T' h' cells slots → Wr h h' a i (.int x.toInt8.toInt32) → Arv Z h' a k .byte z (vs.set i (.int x.toInt8.toInt32)) dv → CHr Z EL vm h vm h' → Goes p.tables e below P T' (mkF m p' L K)) : Goes p.tables e below P T (mkF m pc L (.int x :: .int j :: .ref a :: K)) := by
  subst hp
  obtain ⟨locs, kk, X, eT, hZ, hown, hS, hk, hC, hF, hO, h0, h2, hE⟩ := S
  obtain ⟨cl, A1, A2, A3, A4, A5, A6⟩ := A
  obtain ⟨T', h', X', e', W', st⟩ := RoadKit.stB X hx hZ eT A1 (j := j) (inb_of A3 hj) (g := mkF m pc L (.int x :: .int j :: .ref a :: K)) rfl rfl hd
  have hR := CHr.wr W' sf hC.1
  exact (q T' h' ⟨_, kk, X', e', hZ, hown, hS, Nat.le_trans hk hR.2.1, hC.trans hR, Fr.snoc X' hF ga, hO.wr W' ga, h0, h2, hE⟩ (by rw [← hi]; exact W') (Arv.set A1 A2 A3 A4 A5 A6 (fits_nar_byte x) W' i hi hv) hR).via st
/-- super(message) of a Throwable's subclass, the stack trace filled in -/
theorem St.exc1 (S : St 2 p l e R s m args below meth c own Z EL vm T h cells slots) (hx : p.tables.exec = Jvm.exec) (hl : l.stackTraces = true) {rc : String} {links : List Free.Exc.Link} {ic n : Nat} (hok : Free.Exc.linksOk 1 links = true) (w1 : (Cond.methodLink own ic (Free.Exc.ctor 1 (Free.Exc.headName links))).before a0 Z = true) (w2 : (Cond.instanceMethod (Free.Exc.ctor 1 (Free.Exc.headName links))).before a0 Z = true) (wT : (Free.Exc.chainTab 1 rc links).before a0 Z = true) (wi : (Cond.instantiable rc n).before a0 Z = true) (r : ∀ d ∈ twoRefs, d.before a0 Z = true)
    {a : Addr} (E : Exa Z h a rc) (N : Unt h a) (B : Fld Z h a "java/lang/Throwable" "backtrace" "Ljava/lang/Object;" .null) (B2 : Fld Z h a "java/lang/Throwable" "detailMessage" "Ljava/lang/String;" .null) {msg : Value} (hmsg : msg.isRef = true) (sf : Safe Z EL vm h a) (ga : Z.heap.size ≤ a) (hml : L.size = c.maxLocals) (hd : decode c.code pc = .ok (.invokespecial ic, 3))
    (hf : 4 + links.length ≤ R.frames) (hlo : (K.map fun v => v.category).sum + (56 + 14 * links.length) ≤ R.locals) (hc : cells + 1 ≤ R.cells) (hsl : slots + 2752 ≤ R.slots) (p' : Nat) (hp : p' = pc + 3)
    (q : ∀ T' h', St 2 p l e R s m args below meth c own Z EL vm T' h' (cells + 1) (slots + 2752) → Kp Z h h' a → Exa Z h' a rc → Fld Z h' a "java/lang/Throwable" "detailMessage" "Ljava/lang/String;" msg → CHr Z EL vm h vm h' → Goes p.tables e below P T' (mkF m p' L K)) : Goes p.tables e below P T (mkF m pc L (msg :: .ref a :: K)) := by
  subst hp
  obtain ⟨locs, k0, X, eT, hZ, hown, hS, hk, hC, hF, hO, h0, h2, a1, hE, hOs⟩ := S
  have hT0 : ThS Z (s.setVm vm).heap := ThS.start.ext hOs.2
  obtain ⟨T', h', X', e', K', E', -, M', -, -, st⟩ := excL1 X hx hl hZ hown hok w1 w2 wT wi r hT0 (ThS.start.ext hO.2) (h2 rfl).1 (h2 rfl).2 eT E N B B2 hmsg (g := mkF m pc L (msg :: .ref a :: K)) rfl hml rfl hd hf (by show 2 * 0 + _ + _ ≤ _; omega) hc hsl
  have hKe := keep_of_kp K'
  have hR : CHr Z EL vm h vm h' := CHr.keep hKe (fun x hx => by cases List.mem_singleton.mp hx; exact sf) hC.1
  exact (q T' h' ⟨_, k0, X', e', hZ, hown, hS, Nat.le_trans hk hR.2.1, hC.trans hR, Fr.six hF ga, hO.keep hKe (fun x hx => by cases List.mem_singleton.mp hx; exact ga), h0, h2, a1, hE, hOs⟩ K' E' M' hR).via st
theorem St.more (S : St md p l e R s m args below meth c own Z EL vm T h cells slots) {k n : Nat} (h1 : cells ≤ k) (h2 : slots ≤ n) : St md p l e R s m args below meth c own Z EL vm T h k n := by
  obtain ⟨locs, k0, X, r⟩ := S
  exact ⟨locs, k0, X.more h1 h2, r⟩
end E

end Jvm.Own

/- laws to paste: Road.backV, Road.codOf (cut by pick.py; bodies as the Statement names them) -/
namespace Jvm.Pilot.@@N@@
namespace StrChars
open Jvm Sem ClassFile Op Lib Jvm.Stand Jvm.Free.XT Jvm.Free.ALB Jvm.Free.JM Jvm.Free
open Jvm.Lib.Cold (StaticIs)
/-- a char array whose places are chars -/
def Ch (a : Addr) (A : Cell) (U : State) : Prop := Arr .char a A U ∧ Typed .char A
theorem Ch.mv {a : Addr} {A : Cell} {U U' : State} (h : Ch a A U) (hal : U.vm.Alike U'.vm) (hh : U'.heap = U.heap) : Ch a A U' := ⟨h.1.mv hal hh, h.2⟩
theorem Ch.keep {a : Addr} {A : Cell} {U U' : State} (h : Ch a A U) (hal : U.vm.Alike U'.vm) (hk : U'.heap[a]? = some A) : Ch a A U' := ⟨h.1.keep hal hk, h.2⟩
/-- what place i of a char[]'s cell holds -/
def cv (A : Cell) (i : Nat) : Int32 := match A.slots[i]? with | some (.int x) => x | _ => 0
theorem Ch.get {a : Addr} {A : Cell} {U : State} (h : Ch a A U) {i : Nat} (hi : i < A.slots.size) : A.slots[i]? = some (.int (cv A i)) := by
  have e := Array.getElem?_eq_getElem hi
  have f := h.2 i _ e
  unfold cv; rw [e]
  generalize A.slots[i] = v at f
  cases v <;> simp [fits] at f ⊢
/-- the byte that i2b leaves of a char -/
def lo8 (x : Int32) : Int32 := x.toInt8.toInt32
theorem fits_lo8 (y : Int32) : fits .byte (.int (lo8 y)) = true := by
  have h1 := y.toInt8.le_toInt
  have h2 := y.toInt8.toInt_lt
  simp only [lo8, fits, Bool.and_eq_true, decide_eq_true_eq, Int32.le_iff_toInt_le, Int8.toInt_toInt32, show (-128 : Int32).toInt = -128 from by decide, show (127 : Int32).toInt = 127 from by decide]
  omega
/-- A' is A but that each place j of lo .. hi - 1 holds f j -/
def Laid (A A' : Cell) (lo hi : Nat) (f : Nat → Value) : Prop := A'.cls = A.cls ∧ A'.vm = A.vm ∧ A'.slots.size = A.slots.size ∧ ∀ i, A'.slots[i]? = if lo ≤ i ∧ i < hi then some (f i) else A.slots[i]?
theorem Laid.zero (A : Cell) (lo : Nat) (f : Nat → Value) : Laid A A lo (lo + 0) f := ⟨rfl, rfl, rfl, fun i => by rw [if_neg (by omega)]⟩
theorem Laid.step {A Ak : Cell} {lo k : Nat} {f : Nat → Value} {v : Value} (h : Laid A Ak lo k f) (hlo : lo ≤ k) (hk : k < Ak.slots.size) (hv : v = f k) : Laid A (Ak.setSlot k v) lo (k + 1) f := by
  refine ⟨h.1, h.2.1, by simpa [Cell.setSlot] using h.2.2.1, fun i => ?_⟩
  by_cases e : k = i
  · subst e; rw [Cell.slots_setSlot_self v hk, if_pos (by omega), hv]
  · rw [Cell.slots_setSlot_ne v e, h.2.2.2 i]
    by_cases q : lo ≤ i ∧ i < k
    · rw [if_pos q, if_pos (by omega)]
    · rw [if_neg q, if_neg (by omega)]
def U16 : String := "java/lang/StringUTF16"
namespace Cmp5
def yN : MethodName := ⟨"java/lang/StringUTF16", "compress", "([CI[BII)I"⟩
abbrev yB : ByteArray := jdk_52_method_21_code
theorem d0 : decode yB 0 = .ok (.iconst 0, 1) := by decide +kernel
theorem d1 : decode yB 1 = .ok (.istore 5, 2) := by decide +kernel
theorem d3 : decode yB 3 = .ok (.iload 5, 2) := by decide +kernel
theorem d5 : decode yB 5 = .ok (.iload 4, 2) := by decide +kernel
theorem d7 : decode yB 7 = .ok (.if_icmp (.ge) 37, 3) := by decide +kernel
theorem d10 : decode yB 10 = .ok (.aload_n 0, 1) := by decide +kernel
theorem d11 : decode yB 11 = .ok (.iload_n 1, 1) := by decide +kernel
theorem d12 : decode yB 12 = .ok (.caload, 1) := by decide +kernel
theorem d13 : decode yB 13 = .ok (.istore 6, 2) := by decide +kernel
theorem d15 : decode yB 15 = .ok (.iload 6, 2) := by decide +kernel
theorem d17 : decode yB 17 = .ok (.sipush 255, 3) := by decide +kernel
theorem d20 : decode yB 20 = .ok (.if_icmp (.le) 6, 3) := by decide +kernel
theorem d26 : decode yB 26 = .ok (.aload_n 2, 1) := by decide +kernel
theorem d27 : decode yB 27 = .ok (.iload_n 3, 1) := by decide +kernel
theorem d28 : decode yB 28 = .ok (.iload 6, 2) := by decide +kernel
theorem d30 : decode yB 30 = .ok (.i2b, 1) := by decide +kernel
theorem d31 : decode yB 31 = .ok (.bastore, 1) := by decide +kernel
theorem d32 : decode yB 32 = .ok (.iinc 1 1, 3) := by decide +kernel
theorem d35 : decode yB 35 = .ok (.iinc 3 1, 3) := by decide +kernel
theorem d38 : decode yB 38 = .ok (.iinc 5 1, 3) := by decide +kernel
theorem d41 : decode yB 41 = .ok (.goto (-38), 3) := by decide +kernel
theorem d44 : decode yB 44 = .ok (.iload 4, 2) := by decide +kernel
theorem d46 : decode yB 46 = .ok (.ireturn, 1) := by decide +kernel
def site : List Cond := []
def tab : Cond := tabOf yN yB 7 (some .int) site
def P (b : Addr) (A : Cell) (d : Addr) (B : Cell) (o q len : Nat) (args : Array Value) (s : State) : Prop := args = #[.ref b, .int (Int32.ofNat o), .ref d, .int (Int32.ofNat q), .int (Int32.ofNat len)] ∧ Ch b A s ∧ Arr .byte d B s ∧ b ≠ d ∧ o + len ≤ A.slots.size ∧ q + len ≤ B.slots.size ∧ ∀ i, i < len → ¬ 255 < cv A (o + i)
def E (b : Addr) (A : Cell) (d : Addr) (B : Cell) (o q len : Nat) (r : Option Value) (s u : State) : Prop := r = some (.int (Int32.ofNat len)) ∧ ∃ B', Put d B' s u ∧ Laid B B' q (q + len) (fun j => Value.int (lo8 (cv A (o + (j - q)))))
/-- no char of the range above 255: len; the places written hold each char's low byte -/
theorem law (l : Launch) (b : Addr) (A : Cell) (d : Addr) (B : Cell) (o q len : Nat) : Law l yN 5 5 0 0 yB 7 (some .int) site (P b A d B o q len) (E b A d B o q len) (copyLocs d q len) 0 0 := by
  refine Law.of_walk (plainFor_of_name (by decide +kernel)) (by decide +kernel) (by decide +kernel) (by decide) (fun _ _ h => by rw [h.1]; rfl) (fun _ U U' hal hh h => ⟨h.1, h.2.1.mv hal hh, h.2.2.1.mv hal hh, h.2.2.2⟩) (fun r U U' V V' h1 hal h2 h => ⟨h.1, h.2.elim fun B' q => ⟨B', q.1.mv h1 h2, q.2⟩⟩) ?_
  intro p e s m args below meth c s₁ X0 hexec hbytes hml hret hlk hnm hown hh0 W hP
  obtain ⟨rfl, hA, hB, hne, l1, l2, hp⟩ := hP
  have c1 : Steps p.tables e below (s₁.setTop (entryFrame m #[.ref b, .int (Int32.ofNat o), .ref d, .int (Int32.ofNat q), .int (Int32.ofNat len)] 7)) (s₁.setTop (mkF m 0 #[.val (.ref b), .val (.int (Int32.ofNat o)), .val (.ref d), .val (.int (Int32.ofNat q)), .val (.int (Int32.ofNat len)), .unset, .unset] [])) := entry rfl
  have hA0 := hA.1.mv X0.warmed.alike hh0
  have hB0 := hB.mv X0.warmed.alike hh0
  have a31 := hA.1.2.2.2
  have c2 : Steps p.tables e below (s₁.setTop (entryFrame m #[.ref b, .int (Int32.ofNat o), .ref d, .int (Int32.ofNat q), .int (Int32.ofNat len)] 7)) (s₁.setTop (mkF m 3 #[.val (.ref b), .val (.int (Int32.ofNat o)), .val (.ref d), .val (.int (Int32.ofNat q)), .val (.int (Int32.ofNat len)), .val (.int 0), .unset] [])) := c1.trans (by
    refine iconstV X0.here hexec rfl 0 (hb hbytes d0) (by decide) ?_
    refine XS.istore X0.here hexec rfl (hb hbytes d1) rfl rfl ?_
    exact Steps.refl _)
  have loop : ∀ (r i : Nat), i + r = len → ∀ (z : Slot), (z = .unset ∨ ∃ w, z = .val w ∧ w.category = 1) → ∀ (Tl : State) (Bk : Cell), Stand p l e { frames := 0, locals := 0, cells := 0, slots := 0 } s m #[.ref b, .int (Int32.ofNat o), .ref d, .int (Int32.ofNat q), .int (Int32.ofNat len)] below meth c Tl ([] ++ copyLocs d q i) 0 0 → Put d Bk s₁ Tl → Laid B Bk q (q + i) (fun j => Value.int (lo8 (cv A (o + (j - q))))) →
      Steps p.tables e below (s₁.setTop (entryFrame m #[.ref b, .int (Int32.ofNat o), .ref d, .int (Int32.ofNat q), .int (Int32.ofNat len)] 7)) (Tl.setTop (mkF m 3 #[.val (.ref b), .val (.int (Int32.ofNat (o + i))), .val (.ref d), .val (.int (Int32.ofNat (q + i))), .val (.int (Int32.ofNat len)), .val (.int (Int32.ofNat i)), z] [])) → ∃ (T' : State) (B' : Cell) (z' : Slot), Stand p l e { frames := 0, locals := 0, cells := 0, slots := 0 } s m #[.ref b, .int (Int32.ofNat o), .ref d, .int (Int32.ofNat q), .int (Int32.ofNat len)] below meth c T' ([] ++ copyLocs d q len) 0 0 ∧ Put d B' s₁ T' ∧ Laid B B' q (q + len) (fun j => Value.int (lo8 (cv A (o + (j - q))))) ∧
      Steps p.tables e below (s₁.setTop (entryFrame m #[.ref b, .int (Int32.ofNat o), .ref d, .int (Int32.ofNat q), .int (Int32.ofNat len)] 7)) (T'.setTop (mkF m 3 #[.val (.ref b), .val (.int (Int32.ofNat (o + len))), .val (.ref d), .val (.int (Int32.ofNat (q + len))), .val (.int (Int32.ofNat len)), .val (.int (Int32.ofNat len)), z'] [])) := by
    intro r
    induction r with
    | zero =>
      intro i hi z hz Tl Bk Xl pl fl cl
      have hil : i = len := by omega
      rw [hil] at Xl fl cl
      exact ⟨Tl, Bk, z, Xl, pl, fl, cl⟩
    | succ r ih =>
      intro i hi z hz Tl Bk Xl pl fl cl
      have all := X0.warmed.alike.symm.trans Xl.warmed.alike
      have hAl := hA0.keep all (pl.other hne hA0.1)
      have hBk := hB0.like all pl.1 fl.1 fl.2.1 fl.2.2.1
      have hlt : q + i < Bk.slots.size := by rw [fl.2.2.1]; omega
      have c3 : Steps p.tables e below (s₁.setTop (entryFrame m #[.ref b, .int (Int32.ofNat o), .ref d, .int (Int32.ofNat q), .int (Int32.ofNat len)] 7)) (Tl.setTop (mkF m 12 #[.val (.ref b), .val (.int (Int32.ofNat (o + i))), .val (.ref d), .val (.int (Int32.ofNat (q + i))), .val (.int (Int32.ofNat len)), .val (.int (Int32.ofNat i)), z] [.int (Int32.ofNat (o + i)), .ref b])) := cl.trans (by
        refine XS.iload Xl.here hexec rfl (hb hbytes d3) rfl ?_
        refine XS.iload Xl.here hexec rfl (hb hbytes d5) rfl ?_
        refine XS.icmpNo Xl.here hexec rfl (hb hbytes d7) rfl (ii_ge_f (lt32 (by omega) (by omega))) ?_
        refine XS.aloadN Xl.here hexec rfl (hb hbytes d10) rfl rfl ?_
        refine XS.iloadN Xl.here hexec rfl (hb hbytes d11) rfl ?_
        exact Steps.refl _)
      have c4 : Steps p.tables e below (s₁.setTop (entryFrame m #[.ref b, .int (Int32.ofNat o), .ref d, .int (Int32.ofNat q), .int (Int32.ofNat len)] 7)) (Tl.setTop (mkF m 13 #[.val (.ref b), .val (.int (Int32.ofNat (o + i))), .val (.ref d), .val (.int (Int32.ofNat (q + i))), .val (.int (Int32.ofNat len)), .val (.int (Int32.ofNat i)), z] [.int (cv A (o + i))])) := c3.trans (by
        refine Xl.aget hexec hAl rfl (hA.get (i := o + i) (by omega)) rfl rfl (hb hbytes d12) ?_
        exact Steps.refl _)
      have c5 : Steps p.tables e below (s₁.setTop (entryFrame m #[.ref b, .int (Int32.ofNat o), .ref d, .int (Int32.ofNat q), .int (Int32.ofNat len)] 7)) (Tl.setTop (mkF m 15 #[.val (.ref b), .val (.int (Int32.ofNat (o + i))), .val (.ref d), .val (.int (Int32.ofNat (q + i))), .val (.int (Int32.ofNat len)), .val (.int (Int32.ofNat i)), .val (.int (cv A (o + i)))] [])) := c4.trans (by
        refine XS.istoreS Xl.here hexec rfl (hb hbytes d13) rfl rfl hz ?_
        exact Steps.refl _)
      have c6 : Steps p.tables e below (s₁.setTop (entryFrame m #[.ref b, .int (Int32.ofNat o), .ref d, .int (Int32.ofNat q), .int (Int32.ofNat len)] 7)) (Tl.setTop (mkF m 31 #[.val (.ref b), .val (.int (Int32.ofNat (o + i))), .val (.ref d), .val (.int (Int32.ofNat (q + i))), .val (.int (Int32.ofNat len)), .val (.int (Int32.ofNat i)), .val (.int (cv A (o + i)))] [.int (lo8 (cv A (o + i))), .int (Int32.ofNat (q + i)), .ref d])) := c5.trans (by
        refine XS.iload Xl.here hexec rfl (hb hbytes d15) rfl ?_
        refine sipushV Xl.here hexec rfl 255 (hb hbytes d17) (by decide) ?_
        refine XS.icmpYes Xl.here hexec rfl (pc0 := 20) rfl (hb hbytes d20) rfl (ii_le_t (hp i (by omega))) (by decide) rfl ?_
        refine XS.aloadN Xl.here hexec rfl (hb hbytes d26) rfl rfl ?_
        refine XS.iloadN Xl.here hexec rfl (hb hbytes d27) rfl ?_
        refine XS.iload Xl.here hexec rfl (hb hbytes d28) rfl ?_
        refine i2b Xl.here hexec rfl (hb hbytes d30) rfl ?_
        exact Steps.refl _)
      obtain ⟨T7, X7, p7, st7⟩ := Xl.aput hexec hBk rfl hlt rfl (fits_lo8 (cv A (o + i))) (g := (mkF m 31 #[.val (.ref b), .val (.int (Int32.ofNat (o + i))), .val (.ref d), .val (.int (Int32.ofNat (q + i))), .val (.int (Int32.ofNat len)), .val (.int (Int32.ofNat i)), .val (.int (cv A (o + i)))] [.int (lo8 (cv A (o + i))), .int (Int32.ofNat (q + i)), .ref d])) rfl (rest := []) rfl (hb hbytes d31)
      have c8 : Steps p.tables e below (s₁.setTop (entryFrame m #[.ref b, .int (Int32.ofNat o), .ref d, .int (Int32.ofNat q), .int (Int32.ofNat len)] 7)) (T7.setTop (mkF m 32 #[.val (.ref b), .val (.int (Int32.ofNat (o + i))), .val (.ref d), .val (.int (Int32.ofNat (q + i))), .val (.int (Int32.ofNat len)), .val (.int (Int32.ofNat i)), .val (.int (cv A (o + i)))] [])) := c6.trans (st7 _ (Steps.refl _))
      have c9 : Steps p.tables e below (s₁.setTop (entryFrame m #[.ref b, .int (Int32.ofNat o), .ref d, .int (Int32.ofNat q), .int (Int32.ofNat len)] 7)) (T7.setTop (mkF m 3 #[.val (.ref b), .val (.int (Int32.ofNat (o + i) + 1)), .val (.ref d), .val (.int (Int32.ofNat (q + i) + 1)), .val (.int (Int32.ofNat len)), .val (.int (Int32.ofNat i + 1)), .val (.int (cv A (o + i)))] [])) := c8.trans (by
        refine iincV X7.here hexec rfl 1 (hb hbytes d32) (by decide) rfl rfl ?_
        refine iincV X7.here hexec rfl 1 (hb hbytes d35) (by decide) rfl rfl ?_
        refine iincV X7.here hexec rfl 1 (hb hbytes d38) (by decide) rfl rfl ?_
        refine XS.goto X7.here hexec rfl (pc0 := 41) rfl (hb hbytes d41) (by decide) rfl ?_
        exact Steps.refl _)
      have c10 : Steps p.tables e below (s₁.setTop (entryFrame m #[.ref b, .int (Int32.ofNat o), .ref d, .int (Int32.ofNat q), .int (Int32.ofNat len)] 7)) (T7.setTop (mkF m 3 #[.val (.ref b), .val (.int (Int32.ofNat (o + (i + 1)))), .val (.ref d), .val (.int (Int32.ofNat (q + (i + 1)))), .val (.int (Int32.ofNat len)), .val (.int (Int32.ofNat (i + 1))), .val (.int (cv A (o + i)))] [])) := by
        have := c9
        rw [succ32, succ32, succ32] at this
        exact this
      exact ih (i + 1) (by omega) _ (Or.inr ⟨_, rfl, rfl⟩) T7 _ (by rw [copyLocs_step, ← List.append_assoc]; exact X7) (pl.trans p7) (fl.step (by omega) hlt (by simp)) c10
  obtain ⟨T9, B9, z9, X9, p9, f9, g9⟩ := loop len 0 (by omega) .unset (Or.inl rfl) s₁ B (by simpa [copyLocs] using X0) ⟨hB0.1, fun _ _ => rfl, rfl⟩ (Laid.zero _ _ _) c2
  have c11 : Steps p.tables e below (s₁.setTop (entryFrame m #[.ref b, .int (Int32.ofNat o), .ref d, .int (Int32.ofNat q), .int (Int32.ofNat len)] 7)) (T9.setTop (mkF m 46 #[.val (.ref b), .val (.int (Int32.ofNat (o + len))), .val (.ref d), .val (.int (Int32.ofNat (q + len))), .val (.int (Int32.ofNat len)), .val (.int (Int32.ofNat len)), z9] [.int (Int32.ofNat len)])) := g9.trans (by
    refine XS.iload X9.here hexec rfl (hb hbytes d3) rfl ?_
    refine XS.iload X9.here hexec rfl (hb hbytes d5) rfl ?_
    refine XS.icmpYes X9.here hexec rfl (pc0 := 7) rfl (hb hbytes d7) rfl (ii_ge_t (nlt32 (by omega) (Nat.le_refl _))) (by decide) rfl ?_
    refine XS.iload X9.here hexec rfl (hb hbytes d44) rfl ?_
    exact Steps.refl _)
  exact ⟨T9, some (.int (Int32.ofNat len)), _, _, _, X9, by simp, rfl, rfl, (fun h => by cases h), ⟨rfl, B9, p9.from hh0, f9⟩, fun fs hl => c11.trans (X9.ireturnOut hexec hret rfl (Or.inl rfl) (hb hbytes d46) hl)⟩
end Cmp5
namespace Cmp3
def yN : MethodName := ⟨"java/lang/StringUTF16", "compress", "([CII)[B"⟩
abbrev yB : ByteArray := jdk_52_method_16_code
theorem d0 : decode yB 0 = .ok (.iload_n 2, 1) := by decide +kernel
theorem d1 : decode yB 1 = .ok (.newarray .byte, 2) := by decide +kernel
theorem d3 : decode yB 3 = .ok (.astore_n 3, 1) := by decide +kernel
theorem d4 : decode yB 4 = .ok (.aload_n 0, 1) := by decide +kernel
theorem d5 : decode yB 5 = .ok (.iload_n 1, 1) := by decide +kernel
theorem d6 : decode yB 6 = .ok (.aload_n 3, 1) := by decide +kernel
theorem d7 : decode yB 7 = .ok (.iconst 0, 1) := by decide +kernel
theorem d8 : decode yB 8 = .ok (.iload_n 2, 1) := by decide +kernel
theorem d9 : decode yB 9 = .ok (.invokestatic 115, 3) := by decide +kernel
theorem d12 : decode yB 12 = .ok (.istore 4, 2) := by decide +kernel
theorem d14 : decode yB 14 = .ok (.iload 4, 2) := by decide +kernel
theorem d16 : decode yB 16 = .ok (.iload_n 2, 1) := by decide +kernel
theorem d17 : decode yB 17 = .ok (.if_icmp (.eq) 40, 3) := by decide +kernel
theorem d57 : decode yB 57 = .ok (.aload_n 3, 1) := by decide +kernel
theorem d58 : decode yB 58 = .ok (.areturn, 1) := by decide +kernel
def site : List Cond := [.arrayClass .byte, Cmp5.tab] ++ staticW U16 115 Cmp5.yN
def tab : Cond := tabOf yN yB 6 (some (.array .byte)) site
def P (b : Addr) (A : Cell) (o len : Nat) (args : Array Value) (s : State) : Prop := args = #[.ref b, .int (Int32.ofNat o), .int (Int32.ofNat len)] ∧ Ch b A s ∧ o + len ≤ A.slots.size ∧ len ≤ 536870912 ∧ ∀ i, i < len → ¬ 255 < cv A (o + i)
def E (b : Addr) (A : Cell) (o len : Nat) (r : Option Value) (s u : State) : Prop := NewArr .byte "[B" len (fun j => .int (lo8 (cv A (o + j)))) r s u ∧ u.heap.size = s.heap.size + 1
/-- no char of the range above 255: a new byte[] of their low bytes -/
theorem law (l : Launch) (b : Addr) (A : Cell) (o len : Nat) : Law l yN 3 3 1 18 yB 6 (some (.array .byte)) site (P b A o len) (E b A o len) [] 1 len := by
  refine Law.of_walk (plainFor_of_name (by decide +kernel)) (by decide +kernel) (by decide +kernel) (by decide) (fun _ _ h => by rw [h.1]; rfl) (fun _ U U' hal hh h => ⟨h.1, h.2.1.mv hal hh, h.2.2⟩) (fun r U U' V V' h1 hal h2 h => ⟨NewArr.mv r U U' V V' h1 hal h2 h.1, by rw [h1, h2]; exact h.2⟩) ?_
  intro p e s m args below meth c s₁ X0 hexec hbytes hml hret hlk hnm hown hh0 W hP
  obtain ⟨rfl, hA, l1, l2, hp⟩ := hP
  have a31 := hA.1.2.2.2
  have c1 : Steps p.tables e below (s₁.setTop (entryFrame m #[.ref b, .int (Int32.ofNat o), .int (Int32.ofNat len)] 6)) (s₁.setTop (mkF m 0 #[.val (.ref b), .val (.int (Int32.ofNat o)), .val (.int (Int32.ofNat len)), .unset, .unset, .unset] [])) := entry rfl
  have c2 : Steps p.tables e below (s₁.setTop (entryFrame m #[.ref b, .int (Int32.ofNat o), .int (Int32.ofNat len)] 6)) (s₁.setTop (mkF m 1 #[.val (.ref b), .val (.int (Int32.ofNat o)), .val (.int (Int32.ofNat len)), .unset, .unset, .unset] [.int (Int32.ofNat len)])) := c1.trans (by
    refine XS.iloadN X0.here hexec rfl (hb hbytes d0) rfl ?_
    exact Steps.refl _)
  obtain ⟨T3, B3, X3, ba3, bs3, bv3, bh3, bf3, st3⟩ := X0.anew hexec (atype := .byte) (wk W (.arrayClass .byte)) rfl (by show len * 1 ≤ _; omega) (by omega) (g := (mkF m 1 #[.val (.ref b), .val (.int (Int32.ofNat o)), .val (.int (Int32.ofNat len)), .unset, .unset, .unset] [.int (Int32.ofNat len)])) rfl (hb hbytes d1) (rest := []) rfl (Nat.le_refl _) (by show 0 + len ≤ len; omega)
  rw [hh0] at ba3 st3
  have kp3 : XT.Kept s T3 := (XT.Kept.of_eq hh0).push bh3
  have hA3 := hA.keep X3.warmed.alike (kp3 _ _ hA.1.1)
  have hne : b ≠ s.heap.size := hA.1.ne
  have c4 : Steps p.tables e below (s₁.setTop (entryFrame m #[.ref b, .int (Int32.ofNat o), .int (Int32.ofNat len)] 6)) (T3.setTop (mkF m 3 #[.val (.ref b), .val (.int (Int32.ofNat o)), .val (.int (Int32.ofNat len)), .unset, .unset, .unset] [.ref s.heap.size])) := c2.trans (st3 _ (Steps.refl _))
  have c5 : Steps p.tables e below (s₁.setTop (entryFrame m #[.ref b, .int (Int32.ofNat o), .int (Int32.ofNat len)] 6)) (T3.setTop (mkF m 9 #[.val (.ref b), .val (.int (Int32.ofNat o)), .val (.int (Int32.ofNat len)), .val (.ref s.heap.size), .unset, .unset] [.int (Int32.ofNat len), .int 0, .ref s.heap.size, .int (Int32.ofNat o), .ref b])) := c4.trans (by
    refine XS.astoreN X3.here hexec rfl (hb hbytes d3) rfl rfl rfl ?_
    refine XS.aloadN X3.here hexec rfl (hb hbytes d4) rfl rfl ?_
    refine XS.iloadN X3.here hexec rfl (hb hbytes d5) rfl ?_
    refine XS.aloadN X3.here hexec rfl (hb hbytes d6) rfl rfl ?_
    refine iconstV X3.here hexec rfl 0 (hb hbytes d7) (by decide) ?_
    refine XS.iloadN X3.here hexec rfl (hb hbytes d8) rfl ?_
    exact Steps.refl _)
  obtain ⟨v6, T6, X6, E6, g6⟩ := X3.callS hexec (Cmp5.law l b A s.heap.size B3 o 0 len) hown (wks W (staticW U16 115 Cmp5.yN)) (wk W Cmp5.tab) (W := 0) (Nat.le_of_ble_eq_true rfl) (Nat.le_of_ble_eq_true rfl) (Nat.le_refl _) (by show 0 + len + 0 ≤ len; omega) (g := (mkF m 9 #[.val (.ref b), .val (.int (Int32.ofNat o)), .val (.int (Int32.ofNat len)), .val (.ref s.heap.size), .unset, .unset] [.int (Int32.ofNat len), .int (Int32.ofNat 0), .ref s.heap.size, .int (Int32.ofNat o), .ref b])) rfl (by rw [hml]; rfl) c5 (argsL := [.ref b, .int (Int32.ofNat o), .ref s.heap.size, .int (Int32.ofNat 0), .int (Int32.ofNat len)]) (rest := []) rfl rfl (by show 2 * 0 + 0 ≤ _; decide) (hb hbytes d9) (⟨rfl, hA3, ba3, hne, l1, by rw [bs3]; simp, hp⟩)
  obtain ⟨rfl, B6, p6, f6⟩ := E6
  have c7 : Steps p.tables e below (s₁.setTop (entryFrame m #[.ref b, .int (Int32.ofNat o), .int (Int32.ofNat len)] 6)) (T6.setTop (mkF m 12 #[.val (.ref b), .val (.int (Int32.ofNat o)), .val (.int (Int32.ofNat len)), .val (.ref s.heap.size), .unset, .unset] [.int (Int32.ofNat len)])) := g6
  have c8 : Steps p.tables e below (s₁.setTop (entryFrame m #[.ref b, .int (Int32.ofNat o), .int (Int32.ofNat len)] 6)) (T6.setTop (mkF m 58 #[.val (.ref b), .val (.int (Int32.ofNat o)), .val (.int (Int32.ofNat len)), .val (.ref s.heap.size), .val (.int (Int32.ofNat len)), .unset] [.ref s.heap.size])) := c7.trans (by
    refine XS.istore X6.here hexec rfl (hb hbytes d12) rfl rfl ?_
    refine XS.iload X6.here hexec rfl (hb hbytes d14) rfl ?_
    refine XS.iloadN X6.here hexec rfl (hb hbytes d16) rfl ?_
    refine XS.icmpYes X6.here hexec rfl (pc0 := 17) rfl (hb hbytes d17) rfl (ii_eq_t rfl) (by decide) rfl ?_
    refine XS.aloadN X6.here hexec rfl (hb hbytes d57) rfl rfl ?_
    exact Steps.refl _)
  have X8 := X6.wide (L' := []) (cells' := 1) (slots' := len) (fun x hx hlt => by
    simp only [List.nil_append, copyLocs, List.mem_map, List.mem_range] at hx
    obtain ⟨i, -, rfl⟩ := hx
    exact absurd hlt (Nat.lt_irrefl _)) (Nat.le_refl _) (by omega)
  exact ⟨T6, some (.ref s.heap.size), _, _, _, X8, rfl, rfl, rfl, (fun h => by cases h), ⟨⟨rfl, B6, ba3.like (X3.warmed.alike.symm.trans X6.warmed.alike) p6.1 f6.1 f6.2.1 f6.2.2.1, f6.2.1.trans bv3, by rw [X6.warmed.alike.findClass, f6.1]; exact bf3, by rw [f6.2.2.1, bs3]; simp, fun j hj => by rw [f6.2.2.2 j, if_pos (by omega)]; rfl, kp3.put p6 (Nat.le_refl _)⟩, by rw [p6.2.2, bh3, hh0]; simp⟩, fun fs hl => c8.trans (X8.areturnOut hexec rfl hret rfl (hb hbytes d58) hl)⟩
end Cmp3
namespace CodL
def yN : MethodName := ⟨"java/lang/StringUTF16", "coderFromArrayLen", "([BI)B"⟩
abbrev yB : ByteArray := jdk_52_method_15_code
theorem d0 : decode yB 0 = .ok (.iload_n 1, 1) := by decide +kernel
theorem d1 : decode yB 1 = .ok (.aload_n 0, 1) := by decide +kernel
theorem d2 : decode yB 2 = .ok (.arraylength, 1) := by decide +kernel
theorem d3 : decode yB 3 = .ok (.isub, 1) := by decide +kernel
theorem d4 : decode yB 4 = .ok (.bipush 31, 2) := by decide +kernel
theorem d6 : decode yB 6 = .ok (.iushr, 1) := by decide +kernel
theorem d7 : decode yB 7 = .ok (.i2b, 1) := by decide +kernel
theorem d8 : decode yB 8 = .ok (.ireturn, 1) := by decide +kernel
def site : List Cond := []
def tab : Cond := tabOf yN yB 2 (some .byte) site
def P (d : Addr) (B : Cell) (args : Array Value) (s : State) : Prop := args = #[.ref d, .int (Int32.ofNat B.slots.size)] ∧ Arr .byte d B s
def E (r : Option Value) (s u : State) : Prop := XT.PureE (some (.int 0)) r s u
/-- an array as long as the number of chars: LATIN1 -/
theorem law (l : Launch) (d : Addr) (B : Cell) : Law l yN 2 2 0 0 yB 2 (some .byte) site (P d B) E [] 0 0 := by
  refine Law.of_walk (plainFor_of_name (by decide +kernel)) (by decide +kernel) (by decide +kernel) (by decide) (fun _ _ h => by rw [h.1]; rfl) (fun _ U U' hal hh h => ⟨h.1, h.2.mv hal hh⟩) (fun r U U' V V' h1 hal h2 h => XT.PureE.mv r U U' V V' h1 hal h2 h) ?_
  intro p e s m args below meth c s₁ X0 hexec hbytes hml hret hlk hnm hown hh0 W hP
  obtain ⟨rfl, hB⟩ := hP
  have hB0 := hB.mv X0.warmed.alike hh0
  have c1 : Steps p.tables e below (s₁.setTop (entryFrame m #[.ref d, .int (Int32.ofNat B.slots.size)] 2)) (s₁.setTop (mkF m 0 #[.val (.ref d), .val (.int (Int32.ofNat B.slots.size))] [])) := entry rfl
  have c2 : Steps p.tables e below (s₁.setTop (entryFrame m #[.ref d, .int (Int32.ofNat B.slots.size)] 2)) (s₁.setTop (mkF m 2 #[.val (.ref d), .val (.int (Int32.ofNat B.slots.size))] [.ref d, .int (Int32.ofNat B.slots.size)])) := c1.trans (by
    refine XS.iloadN X0.here hexec rfl (hb hbytes d0) rfl ?_
    refine XS.aloadN X0.here hexec rfl (hb hbytes d1) rfl rfl ?_
    exact Steps.refl _)
  have c3 : Steps p.tables e below (s₁.setTop (entryFrame m #[.ref d, .int (Int32.ofNat B.slots.size)] 2)) (s₁.setTop (mkF m 8 #[.val (.ref d), .val (.int (Int32.ofNat B.slots.size))] [.int (lo8 (ushr (Int32.ofNat B.slots.size - Int32.ofNat B.slots.size) 31))])) := c2.trans (by
    refine X0.alen hexec hB0 rfl rfl (hb hbytes d2) ?_
    refine XS.isub X0.here hexec rfl (hb hbytes d3) rfl ?_
    refine bipushV X0.here hexec rfl 31 (hb hbytes d4) (by decide) ?_
    refine iushr X0.here hexec rfl (hb hbytes d6) rfl ?_
    refine i2b X0.here hexec rfl (hb hbytes d7) rfl ?_
    exact Steps.refl _)
  have e0 : lo8 (ushr (Int32.ofNat B.slots.size - Int32.ofNat B.slots.size) 31) = 0 := by rw [Int32.sub_self]; decide
  rw [e0] at c3
  exact ⟨s₁, some (.int 0), _, _, _, X0, rfl, rfl, rfl, (fun h => by cases h), ⟨rfl, hh0⟩, fun fs hl => c3.trans (X0.ireturnOut hexec hret rfl (Or.inr (Or.inr (Or.inl rfl))) (hb hbytes d8) hl)⟩
end CodL
/-- the String at a is Latin-1 over a new byte[] (the heap's one new cell): the low bytes of the len chars of A from o on; every cell but a is kept -/
def Got (a : Addr) (D : Cell) (fV fC : Field) (A : Cell) (o len : Nat) (r : Option Value) (s u : State) : Prop := r = none ∧ ∃ D' V : Cell, Blank "java/lang/String" a D' u ∧ Same D D' [fV.slot, fC.slot] ∧ D'.slots[fV.slot]? = some (.ref s.heap.size) ∧ D'.slots[fC.slot]? = some (.int 0) ∧ Arr .byte s.heap.size V u ∧ V.vm = .none ∧ u.vm.findClass "[B" = some V.cls ∧ V.slots.size = len ∧ (∀ j, j < len → V.slots[j]? = some (.int (lo8 (cv A (o + j))))) ∧ (∀ (y : Addr) (c : Cell), y ≠ a → s.heap[y]? = some c → u.heap[y]? = some c) ∧ u.heap.size = s.heap.size + 1
theorem Got.mv {a : Addr} {D A : Cell} {fV fC : Field} {o len : Nat} : ∀ r (U U' V V' : State), U'.heap = U.heap → V.vm.Alike V'.vm → V'.heap = V.heap → Got a D fV fC A o len r U V → Got a D fV fC A o len r U' V' :=
  fun r U U' V V' h1 hal h2 ⟨e0, D', X, a1, a2, a3, a4, a5, a6, a7, a8, a9, a10, a11⟩ => ⟨e0, D', X, a1.mv hal h2, a2, by rw [h1]; exact a3, a4, by rw [h1]; exact a5.mv hal h2, a6, by rw [hal.findClass]; exact a7, a8, a9, by rw [h1, h2]; exact a10, by rw [h1, h2]; exact a11⟩
namespace New4
def yN : MethodName := ⟨"java/lang/String", "<init>", "([CIILjava/lang/Void;)V"⟩
abbrev yB : ByteArray := jdk_42_method_149_code
theorem d0 : decode yB 0 = .ok (.aload_n 0, 1) := by decide +kernel
theorem d1 : decode yB 1 = .ok (.invokespecial 1, 3) := by decide +kernel
theorem d4 : decode yB 4 = .ok (.iload_n 3, 1) := by decide +kernel
theorem d5 : decode yB 5 = .ok (.ifCond (.ne) 22, 3) := by decide +kernel
theorem d27 : decode yB 27 = .ok (.getstatic 38, 3) := by decide +kernel
theorem d30 : decode yB 30 = .ok (.ifCond (.eq) 28, 3) := by decide +kernel
theorem d33 : decode yB 33 = .ok (.aload_n 1, 1) := by decide +kernel
theorem d34 : decode yB 34 = .ok (.iload_n 2, 1) := by decide +kernel
theorem d35 : decode yB 35 = .ok (.iload_n 3, 1) := by decide +kernel
theorem d36 : decode yB 36 = .ok (.invokestatic 177, 3) := by decide +kernel
theorem d39 : decode yB 39 = .ok (.astore 5, 2) := by decide +kernel
theorem d41 : decode yB 41 = .ok (.aload_n 0, 1) := by decide +kernel
theorem d42 : decode yB 42 = .ok (.aload 5, 2) := by decide +kernel
theorem d44 : decode yB 44 = .ok (.iload_n 3, 1) := by decide +kernel
theorem d45 : decode yB 45 = .ok (.invokestatic 47, 3) := by decide +kernel
theorem d48 : decode yB 48 = .ok (.putfield 15, 3) := by decide +kernel
theorem d51 : decode yB 51 = .ok (.aload_n 0, 1) := by decide +kernel
theorem d52 : decode yB 52 = .ok (.aload 5, 2) := by decide +kernel
theorem d54 : decode yB 54 = .ok (.putfield 9, 3) := by decide +kernel
theorem d57 : decode yB 57 = .ok (.return_, 1) := by decide +kernel
def site : List Cond := [.fieldLink "java/lang/String" 38 "java/lang/String" "COMPACT_STRINGS" "Z", Cmp3.tab, CodL.tab, .laysFinal "java/lang/String" "java/lang/String" "value" "[B", .fieldLink "java/lang/String" 9 "java/lang/String" "value" "[B", .laysFinal "java/lang/String" "java/lang/String" "coder" "B", .fieldLink "java/lang/String" 15 "java/lang/String" "coder" "B"] ++ objW "java/lang/String" 1 ++ staticW "java/lang/String" 177 Cmp3.yN ++ staticW "java/lang/String" 47 CodL.yN
def tab : Cond := tabOf yN yB 6 none site
def P (a : Addr) (D : Cell) (fV fC : Field) (b : Addr) (A : Cell) (z : Int32) (o len : Nat) (args : Array Value) (s : State) : Prop := args = #[.ref a, .ref b, .int (Int32.ofNat o), .int (Int32.ofNat len), .null] ∧ Blank "java/lang/String" a D s ∧ Found "java/lang/String" "value" "[B" fV s ∧ Found "java/lang/String" "coder" "B" fC s ∧ Ch b A s ∧ StaticIs s "java/lang/String" "COMPACT_STRINGS" "Z" (.int z) ∧ ¬ z = 0 ∧ 0 < len ∧ o + len ≤ A.slots.size ∧ len ≤ 536870912 ∧ ∀ i, i < len → ¬ 255 < cv A (o + i)
def E (a : Addr) (D : Cell) (fV fC : Field) (A : Cell) (o len : Nat) (r : Option Value) (s u : State) : Prop := Got a D fV fC A o len r s u
/-- len > 0, no char of the range above 255: a Latin-1 String of their low bytes -/
theorem law (l : Launch) (a : Addr) (D : Cell) (fV fC : Field) (b : Addr) (A : Cell) (z : Int32) (o len : Nat) : Law l yN 5 4 2 35 yB 6 none site (P a D fV fC b A z o len) (E a D fV fC A o len) [⟨a, fC.slot⟩, ⟨a, fV.slot⟩] 1 len := by
  refine Law.of_walk (plainFor_of_name (by decide +kernel)) (by decide +kernel) (by decide +kernel) (by decide) (fun _ _ h => by rw [h.1]; rfl) (fun _ U U' hal hh h => ⟨h.1, h.2.1.mv hal hh, h.2.2.1.al hal, h.2.2.2.1.al hal, h.2.2.2.2.1.mv hal hh, h.2.2.2.2.2.1.there hal hh, h.2.2.2.2.2.2⟩) (fun r U U' V V' h1 hal h2 h => Got.mv r U U' V V' h1 hal h2 h) ?_
  intro p e s m args below meth c s₁ X0 hexec hbytes hml hret hlk hnm hown hh0 W hP
  obtain ⟨rfl, hB, f1, f2, hA, s1, hz, l0, l1, l2, hp⟩ := hP
  have a31 := hA.1.2.2.2
  have c1 : Steps p.tables e below (s₁.setTop (entryFrame m #[.ref a, .ref b, .int (Int32.ofNat o), .int (Int32.ofNat len), .null] 6)) (s₁.setTop (mkF m 0 #[.val (.ref a), .val (.ref b), .val (.int (Int32.ofNat o)), .val (.int (Int32.ofNat len)), .val .null, .unset] [])) := entry rfl
  have c2 : Steps p.tables e below (s₁.setTop (entryFrame m #[.ref a, .ref b, .int (Int32.ofNat o), .int (Int32.ofNat len), .null] 6)) (s₁.setTop (mkF m 1 #[.val (.ref a), .val (.ref b), .val (.int (Int32.ofNat o)), .val (.int (Int32.ofNat len)), .val .null, .unset] [.ref a])) := c1.trans (by
    refine XS.aloadN X0.here hexec rfl (hb hbytes d0) rfl rfl ?_
    exact Steps.refl _)
  obtain ⟨T3, X3, q3, st3⟩ := X0.oinit hexec hown (wks W (objW "java/lang/String" 1)) (g := (mkF m 1 #[.val (.ref a), .val (.ref b), .val (.int (Int32.ofNat o)), .val (.int (Int32.ofNat len)), .val .null, .unset] [.ref a])) rfl (by rw [hml]; rfl) (rest := []) rfl (hb hbytes d1) (W := 0) (by show 2 * 0 + 0 ≤ _; decide) (Nat.le_of_ble_eq_true rfl) (Nat.le_of_ble_eq_true rfl)
  have hh3 := q3.trans hh0
  have c4 : Steps p.tables e below (s₁.setTop (entryFrame m #[.ref a, .ref b, .int (Int32.ofNat o), .int (Int32.ofNat len), .null] 6)) (T3.setTop (mkF m 27 #[.val (.ref a), .val (.ref b), .val (.int (Int32.ofNat o)), .val (.int (Int32.ofNat len)), .val .null, .unset] [])) := (c2.trans (st3 _ (Steps.refl _))).trans (by
    refine XS.iloadN X3.here hexec rfl (hb hbytes d4) rfl ?_
    refine XS.ifYes X3.here hexec rfl (pc0 := 5) rfl (hb hbytes d5) rfl (i0_ne_t (nz32 (by omega) l0)) (by decide) rfl ?_
    exact Steps.refl _)
  obtain ⟨T5, X5, q5, st5⟩ := X3.sget hexec hown (wk W (.fieldLink "java/lang/String" 38 "java/lang/String" "COMPACT_STRINGS" "Z")) s1 (fun _ _ h => by rw [hh3]; exact h) (g := (mkF m 27 #[.val (.ref a), .val (.ref b), .val (.int (Int32.ofNat o)), .val (.int (Int32.ofNat len)), .val .null, .unset] [])) rfl (hb hbytes d27)
  have hh5 := q5.trans hh3
  have c6 : Steps p.tables e below (s₁.setTop (entryFrame m #[.ref a, .ref b, .int (Int32.ofNat o), .int (Int32.ofNat len), .null] 6)) (T5.setTop (mkF m 30 #[.val (.ref a), .val (.ref b), .val (.int (Int32.ofNat o)), .val (.int (Int32.ofNat len)), .val .null, .unset] [.int z])) := c4.trans (st5 _ (Steps.refl _))
  have c7 : Steps p.tables e below (s₁.setTop (entryFrame m #[.ref a, .ref b, .int (Int32.ofNat o), .int (Int32.ofNat len), .null] 6)) (T5.setTop (mkF m 36 #[.val (.ref a), .val (.ref b), .val (.int (Int32.ofNat o)), .val (.int (Int32.ofNat len)), .val .null, .unset] [.int (Int32.ofNat len), .int (Int32.ofNat o), .ref b])) := c6.trans (by
    refine XS.ifNo X5.here hexec rfl (hb hbytes d30) rfl (i0_eq_f hz) ?_
    refine XS.aloadN X5.here hexec rfl (hb hbytes d33) rfl rfl ?_
    refine XS.iloadN X5.here hexec rfl (hb hbytes d34) rfl ?_
    refine XS.iloadN X5.here hexec rfl (hb hbytes d35) rfl ?_
    exact Steps.refl _)
  obtain ⟨v8, T8, X8, E8, g8⟩ := X5.callS hexec (Cmp3.law l b A o len) hown (wks W (staticW "java/lang/String" 177 Cmp3.yN)) (wk W Cmp3.tab) (W := 0) (Nat.le_of_ble_eq_true rfl) (Nat.le_of_ble_eq_true rfl) (Nat.le_refl _) (by show 0 + len ≤ len; omega) (g := (mkF m 36 #[.val (.ref a), .val (.ref b), .val (.int (Int32.ofNat o)), .val (.int (Int32.ofNat len)), .val .null, .unset] [.int (Int32.ofNat len), .int (Int32.ofNat o), .ref b])) rfl (by rw [hml]; rfl) c7 (argsL := [.ref b, .int (Int32.ofNat o), .int (Int32.ofNat len)]) (rest := []) rfl rfl (by show 2 * 0 + 0 ≤ _; decide) (hb hbytes d36) (⟨rfl, hA.mv X5.warmed.alike hh5, l1, l2, hp⟩)
  obtain ⟨e8, z8⟩ := E8
  obtain ⟨rfl, N, n1, n2, n3, n4, n5, n6⟩ := NewArr.mv _ T5 s _ _ hh5.symm (Vm.Alike.refl _) rfl e8
  rw [hh5] at z8
  have hB1 := hB.keep X8.warmed.alike (n6 _ _ hB.1)
  have hne : s.heap.size ≠ a := (Nat.ne_of_lt (Array.getElem?_eq_some_iff.mp hB.1).1).symm
  have c9 : Steps p.tables e below (s₁.setTop (entryFrame m #[.ref a, .ref b, .int (Int32.ofNat o), .int (Int32.ofNat len), .null] 6)) (T8.setTop (mkF m 39 #[.val (.ref a), .val (.ref b), .val (.int (Int32.ofNat o)), .val (.int (Int32.ofNat len)), .val .null, .unset] [.ref s.heap.size])) := g8
  have c10 : Steps p.tables e below (s₁.setTop (entryFrame m #[.ref a, .ref b, .int (Int32.ofNat o), .int (Int32.ofNat len), .null] 6)) (T8.setTop (mkF m 45 #[.val (.ref a), .val (.ref b), .val (.int (Int32.ofNat o)), .val (.int (Int32.ofNat len)), .val .null, .val (.ref s.heap.size)] [.int (Int32.ofNat N.slots.size), .ref s.heap.size, .ref a])) := by
    have hc : Steps p.tables e below (s₁.setTop (entryFrame m #[.ref a, .ref b, .int (Int32.ofNat o), .int (Int32.ofNat len), .null] 6)) (T8.setTop (mkF m 45 #[.val (.ref a), .val (.ref b), .val (.int (Int32.ofNat o)), .val (.int (Int32.ofNat len)), .val .null, .val (.ref s.heap.size)] [.int (Int32.ofNat len), .ref s.heap.size, .ref a])) := c9.trans (by
      refine XS.astore X8.here hexec rfl (hb hbytes d39) rfl rfl rfl ?_
      refine XS.aloadN X8.here hexec rfl (hb hbytes d41) rfl rfl ?_
      refine XS.aload X8.here hexec rfl (hb hbytes d42) rfl rfl ?_
      refine XS.iloadN X8.here hexec rfl (hb hbytes d44) rfl ?_
      exact Steps.refl _)
    rw [n4]; exact hc
  obtain ⟨v11, T11, X11, E11, g11⟩ := X8.callS hexec (CodL.law l s.heap.size N) hown (wks W (staticW "java/lang/String" 47 CodL.yN)) (wk W CodL.tab) (W := 1) (Nat.le_of_ble_eq_true rfl) (Nat.le_of_ble_eq_true rfl) (Nat.le_refl _) (by show 0 + len + 0 ≤ len; omega) (g := (mkF m 45 #[.val (.ref a), .val (.ref b), .val (.int (Int32.ofNat o)), .val (.int (Int32.ofNat len)), .val .null, .val (.ref s.heap.size)] [.int (Int32.ofNat N.slots.size), .ref s.heap.size, .ref a])) rfl (by rw [hml]; rfl) c10 (argsL := [.ref s.heap.size, .int (Int32.ofNat N.slots.size)]) (rest := [.ref a]) rfl rfl (by show 2 * 0 + (1 + 0) ≤ _; decide) (hb hbytes d45) (⟨rfl, n1⟩)
  obtain ⟨rfl, q11⟩ := E11
  have hB11 := hB1.mv (X8.warmed.alike.symm.trans X11.warmed.alike) q11
  have c12 : Steps p.tables e below (s₁.setTop (entryFrame m #[.ref a, .ref b, .int (Int32.ofNat o), .int (Int32.ofNat len), .null] 6)) (T11.setTop (mkF m 48 #[.val (.ref a), .val (.ref b), .val (.int (Int32.ofNat o)), .val (.int (Int32.ofNat len)), .val .null, .val (.ref s.heap.size)] [.int 0, .ref a])) := g11
  obtain ⟨T13, X13, p13, bl13, sl13, st13⟩ := X11.finit hexec hown (wk W (.fieldLink "java/lang/String" 15 "java/lang/String" "coder" "B")) (Or.inr ⟨_, (wk W (.laysFinal "java/lang/String" "java/lang/String" "coder" "B"))⟩) (Or.inl ⟨rfl, hnm⟩) f2 (Or.inl rfl) hB11 (t := .byte) (by decide +kernel) rfl (g := (mkF m 48 #[.val (.ref a), .val (.ref b), .val (.int (Int32.ofNat o)), .val (.int (Int32.ofNat len)), .val .null, .val (.ref s.heap.size)] [.int 0, .ref a])) rfl (rest := []) rfl (hb hbytes d48)
  have c14 : Steps p.tables e below (s₁.setTop (entryFrame m #[.ref a, .ref b, .int (Int32.ofNat o), .int (Int32.ofNat len), .null] 6)) (T13.setTop (mkF m 54 #[.val (.ref a), .val (.ref b), .val (.int (Int32.ofNat o)), .val (.int (Int32.ofNat len)), .val .null, .val (.ref s.heap.size)] [.ref s.heap.size, .ref a])) := (c12.trans (st13 _ (Steps.refl _))).trans (by
    refine XS.aloadN X13.here hexec rfl (hb hbytes d51) rfl rfl ?_
    refine XS.aload X13.here hexec rfl (hb hbytes d52) rfl rfl ?_
    exact Steps.refl _)
  obtain ⟨T15, X15, p15, bl15, sl15, st15⟩ := X13.finit hexec hown (wk W (.fieldLink "java/lang/String" 9 "java/lang/String" "value" "[B")) (Or.inr ⟨_, (wk W (.laysFinal "java/lang/String" "java/lang/String" "value" "[B"))⟩) (Or.inl ⟨rfl, hnm⟩) f1 (Or.inl rfl) bl13 (t := (.array .byte)) (by decide +kernel) rfl (g := (mkF m 54 #[.val (.ref a), .val (.ref b), .val (.int (Int32.ofNat o)), .val (.int (Int32.ofNat len)), .val .null, .val (.ref s.heap.size)] [.ref s.heap.size, .ref a])) rfl (rest := []) rfl (hb hbytes d54)
  have c16 : Steps p.tables e below (s₁.setTop (entryFrame m #[.ref a, .ref b, .int (Int32.ofNat o), .int (Int32.ofNat len), .null] 6)) (T15.setTop (mkF m 57 #[.val (.ref a), .val (.ref b), .val (.int (Int32.ofNat o)), .val (.int (Int32.ofNat len)), .val .null, .val (.ref s.heap.size)] [])) := c14.trans (st15 _ (Steps.refl _))
  have ap := apart (Or.inr ⟨_, (wk W (.laysFinal "java/lang/String" "java/lang/String" "value" "[B"))⟩) (Or.inr ⟨_, (wk W (.laysFinal "java/lang/String" "java/lang/String" "coder" "B"))⟩) f1 f2 (t₁ := .array .byte) (t₂ := .byte) (by decide +kernel) (by decide +kernel) (by decide)
  have al := X8.warmed.alike.symm.trans X15.warmed.alike
  have n7 : T11.heap[s.heap.size]? = some N := by rw [q11]; exact n1.1
  exact ⟨T15, none, _, _, _, X15, by simp, rfl, by omega, (fun _ => rfl), ⟨rfl, _, N, bl15, ((Same.refl D _).set _ (by simp)).set _ (by simp), sl15, (Cell.slots_setSlot_ne _ ap).trans sl13, n1.keep al (p15.other hne (p13.other hne n7)), n2, by rw [al.findClass]; exact n3, n4, n5, fun y c h1 h2 => p15.other h1 (p13.other h1 (by rw [q11]; exact n6 y c h2)), by rw [p15.2.2, p13.2.2, q11]; exact z8⟩, fun fs hl => c16.trans (X15.returnOut hexec hret (hb hbytes d57) hl)⟩
end New4
namespace New1
def yN : MethodName := ⟨"java/lang/String", "<init>", "([C)V"⟩
abbrev yB : ByteArray := jdk_42_method_3_code
theorem d0 : decode yB 0 = .ok (.aload_n 0, 1) := by decide +kernel
theorem d1 : decode yB 1 = .ok (.aload_n 1, 1) := by decide +kernel
theorem d2 : decode yB 2 = .ok (.iconst 0, 1) := by decide +kernel
theorem d3 : decode yB 3 = .ok (.aload_n 1, 1) := by decide +kernel
theorem d4 : decode yB 4 = .ok (.arraylength, 1) := by decide +kernel
theorem d5 : decode yB 5 = .ok (.aconst_null, 1) := by decide +kernel
theorem d6 : decode yB 6 = .ok (.invokespecial 27, 3) := by decide +kernel
theorem d9 : decode yB 9 = .ok (.return_, 1) := by decide +kernel
def site : List Cond := [New4.tab] ++ initW "java/lang/String" 27 New4.yN
def tab : Cond := tabOf yN yB 2 none site
def P (a : Addr) (D : Cell) (fV fC : Field) (b : Addr) (A : Cell) (z : Int32) (args : Array Value) (s : State) : Prop := args = #[.ref a, .ref b] ∧ Blank "java/lang/String" a D s ∧ Found "java/lang/String" "value" "[B" fV s ∧ Found "java/lang/String" "coder" "B" fC s ∧ Ch b A s ∧ StaticIs s "java/lang/String" "COMPACT_STRINGS" "Z" (.int z) ∧ ¬ z = 0 ∧ 0 < A.slots.size ∧ A.slots.size ≤ 536870912 ∧ ∀ i, i < A.slots.size → ¬ 255 < cv A i
def E (a : Addr) (D : Cell) (fV fC : Field) (A : Cell) (r : Option Value) (s u : State) : Prop := Got a D fV fC A 0 A.slots.size r s u
/-- new String(chars), not empty, no char above 255: a Latin-1 String of their low bytes -/
theorem law (l : Launch) (a : Addr) (D : Cell) (fV fC : Field) (b : Addr) (A : Cell) (z : Int32) : Law l yN 2 1 3 52 yB 2 none site (P a D fV fC b A z) (E a D fV fC A) [⟨a, fC.slot⟩, ⟨a, fV.slot⟩] 1 A.slots.size := by
  refine Law.of_walk (plainFor_of_name (by decide +kernel)) (by decide +kernel) (by decide +kernel) (by decide) (fun _ _ h => by rw [h.1]; rfl) (fun _ U U' hal hh h => ⟨h.1, h.2.1.mv hal hh, h.2.2.1.al hal, h.2.2.2.1.al hal, h.2.2.2.2.1.mv hal hh, h.2.2.2.2.2.1.there hal hh, h.2.2.2.2.2.2⟩) (fun r U U' V V' h1 hal h2 h => Got.mv r U U' V V' h1 hal h2 h) ?_
  intro p e s m args below meth c s₁ X0 hexec hbytes hml hret hlk hnm hown hh0 W hP
  obtain ⟨rfl, hB, f1, f2, hA, s1, hz, l0, l2, hp⟩ := hP
  have c1 : Steps p.tables e below (s₁.setTop (entryFrame m #[.ref a, .ref b] 2)) (s₁.setTop (mkF m 0 #[.val (.ref a), .val (.ref b)] [])) := entry rfl
  have c2 : Steps p.tables e below (s₁.setTop (entryFrame m #[.ref a, .ref b] 2)) (s₁.setTop (mkF m 6 #[.val (.ref a), .val (.ref b)] [.null, .int (Int32.ofNat A.slots.size), .int 0, .ref b, .ref a])) := c1.trans (by
    refine XS.aloadN X0.here hexec rfl (hb hbytes d0) rfl rfl ?_
    refine XS.aloadN X0.here hexec rfl (hb hbytes d1) rfl rfl ?_
    refine iconstV X0.here hexec rfl 0 (hb hbytes d2) (by decide) ?_
    refine XS.aloadN X0.here hexec rfl (hb hbytes d3) rfl rfl ?_
    refine X0.alen hexec (hA.1.mv X0.warmed.alike hh0) rfl rfl (hb hbytes d4) ?_
    refine XS.aconstNull X0.here hexec rfl (hb hbytes d5) ?_
    exact Steps.refl _)
  obtain ⟨v3, T3, X3, E3, g3⟩ := X0.callN hexec (New4.law l a D fV fC b A z 0 A.slots.size) rfl hown (wks W (initW "java/lang/String" 27 New4.yN)) (W New4.tab (by simp only [site, List.mem_cons, List.mem_append, true_or, or_true])) (W := 0) (Nat.le_of_ble_eq_true rfl) (Nat.le_of_ble_eq_true rfl) (Nat.le_refl _) (by show 0 + A.slots.size ≤ A.slots.size; omega) (g := (mkF m 6 #[.val (.ref a), .val (.ref b)] [.null, .int (Int32.ofNat A.slots.size), .int (Int32.ofNat 0), .ref b, .ref a])) rfl (by rw [hml]; rfl) c2 (argsL := [.ref b, .int (Int32.ofNat 0), .int (Int32.ofNat A.slots.size), .null]) (rest := []) rfl rfl (by show 2 * 0 + 0 ≤ _; decide) (hb hbytes d6) (⟨rfl, hB.mv X0.warmed.alike hh0, f1.al X0.warmed.alike, f2.al X0.warmed.alike, hA.mv X0.warmed.alike hh0, s1.there X0.warmed.alike hh0, hz, l0, by omega, l2, fun i hi => by rw [Nat.zero_add]; exact hp i hi⟩)
  have e0 := Got.mv _ s₁ s _ _ hh0.symm (Vm.Alike.refl _) rfl E3
  obtain rfl := e0.1
  have c4 : Steps p.tables e below (s₁.setTop (entryFrame m #[.ref a, .ref b] 2)) (T3.setTop (mkF m 9 #[.val (.ref a), .val (.ref b)] [])) := g3
  exact ⟨T3, none, _, _, _, X3, by simp, rfl, by omega, (fun _ => rfl), e0, fun fs hl => c4.trans (X3.returnOut hexec hret (hb hbytes d9) hl)⟩
theorem pays {l : Launch} {R : Room} {p : Program} {e : Env} {below : List Frame} {s : State} {sargs : Array Value} {len W : Nat} (a : Addr) (D : Cell) (fV fC : Field) (b : Addr) (A : Cell) (z : Int32) (htab : tab.before sargs s = true) (hfr : 4 ≤ R.frames) (hlo : W + 65 ≤ R.locals) :
    Back l R p e below s sargs yN len W (fun A₁ a₁ => A₁.cells + 1 ≤ R.cells ∧ A₁.slots + A.slots.size ≤ R.slots ∧ P a D fV fC b A z a₁ A₁.U) (fun A₁ _ v₁ B₁ => E a D fV fC A v₁ A₁.U B₁.U ∧ B₁.locs = A₁.locs ++ [⟨a, fC.slot⟩, ⟨a, fV.slot⟩] ∧ B₁.cells = A₁.cells + 1 ∧ B₁.slots = A₁.slots + A.slots.size) :=
  (law l a D fV fC b A z).pays htab hfr (by omega)
end New1
end StrChars
namespace StrChars.Road
open Jvm Sem ClassFile Op Lib Jvm.Stand Jvm.Free Jvm.Free.XT
open Jvm.Lib.Cold (StaticIs)
abbrev ST : String := "java/lang/String"
/-- every table word that New1's law asks, flat -/
abbrev words : List Jvm.Cond := [.code New1.yN New1.yB 2 none, .initialized ST, .methodLink ST 27 New4.yN, .instanceMethod New4.yN,
  .code New4.yN New4.yB 6 none, .fieldLink ST 38 ST "COMPACT_STRINGS" "Z", .laysFinal ST ST "value" "[B", .fieldLink ST 9 ST "value" "[B", .laysFinal ST ST "coder" "B", .fieldLink ST 15 ST "coder" "B",
  .methodLink ST 1 Lib.objectInit, .instanceMethod Lib.objectInit, .code Lib.objectInit ⟨#[0xb1]⟩ 1 none, .methodLink ST 177 Cmp3.yN, .static Cmp3.yN, .methodLink ST 47 CodL.yN, .static CodL.yN,
  .code Cmp3.yN Cmp3.yB 6 (some (.array .byte)), .initialized U16, .arrayClass .byte, .methodLink U16 115 Cmp5.yN, .static Cmp5.yN, .code Cmp5.yN Cmp5.yB 7 (some .int), .code CodL.yN CodL.yB 2 (some .byte)]
theorem tab_of {a : Array Value} {s : State} (h : ∀ w ∈ words, w.before a s = true) : New1.tab.before a s = true := by
  have h5 : Cmp5.tab.before a s = true := unparts (wk h (.code Cmp5.yN Cmp5.yB 7 (some .int))) (wks h (.initialized Cmp5.yN.cls :: Cmp5.site))
  have hc : CodL.tab.before a s = true := unparts (wk h (.code CodL.yN CodL.yB 2 (some .byte))) (wks h (.initialized CodL.yN.cls :: CodL.site))
  have q5 : ∀ w ∈ Cmp5.tab :: words, w.before a s = true := fun w hw => (List.mem_cons.mp hw).elim (fun e => e ▸ h5) (h w)
  have h3 : Cmp3.tab.before a s = true := unparts (wk q5 (.code Cmp3.yN Cmp3.yB 6 (some (.array .byte)))) (wks q5 (.initialized Cmp3.yN.cls :: Cmp3.site))
  have q3 : ∀ w ∈ Cmp3.tab :: CodL.tab :: words, w.before a s = true := fun w hw => (List.mem_cons.mp hw).elim (fun e => e ▸ h3) fun hw => (List.mem_cons.mp hw).elim (fun e => e ▸ hc) (h w)
  have h4 : New4.tab.before a s = true := unparts (wk q3 (.code New4.yN New4.yB 6 none)) (wks q3 (.initialized New4.yN.cls :: New4.site))
  have q4 : ∀ w ∈ New4.tab :: words, w.before a s = true := fun w hw => (List.mem_cons.mp hw).elim (fun e => e ▸ h4) (h w)
  exact unparts (wk q4 (.code New1.yN New1.yB 2 none)) (wks q4 (.initialized New1.yN.cls :: New1.site))
/-- the words ride from the start Z to the walk's own state -/
theorem moved {Z s : State} {a0 args : Array Value} (hZ : Z.Warmed39 s.vm) (hw : ∀ d ∈ words, d.before a0 Z = true) : ∀ d ∈ words, d.before args s = true := fun d hd => by
  have q := hw d hd
  have t : ∀ d ∈ words, d = .arrayClass .byte ∨ (d.onTables && d.keepsFace) = true := by decide +kernel
  rcases t d hd with rfl | t
  · exact RoadKit.mvA hZ q
  · exact RoadKit.mv hZ q t
/-- WHAT COMES BACK, over the tables of the start Z: h the heap at the call, h' behind it -/
def Q (Z : State) (x : Addr) (A : Cell) (h : Heap) (v : Option Value) (h' : Heap) (L : List Loc) : Prop := v = none ∧ (∀ y ∈ L, y.base = x) ∧ RoadKit.Keep h h' [x] ∧ h'.size = h.size + 1 ∧ RoadKit.Exa Z h' x ST ∧ RoadKit.Fld Z h' x ST "value" "[B" (.ref h.size) ∧ RoadKit.Fld Z h' x ST "coder" "B" (.int 0) ∧
  (∃ V : Cell, RoadKit.Arr Z h' h.size V .byte ∧ V.vm = .none ∧ Z.vm.findClass "[B" = some V.cls ∧ V.slots.size = A.slots.size ∧ ∀ j, j < A.slots.size → V.slots[j]? = some (.int (lo8 (cv A j)))) ∧
  ∀ (O n d : String) (w : Value), RoadKit.Fld Z h x O n d w → RoadKit.slotOf Z O n d ≠ RoadKit.slotOf Z ST "value" "[B" → RoadKit.slotOf Z O n d ≠ RoadKit.slotOf Z ST "coder" "B" → RoadKit.Fld Z h' x O n d w
/-- **new String(chars) AT A CALL, IN THE ROAD'S FORM**: for specialBack behind newO: x the fresh String, b the char[] with the cell A -/
theorem back {p : Program} {l : Launch} {e : Env} {R : Room} {s : State} {args : Array Value} {below : List Frame} {len W : Nat} {Z : State} {a0 : Array Value} {h : Heap} (hZ : Z.Warmed39 s.vm) (hw : ∀ d ∈ words, d.before a0 Z = true) {kI : Nat} (wi : (Jvm.Cond.instantiable ST kI).before a0 Z = true)
    {x b : Addr} {A : Cell} {z : Int32} {v0 c0 : Value} (E : RoadKit.Exa Z h x ST) (V : RoadKit.Fld Z h x ST "value" "[B" v0) (C : RoadKit.Fld Z h x ST "coder" "B" c0) (K : RoadKit.Arr Z h b A .char) (hty : Typed .char A) (S : RoadKit.Sta Z h ST "COMPACT_STRINGS" "Z" (.int z)) (hz : ¬ z = 0)
    (l0 : 0 < A.slots.size) (l2 : A.slots.size ≤ 536870912) (hp : ∀ i, i < A.slots.size → ¬ 255 < cv A i) (hfr : 4 ≤ R.frames) (hlo : W + 65 ≤ R.locals) :
    Back l R p e below s args New1.yN len W (fun P a => a = #[.ref x, .ref b] ∧ P.U.heap = h ∧ P.cells + 1 ≤ R.cells ∧ P.slots + A.slots.size ≤ R.slots)
      (fun P _ v B => ∃ L, Q Z x A h v B.U.heap L ∧ B.locs = P.locs ++ L ∧ B.cells = P.cells + 1 ∧ B.slots = P.slots + A.slots.size) := by
  intro m meth c P g ig mk a X hg hsize hdg hW hn hp'
  obtain ⟨rfl, rfl, r1, r2⟩ := hp'
  have al : Z.vm.Alike P.U.vm := hZ.alike.trans X.warmed.alike
  obtain ⟨D, cfV, kV, iV, fV, hD, gV, stV, knV, obV, asV, slV⟩ := id V
  obtain ⟨D', cfC, kC, iC, fC, hD', gC, stC, -, -, asC, slC⟩ := id C
  cases hD.symm.trans hD'
  obtain ⟨D2, kD, e1, e2, e3, e4, e5⟩ := id E
  cases hD.symm.trans e1
  obtain ⟨c2, k2, i1, i2, i3, -⟩ := Cond.instantiable_spec wi
  cases e2.symm.trans i1
  cases e3.symm.trans i2
  obtain ⟨kU, u1, u2⟩ := al.2.2 _ _ e3
  have hB : Blank ST x D P.U := ⟨hD, ⟨knV, fun q hq => by rw [hq] at obV; cases obV⟩, by rw [al.findClass]; exact e2, kU, u1, by rw [u2]; exact i3, by rw [u2]; exact e5 i3⟩
  have F1 : Found ST "value" "[B" fV P.U := ⟨SBG.found_only al ⟨cfV, kV, iV, gV⟩, stV⟩
  have F2 : Found ST "coder" "B" fC P.U := ⟨SBG.found_only al ⟨cfC, kC, iC, gC⟩, stC⟩
  have hA : Ch b A P.U := ⟨⟨K.1, State.isArrayOf_alike al K.2.1, K.2.2, by omega⟩, hty⟩
  have hS : StaticIs P.U ST "COMPACT_STRINGS" "Z" (.int z) := by
    obtain ⟨cfS, iS, kS, fS, st, cS, t1, t2, t3, t4, t5, t6, t7⟩ := S
    exact StaticIs.there (s := { Z with heap := P.U.heap }) ⟨cfS, iS, kS, fS, st, cS, t1, t2, t3, t4, t5, (fun q => by rw [q] at t6; cases t6), t7⟩ al rfl
  obtain ⟨v, B, X', ⟨⟨hv, E', V', q1, q2, q3, q4, q5, q6, q7, q8, q9, q10, q11⟩, hl, hc, hs⟩, st⟩ := New1.pays x D fV fC b A z (tab_of (moved hZ hw)) hfr hlo m meth c P g ig mk _ X hg hsize hdg hW hn ⟨r1, r2, rfl, hB, F1, F2, hA, hS, hz, l0, l2, hp⟩
  have al' : Z.vm.Alike B.U.vm := hZ.alike.trans X'.warmed.alike
  have hsz : E'.slots.size = D.slots.size := by
    obtain ⟨-, -, -, kB, w1, w2, w3⟩ := q1
    obtain ⟨kB', y1, y2⟩ := al'.2.2 _ _ e3
    rw [q2.2.1] at w1
    cases w1.symm.trans y1
    rw [w3, e5 i3, y2]
  refine ⟨v, B, X', ⟨_, ⟨hv, ?_, ⟨by omega, fun y cy hy hn' => q10 y cy (by simpa using hn') hy, fun y cy hy => ?_⟩, q11, ⟨E', _, q1.1, by rw [q2.2.1]; exact e2, by rw [q2.2.1]; exact e3, by rw [q2.1]; exact obV, fun _ => by rw [hsz]; exact e5 i3⟩,
    ⟨E', cfV, kV, iV, fV, q1.1, gV, stV, by rw [q2.1]; exact knV, by rw [q2.1]; exact obV, by rw [q2.2.1]; exact asV, q3⟩, ⟨E', cfC, kC, iC, fC, q1.1, gC, stC, by rw [q2.1]; exact knV, by rw [q2.1]; exact obV, by rw [q2.2.1]; exact asC, q4⟩,
    ⟨V', ⟨q5.1, State.isArrayOf_alike al'.symm q5.2.1, q5.2.2.1⟩, q6, by rw [← al'.findClass]; exact q7, q8, fun j hj => by have := q9 j hj; rwa [Nat.zero_add] at this⟩, fun O n d w F n1 n2 => ?_⟩, hl, hc, hs⟩, st⟩
  · intro y hy
    simp only [List.mem_cons, List.not_mem_nil, or_false] at hy
    rcases hy with rfl | rfl <;> rfl
  · by_cases q : y = x
    · subst q
      cases hD.symm.trans hy
      exact ⟨E', q1.1, q2.2.1, q2.1, hsz⟩
    · exact ⟨cy, q10 y cy q hy, rfl, rfl, rfl⟩
  · obtain ⟨D3, cf, k, i, f, g1, g2, g3, g4, g5, g6, g7⟩ := F
    cases hD.symm.trans g1
    simp only [RoadKit.slotOf, g2, gV, gC, Option.map_some, Option.getD_some] at n1 n2
    exact ⟨E', cf, k, i, f, q1.1, g2, g3, by rw [q2.1]; exact g4, by rw [q2.1]; exact g5, by rw [q2.2.1]; exact g6, by rw [q2.2.2 f.slot (by simp [n1, n2])]; exact g7⟩
end StrChars.Road
namespace StrChars.Road
open Jvm Sem ClassFile Op Lib Jvm.Stand Jvm.Free Jvm.Free.XT
/-- WHAT COMES BACK, the byte[] as a list of values -/
def QA (Z : State) (x : Addr) (zn : Int32) (cs : List Int32) (h : Heap) (v : Option Value) (h' : Heap) (L : List Loc) : Prop := v = none ∧ (∀ y ∈ L, y.base = x) ∧ RoadKit.Keep h h' [x] ∧ h'.size = h.size + 1 ∧ RoadKit.Exa Z h' x ST ∧ RoadKit.Fld Z h' x ST "value" "[B" (.ref h.size) ∧ RoadKit.Fld Z h' x ST "coder" "B" (.int 0) ∧
  (∃ kb, Z.vm.findClass "[B" = some kb ∧ RoadKit.Arv Z h' h.size kb .byte zn (cs.map fun c => .int (lo8 c)) (.int 0)) ∧
  ∀ (O n d : String) (w : Value), RoadKit.Fld Z h x O n d w → RoadKit.slotOf Z O n d ≠ RoadKit.slotOf Z ST "value" "[B" → RoadKit.slotOf Z O n d ≠ RoadKit.slotOf Z ST "coder" "B" → RoadKit.Fld Z h' x O n d w
/-- **new String(chars) AT A CALL, THE ARRAYS AS LISTS**: the char[] at b holds cs, not empty, no char above 255 -/
theorem backArv {p : Program} {l : Launch} {e : Env} {R : Room} {s : State} {args : Array Value} {below : List Frame} {len W : Nat} {Z : State} {a0 : Array Value} {h : Heap} (hZ : Z.Warmed39 s.vm) (hw : ∀ d ∈ words, d.before a0 Z = true) {kI : Nat} (wi : (Jvm.Cond.instantiable ST kI).before a0 Z = true)
    {x b : Addr} {k : ClassId} {zn z : Int32} {cs : List Int32} {dv v0 c0 : Value} (E : RoadKit.Exa Z h x ST) (V : RoadKit.Fld Z h x ST "value" "[B" v0) (C : RoadKit.Fld Z h x ST "coder" "B" c0) (K : RoadKit.Arv Z h b k .char zn (cs.map Value.int) dv) (S : RoadKit.Sta Z h ST "COMPACT_STRINGS" "Z" (.int z)) (hz : ¬ z = 0)
    (hlen : zn.toNatClampNeg = cs.length) (h0 : 0 < cs.length) (hbig : cs.length ≤ 536870912) (hall : ∀ c ∈ cs, ¬ 255 < c) (hfr : 4 ≤ R.frames) (hlo : W + 65 ≤ R.locals) :
    Back l R p e below s args New1.yN len W (fun P a => a = #[.ref x, .ref b] ∧ P.U.heap = h ∧ P.cells + 1 ≤ R.cells ∧ P.slots + cs.length ≤ R.slots)
      (fun P _ v B => ∃ L, QA Z x zn cs h v B.U.heap L ∧ B.locs = P.locs ++ L ∧ B.cells = P.cells + 1 ∧ B.slots = P.slots + cs.length) := by
  obtain ⟨A, K1, K2, K3, K4, K5, K6⟩ := K
  have e : A.slots.size = cs.length := K3.trans hlen
  have hat : ∀ (i : Nat) (hi : i < cs.length), A.slots[i]? = some (.int cs[i]) := fun i hi => by rw [K5 i (by omega)]; simp [List.getD_eq_getElem?_getD, hi]
  have hcv : ∀ (i : Nat) (hi : i < cs.length), cv A i = cs[i] := fun i hi => by unfold cv; rw [hat i hi]
  have hty : Typed .char A := fun i v hv => by
    have hi : i < A.slots.size := (Array.getElem?_eq_some_iff.mp hv).1
    have q := K5 i hi
    rw [hv] at q
    rw [Option.some.inj q]
    exact K6 i hi
  refine Back.mono (back hZ hw wi E V C K1 hty S hz (by omega) (by omega) (fun i hi => by rw [hcv i (by omega)]; exact hall _ (List.getElem_mem _)) hfr hlo) (fun P a hp => ⟨hp.1, hp.2.1, hp.2.2.1, by rw [e]; exact hp.2.2.2⟩) (fun P a v B hp hq => ?_)
  obtain ⟨L, ⟨q1, q2, q3, q4, q5, q6, q7, ⟨V', v1, v2, v3, v4, v5⟩, q9⟩, hl, hc, hs⟩ := hq
  refine ⟨L, ⟨q1, q2, q3, q4, q5, q6, q7, ⟨V'.cls, v3, V', v1, rfl, by rw [v4, e, hlen], K4, fun i hi => ?_, fun i hi => ?_⟩, q9⟩, hl, hc, by rw [hs, e]⟩
  · have hi' : i < cs.length := by omega
    rw [v5 i (by omega), hcv i hi']; simp [List.getD_eq_getElem?_getD, hi']
  · have hi' : i < cs.length := by omega
    simp only [List.getD_eq_getElem?_getD, List.getElem?_map, List.getElem?_eq_getElem hi', Option.map_some, Option.getD_some]
    exact fits_lo8 _
end StrChars.Road
namespace StrChars.Road
open Jvm Sem ClassFile Op Lib Jvm.Stand Jvm.Free Jvm.Free.XT
/-- WHAT COMES BACK, in the writer's own shape -/
def QV (Z : State) (x : Addr) (N : Int32) (bs : List Int32) (h : Heap) (n0 : Nat) (v : Option Value) (h' : Heap) (L : List Loc) : Prop := v = none ∧ RoadKit.Fr n0 L ∧ RoadKit.Keep h h' [x] ∧ RoadKit.Exa Z h' x ST ∧ RoadKit.Fld Z h' x ST "coder" "B" (.int 0) ∧
  ∃ (t : Addr) (kb : ClassId), n0 ≤ t ∧ h.size ≤ t ∧ ¬ t = x ∧ RoadKit.Fld Z h' x ST "value" "[B" (.ref t) ∧ RoadKit.Arv Z h' t kb .byte N (bs.map Value.int) (.int 0)
/-- **new String(chars) AT A CALL, FOR THE WRITER**: a char[] of n known ints, each 0 to 255 -/
theorem backV {p : Program} {l : Launch} {e : Env} {R : Room} {s : State} {args : Array Value} {below : List Frame} {len W : Nat} {Z : State} {a0 : Array Value} {h : Heap} (hZ : Z.Warmed39 s.vm) (hw : ∀ d ∈ words, d.before a0 Z = true) {kI : Nat} (wi : (Jvm.Cond.instantiable ST kI).before a0 Z = true)
    {x b : Addr} {kC : ClassId} {cs bs : List Int32} {d v0 c0 : Value} {z N : Int32} {n n0 : Nat} (hx0 : n0 ≤ x) (hh0 : n0 ≤ h.size) (E : RoadKit.Exa Z h x ST) (V : RoadKit.Fld Z h x ST "value" "[B" v0) (C : RoadKit.Fld Z h x ST "coder" "B" c0) (K : RoadKit.Arv Z h b kC .char N (cs.map Value.int) d) (S : RoadKit.Sta Z h ST "COMPACT_STRINGS" "Z" (.int z)) (hz : ¬ z = 0)
    (hn : cs.length = n) (hN : N = Int32.ofNat n) (l0 : 0 < n) (l2 : n ≤ 4000) (hp : ∀ c ∈ cs, ¬ c < 0 ∧ ¬ (255 : Int32) < c) (hb : bs = cs.map (fun c => c.toInt8.toInt32)) (hfr : 4 ≤ R.frames) (hlo : W + 65 ≤ R.locals) :
    Back l R p e below s args (⟨"java/lang/String", "<init>", "([C)V"⟩ : MethodName) len W (fun P a => a = #[.ref x, .ref b] ∧ P.U.heap = h ∧ P.cells + 1 ≤ R.cells ∧ P.slots + n ≤ R.slots)
      (fun P _ v B => ∃ L, QV Z x N bs h n0 v B.U.heap L ∧ B.locs = P.locs ++ L ∧ B.cells = P.cells + 1 ∧ B.slots = P.slots + n) := by
  subst hn hN hb
  refine Back.mono (backArv hZ hw wi E V C K S hz (n32 (by omega)) l0 (by omega) (fun c hc => (hp c hc).2) hfr hlo) (fun P a hp => hp) (fun P a v B hp hq => ?_)
  obtain ⟨L, ⟨q1, q2, q3, q4, q5, q6, q7, ⟨kb, v1, v2⟩, q9⟩, hl, hc, hs⟩ := hq
  exact ⟨L, ⟨q1, fun y hy => by rw [q2 y hy]; exact hx0, q3, q5, q7, h.size, kb, hh0, Nat.le_refl _, Nat.ne_of_gt E.lt, q6, by rw [List.map_map]; exact v2⟩, hl, hc, hs⟩
end StrChars.Road
namespace StrChars
open Jvm Sem ClassFile Op Lib Jvm.Stand Jvm.Free.XT Jvm.Free.ALB Jvm.Free.JM Jvm.Free
open Jvm.Lib.Cold (StaticIs)
def hi8 (x : Int32) : Int32 := lo8 (x >>> ((8 : Int32) &&& 31))
end StrChars
namespace StrChars.Road
open Jvm Sem ClassFile Op Lib Jvm.Stand Jvm.Free Jvm.Free.XT
open Jvm.Lib.Cold (StaticIs)
/-- the bytes of the chars cs, low before high -/
def wideBytes : List Int32 → List Value
  | [] => []
  | c :: cs => .int (lo8 c) :: .int (hi8 c) :: wideBytes cs
/-- an array of N2 bytes vs codes the chars cs by the coder cd -/
def CodA (cs : List Int32) (cd N2 : Int32) (vs : List Value) : Prop := (cd = 0 ∧ N2 = Int32.ofNat cs.length ∧ vs = (cs.map fun c => Value.int (lo8 c)) ∧ ∀ c ∈ cs, ¬ 255 < c) ∨ (cd = 1 ∧ N2 = Int32.ofNat (2 * cs.length) ∧ vs = wideBytes cs ∧ ∃ c ∈ cs, 255 < c)
end StrChars.Road
namespace StrChars.Road
open Jvm Sem ClassFile Op Lib Jvm.Stand Jvm.Free Jvm.Free.XT
open Jvm.Lib.Cold (StaticIs)
/-- what backV says of its String, as the contracts of this text ask it: cs's low bytes, coder 0 -/
theorem codOf {cs : List Int32} {n : Nat} (hn : cs.length = n) (hb : ∀ c ∈ cs, ¬ 255 < c) : CodA cs 0 (Int32.ofNat n) ((cs.map lo8).map Value.int) := Or.inl ⟨rfl, by rw [hn], by simp [List.map_map, Function.comp_def], hb⟩
end StrChars.Road
end Jvm.Pilot.@@N@@

namespace Jvm.Pilot.@@N@@
open Jvm Jvm.ClassFile Sem Op Lib Jvm.Free Jvm.Stand Jvm.LawKit Jvm.RoadKit Jvm.Own Bundle Jvm.Pilot.@@N@@.Jvm.D
theorem own_q0 {Z : State} {a0 : Array Value} (hw : ∀ d ∈ tables_1, d.before a0 Z = true) : (Jvm.Cond.arrayClass Jvm.ClassFile.FieldType.char).before a0 Z = true := hw _ (List.mem_of_getElem? (i := 0) rfl)
theorem own_q1 {Z : State} {a0 : Array Value} (hw : ∀ d ∈ tables_1, d.before a0 Z = true) : (Jvm.Cond.classLink "com/example/farecraft/farecraft/SettledGetPinLaw" (7 : Nat) "java/lang/String").before a0 Z = true := hw _ (List.mem_of_getElem? (i := 1) rfl)
theorem own_q2 {Z : State} {a0 : Array Value} (hw : ∀ d ∈ tables_1, d.before a0 Z = true) : (Jvm.Cond.instantiable "java/lang/String" (4 : Nat)).before a0 Z = true := hw _ (List.mem_of_getElem? (i := 2) rfl)
theorem own_q3 {Z : State} {a0 : Array Value} (hw : ∀ d ∈ tables_1, d.before a0 Z = true) : (Jvm.Cond.initialized "java/lang/String").before a0 Z = true := hw _ (List.mem_of_getElem? (i := 3) rfl)
theorem own_q4 {Z : State} {a0 : Array Value} (hw : ∀ d ∈ tables_1, d.before a0 Z = true) : (Jvm.Cond.methodLink "com/example/farecraft/farecraft/SettledGetPinLaw" (9 : Nat) ({ cls := "java/lang/String", name := "<init>", desc := "([C)V" } : Jvm.MethodName)).before a0 Z = true := hw _ (List.mem_of_getElem? (i := 4) rfl)
theorem own_q5 {Z : State} {a0 : Array Value} (hw : ∀ d ∈ tables_1, d.before a0 Z = true) : (Jvm.Cond.instanceMethod ({ cls := "java/lang/String", name := "<init>", desc := "([C)V" } : Jvm.MethodName)).before a0 Z = true := hw _ (List.mem_of_getElem? (i := 5) rfl)
theorem own_q6 {Z : State} {a0 : Array Value} (hw : ∀ d ∈ tables_1, d.before a0 Z = true) : (Jvm.Cond.code ({ cls := "java/lang/String", name := "<init>", desc := "([C)V" } : Jvm.MethodName) jdk_42_method_3_code (2 : Nat) (Option.none : Option Jvm.ClassFile.FieldType)).before a0 Z = true := hw _ (List.mem_of_getElem? (i := 6) rfl)
theorem own_q11 {Z : State} {a0 : Array Value} (hw : ∀ d ∈ tables_1, d.before a0 Z = true) : (Jvm.Cond.methodLink "java/lang/String" (1 : Nat) ({ cls := "java/lang/Object", name := "<init>", desc := "()V" } : Jvm.MethodName)).before a0 Z = true := hw _ (List.mem_of_getElem? (i := 11) rfl)
theorem own_q12 {Z : State} {a0 : Array Value} (hw : ∀ d ∈ tables_1, d.before a0 Z = true) : (Jvm.Cond.instanceMethod ({ cls := "java/lang/Object", name := "<init>", desc := "()V" } : Jvm.MethodName)).before a0 Z = true := hw _ (List.mem_of_getElem? (i := 12) rfl)
theorem own_q13 {Z : State} {a0 : Array Value} (hw : ∀ d ∈ tables_1, d.before a0 Z = true) : (Jvm.Cond.code ({ cls := "java/lang/Object", name := "<init>", desc := "()V" } : Jvm.MethodName) object_method_1_code (1 : Nat) (Option.none : Option Jvm.ClassFile.FieldType)).before a0 Z = true := hw _ (List.mem_of_getElem? (i := 13) rfl)
theorem own_q14 {Z : State} {a0 : Array Value} (hw : ∀ d ∈ tables_1, d.before a0 Z = true) : (Jvm.Cond.fieldLink "java/lang/String" (38 : Nat) "java/lang/String" "COMPACT_STRINGS" "Z").before a0 Z = true := hw _ (List.mem_of_getElem? (i := 14) rfl)
theorem own_q19 {Z : State} {a0 : Array Value} (hw : ∀ d ∈ tables_1, d.before a0 Z = true) : (Jvm.Cond.arrayClass Jvm.ClassFile.FieldType.byte).before a0 Z = true := hw _ (List.mem_of_getElem? (i := 19) rfl)
theorem own_q26 {Z : State} {a0 : Array Value} (hw : ∀ d ∈ tables_1, d.before a0 Z = true) : (Jvm.Cond.fieldLink "java/lang/String" (15 : Nat) "java/lang/String" "coder" "B").before a0 Z = true := hw _ (List.mem_of_getElem? (i := 26) rfl)
theorem own_q27 {Z : State} {a0 : Array Value} (hw : ∀ d ∈ tables_1, d.before a0 Z = true) : (Jvm.Cond.laysFinal "java/lang/String" "java/lang/String" "coder" "B").before a0 Z = true := hw _ (List.mem_of_getElem? (i := 27) rfl)
theorem own_q28 {Z : State} {a0 : Array Value} (hw : ∀ d ∈ tables_1, d.before a0 Z = true) : (Jvm.Cond.fieldLink "java/lang/String" (9 : Nat) "java/lang/String" "value" "[B").before a0 Z = true := hw _ (List.mem_of_getElem? (i := 28) rfl)
theorem own_q29 {Z : State} {a0 : Array Value} (hw : ∀ d ∈ tables_1, d.before a0 Z = true) : (Jvm.Cond.laysFinal "java/lang/String" "java/lang/String" "value" "[B").before a0 Z = true := hw _ (List.mem_of_getElem? (i := 29) rfl)
theorem own_q30 {Z : State} {a0 : Array Value} (hw : ∀ d ∈ tables_1, d.before a0 Z = true) : (Jvm.Cond.classLink "com/example/farecraft/farecraft/SettledGetPinLaw" (12 : Nat) "com/example/farecraft/farecraft/PassPrice").before a0 Z = true := hw _ (List.mem_of_getElem? (i := 30) rfl)
theorem own_q31 {Z : State} {a0 : Array Value} (hw : ∀ d ∈ tables_1, d.before a0 Z = true) : (Jvm.Cond.instantiable "com/example/farecraft/farecraft/PassPrice" (10 : Nat)).before a0 Z = true := hw _ (List.mem_of_getElem? (i := 31) rfl)
theorem own_q32 {Z : State} {a0 : Array Value} (hw : ∀ d ∈ tables_1, d.before a0 Z = true) : (Jvm.Cond.initialized "com/example/farecraft/farecraft/PassPrice").before a0 Z = true := hw _ (List.mem_of_getElem? (i := 32) rfl)
theorem own_q33 {Z : State} {a0 : Array Value} (hw : ∀ d ∈ tables_1, d.before a0 Z = true) : (Jvm.Cond.methodLink "com/example/farecraft/farecraft/SettledGetPinLaw" (14 : Nat) ({ cls := "java/lang/String", name := "valueOf", desc := "(C)Ljava/lang/String;" } : Jvm.MethodName)).before a0 Z = true := hw _ (List.mem_of_getElem? (i := 33) rfl)
theorem own_q34 {Z : State} {a0 : Array Value} (hw : ∀ d ∈ tables_1, d.before a0 Z = true) : (Jvm.Cond.static ({ cls := "java/lang/String", name := "valueOf", desc := "(C)Ljava/lang/String;" } : Jvm.MethodName)).before a0 Z = true := hw _ (List.mem_of_getElem? (i := 34) rfl)
theorem own_q35 {Z : State} {a0 : Array Value} (hw : ∀ d ∈ tables_1, d.before a0 Z = true) : (Jvm.Cond.code ({ cls := "java/lang/String", name := "valueOf", desc := "(C)Ljava/lang/String;" } : Jvm.MethodName) jdk_42_method_139_code (1 : Nat) (Option.some (Jvm.ClassFile.FieldType.object "java/lang/String"))).before a0 Z = true := hw _ (List.mem_of_getElem? (i := 35) rfl)
theorem own_q36 {Z : State} {a0 : Array Value} (hw : ∀ d ∈ tables_1, d.before a0 Z = true) : (Jvm.Cond.methodLink "java/lang/String" (1015 : Nat) ({ cls := "java/lang/StringLatin1", name := "canEncode", desc := "(C)Z" } : Jvm.MethodName)).before a0 Z = true := hw _ (List.mem_of_getElem? (i := 36) rfl)
theorem own_q37 {Z : State} {a0 : Array Value} (hw : ∀ d ∈ tables_1, d.before a0 Z = true) : (Jvm.Cond.static ({ cls := "java/lang/StringLatin1", name := "canEncode", desc := "(C)Z" } : Jvm.MethodName)).before a0 Z = true := hw _ (List.mem_of_getElem? (i := 37) rfl)
theorem own_q38 {Z : State} {a0 : Array Value} (hw : ∀ d ∈ tables_1, d.before a0 Z = true) : (Jvm.Cond.initialized "java/lang/StringLatin1").before a0 Z = true := hw _ (List.mem_of_getElem? (i := 38) rfl)
theorem own_q39 {Z : State} {a0 : Array Value} (hw : ∀ d ∈ tables_1, d.before a0 Z = true) : (Jvm.Cond.code ({ cls := "java/lang/StringLatin1", name := "canEncode", desc := "(C)Z" } : Jvm.MethodName) jdk_43_method_3_code (1 : Nat) (Option.some Jvm.ClassFile.FieldType.boolean)).before a0 Z = true := hw _ (List.mem_of_getElem? (i := 39) rfl)
theorem own_q40 {Z : State} {a0 : Array Value} (hw : ∀ d ∈ tables_1, d.before a0 Z = true) : (Jvm.Cond.classLink "java/lang/String" (10 : Nat) "java/lang/String").before a0 Z = true := hw _ (List.mem_of_getElem? (i := 40) rfl)
theorem own_q41 {Z : State} {a0 : Array Value} (hw : ∀ d ∈ tables_1, d.before a0 Z = true) : (Jvm.Cond.methodLink "java/lang/String" (1018 : Nat) ({ cls := "java/lang/StringLatin1", name := "toBytes", desc := "(C)[B" } : Jvm.MethodName)).before a0 Z = true := hw _ (List.mem_of_getElem? (i := 41) rfl)
theorem own_q42 {Z : State} {a0 : Array Value} (hw : ∀ d ∈ tables_1, d.before a0 Z = true) : (Jvm.Cond.static ({ cls := "java/lang/StringLatin1", name := "toBytes", desc := "(C)[B" } : Jvm.MethodName)).before a0 Z = true := hw _ (List.mem_of_getElem? (i := 42) rfl)
theorem own_q43 {Z : State} {a0 : Array Value} (hw : ∀ d ∈ tables_1, d.before a0 Z = true) : (Jvm.Cond.code ({ cls := "java/lang/StringLatin1", name := "toBytes", desc := "(C)[B" } : Jvm.MethodName) jdk_43_method_46_code (1 : Nat) (Option.some (Jvm.ClassFile.FieldType.array Jvm.ClassFile.FieldType.byte))).before a0 Z = true := hw _ (List.mem_of_getElem? (i := 43) rfl)
theorem own_q44 {Z : State} {a0 : Array Value} (hw : ∀ d ∈ tables_1, d.before a0 Z = true) : (Jvm.Cond.methodLink "java/lang/String" (209 : Nat) ({ cls := "java/lang/String", name := "<init>", desc := "([BB)V" } : Jvm.MethodName)).before a0 Z = true := hw _ (List.mem_of_getElem? (i := 44) rfl)
theorem own_q45 {Z : State} {a0 : Array Value} (hw : ∀ d ∈ tables_1, d.before a0 Z = true) : (Jvm.Cond.instanceMethod ({ cls := "java/lang/String", name := "<init>", desc := "([BB)V" } : Jvm.MethodName)).before a0 Z = true := hw _ (List.mem_of_getElem? (i := 45) rfl)
theorem own_q46 {Z : State} {a0 : Array Value} (hw : ∀ d ∈ tables_1, d.before a0 Z = true) : (Jvm.Cond.code ({ cls := "java/lang/String", name := "<init>", desc := "([BB)V" } : Jvm.MethodName) jdk_42_method_151_code (3 : Nat) (Option.none : Option Jvm.ClassFile.FieldType)).before a0 Z = true := hw _ (List.mem_of_getElem? (i := 46) rfl)
theorem own_q47 {Z : State} {a0 : Array Value} (hw : ∀ d ∈ tables_1, d.before a0 Z = true) : (Jvm.Cond.methodLink "com/example/farecraft/farecraft/SettledGetPinLaw" (18 : Nat) ({ cls := "com/example/farecraft/farecraft/PassPrice", name := "<init>", desc := "(Ljava/lang/String;Ljava/lang/String;Ljava/lang/String;Ljava/lang/String;Ljava/lang/String;Ljava/lang/String;Ljava/lang/String;Ljava/lang/String;Ljava/math/BigDecimal;Ljava/lang/String;)V" } : Jvm.MethodName)).before a0 Z = true := hw _ (List.mem_of_getElem? (i := 47) rfl)
theorem own_q48 {Z : State} {a0 : Array Value} (hw : ∀ d ∈ tables_1, d.before a0 Z = true) : (Jvm.Cond.instanceMethod ({ cls := "com/example/farecraft/farecraft/PassPrice", name := "<init>", desc := "(Ljava/lang/String;Ljava/lang/String;Ljava/lang/String;Ljava/lang/String;Ljava/lang/String;Ljava/lang/String;Ljava/lang/String;Ljava/lang/String;Ljava/math/BigDecimal;Ljava/lang/String;)V" } : Jvm.MethodName)).before a0 Z = true := hw _ (List.mem_of_getElem? (i := 48) rfl)
theorem own_q49 {Z : State} {a0 : Array Value} (hw : ∀ d ∈ tables_1, d.before a0 Z = true) : (Jvm.Cond.code ({ cls := "com/example/farecraft/farecraft/PassPrice", name := "<init>", desc := "(Ljava/lang/String;Ljava/lang/String;Ljava/lang/String;Ljava/lang/String;Ljava/lang/String;Ljava/lang/String;Ljava/lang/String;Ljava/lang/String;Ljava/math/BigDecimal;Ljava/lang/String;)V" } : Jvm.MethodName) prog_73_method_1_code (11 : Nat) (Option.none : Option Jvm.ClassFile.FieldType)).before a0 Z = true := hw _ (List.mem_of_getElem? (i := 49) rfl)
theorem own_q50 {Z : State} {a0 : Array Value} (hw : ∀ d ∈ tables_1, d.before a0 Z = true) : (Jvm.Cond.methodLink "com/example/farecraft/farecraft/PassPrice" (1 : Nat) ({ cls := "java/lang/Record", name := "<init>", desc := "()V" } : Jvm.MethodName)).before a0 Z = true := hw _ (List.mem_of_getElem? (i := 50) rfl)
theorem own_q51 {Z : State} {a0 : Array Value} (hw : ∀ d ∈ tables_1, d.before a0 Z = true) : (Jvm.Cond.instanceMethod ({ cls := "java/lang/Record", name := "<init>", desc := "()V" } : Jvm.MethodName)).before a0 Z = true := hw _ (List.mem_of_getElem? (i := 51) rfl)
theorem own_q53 {Z : State} {a0 : Array Value} (hw : ∀ d ∈ tables_1, d.before a0 Z = true) : (Jvm.Cond.initialized "java/lang/Record").before a0 Z = true := hw _ (List.mem_of_getElem? (i := 53) rfl)
theorem own_q54 {Z : State} {a0 : Array Value} (hw : ∀ d ∈ tables_1, d.before a0 Z = true) : (Jvm.Cond.code ({ cls := "java/lang/Record", name := "<init>", desc := "()V" } : Jvm.MethodName) jdk_30_method_1_code (1 : Nat) (Option.none : Option Jvm.ClassFile.FieldType)).before a0 Z = true := hw _ (List.mem_of_getElem? (i := 54) rfl)
theorem own_q55 {Z : State} {a0 : Array Value} (hw : ∀ d ∈ tables_1, d.before a0 Z = true) : (Jvm.Cond.methodLink "java/lang/Record" (1 : Nat) ({ cls := "java/lang/Object", name := "<init>", desc := "()V" } : Jvm.MethodName)).before a0 Z = true := hw _ (List.mem_of_getElem? (i := 55) rfl)
theorem own_q56 {Z : State} {a0 : Array Value} (hw : ∀ d ∈ tables_1, d.before a0 Z = true) : (Jvm.Cond.fieldLink "com/example/farecraft/farecraft/PassPrice" (7 : Nat) "com/example/farecraft/farecraft/PassPrice" "farePrice" "Ljava/lang/String;").before a0 Z = true := hw _ (List.mem_of_getElem? (i := 56) rfl)
theorem own_q57 {Z : State} {a0 : Array Value} (hw : ∀ d ∈ tables_1, d.before a0 Z = true) : (Jvm.Cond.laysFinal "com/example/farecraft/farecraft/PassPrice" "com/example/farecraft/farecraft/PassPrice" "farePrice" "Ljava/lang/String;").before a0 Z = true := hw _ (List.mem_of_getElem? (i := 57) rfl)
theorem own_q58 {Z : State} {a0 : Array Value} (hw : ∀ d ∈ tables_1, d.before a0 Z = true) : (Jvm.Cond.fieldLink "com/example/farecraft/farecraft/PassPrice" (13 : Nat) "com/example/farecraft/farecraft/PassPrice" "timeInterval" "Ljava/lang/String;").before a0 Z = true := hw _ (List.mem_of_getElem? (i := 58) rfl)
theorem own_q59 {Z : State} {a0 : Array Value} (hw : ∀ d ∈ tables_1, d.before a0 Z = true) : (Jvm.Cond.laysFinal "com/example/farecraft/farecraft/PassPrice" "com/example/farecraft/farecraft/PassPrice" "timeInterval" "Ljava/lang/String;").before a0 Z = true := hw _ (List.mem_of_getElem? (i := 59) rfl)
theorem own_q60 {Z : State} {a0 : Array Value} (hw : ∀ d ∈ tables_1, d.before a0 Z = true) : (Jvm.Cond.fieldLink "com/example/farecraft/farecraft/PassPrice" (16 : Nat) "com/example/farecraft/farecraft/PassPrice" "duration" "Ljava/lang/String;").before a0 Z = true := hw _ (List.mem_of_getElem? (i := 60) rfl)
theorem own_q61 {Z : State} {a0 : Array Value} (hw : ∀ d ∈ tables_1, d.before a0 Z = true) : (Jvm.Cond.laysFinal "com/example/farecraft/farecraft/PassPrice" "com/example/farecraft/farecraft/PassPrice" "duration" "Ljava/lang/String;").before a0 Z = true := hw _ (List.mem_of_getElem? (i := 61) rfl)
theorem own_q62 {Z : State} {a0 : Array Value} (hw : ∀ d ∈ tables_1, d.before a0 Z = true) : (Jvm.Cond.fieldLink "com/example/farecraft/farecraft/PassPrice" (19 : Nat) "com/example/farecraft/farecraft/PassPrice" "zone" "Ljava/lang/String;").before a0 Z = true := hw _ (List.mem_of_getElem? (i := 62) rfl)
theorem own_q63 {Z : State} {a0 : Array Value} (hw : ∀ d ∈ tables_1, d.before a0 Z = true) : (Jvm.Cond.laysFinal "com/example/farecraft/farecraft/PassPrice" "com/example/farecraft/farecraft/PassPrice" "zone" "Ljava/lang/String;").before a0 Z = true := hw _ (List.mem_of_getElem? (i := 63) rfl)
theorem own_q64 {Z : State} {a0 : Array Value} (hw : ∀ d ∈ tables_1, d.before a0 Z = true) : (Jvm.Cond.fieldLink "com/example/farecraft/farecraft/PassPrice" (22 : Nat) "com/example/farecraft/farecraft/PassPrice" "userProfile" "Ljava/lang/String;").before a0 Z = true := hw _ (List.mem_of_getElem? (i := 64) rfl)
theorem own_q65 {Z : State} {a0 : Array Value} (hw : ∀ d ∈ tables_1, d.before a0 Z = true) : (Jvm.Cond.laysFinal "com/example/farecraft/farecraft/PassPrice" "com/example/farecraft/farecraft/PassPrice" "userProfile" "Ljava/lang/String;").before a0 Z = true := hw _ (List.mem_of_getElem? (i := 65) rfl)
theorem own_q66 {Z : State} {a0 : Array Value} (hw : ∀ d ∈ tables_1, d.before a0 Z = true) : (Jvm.Cond.fieldLink "com/example/farecraft/farecraft/PassPrice" (25 : Nat) "com/example/farecraft/farecraft/PassPrice" "groupTicket" "Ljava/lang/String;").before a0 Z = true := hw _ (List.mem_of_getElem? (i := 66) rfl)
theorem own_q67 {Z : State} {a0 : Array Value} (hw : ∀ d ∈ tables_1, d.before a0 Z = true) : (Jvm.Cond.laysFinal "com/example/farecraft/farecraft/PassPrice" "com/example/farecraft/farecraft/PassPrice" "groupTicket" "Ljava/lang/String;").before a0 Z = true := hw _ (List.mem_of_getElem? (i := 67) rfl)
theorem own_q68 {Z : State} {a0 : Array Value} (hw : ∀ d ∈ tables_1, d.before a0 Z = true) : (Jvm.Cond.fieldLink "com/example/farecraft/farecraft/PassPrice" (28 : Nat) "com/example/farecraft/farecraft/PassPrice" "salesOfferPackage" "Ljava/lang/String;").before a0 Z = true := hw _ (List.mem_of_getElem? (i := 68) rfl)
theorem own_q69 {Z : State} {a0 : Array Value} (hw : ∀ d ∈ tables_1, d.before a0 Z = true) : (Jvm.Cond.laysFinal "com/example/farecraft/farecraft/PassPrice" "com/example/farecraft/farecraft/PassPrice" "salesOfferPackage" "Ljava/lang/String;").before a0 Z = true := hw _ (List.mem_of_getElem? (i := 69) rfl)
theorem own_q70 {Z : State} {a0 : Array Value} (hw : ∀ d ∈ tables_1, d.before a0 Z = true) : (Jvm.Cond.fieldLink "com/example/farecraft/farecraft/PassPrice" (31 : Nat) "com/example/farecraft/farecraft/PassPrice" "fareProduct" "Ljava/lang/String;").before a0 Z = true := hw _ (List.mem_of_getElem? (i := 70) rfl)
theorem own_q71 {Z : State} {a0 : Array Value} (hw : ∀ d ∈ tables_1, d.before a0 Z = true) : (Jvm.Cond.laysFinal "com/example/farecraft/farecraft/PassPrice" "com/example/farecraft/farecraft/PassPrice" "fareProduct" "Ljava/lang/String;").before a0 Z = true := hw _ (List.mem_of_getElem? (i := 71) rfl)
theorem own_q72 {Z : State} {a0 : Array Value} (hw : ∀ d ∈ tables_1, d.before a0 Z = true) : (Jvm.Cond.fieldLink "com/example/farecraft/farecraft/PassPrice" (34 : Nat) "com/example/farecraft/farecraft/PassPrice" "amount" "Ljava/math/BigDecimal;").before a0 Z = true := hw _ (List.mem_of_getElem? (i := 72) rfl)
theorem own_q73 {Z : State} {a0 : Array Value} (hw : ∀ d ∈ tables_1, d.before a0 Z = true) : (Jvm.Cond.laysFinal "com/example/farecraft/farecraft/PassPrice" "com/example/farecraft/farecraft/PassPrice" "amount" "Ljava/math/BigDecimal;").before a0 Z = true := hw _ (List.mem_of_getElem? (i := 73) rfl)
theorem own_q74 {Z : State} {a0 : Array Value} (hw : ∀ d ∈ tables_1, d.before a0 Z = true) : (Jvm.Cond.fieldLink "com/example/farecraft/farecraft/PassPrice" (38 : Nat) "com/example/farecraft/farecraft/PassPrice" "currency" "Ljava/lang/String;").before a0 Z = true := hw _ (List.mem_of_getElem? (i := 74) rfl)
theorem own_q75 {Z : State} {a0 : Array Value} (hw : ∀ d ∈ tables_1, d.before a0 Z = true) : (Jvm.Cond.laysFinal "com/example/farecraft/farecraft/PassPrice" "com/example/farecraft/farecraft/PassPrice" "currency" "Ljava/lang/String;").before a0 Z = true := hw _ (List.mem_of_getElem? (i := 75) rfl)
theorem own_q76 {Z : State} {a0 : Array Value} (hw : ∀ d ∈ tables_1, d.before a0 Z = true) : (Jvm.Cond.classLink "com/example/farecraft/farecraft/SettledGetPinLaw" (21 : Nat) "java/util/ArrayList").before a0 Z = true := hw _ (List.mem_of_getElem? (i := 76) rfl)
theorem own_q77 {Z : State} {a0 : Array Value} (hw : ∀ d ∈ tables_1, d.before a0 Z = true) : (Jvm.Cond.instantiable "java/util/ArrayList" (3 : Nat)).before a0 Z = true := hw _ (List.mem_of_getElem? (i := 77) rfl)
theorem own_q78 {Z : State} {a0 : Array Value} (hw : ∀ d ∈ tables_1, d.before a0 Z = true) : (Jvm.Cond.initialized "java/util/ArrayList").before a0 Z = true := hw _ (List.mem_of_getElem? (i := 78) rfl)
theorem own_q79 {Z : State} {a0 : Array Value} (hw : ∀ d ∈ tables_1, d.before a0 Z = true) : (Jvm.Cond.methodLink "com/example/farecraft/farecraft/SettledGetPinLaw" (23 : Nat) ({ cls := "java/util/ArrayList", name := "<init>", desc := "()V" } : Jvm.MethodName)).before a0 Z = true := hw _ (List.mem_of_getElem? (i := 79) rfl)
theorem own_q80 {Z : State} {a0 : Array Value} (hw : ∀ d ∈ tables_1, d.before a0 Z = true) : (Jvm.Cond.instanceMethod ({ cls := "java/util/ArrayList", name := "<init>", desc := "()V" } : Jvm.MethodName)).before a0 Z = true := hw _ (List.mem_of_getElem? (i := 80) rfl)
theorem own_q81 {Z : State} {a0 : Array Value} (hw : ∀ d ∈ tables_1, d.before a0 Z = true) : (Jvm.Cond.code ({ cls := "java/util/ArrayList", name := "<init>", desc := "()V" } : Jvm.MethodName) jdk_38_method_2_code (1 : Nat) (Option.none : Option Jvm.ClassFile.FieldType)).before a0 Z = true := hw _ (List.mem_of_getElem? (i := 81) rfl)
theorem own_q82 {Z : State} {a0 : Array Value} (hw : ∀ d ∈ tables_1, d.before a0 Z = true) : (Jvm.Cond.methodLink "java/util/ArrayList" (1 : Nat) ({ cls := "java/util/AbstractList", name := "<init>", desc := "()V" } : Jvm.MethodName)).before a0 Z = true := hw _ (List.mem_of_getElem? (i := 82) rfl)
theorem own_q83 {Z : State} {a0 : Array Value} (hw : ∀ d ∈ tables_1, d.before a0 Z = true) : (Jvm.Cond.instanceMethod ({ cls := "java/util/AbstractList", name := "<init>", desc := "()V" } : Jvm.MethodName)).before a0 Z = true := hw _ (List.mem_of_getElem? (i := 83) rfl)
theorem own_q86 {Z : State} {a0 : Array Value} (hw : ∀ d ∈ tables_1, d.before a0 Z = true) : (Jvm.Cond.initialized "java/util/AbstractList").before a0 Z = true := hw _ (List.mem_of_getElem? (i := 86) rfl)
theorem own_q87 {Z : State} {a0 : Array Value} (hw : ∀ d ∈ tables_1, d.before a0 Z = true) : (Jvm.Cond.code ({ cls := "java/util/AbstractList", name := "<init>", desc := "()V" } : Jvm.MethodName) jdk_39_method_1_code (1 : Nat) (Option.none : Option Jvm.ClassFile.FieldType)).before a0 Z = true := hw _ (List.mem_of_getElem? (i := 87) rfl)
theorem own_q88 {Z : State} {a0 : Array Value} (hw : ∀ d ∈ tables_1, d.before a0 Z = true) : (Jvm.Cond.methodLink "java/util/AbstractList" (1 : Nat) ({ cls := "java/util/AbstractCollection", name := "<init>", desc := "()V" } : Jvm.MethodName)).before a0 Z = true := hw _ (List.mem_of_getElem? (i := 88) rfl)
theorem own_q89 {Z : State} {a0 : Array Value} (hw : ∀ d ∈ tables_1, d.before a0 Z = true) : (Jvm.Cond.instanceMethod ({ cls := "java/util/AbstractCollection", name := "<init>", desc := "()V" } : Jvm.MethodName)).before a0 Z = true := hw _ (List.mem_of_getElem? (i := 89) rfl)
theorem own_q92 {Z : State} {a0 : Array Value} (hw : ∀ d ∈ tables_1, d.before a0 Z = true) : (Jvm.Cond.initialized "java/util/AbstractCollection").before a0 Z = true := hw _ (List.mem_of_getElem? (i := 92) rfl)
theorem own_q93 {Z : State} {a0 : Array Value} (hw : ∀ d ∈ tables_1, d.before a0 Z = true) : (Jvm.Cond.code ({ cls := "java/util/AbstractCollection", name := "<init>", desc := "()V" } : Jvm.MethodName) jdk_22_method_1_code (1 : Nat) (Option.none : Option Jvm.ClassFile.FieldType)).before a0 Z = true := hw _ (List.mem_of_getElem? (i := 93) rfl)
theorem own_q94 {Z : State} {a0 : Array Value} (hw : ∀ d ∈ tables_1, d.before a0 Z = true) : (Jvm.Cond.methodLink "java/util/AbstractCollection" (1 : Nat) ({ cls := "java/lang/Object", name := "<init>", desc := "()V" } : Jvm.MethodName)).before a0 Z = true := hw _ (List.mem_of_getElem? (i := 94) rfl)
theorem own_q95 {Z : State} {a0 : Array Value} (hw : ∀ d ∈ tables_1, d.before a0 Z = true) : (Jvm.Cond.fieldLink "java/util/AbstractList" (7 : Nat) "java/util/AbstractList" "modCount" "I").before a0 Z = true := hw _ (List.mem_of_getElem? (i := 95) rfl)
theorem own_q96 {Z : State} {a0 : Array Value} (hw : ∀ d ∈ tables_1, d.before a0 Z = true) : (Jvm.Cond.lays "java/util/ArrayList" "java/util/AbstractList" "modCount" "I").before a0 Z = true := hw _ (List.mem_of_getElem? (i := 96) rfl)
theorem own_q97 {Z : State} {a0 : Array Value} (hw : ∀ d ∈ tables_1, d.before a0 Z = true) : (Jvm.Cond.fieldLink "java/util/ArrayList" (39 : Nat) "java/util/ArrayList" "DEFAULTCAPACITY_EMPTY_ELEMENTDATA" "[Ljava/lang/Object;").before a0 Z = true := hw _ (List.mem_of_getElem? (i := 97) rfl)
theorem own_q98 {Z : State} {a0 : Array Value} (hw : ∀ d ∈ tables_1, d.before a0 Z = true) : (Jvm.Cond.fieldLink "java/util/ArrayList" (9 : Nat) "java/util/ArrayList" "elementData" "[Ljava/lang/Object;").before a0 Z = true := hw _ (List.mem_of_getElem? (i := 98) rfl)
theorem own_q99 {Z : State} {a0 : Array Value} (hw : ∀ d ∈ tables_1, d.before a0 Z = true) : (Jvm.Cond.lays "java/util/ArrayList" "java/util/ArrayList" "elementData" "[Ljava/lang/Object;").before a0 Z = true := hw _ (List.mem_of_getElem? (i := 99) rfl)
theorem own_q100 {Z : State} {a0 : Array Value} (hw : ∀ d ∈ tables_1, d.before a0 Z = true) : (Jvm.Cond.classLink "com/example/farecraft/farecraft/SettledGetPinLaw" (28 : Nat) "com/example/farecraft/farecraft/PassPrices$Settled").before a0 Z = true := hw _ (List.mem_of_getElem? (i := 100) rfl)
theorem own_q101 {Z : State} {a0 : Array Value} (hw : ∀ d ∈ tables_1, d.before a0 Z = true) : (Jvm.Cond.instantiable "com/example/farecraft/farecraft/PassPrices$Settled" (2 : Nat)).before a0 Z = true := hw _ (List.mem_of_getElem? (i := 101) rfl)
theorem own_q102 {Z : State} {a0 : Array Value} (hw : ∀ d ∈ tables_1, d.before a0 Z = true) : (Jvm.Cond.initialized "com/example/farecraft/farecraft/PassPrices$Settled").before a0 Z = true := hw _ (List.mem_of_getElem? (i := 102) rfl)
theorem own_q103 {Z : State} {a0 : Array Value} (hw : ∀ d ∈ tables_1, d.before a0 Z = true) : (Jvm.Cond.methodLink "com/example/farecraft/farecraft/SettledGetPinLaw" (30 : Nat) ({ cls := "com/example/farecraft/farecraft/PassPrices$Settled", name := "<init>", desc := "(Ljava/util/List;Lcom/example/farecraft/farecraft/FareFileException;)V" } : Jvm.MethodName)).before a0 Z = true := hw _ (List.mem_of_getElem? (i := 103) rfl)
theorem own_q104 {Z : State} {a0 : Array Value} (hw : ∀ d ∈ tables_1, d.before a0 Z = true) : (Jvm.Cond.instanceMethod ({ cls := "com/example/farecraft/farecraft/PassPrices$Settled", name := "<init>", desc := "(Ljava/util/List;Lcom/example/farecraft/farecraft/FareFileException;)V" } : Jvm.MethodName)).before a0 Z = true := hw _ (List.mem_of_getElem? (i := 104) rfl)
theorem own_q105 {Z : State} {a0 : Array Value} (hw : ∀ d ∈ tables_1, d.before a0 Z = true) : (Jvm.Cond.code ({ cls := "com/example/farecraft/farecraft/PassPrices$Settled", name := "<init>", desc := "(Ljava/util/List;Lcom/example/farecraft/farecraft/FareFileException;)V" } : Jvm.MethodName) prog_77_method_1_code (3 : Nat) (Option.none : Option Jvm.ClassFile.FieldType)).before a0 Z = true := hw _ (List.mem_of_getElem? (i := 105) rfl)
theorem own_q106 {Z : State} {a0 : Array Value} (hw : ∀ d ∈ tables_1, d.before a0 Z = true) : (Jvm.Cond.methodLink "com/example/farecraft/farecraft/PassPrices$Settled" (1 : Nat) ({ cls := "java/lang/Record", name := "<init>", desc := "()V" } : Jvm.MethodName)).before a0 Z = true := hw _ (List.mem_of_getElem? (i := 106) rfl)
theorem own_q107 {Z : State} {a0 : Array Value} (hw : ∀ d ∈ tables_1, d.before a0 Z = true) : (Jvm.Cond.fieldLink "com/example/farecraft/farecraft/PassPrices$Settled" (7 : Nat) "com/example/farecraft/farecraft/PassPrices$Settled" "prices" "Ljava/util/List;").before a0 Z = true := hw _ (List.mem_of_getElem? (i := 107) rfl)
theorem own_q108 {Z : State} {a0 : Array Value} (hw : ∀ d ∈ tables_1, d.before a0 Z = true) : (Jvm.Cond.laysFinal "com/example/farecraft/farecraft/PassPrices$Settled" "com/example/farecraft/farecraft/PassPrices$Settled" "prices" "Ljava/util/List;").before a0 Z = true := hw _ (List.mem_of_getElem? (i := 108) rfl)
theorem own_q109 {Z : State} {a0 : Array Value} (hw : ∀ d ∈ tables_1, d.before a0 Z = true) : (Jvm.Cond.fieldLink "com/example/farecraft/farecraft/PassPrices$Settled" (13 : Nat) "com/example/farecraft/farecraft/PassPrices$Settled" "refusal" "Lcom/example/farecraft/farecraft/FareFileException;").before a0 Z = true := hw _ (List.mem_of_getElem? (i := 109) rfl)
theorem own_q110 {Z : State} {a0 : Array Value} (hw : ∀ d ∈ tables_1, d.before a0 Z = true) : (Jvm.Cond.laysFinal "com/example/farecraft/farecraft/PassPrices$Settled" "com/example/farecraft/farecraft/PassPrices$Settled" "refusal" "Lcom/example/farecraft/farecraft/FareFileException;").before a0 Z = true := hw _ (List.mem_of_getElem? (i := 110) rfl)
theorem own_q111 {Z : State} {a0 : Array Value} (hw : ∀ d ∈ tables_1, d.before a0 Z = true) : (Jvm.Cond.methodLink "com/example/farecraft/farecraft/SettledGetPinLaw" (33 : Nat) ({ cls := "com/example/farecraft/farecraft/PassPrices$Settled", name := "get", desc := "()Ljava/util/List;" } : Jvm.MethodName)).before a0 Z = true := hw _ (List.mem_of_getElem? (i := 111) rfl)
theorem own_q112 {Z : State} {a0 : Array Value} (hw : ∀ d ∈ tables_1, d.before a0 Z = true) : (Jvm.Cond.declares ({ cls := "com/example/farecraft/farecraft/PassPrices$Settled", name := "get", desc := "()Ljava/util/List;" } : Jvm.MethodName)).before a0 Z = true := hw _ (List.mem_of_getElem? (i := 112) rfl)
theorem own_q113 {Z : State} {a0 : Array Value} (hw : ∀ d ∈ tables_1, d.before a0 Z = true) : (Jvm.Cond.instanceMethod ({ cls := "com/example/farecraft/farecraft/PassPrices$Settled", name := "get", desc := "()Ljava/util/List;" } : Jvm.MethodName)).before a0 Z = true := hw _ (List.mem_of_getElem? (i := 113) rfl)
theorem own_q114 {Z : State} {a0 : Array Value} (hw : ∀ d ∈ tables_1, d.before a0 Z = true) : (Jvm.Cond.selects "com/example/farecraft/farecraft/PassPrices$Settled" ({ cls := "com/example/farecraft/farecraft/PassPrices$Settled", name := "get", desc := "()Ljava/util/List;" } : Jvm.MethodName) ({ cls := "com/example/farecraft/farecraft/PassPrices$Settled", name := "get", desc := "()Ljava/util/List;" } : Jvm.MethodName)).before a0 Z = true := hw _ (List.mem_of_getElem? (i := 114) rfl)
theorem own_q115 {Z : State} {a0 : Array Value} (hw : ∀ d ∈ tables_1, d.before a0 Z = true) : (Jvm.Cond.code ({ cls := "com/example/farecraft/farecraft/PassPrices$Settled", name := "get", desc := "()Ljava/util/List;" } : Jvm.MethodName) prog_77_method_2_code (1 : Nat) (Option.some (Jvm.ClassFile.FieldType.object "java/util/List"))).before a0 Z = true := hw _ (List.mem_of_getElem? (i := 115) rfl)
theorem own_q116 {Z : State} {a0 : Array Value} (hw : ∀ d ∈ tables_1, d.before a0 Z = true) : (Jvm.Cond.methodLink "com/example/farecraft/farecraft/SettledGetPinLaw" (37 : Nat) ({ cls := "java/util/List", name := "size", desc := "()I" } : Jvm.MethodName)).before a0 Z = true := hw _ (List.mem_of_getElem? (i := 116) rfl)
theorem own_q117 {Z : State} {a0 : Array Value} (hw : ∀ d ∈ tables_1, d.before a0 Z = true) : (Jvm.Cond.declares ({ cls := "java/util/List", name := "size", desc := "()I" } : Jvm.MethodName)).before a0 Z = true := hw _ (List.mem_of_getElem? (i := 117) rfl)
theorem own_q118 {Z : State} {a0 : Array Value} (hw : ∀ d ∈ tables_1, d.before a0 Z = true) : (Jvm.Cond.interfaceMethod "java/util/List" "java/util/List" "size" "()I").before a0 Z = true := hw _ (List.mem_of_getElem? (i := 118) rfl)
theorem own_q119 {Z : State} {a0 : Array Value} (hw : ∀ d ∈ tables_1, d.before a0 Z = true) : (Jvm.Cond.selects "java/util/ArrayList" ({ cls := "java/util/List", name := "size", desc := "()I" } : Jvm.MethodName) ({ cls := "java/util/ArrayList", name := "size", desc := "()I" } : Jvm.MethodName)).before a0 Z = true := hw _ (List.mem_of_getElem? (i := 119) rfl)
theorem own_q120 {Z : State} {a0 : Array Value} (hw : ∀ d ∈ tables_1, d.before a0 Z = true) : (Jvm.Cond.instanceMethod ({ cls := "java/util/ArrayList", name := "size", desc := "()I" } : Jvm.MethodName)).before a0 Z = true := hw _ (List.mem_of_getElem? (i := 120) rfl)
theorem own_q121 {Z : State} {a0 : Array Value} (hw : ∀ d ∈ tables_1, d.before a0 Z = true) : (Jvm.Cond.publicMethod ({ cls := "java/util/ArrayList", name := "size", desc := "()I" } : Jvm.MethodName)).before a0 Z = true := hw _ (List.mem_of_getElem? (i := 121) rfl)
theorem own_q122 {Z : State} {a0 : Array Value} (hw : ∀ d ∈ tables_1, d.before a0 Z = true) : (Jvm.Cond.unhidden "java/util/ArrayList" "size" "()I").before a0 Z = true := hw _ (List.mem_of_getElem? (i := 122) rfl)
theorem own_q123 {Z : State} {a0 : Array Value} (hw : ∀ d ∈ tables_1, d.before a0 Z = true) : (Jvm.Cond.castable "java/util/ArrayList" "java/util/List").before a0 Z = true := hw _ (List.mem_of_getElem? (i := 123) rfl)
theorem own_q124 {Z : State} {a0 : Array Value} (hw : ∀ d ∈ tables_1, d.before a0 Z = true) : (Jvm.Cond.code ({ cls := "java/util/ArrayList", name := "size", desc := "()I" } : Jvm.MethodName) jdk_38_method_8_code (1 : Nat) (Option.some Jvm.ClassFile.FieldType.int)).before a0 Z = true := hw _ (List.mem_of_getElem? (i := 124) rfl)
theorem own_q125 {Z : State} {a0 : Array Value} (hw : ∀ d ∈ tables_1, d.before a0 Z = true) : (Jvm.Cond.fieldLink "java/util/ArrayList" (48 : Nat) "java/util/ArrayList" "size" "I").before a0 Z = true := hw _ (List.mem_of_getElem? (i := 125) rfl)
theorem own_q126 {Z : State} {a0 : Array Value} (hw : ∀ d ∈ tables_1, d.before a0 Z = true) : (Jvm.Cond.lays "java/util/ArrayList" "java/util/ArrayList" "size" "I").before a0 Z = true := hw _ (List.mem_of_getElem? (i := 126) rfl)
theorem own_q127 {Z : State} {a0 : Array Value} (hw : ∀ d ∈ tables_1, d.before a0 Z = true) : (Jvm.Cond.methodLink "com/example/farecraft/farecraft/SettledGetPinLaw" (24 : Nat) ({ cls := "java/util/ArrayList", name := "add", desc := "(Ljava/lang/Object;)Z" } : Jvm.MethodName)).before a0 Z = true := hw _ (List.mem_of_getElem? (i := 127) rfl)
theorem own_q128 {Z : State} {a0 : Array Value} (hw : ∀ d ∈ tables_1, d.before a0 Z = true) : (Jvm.Cond.declares ({ cls := "java/util/ArrayList", name := "add", desc := "(Ljava/lang/Object;)Z" } : Jvm.MethodName)).before a0 Z = true := hw _ (List.mem_of_getElem? (i := 128) rfl)
theorem own_q129 {Z : State} {a0 : Array Value} (hw : ∀ d ∈ tables_1, d.before a0 Z = true) : (Jvm.Cond.instanceMethod ({ cls := "java/util/ArrayList", name := "add", desc := "(Ljava/lang/Object;)Z" } : Jvm.MethodName)).before a0 Z = true := hw _ (List.mem_of_getElem? (i := 129) rfl)
theorem own_q130 {Z : State} {a0 : Array Value} (hw : ∀ d ∈ tables_1, d.before a0 Z = true) : (Jvm.Cond.selects "java/util/ArrayList" ({ cls := "java/util/ArrayList", name := "add", desc := "(Ljava/lang/Object;)Z" } : Jvm.MethodName) ({ cls := "java/util/ArrayList", name := "add", desc := "(Ljava/lang/Object;)Z" } : Jvm.MethodName)).before a0 Z = true := hw _ (List.mem_of_getElem? (i := 130) rfl)
theorem own_q131 {Z : State} {a0 : Array Value} (hw : ∀ d ∈ tables_1, d.before a0 Z = true) : (Jvm.Cond.code ({ cls := "java/util/ArrayList", name := "add", desc := "(Ljava/lang/Object;)Z" } : Jvm.MethodName) jdk_38_method_25_code (2 : Nat) (Option.some Jvm.ClassFile.FieldType.boolean)).before a0 Z = true := hw _ (List.mem_of_getElem? (i := 131) rfl)
theorem own_q132 {Z : State} {a0 : Array Value} (hw : ∀ d ∈ tables_1, d.before a0 Z = true) : (Jvm.Cond.fieldLink "java/util/ArrayList" (63 : Nat) "java/util/ArrayList" "modCount" "I").before a0 Z = true := hw _ (List.mem_of_getElem? (i := 132) rfl)
theorem own_q133 {Z : State} {a0 : Array Value} (hw : ∀ d ∈ tables_1, d.before a0 Z = true) : (Jvm.Cond.sameField "java/util/ArrayList" "java/util/AbstractList" "modCount" "I").before a0 Z = true := hw _ (List.mem_of_getElem? (i := 133) rfl)
theorem own_q134 {Z : State} {a0 : Array Value} (hw : ∀ d ∈ tables_1, d.before a0 Z = true) : (Jvm.Cond.methodLink "java/util/ArrayList" (131 : Nat) ({ cls := "java/util/ArrayList", name := "add", desc := "(Ljava/lang/Object;[Ljava/lang/Object;I)V" } : Jvm.MethodName)).before a0 Z = true := hw _ (List.mem_of_getElem? (i := 134) rfl)
theorem own_q135 {Z : State} {a0 : Array Value} (hw : ∀ d ∈ tables_1, d.before a0 Z = true) : (Jvm.Cond.instanceMethod ({ cls := "java/util/ArrayList", name := "add", desc := "(Ljava/lang/Object;[Ljava/lang/Object;I)V" } : Jvm.MethodName)).before a0 Z = true := hw _ (List.mem_of_getElem? (i := 135) rfl)
theorem own_q136 {Z : State} {a0 : Array Value} (hw : ∀ d ∈ tables_1, d.before a0 Z = true) : (Jvm.Cond.privateMethod ({ cls := "java/util/ArrayList", name := "add", desc := "(Ljava/lang/Object;[Ljava/lang/Object;I)V" } : Jvm.MethodName)).before a0 Z = true := hw _ (List.mem_of_getElem? (i := 136) rfl)
theorem own_q137 {Z : State} {a0 : Array Value} (hw : ∀ d ∈ tables_1, d.before a0 Z = true) : (Jvm.Cond.selects "java/util/ArrayList" ({ cls := "java/util/ArrayList", name := "add", desc := "(Ljava/lang/Object;[Ljava/lang/Object;I)V" } : Jvm.MethodName) ({ cls := "java/util/ArrayList", name := "add", desc := "(Ljava/lang/Object;[Ljava/lang/Object;I)V" } : Jvm.MethodName)).before a0 Z = true := hw _ (List.mem_of_getElem? (i := 137) rfl)
theorem own_q138 {Z : State} {a0 : Array Value} (hw : ∀ d ∈ tables_1, d.before a0 Z = true) : (Jvm.Cond.code ({ cls := "java/util/ArrayList", name := "add", desc := "(Ljava/lang/Object;[Ljava/lang/Object;I)V" } : Jvm.MethodName) jdk_38_method_24_code (4 : Nat) (Option.none : Option Jvm.ClassFile.FieldType)).before a0 Z = true := hw _ (List.mem_of_getElem? (i := 138) rfl)
theorem own_q139 {Z : State} {a0 : Array Value} (hw : ∀ d ∈ tables_1, d.before a0 Z = true) : (Jvm.Cond.methodLink "java/util/ArrayList" (129 : Nat) ({ cls := "java/util/ArrayList", name := "grow", desc := "()[Ljava/lang/Object;" } : Jvm.MethodName)).before a0 Z = true := hw _ (List.mem_of_getElem? (i := 139) rfl)
theorem own_q140 {Z : State} {a0 : Array Value} (hw : ∀ d ∈ tables_1, d.before a0 Z = true) : (Jvm.Cond.instanceMethod ({ cls := "java/util/ArrayList", name := "grow", desc := "()[Ljava/lang/Object;" } : Jvm.MethodName)).before a0 Z = true := hw _ (List.mem_of_getElem? (i := 140) rfl)
theorem own_q141 {Z : State} {a0 : Array Value} (hw : ∀ d ∈ tables_1, d.before a0 Z = true) : (Jvm.Cond.privateMethod ({ cls := "java/util/ArrayList", name := "grow", desc := "()[Ljava/lang/Object;" } : Jvm.MethodName)).before a0 Z = true := hw _ (List.mem_of_getElem? (i := 141) rfl)
theorem own_q142 {Z : State} {a0 : Array Value} (hw : ∀ d ∈ tables_1, d.before a0 Z = true) : (Jvm.Cond.selects "java/util/ArrayList" ({ cls := "java/util/ArrayList", name := "grow", desc := "()[Ljava/lang/Object;" } : Jvm.MethodName) ({ cls := "java/util/ArrayList", name := "grow", desc := "()[Ljava/lang/Object;" } : Jvm.MethodName)).before a0 Z = true := hw _ (List.mem_of_getElem? (i := 142) rfl)
theorem own_q143 {Z : State} {a0 : Array Value} (hw : ∀ d ∈ tables_1, d.before a0 Z = true) : (Jvm.Cond.code ({ cls := "java/util/ArrayList", name := "grow", desc := "()[Ljava/lang/Object;" } : Jvm.MethodName) jdk_38_method_7_code (1 : Nat) (Option.some (Jvm.ClassFile.FieldType.array (Jvm.ClassFile.FieldType.object "java/lang/Object")))).before a0 Z = true := hw _ (List.mem_of_getElem? (i := 143) rfl)
theorem own_q144 {Z : State} {a0 : Array Value} (hw : ∀ d ∈ tables_1, d.before a0 Z = true) : (Jvm.Cond.methodLink "java/util/ArrayList" (69 : Nat) ({ cls := "java/util/ArrayList", name := "grow", desc := "(I)[Ljava/lang/Object;" } : Jvm.MethodName)).before a0 Z = true := hw _ (List.mem_of_getElem? (i := 144) rfl)
theorem own_q145 {Z : State} {a0 : Array Value} (hw : ∀ d ∈ tables_1, d.before a0 Z = true) : (Jvm.Cond.instanceMethod ({ cls := "java/util/ArrayList", name := "grow", desc := "(I)[Ljava/lang/Object;" } : Jvm.MethodName)).before a0 Z = true := hw _ (List.mem_of_getElem? (i := 145) rfl)
theorem own_q146 {Z : State} {a0 : Array Value} (hw : ∀ d ∈ tables_1, d.before a0 Z = true) : (Jvm.Cond.privateMethod ({ cls := "java/util/ArrayList", name := "grow", desc := "(I)[Ljava/lang/Object;" } : Jvm.MethodName)).before a0 Z = true := hw _ (List.mem_of_getElem? (i := 146) rfl)
theorem own_q147 {Z : State} {a0 : Array Value} (hw : ∀ d ∈ tables_1, d.before a0 Z = true) : (Jvm.Cond.selects "java/util/ArrayList" ({ cls := "java/util/ArrayList", name := "grow", desc := "(I)[Ljava/lang/Object;" } : Jvm.MethodName) ({ cls := "java/util/ArrayList", name := "grow", desc := "(I)[Ljava/lang/Object;" } : Jvm.MethodName)).before a0 Z = true := hw _ (List.mem_of_getElem? (i := 147) rfl)
theorem own_q148 {Z : State} {a0 : Array Value} (hw : ∀ d ∈ tables_1, d.before a0 Z = true) : (Jvm.Cond.code ({ cls := "java/util/ArrayList", name := "grow", desc := "(I)[Ljava/lang/Object;" } : Jvm.MethodName) jdk_38_method_6_code (4 : Nat) (Option.some (Jvm.ClassFile.FieldType.array (Jvm.ClassFile.FieldType.object "java/lang/Object")))).before a0 Z = true := hw _ (List.mem_of_getElem? (i := 148) rfl)
theorem own_q149 {Z : State} {a0 : Array Value} (hw : ∀ d ∈ tables_1, d.before a0 Z = true) : (Jvm.Cond.methodLink "java/util/ArrayList" (79 : Nat) ({ cls := "java/lang/Math", name := "max", desc := "(II)I" } : Jvm.MethodName)).before a0 Z = true := hw _ (List.mem_of_getElem? (i := 149) rfl)
theorem own_q150 {Z : State} {a0 : Array Value} (hw : ∀ d ∈ tables_1, d.before a0 Z = true) : (Jvm.Cond.static ({ cls := "java/lang/Math", name := "max", desc := "(II)I" } : Jvm.MethodName)).before a0 Z = true := hw _ (List.mem_of_getElem? (i := 150) rfl)
theorem own_q151 {Z : State} {a0 : Array Value} (hw : ∀ d ∈ tables_1, d.before a0 Z = true) : (Jvm.Cond.initialized "java/lang/Math").before a0 Z = true := hw _ (List.mem_of_getElem? (i := 151) rfl)
theorem own_q152 {Z : State} {a0 : Array Value} (hw : ∀ d ∈ tables_1, d.before a0 Z = true) : (Jvm.Cond.code ({ cls := "java/lang/Math", name := "max", desc := "(II)I" } : Jvm.MethodName) jdk_29_method_65_code (2 : Nat) (Option.some Jvm.ClassFile.FieldType.int)).before a0 Z = true := hw _ (List.mem_of_getElem? (i := 152) rfl)
theorem own_q153 {Z : State} {a0 : Array Value} (hw : ∀ d ∈ tables_1, d.before a0 Z = true) : (Jvm.Cond.classLink "java/util/ArrayList" (7 : Nat) "java/lang/Object").before a0 Z = true := hw _ (List.mem_of_getElem? (i := 153) rfl)
theorem own_q154 {Z : State} {a0 : Array Value} (hw : ∀ d ∈ tables_1, d.before a0 Z = true) : (Jvm.Cond.arrayOver (Jvm.ClassFile.FieldType.object "java/lang/Object")).before a0 Z = true := hw _ (List.mem_of_getElem? (i := 154) rfl)
theorem own_q155 {Z : State} {a0 : Array Value} (hw : ∀ d ∈ tables_1, d.before a0 Z = true) : (Jvm.Cond.castable "com/example/farecraft/farecraft/PassPrice" "java/lang/Object").before a0 Z = true := hw _ (List.mem_of_getElem? (i := 155) rfl)
theorem own_q156 {Z : State} {a0 : Array Value} (hw : ∀ d ∈ tables_1, d.before a0 Z = true) : (Jvm.Cond.methodLink "com/example/farecraft/farecraft/SettledGetPinLaw" (43 : Nat) ({ cls := "java/util/List", name := "get", desc := "(I)Ljava/lang/Object;" } : Jvm.MethodName)).before a0 Z = true := hw _ (List.mem_of_getElem? (i := 156) rfl)
theorem own_q157 {Z : State} {a0 : Array Value} (hw : ∀ d ∈ tables_1, d.before a0 Z = true) : (Jvm.Cond.declares ({ cls := "java/util/List", name := "get", desc := "(I)Ljava/lang/Object;" } : Jvm.MethodName)).before a0 Z = true := hw _ (List.mem_of_getElem? (i := 157) rfl)
theorem own_q158 {Z : State} {a0 : Array Value} (hw : ∀ d ∈ tables_1, d.before a0 Z = true) : (Jvm.Cond.interfaceMethod "java/util/List" "java/util/List" "get" "(I)Ljava/lang/Object;").before a0 Z = true := hw _ (List.mem_of_getElem? (i := 158) rfl)
theorem own_q159 {Z : State} {a0 : Array Value} (hw : ∀ d ∈ tables_1, d.before a0 Z = true) : (Jvm.Cond.selects "java/util/ArrayList" ({ cls := "java/util/List", name := "get", desc := "(I)Ljava/lang/Object;" } : Jvm.MethodName) ({ cls := "java/util/ArrayList", name := "get", desc := "(I)Ljava/lang/Object;" } : Jvm.MethodName)).before a0 Z = true := hw _ (List.mem_of_getElem? (i := 159) rfl)
theorem own_q160 {Z : State} {a0 : Array Value} (hw : ∀ d ∈ tables_1, d.before a0 Z = true) : (Jvm.Cond.instanceMethod ({ cls := "java/util/ArrayList", name := "get", desc := "(I)Ljava/lang/Object;" } : Jvm.MethodName)).before a0 Z = true := hw _ (List.mem_of_getElem? (i := 160) rfl)
theorem own_q161 {Z : State} {a0 : Array Value} (hw : ∀ d ∈ tables_1, d.before a0 Z = true) : (Jvm.Cond.publicMethod ({ cls := "java/util/ArrayList", name := "get", desc := "(I)Ljava/lang/Object;" } : Jvm.MethodName)).before a0 Z = true := hw _ (List.mem_of_getElem? (i := 161) rfl)
theorem own_q162 {Z : State} {a0 : Array Value} (hw : ∀ d ∈ tables_1, d.before a0 Z = true) : (Jvm.Cond.unhidden "java/util/ArrayList" "get" "(I)Ljava/lang/Object;").before a0 Z = true := hw _ (List.mem_of_getElem? (i := 162) rfl)
theorem own_q163 {Z : State} {a0 : Array Value} (hw : ∀ d ∈ tables_1, d.before a0 Z = true) : (Jvm.Cond.code ({ cls := "java/util/ArrayList", name := "get", desc := "(I)Ljava/lang/Object;" } : Jvm.MethodName) jdk_38_method_20_code (2 : Nat) (Option.some (Jvm.ClassFile.FieldType.object "java/lang/Object"))).before a0 Z = true := hw _ (List.mem_of_getElem? (i := 163) rfl)
theorem own_q164 {Z : State} {a0 : Array Value} (hw : ∀ d ∈ tables_1, d.before a0 Z = true) : (Jvm.Cond.methodLink "java/util/ArrayList" (118 : Nat) ({ cls := "java/util/Objects", name := "checkIndex", desc := "(II)I" } : Jvm.MethodName)).before a0 Z = true := hw _ (List.mem_of_getElem? (i := 164) rfl)
theorem own_q165 {Z : State} {a0 : Array Value} (hw : ∀ d ∈ tables_1, d.before a0 Z = true) : (Jvm.Cond.static ({ cls := "java/util/Objects", name := "checkIndex", desc := "(II)I" } : Jvm.MethodName)).before a0 Z = true := hw _ (List.mem_of_getElem? (i := 165) rfl)
theorem own_q166 {Z : State} {a0 : Array Value} (hw : ∀ d ∈ tables_1, d.before a0 Z = true) : (Jvm.Cond.initialized "java/util/Objects").before a0 Z = true := hw _ (List.mem_of_getElem? (i := 166) rfl)
theorem own_q167 {Z : State} {a0 : Array Value} (hw : ∀ d ∈ tables_1, d.before a0 Z = true) : (Jvm.Cond.code ({ cls := "java/util/Objects", name := "checkIndex", desc := "(II)I" } : Jvm.MethodName) jdk_31_method_17_code (2 : Nat) (Option.some Jvm.ClassFile.FieldType.int)).before a0 Z = true := hw _ (List.mem_of_getElem? (i := 167) rfl)
theorem own_q168 {Z : State} {a0 : Array Value} (hw : ∀ d ∈ tables_1, d.before a0 Z = true) : (Jvm.Cond.methodLink "java/util/Objects" (105 : Nat) ({ cls := "jdk/internal/util/Preconditions", name := "checkIndex", desc := "(IILjava/util/function/BiFunction;)I" } : Jvm.MethodName)).before a0 Z = true := hw _ (List.mem_of_getElem? (i := 168) rfl)
theorem own_q169 {Z : State} {a0 : Array Value} (hw : ∀ d ∈ tables_1, d.before a0 Z = true) : (Jvm.Cond.static ({ cls := "jdk/internal/util/Preconditions", name := "checkIndex", desc := "(IILjava/util/function/BiFunction;)I" } : Jvm.MethodName)).before a0 Z = true := hw _ (List.mem_of_getElem? (i := 169) rfl)
theorem own_q170 {Z : State} {a0 : Array Value} (hw : ∀ d ∈ tables_1, d.before a0 Z = true) : (Jvm.Cond.initialized "jdk/internal/util/Preconditions").before a0 Z = true := hw _ (List.mem_of_getElem? (i := 170) rfl)
theorem own_q171 {Z : State} {a0 : Array Value} (hw : ∀ d ∈ tables_1, d.before a0 Z = true) : (Jvm.Cond.code ({ cls := "jdk/internal/util/Preconditions", name := "checkIndex", desc := "(IILjava/util/function/BiFunction;)I" } : Jvm.MethodName) jdk_41_method_11_code (3 : Nat) (Option.some Jvm.ClassFile.FieldType.int)).before a0 Z = true := hw _ (List.mem_of_getElem? (i := 171) rfl)
theorem own_q172 {Z : State} {a0 : Array Value} (hw : ∀ d ∈ tables_1, d.before a0 Z = true) : (Jvm.Cond.methodLink "java/util/ArrayList" (123 : Nat) ({ cls := "java/util/ArrayList", name := "elementData", desc := "(I)Ljava/lang/Object;" } : Jvm.MethodName)).before a0 Z = true := hw _ (List.mem_of_getElem? (i := 172) rfl)
theorem own_q173 {Z : State} {a0 : Array Value} (hw : ∀ d ∈ tables_1, d.before a0 Z = true) : (Jvm.Cond.declares ({ cls := "java/util/ArrayList", name := "elementData", desc := "(I)Ljava/lang/Object;" } : Jvm.MethodName)).before a0 Z = true := hw _ (List.mem_of_getElem? (i := 173) rfl)
theorem own_q174 {Z : State} {a0 : Array Value} (hw : ∀ d ∈ tables_1, d.before a0 Z = true) : (Jvm.Cond.instanceMethod ({ cls := "java/util/ArrayList", name := "elementData", desc := "(I)Ljava/lang/Object;" } : Jvm.MethodName)).before a0 Z = true := hw _ (List.mem_of_getElem? (i := 174) rfl)
theorem own_q175 {Z : State} {a0 : Array Value} (hw : ∀ d ∈ tables_1, d.before a0 Z = true) : (Jvm.Cond.selects "java/util/ArrayList" ({ cls := "java/util/ArrayList", name := "elementData", desc := "(I)Ljava/lang/Object;" } : Jvm.MethodName) ({ cls := "java/util/ArrayList", name := "elementData", desc := "(I)Ljava/lang/Object;" } : Jvm.MethodName)).before a0 Z = true := hw _ (List.mem_of_getElem? (i := 175) rfl)
theorem own_q176 {Z : State} {a0 : Array Value} (hw : ∀ d ∈ tables_1, d.before a0 Z = true) : (Jvm.Cond.code ({ cls := "java/util/ArrayList", name := "elementData", desc := "(I)Ljava/lang/Object;" } : Jvm.MethodName) jdk_38_method_18_code (2 : Nat) (Option.some (Jvm.ClassFile.FieldType.object "java/lang/Object"))).before a0 Z = true := hw _ (List.mem_of_getElem? (i := 176) rfl)

section Strs
variable {md : Nat} {p : Program} {l : Launch} {e : Env} {R : Room} {s : State} {m : MethodId} {args : Array Value} {below : List Frame} {meth : Method} {c : Code} {own : String} {Z : State} {EL : List (String × Nat)} {vm : Vm} {T : State} {h h' h0 : Heap} {cells slots : Nat} {P : Outcome → State → Prop} {pc : Nat} {L : Array Slot} {a0 : Array Value} {a b : Addr} {cs ds : List Int32} {W : Nat}
def own_lat (cs : List Int32) : Prop := ∀ c ∈ cs, ¬ c < 0 ∧ ¬ (255 : Int32) < c
def own_str (Z : State) (h : Heap) (a : Addr) (cs : List Int32) : Prop := own_lat cs ∧ cs.length ≤ 4000 ∧ ∃ b k, Exa Z h a "java/lang/String" ∧ Fld Z h a "java/lang/String" "coder" "B" (.int 0) ∧ Fld Z h a "java/lang/String" "value" "[B" (.ref b) ∧ Arv Z h b k .byte (Int32.ofNat cs.length) ((cs.map fun c => c.toInt8.toInt32).map Value.int) (.int 0)
theorem own_str.ext (F : own_str Z h a cs) (E : Ext h h') : own_str Z h' a cs := by
  obtain ⟨f1, f2, b, k, f3, f4, f5, f6⟩ := F; exact ⟨f1, f2, b, k, f3.ext E, f4.ext E, f5.ext E, f6.ext E⟩
theorem own_str.exa (F : own_str Z h a cs) : Exa Z h a "java/lang/String" := by obtain ⟨-, -, _, _, f3, -⟩ := F; exact f3
theorem own_str.lat (F : own_str Z h a cs) : own_lat cs := F.1
theorem own_str.lt (F : own_str Z h a cs) : a < h.size := F.exa.lt
/-- over a step that writes new cells alone -/
theorem own_str.keep {ws : List Addr} (F : own_str Z h a cs) (K : Keep h h' ws) (q : ∀ x ∈ ws, h.size ≤ x) : own_str Z h' a cs := by
  obtain ⟨f1, f2, b, k, f3, f4, f5, f6⟩ := F
  have na : a ∉ ws := fun z => absurd (q a z) (Nat.not_le.mpr f3.lt)
  have nb : b ∉ ws := fun z => absurd (q b z) (Nat.not_le.mpr f6.lt)
  exact ⟨f1, f2, b, k, f3.keep K, f4.keep K na, f5.keep K na, f6.keep K nb⟩
theorem own_up (H : own_lat cs) : ∀ c ∈ cs, ¬ c < 0 ∧ ¬ (65535 : Int32) < c := fun c hc => ⟨(H c hc).1, fun q => (H c hc).2 (by
  rw [Int32.lt_iff_toInt_lt] at q ⊢
  have e1 : (65535 : Int32).toInt = 65535 := by decide
  have e2 : (255 : Int32).toInt = 255 := by decide
  omega)⟩
theorem own_lat_nil : own_lat [] := fun c hc => by cases hc
theorem own_lat_cons {x : Int32} (hx : 0 ≤ x.toInt ∧ x.toInt ≤ 255) (H : own_lat cs) : own_lat (x :: cs) := fun c hc => by
  rcases List.mem_cons.mp hc with rfl | hc
  · have e1 : (0 : Int32).toInt = 0 := by decide
    have e2 : (255 : Int32).toInt = 255 := by decide
    rw [Int32.lt_iff_toInt_lt, Int32.lt_iff_toInt_lt]; omega
  · exact H c hc
theorem own_b16 {x : Int32} (hx : 0 ≤ x.toInt ∧ x.toInt ≤ 255) : 0 ≤ x.toInt ∧ x.toInt ≤ 65535 := ⟨hx.1, by omega⟩
theorem own_cod (H : own_lat cs) : StrChars.Road.CodA cs 0 (Int32.ofNat cs.length) ((cs.map fun c => c.toInt8.toInt32).map Value.int) := StrChars.Road.codOf (cs := cs) rfl fun c hc => (H c hc).2
def own_cs (Z : State) : Prop := ∃ z : Int32, Sta Z Z.heap "java/lang/String" "COMPACT_STRINGS" "Z" (.int z) ∧ ¬ z = 0
def own_sf (Z : State) : Prop := ∃ fm : Value, Sta Z Z.heap "jdk/internal/util/Preconditions" "SIOOBE_FORMATTER" "Ljava/util/function/BiFunction;" fm ∧ fm.isRef = true
theorem own_ext_wr {sl : Nat} {v : Value} (E : Ext h0 h) (W : Wr h h' a sl v) (q : h0.size ≤ a) : Ext h0 h' := by
  obtain ⟨cell, h1, h2, h3, rfl⟩ := W
  refine ⟨by simpa using E.1, fun x c hx => ?_⟩
  have := (Array.getElem?_eq_some_iff.mp hx).1
  rw [Array.getElem?_setIfInBounds_ne (by omega)]; exact E.2 x c hx
theorem own_ext_keep {ws : List Addr} (E : Ext h0 h) (K : Keep h h' ws) (q : ∀ x ∈ ws, h0.size ≤ x) : Ext h0 h' :=
  ⟨Nat.le_trans E.1 K.1, fun x c hx => K.2.1 x c (E.2 x c hx) fun z => absurd (q x z) (Nat.not_le.mpr (Array.getElem?_eq_some_iff.mp hx).1)⟩
theorem own_ext_trans {h1 h2 : Heap} (E : Ext h0 h1) (E' : Ext h1 h2) : Ext h0 h2 := ⟨Nat.le_trans E.1 E'.1, fun x c hx => E'.2 x c (E.2 x c hx)⟩
theorem own_ext_refl : Ext h h := ⟨Nat.le_refl _, fun _ _ q => q⟩
theorem own_nar {x : Int32} (hx : 0 ≤ x.toInt ∧ x.toInt ≤ 65535) : nar .char x = x := by
  have := c_i2c x
  refine Int32.toInt_inj.mp ?_
  show x.toUInt32.toUInt16.toUInt32.toInt32.toInt = x.toInt
  omega
/-- a String as 'new' leaves it -/
def own_raw (Z : State) (h : Heap) (a : Addr) : Prop := Exa Z h a "java/lang/String" ∧ (∃ v0, Fld Z h a "java/lang/String" "value" "[B" v0) ∧ ∃ c0, Fld Z h a "java/lang/String" "coder" "B" c0
theorem own_raw.ext (F : own_raw Z h a) (E : Ext h h') : own_raw Z h' a := by obtain ⟨f1, ⟨v, f2⟩, d, f3⟩ := F; exact ⟨f1.ext E, ⟨v, f2.ext E⟩, d, f3.ext E⟩
theorem own_raw.wr {sl : Nat} {v : Value} (F : own_raw Z h a) (W : Wr h h' b sl v) (q : a ≠ b) : own_raw Z h' a := by obtain ⟨f1, ⟨v, f2⟩, d, f3⟩ := F; exact ⟨f1.wr W, ⟨v, f2.other W (Or.inl q)⟩, d, f3.other W (Or.inl q)⟩
theorem own_pd0 : parseMethodDescriptor "([C)V" = some ⟨[(.array .char)], none⟩ := by decide +kernel
theorem own_mk (S : St md p l e R s m args below meth c own Z EL vm T h cells slots) (hx : p.tables.exec = Jvm.exec) (hw : ∀ d ∈ tables_1, d.before a0 Z = true) (G : own_cs Z) (n : Nat) (hn : cs.length = n) {index : Nat} (w1 : (Cond.methodLink own index (⟨"java/lang/String", "<init>", "([C)V"⟩ : MethodName)).before a0 Z = true) {kC : ClassId} {d : Value} (F : own_raw Z h a) (Kc : Arv Z h b kC .char (Int32.ofNat cs.length) (cs.map Value.int) d) (sf : Safe Z EL vm h a) (ga : Z.heap.size ≤ a) (l0 : 0 < n) (l2 : n ≤ 4000) (hp : own_lat cs) (hf : 4 ≤ R.frames) (hl : W + 65 ≤ R.locals) (hml : L.size = c.maxLocals) (rest : List Value) (hW : (rest.map fun v => v.category).sum ≤ W) (hd : decode c.code pc = .ok (.invokespecial index, 3)) (hc : cells + 1 ≤ R.cells) (hs : slots + n ≤ R.slots) (p' : Nat) (hp' : p' = pc + 3)
    (q : ∀ T' h', St md p l e R s m args below meth c own Z EL vm T' h' (cells + 1) (slots + n) → own_str Z h' a cs → Keep h h' [a] → CHr Z EL vm h vm h' → Goes p.tables e below P T' (mkF m p' L rest)) : Goes p.tables e below P T (mkF m pc L (.ref b :: .ref a :: rest)) := by
  subst hn
  obtain ⟨f1, ⟨v0, f2⟩, c0, f3⟩ := F
  obtain ⟨z, g1, g2⟩ := G
  have hws : ∀ d ∈ StrChars.Road.words, d.before a0 Z = true := fun d hd => hw d ((by decide +kernel : ∀ d ∈ StrChars.Road.words, d ∈ tables_1) d hd)
  refine S.callIN hx rfl w1 (own_q5 hw) (own_q6 hw) (by decide) (StrChars.Road.backV (s := s.setVm vm) (W := W) S.warm hws (kI := 4) (own_q2 hw) (cs := cs) (bs := cs.map fun c => c.toInt8.toInt32) (n := cs.length) (n0 := Z.heap.size) ga S.size f1 f2 f3 Kc (g1.ext S.old.2) g2 rfl rfl l0 l2 hp rfl hf hl) ?_ hml [.ref b] rest (lenOf own_pd0 rfl) rfl rfl hW hd hc hs p' hp' ?_
  · intro v h' Lc r
    have sa : ∀ x ∈ [a], Safe Z EL vm h x := fun x hx => by cases List.mem_singleton.mp hx; exact sf
    exact ⟨r.2.1, S.old.keep r.2.2.1 (fun x hx => by cases List.mem_singleton.mp hx; exact ga), CHr.keep r.2.2.1 sa S.chr.1⟩
  · intro v T' h' Lc S' r R'
    obtain ⟨rfl, -, r3, r4, r5, t, kb, -, -, -, r6, r7⟩ := r
    exact q T' h' S' ⟨hp, l2, t, kb, r4, r5, r6, r7⟩ r3 R'
end Strs
theorem own_nz {z : Int32} (h : ¬ z = 0) : ¬ z.toInt = 0 := fun q => h (Int32.toInt_inj.mp (q.trans (by decide)))
def own_has (Z : State) (h : Heap) (a : Addr) (C n d : String) : Prop := ∃ w, Fld Z h a C n d w
theorem own_has.wr {Z : State} {h h' : Heap} {a b : Addr} {C n d : String} {sl : Nat} {v : Value} (F : own_has Z h a C n d) (W : Wr h h' b sl v) : own_has Z h' a C n d := by
  obtain ⟨w, F⟩ := F
  by_cases e : a = b
  · subst e
    by_cases q : Jvm.RoadKit.slotOf Z C n d = sl
    · subst q; exact ⟨v, F.same W⟩
    · exact ⟨w, F.other W (Or.inr q)⟩
  · exact ⟨w, F.other W (Or.inl e)⟩
theorem own_has.ext {Z : State} {h h' : Heap} {a : Addr} {C n d : String} (F : own_has Z h a C n d) (E : Ext h h') : own_has Z h' a C n d := by obtain ⟨w, F⟩ := F; exact ⟨w, F.ext E⟩
theorem own_ef1 (m : MethodId) (x0 : Int32) : entryFrame m #[(.int x0)] 1 = mkF m 0 #[.val (.int x0)] [] := by first | (simp [entryFrame, mkF, argsToLocals, Value.category]; done) | rfl
theorem own_d_jdk_43_method_3_code_2 : decode jdk_43_method_3_code 0 = .ok (.iload_n 0, 1) := by decide +kernel
theorem own_d_jdk_43_method_3_code_3 : decode jdk_43_method_3_code 1 = .ok (.sipush 255, 3) := by decide +kernel
theorem own_d_jdk_43_method_3_code_4 : decode jdk_43_method_3_code 4 = .ok (.if_icmp .gt 7, 3) := by decide +kernel
theorem own_d_jdk_43_method_3_code_5 : decode jdk_43_method_3_code 7 = .ok (.iconst 1, 1) := by decide +kernel
theorem own_d_jdk_43_method_3_code_6 : decode jdk_43_method_3_code 8 = .ok (.goto 4, 3) := by decide +kernel
theorem own_d_jdk_43_method_3_code_7 : decode jdk_43_method_3_code 12 = .ok (.ireturn, 1) := by decide +kernel
theorem own_pn8 : plainName "java/lang/StringLatin1" = true := by first | (simp [plainName, overriddenIn]; done) | decide +kernel
set_option maxRecDepth 65536 in
set_option maxHeartbeats 40000000 in
theorem ctCan (l : Launch) (Z : State) (a0 : Array Value) (hw : ∀ d ∈ tables_1, d.before a0 Z = true) (p1 : Int32) (h : Heap) (O : Old Z Z.heap.size h) (k1 : 0 ≤ p1.toInt ∧ p1.toInt ≤ 255) :
    Ct 0 l Z [] [] (⟨"java/lang/StringLatin1", "canEncode", "(C)Z"⟩ : MethodName) jdk_43_method_3_code 1 (some .boolean) ({ frames := 0, cells := 0, slots := 0, locals := 0 } : Room) #[(.int p1)] h (fun v h' => v = some (.int 1) ∧ h = h') := by
  refine Ct.intro (plainFor_of_name own_pn8) O (fun _ => rfl) ⟨a0, EW.nil⟩ ?_
  intro p e s m below meth c T0 hx hby hml hret hnm hlk hsf S0
  refine Goes.cast (own_ef1 m p1) ?_
  refine g_iloadN S0.here hx (hb hby own_d_jdk_43_method_3_code_2) rfl 1 rfl ?_
  refine g_sipush S0.here hx (hb hby own_d_jdk_43_method_3_code_3) (255 : Int32) (by decide) 4 rfl ?_
  refine g_icmpF S0.here hx (hb hby own_d_jdk_43_method_3_code_4) p1.toInt 255 rfl (by decide) (show ¬ (255 < p1.toInt) from by omega) 7 rfl ?_
  refine g_iconst S0.here hx (hb hby own_d_jdk_43_method_3_code_5) (1 : Int32) (by decide) 8 rfl ?_
  refine g_goto S0.here hx (hb hby own_d_jdk_43_method_3_code_6) 12 (by decide) (by decide) ?_
  exact S0.iret hx hlk hret (Or.inr (Or.inl rfl)) rfl (hb hby own_d_jdk_43_method_3_code_7) ⟨rfl, rfl⟩ (by decide) (by decide)
theorem own_d_jdk_43_method_46_code_9 : decode jdk_43_method_46_code 0 = .ok (.iconst 1, 1) := by decide +kernel
theorem own_d_jdk_43_method_46_code_10 : decode jdk_43_method_46_code 1 = .ok (.newarray .byte, 2) := by decide +kernel
theorem own_d_jdk_43_method_46_code_11 : decode jdk_43_method_46_code 3 = .ok (.dup, 1) := by decide +kernel
theorem own_d_jdk_43_method_46_code_12 : decode jdk_43_method_46_code 4 = .ok (.iconst 0, 1) := by decide +kernel
theorem own_d_jdk_43_method_46_code_13 : decode jdk_43_method_46_code 5 = .ok (.iload_n 0, 1) := by decide +kernel
theorem own_d_jdk_43_method_46_code_14 : decode jdk_43_method_46_code 6 = .ok (.i2b, 1) := by decide +kernel
theorem own_d_jdk_43_method_46_code_15 : decode jdk_43_method_46_code 7 = .ok (.bastore, 1) := by decide +kernel
theorem own_d_jdk_43_method_46_code_16 : decode jdk_43_method_46_code 8 = .ok (.areturn, 1) := by decide +kernel
set_option maxRecDepth 65536 in
set_option maxHeartbeats 40000000 in
theorem ctTB (l : Launch) (Z : State) (a0 : Array Value) (hw : ∀ d ∈ tables_1, d.before a0 Z = true) (p1 : Int32) (h : Heap) (O : Old Z Z.heap.size h) :
    Ct 0 l Z [] [] (⟨"java/lang/StringLatin1", "toBytes", "(C)[B"⟩ : MethodName) jdk_43_method_46_code 1 (some (.array .byte)) ({ frames := 0, cells := 1, slots := 1, locals := 0 } : Room) #[(.int p1)] h (fun v h' => ∃ b : Addr, v = some (.ref b) ∧ Ext h h') := by
  refine Ct.intro (plainFor_of_name own_pn8) O (fun _ => rfl) ⟨a0, EW.nil⟩ ?_
  intro p e s m below meth c T0 hx hby hml hret hnm hlk hsf S0
  refine Goes.cast (own_ef1 m p1) ?_
  refine g_iconst S0.here hx (hb hby own_d_jdk_43_method_46_code_9) (1 : Int32) (by decide) 1 rfl ?_
  refine S0.newA (aty := .byte) hx (own_q19 hw) (n := (1 : Int32)) (by decide) (cap := 1) (by decide) (by decide) (hb hby own_d_jdk_43_method_46_code_10) (by decide) (by decide) 3 rfl (fun T1 h1 b k1 S1 g1 E1 V1 F1 R1 => ?_)
  have ga : Z.heap.size ≤ b := by rw [g1]; exact S0.size
  refine g_dup S1.here hx (hb hby own_d_jdk_43_method_46_code_11) rfl 4 rfl ?_
  refine g_iconst S1.here hx (hb hby own_d_jdk_43_method_46_code_12) (0 : Int32) (by decide) 5 rfl ?_
  refine g_iloadN S1.here hx (hb hby own_d_jdk_43_method_46_code_13) rfl 6 rfl ?_
  refine g_i2b S1.here hx (hb hby own_d_jdk_43_method_46_code_14) 7 rfl ?_
  refine S1.stB hx V1 0 ⟨by decide, by decide⟩ (by decide) (by decide) ga F1 (hb hby own_d_jdk_43_method_46_code_15) 8 rfl (fun T2 h2 S2 W2 V2 R2 => ?_)
  have X : Ext h h2 := own_ext_wr E1 W2 (Nat.le_of_eq g1.symm)
  exact S2.aret hx hlk hret rfl rfl rfl (hb hby own_d_jdk_43_method_46_code_16) ⟨_, rfl, X⟩ (by decide) (by decide)
theorem own_ef17 (m : MethodId) (x0 : Addr) (x1 : Addr) (x2 : Int32) : entryFrame m #[(.ref x0), (.ref x1), (.int x2)] 3 = mkF m 0 #[.val (.ref x0), .val (.ref x1), .val (.int x2)] [] := by first | (simp [entryFrame, mkF, argsToLocals, Value.category]; done) | rfl
theorem own_d_jdk_42_method_151_code_18 : decode jdk_42_method_151_code 0 = .ok (.aload_n 0, 1) := by decide +kernel
theorem own_d_jdk_42_method_151_code_19 : decode jdk_42_method_151_code 1 = .ok (.invokespecial 1, 3) := by decide +kernel
theorem own_d_jdk_42_method_151_code_20 : decode jdk_42_method_151_code 4 = .ok (.aload_n 0, 1) := by decide +kernel
theorem own_d_jdk_42_method_151_code_21 : decode jdk_42_method_151_code 5 = .ok (.aload_n 1, 1) := by decide +kernel
theorem own_d_jdk_42_method_151_code_22 : decode jdk_42_method_151_code 6 = .ok (.putfield 9, 3) := by decide +kernel
theorem own_d_jdk_42_method_151_code_23 : decode jdk_42_method_151_code 9 = .ok (.aload_n 0, 1) := by decide +kernel
theorem own_d_jdk_42_method_151_code_24 : decode jdk_42_method_151_code 10 = .ok (.iload_n 2, 1) := by decide +kernel
theorem own_d_jdk_42_method_151_code_25 : decode jdk_42_method_151_code 11 = .ok (.putfield 15, 3) := by decide +kernel
theorem own_d_jdk_42_method_151_code_26 : decode jdk_42_method_151_code 14 = .ok (.return_, 1) := by decide +kernel
theorem own_pn27 : plainName "java/lang/String" = true := by first | (simp [plainName, overriddenIn]; done) | decide +kernel
set_option maxRecDepth 65536 in
set_option maxHeartbeats 40000000 in
theorem ctSB (l : Launch) (Z : State) (a0 : Array Value) (hw : ∀ d ∈ tables_1, d.before a0 Z = true) (a b : Addr) (h : Heap) (O : Old Z Z.heap.size h) (F : own_raw Z h a) (ga : Z.heap.size ≤ a) :
    Ct 0 l Z [] [a] (⟨"java/lang/String", "<init>", "([BB)V"⟩ : MethodName) jdk_42_method_151_code 3 none ({ frames := 1, cells := 0, slots := 0, locals := 12 } : Room) #[(.ref a), (.ref b), (.int (0 : Int32))] h (fun v h' => v = none ∧ Exa Z h' a "java/lang/String" ∧ Keep h h' [a]) := by
  refine Ct.intro (plainFor_of_name own_pn27) O (fun _ => rfl) ⟨a0, EW.nil⟩ ?_
  intro p e s m below meth c T0 hx hby hml hret hnm hlk hsf S0
  refine Goes.cast (own_ef17 m a b (0 : Int32)) ?_
  obtain ⟨f1, ⟨v0, f2⟩, c0, f3⟩ := F
  refine g_aloadN S0.here hx (hb hby own_d_jdk_42_method_151_code_18) rfl rfl 1 rfl ?_
  refine S0.initO hx (own_q11 hw) (own_q12 hw) (own_q13 hw) (by rw [hml]; rfl) (W := 0) (by decide) (Nat.le_refl _) (by decide) (hb hby own_d_jdk_42_method_151_code_19) 4 rfl (fun T3 S3 => ?_)
  refine g_aloadN S3.here hx (hb hby own_d_jdk_42_method_151_code_20) rfl rfl 5 rfl ?_
  refine g_aloadN S3.here hx (hb hby own_d_jdk_42_method_151_code_21) rfl rfl 6 rfl ?_
  refine S3.putF hx (host := "") (Or.inl (own_q28 hw)) Via.refl f2 f1 (Or.inr ⟨(own_q29 hw), rfl, hnm⟩) (own_q2 hw) (ty := (.array .byte)) (by decide) rfl rfl (hsf a (List.mem_singleton.mpr rfl)) ga (hb hby own_d_jdk_42_method_151_code_22) 9 rfl (fun T4 h4 S4 W4 R4 => ?_)
  have A1 := f1.wr W4
  obtain ⟨c1, C1⟩ := own_has.wr ⟨_, f3⟩ W4
  have F1 := R4.safe f1.lt (hsf a (List.mem_singleton.mpr rfl))
  have K1 := Keep.of_wr W4
  refine g_aloadN S4.here hx (hb hby own_d_jdk_42_method_151_code_23) rfl rfl 10 rfl ?_
  refine g_iloadN S4.here hx (hb hby own_d_jdk_42_method_151_code_24) rfl 11 rfl ?_
  refine S4.putF hx (host := "") (Or.inl (own_q26 hw)) Via.refl C1 A1 (Or.inr ⟨(own_q27 hw), rfl, hnm⟩) (own_q2 hw) (ty := .byte) (by decide) rfl rfl F1 ga (hb hby own_d_jdk_42_method_151_code_25) 14 rfl (fun T5 h5 S5 W5 R5 => ?_)
  have A2 := A1.wr W5
  have K2 := K1.wr W5 (Or.inl (List.mem_singleton.mpr rfl))
  exact S5.vret hx hlk hret (hb hby own_d_jdk_42_method_151_code_26) ⟨rfl, A2, K2⟩ (by decide) (by decide)
theorem own_d_jdk_42_method_139_code_28 : decode jdk_42_method_139_code 0 = .ok (.getstatic 38, 3) := by decide +kernel
theorem own_d_jdk_42_method_139_code_29 : decode jdk_42_method_139_code 3 = .ok (.ifCond .eq 23, 3) := by decide +kernel
theorem own_d_jdk_42_method_139_code_30 : decode jdk_42_method_139_code 6 = .ok (.iload_n 0, 1) := by decide +kernel
theorem own_d_jdk_42_method_139_code_31 : decode jdk_42_method_139_code 7 = .ok (.invokestatic 1015, 3) := by decide +kernel
theorem own_pd32 : parseMethodDescriptor "(C)Z" = some ⟨[.char], some .boolean⟩ := by decide +kernel
theorem own_d_jdk_42_method_139_code_33 : decode jdk_42_method_139_code 10 = .ok (.ifCond .eq 16, 3) := by decide +kernel
theorem own_d_jdk_42_method_139_code_34 : decode jdk_42_method_139_code 13 = .ok (.new 10, 3) := by decide +kernel
theorem own_d_jdk_42_method_139_code_35 : decode jdk_42_method_139_code 16 = .ok (.dup, 1) := by decide +kernel
theorem own_d_jdk_42_method_139_code_36 : decode jdk_42_method_139_code 17 = .ok (.iload_n 0, 1) := by decide +kernel
theorem own_d_jdk_42_method_139_code_37 : decode jdk_42_method_139_code 18 = .ok (.invokestatic 1018, 3) := by decide +kernel
theorem own_pd38 : parseMethodDescriptor "(C)[B" = some ⟨[.char], some (.array .byte)⟩ := by decide +kernel
theorem own_d_jdk_42_method_139_code_39 : decode jdk_42_method_139_code 21 = .ok (.iconst 0, 1) := by decide +kernel
theorem own_d_jdk_42_method_139_code_40 : decode jdk_42_method_139_code 22 = .ok (.invokespecial 209, 3) := by decide +kernel
theorem own_pd41 : parseMethodDescriptor "([BB)V" = some ⟨[(.array .byte), .byte], none⟩ := by decide +kernel
theorem own_d_jdk_42_method_139_code_42 : decode jdk_42_method_139_code 25 = .ok (.areturn, 1) := by decide +kernel
set_option maxRecDepth 65536 in
set_option maxHeartbeats 40000000 in
theorem ctVO (l : Launch) (Z : State) (a0 : Array Value) (hw : ∀ d ∈ tables_1, d.before a0 Z = true) (p1 : Int32) (h : Heap) (O : Old Z Z.heap.size h) (G : own_cs Z) (k1 : 0 ≤ p1.toInt ∧ p1.toInt ≤ 255) :
    Ct 0 l Z [] [] (⟨"java/lang/String", "valueOf", "(C)Ljava/lang/String;"⟩ : MethodName) jdk_42_method_139_code 1 (some (.object "java/lang/String")) ({ frames := 2, cells := 2, slots := 5, locals := 27 } : Room) #[(.int p1)] h (fun v h' => ∃ a : Addr, v = some (.ref a) ∧ Exa Z h' a "java/lang/String" ∧ Ext h h') := by
  refine Ct.intro (plainFor_of_name own_pn27) O (fun _ => rfl) ⟨a0, EW.nil⟩ ?_
  intro p e s m below meth c T0 hx hby hml hret hnm hlk hsf S0
  refine Goes.cast (own_ef1 m p1) ?_
  obtain ⟨z, g1, g2⟩ := G
  refine S0.getS hx (host := "") (Or.inl (own_q14 hw)) Via.refl (g1.ext O.2) (hb hby own_d_jdk_42_method_139_code_28) 3 rfl (fun T6 S6 => ?_)
  refine g_ifF S6.here hx (hb hby own_d_jdk_42_method_139_code_29) z.toInt rfl (show ¬ (z.toInt = 0) from own_nz g2) 6 rfl ?_
  refine g_iloadN S6.here hx (hb hby own_d_jdk_42_method_139_code_30) rfl 7 rfl ?_
  refine S6.callS hx (W := 0) (own_q36 hw) (own_q37 hw) (own_q38 hw) (own_q39 hw) (by decide) (ctCan l Z a0 hw p1 h S6.old k1) nosf (by decide) (by decide) (by rw [hml]; rfl) [(.int p1)] [] (lenOf own_pd32 rfl) rfl rfl (Nat.le_refl _) (hb hby own_d_jdk_42_method_139_code_31) (by decide) (by decide) 10 rfl (fun v7 vm7 T7 h7 S7 Q7 R7 => ?_)
  obtain ⟨rfl, rfl⟩ := Q7
  show Goes _ _ _ _ T7 (mkF m 10 #[.val (.int p1)] [(.int (1 : Int32))])
  refine g_ifF S7.here hx (hb hby own_d_jdk_42_method_139_code_33) 1 (by decide) (by show ¬ (1 = 0); decide) 13 rfl ?_
  refine S7.new hx (own_q40 hw) (own_q2 hw) (own_q3 hw) (hb hby own_d_jdk_42_method_139_code_34) (by decide) (by decide) 16 rfl (fun T8 h8 a S8 g8 E8 A8 D8 F8 R8 U8 => ?_)
  have ga8 : Z.heap.size ≤ a := by rw [g8]; exact S7.size
  have r8 : own_raw Z h8 a := ⟨A8, ⟨_, D8 (Or.inr (own_q29 hw)) (ty := .array .byte) (by decide)⟩, _, D8 (Or.inr (own_q27 hw)) (ty := .byte) (by decide)⟩
  refine g_dup S8.here hx (hb hby own_d_jdk_42_method_139_code_35) rfl 17 rfl ?_
  refine g_iloadN S8.here hx (hb hby own_d_jdk_42_method_139_code_36) rfl 18 rfl ?_
  refine S8.callS hx (W := 2) (own_q41 hw) (own_q42 hw) (own_q38 hw) (own_q43 hw) (by decide) (ctTB l Z a0 hw p1 h8 S8.old) nosf (by decide) (by decide) (by rw [hml]; rfl) [(.int p1)] [(.ref a), (.ref a)] (lenOf own_pd38 rfl) rfl rfl (Nat.le_refl _) (hb hby own_d_jdk_42_method_139_code_37) (by decide) (by decide) 21 rfl (fun v9 vm9 T9 h9 S9 Q9 R9 => ?_)
  obtain ⟨b, rfl, X⟩ := Q9
  show Goes _ _ _ _ T9 (mkF m 21 #[.val (.int p1)] [(.ref b), (.ref a), (.ref a)])
  have F2 := R9.safe A8.lt F8
  have r2 := r8.ext X
  have X2 := own_ext_trans E8 X
  refine g_iconst S9.here hx (hb hby own_d_jdk_42_method_139_code_39) (0 : Int32) (by decide) 22 rfl ?_
  refine S9.callI hx (W := 1) (a := a) rfl (own_q44 hw) (own_q45 hw) (own_q46 hw) (by decide) (own_q3 hw) (ctSB l Z a0 hw a b h9 S9.old r2 ga8) (fun x hx => by cases List.mem_singleton.mp hx; exact ⟨r2.1.lt, F2⟩) (by decide) (by decide) (by rw [hml]; rfl) [(.ref b), (.int (0 : Int32))] [(.ref a)] (lenOf own_pd41 rfl) rfl rfl (Nat.le_refl _) (hb hby own_d_jdk_42_method_139_code_40) (by decide) (by decide) 25 rfl (fun v10 vm10 T10 h10 S10 Q10 R10 => ?_)
  obtain ⟨rfl, A3, K3⟩ := Q10
  show Goes _ _ _ _ T10 (mkF m 25 #[.val (.int p1)] [(.ref a)])
  have X3 := own_ext_keep X2 K3 (fun x hx => by cases List.mem_singleton.mp hx; exact Nat.le_of_eq g8.symm)
  exact S10.aret hx hlk hret rfl rfl rfl (hb hby own_d_jdk_42_method_139_code_42) ⟨_, rfl, A3, X3⟩ (by decide) (by decide)
theorem own_ef43 (m : MethodId) (x0 : Addr) : entryFrame m #[(.ref x0)] 1 = mkF m 0 #[.val (.ref x0)] [] := by first | (simp [entryFrame, mkF, argsToLocals, Value.category]; done) | rfl
theorem own_d_jdk_30_method_1_code_44 : decode jdk_30_method_1_code 0 = .ok (.aload_n 0, 1) := by decide +kernel
theorem own_d_jdk_30_method_1_code_45 : decode jdk_30_method_1_code 1 = .ok (.invokespecial 1, 3) := by decide +kernel
theorem own_d_jdk_30_method_1_code_46 : decode jdk_30_method_1_code 4 = .ok (.return_, 1) := by decide +kernel
theorem own_pn47 : plainName "java/lang/Record" = true := by first | (simp [plainName, overriddenIn]; done) | decide +kernel
set_option maxRecDepth 65536 in
set_option maxHeartbeats 40000000 in
theorem ctRec (l : Launch) (Z : State) (a0 : Array Value) (hw : ∀ d ∈ tables_1, d.before a0 Z = true) (a : Addr) (h : Heap) (O : Old Z Z.heap.size h) :
    Ct 0 l Z [] [] (⟨"java/lang/Record", "<init>", "()V"⟩ : MethodName) jdk_30_method_1_code 1 none ({ frames := 1, cells := 0, slots := 0, locals := 12 } : Room) #[(.ref a)] h (fun v h' => v = none ∧ h = h') := by
  refine Ct.intro (plainFor_of_name own_pn47) O (fun _ => rfl) ⟨a0, EW.nil⟩ ?_
  intro p e s m below meth c T0 hx hby hml hret hnm hlk hsf S0
  refine Goes.cast (own_ef43 m a) ?_
  refine g_aloadN S0.here hx (hb hby own_d_jdk_30_method_1_code_44) rfl rfl 1 rfl ?_
  refine S0.initO hx (own_q55 hw) (own_q12 hw) (own_q13 hw) (by rw [hml]; rfl) (W := 0) (by decide) (Nat.le_refl _) (by decide) (hb hby own_d_jdk_30_method_1_code_45) 4 rfl (fun T11 S11 => ?_)
  exact S11.vret hx hlk hret (hb hby own_d_jdk_30_method_1_code_46) ⟨rfl, rfl⟩ (by decide) (by decide)
theorem own_b8 (x : Int32) : 0 ≤ (x &&& (255 : Int32)).toUInt32.toUInt16.toUInt32.toInt32.toInt ∧ (x &&& (255 : Int32)).toUInt32.toUInt16.toUInt32.toInt32.toInt ≤ 255 := by
  have h1 := c_and x 255 (by decide)
  have e : (255 : Int32).toInt = 255 := by decide
  have h2 := c_i2c (x &&& 255)
  omega
theorem own_b3 (x : Int32) : 0 ≤ (x &&& (3 : Int32)).toInt ∧ (x &&& (3 : Int32)).toInt ≤ 3 := by
  have h1 := c_and x 3 (by decide)
  have e : (3 : Int32).toInt = 3 := by decide
  omega
/-- an ArrayList: its array, its size -/
def own_al (Z : State) (h : Heap) (d arr : Addr) (n : Int32) : Prop := Exa Z h d "java/util/ArrayList" ∧ (∃ mc : Int32, Fld Z h d "java/util/AbstractList" "modCount" "I" (.int mc)) ∧ Fld Z h d "java/util/ArrayList" "elementData" "[Ljava/lang/Object;" (.ref arr) ∧ Fld Z h d "java/util/ArrayList" "size" "I" (.int n)
theorem own_al.ext {Z : State} {h h' : Heap} {d arr : Addr} {n : Int32} (A : own_al Z h d arr n) (E : Ext h h') : own_al Z h' d arr n := by obtain ⟨a1, ⟨mc, a2⟩, a3, a4⟩ := A; exact ⟨a1.ext E, ⟨mc, a2.ext E⟩, a3.ext E, a4.ext E⟩
theorem own_al.wr {Z : State} {h h' : Heap} {d arr b : Addr} {n : Int32} {sl : Nat} {v : Value} (A : own_al Z h d arr n) (W : Wr h h' b sl v) (q : d ≠ b) : own_al Z h' d arr n := by obtain ⟨a1, ⟨mc, a2⟩, a3, a4⟩ := A; exact ⟨a1.wr W, ⟨mc, a2.other W (Or.inl q)⟩, a3.other W (Or.inl q), a4.other W (Or.inl q)⟩
def own_df (Z : State) (df : Addr) : Prop := Sta Z Z.heap "java/util/ArrayList" "DEFAULTCAPACITY_EMPTY_ELEMENTDATA" "[Ljava/lang/Object;" (.ref df) ∧ ∃ k, Arv Z Z.heap df k (.object "java/lang/Object") (0 : Int32) [] .null
/-- an array of ten, its first component p -/
def own_ten (Z : State) (h : Heap) (b : Addr) (p : Value) : Prop := ∃ k vs, Arv Z h b k (.object "java/lang/Object") (10 : Int32) vs .null ∧ vs.length = 10 ∧ vs.getD 0 .null = p ∧ Ovr Z k "java/lang/Object"
theorem own_ten.ext {Z : State} {h h' : Heap} {b : Addr} {p : Value} (A : own_ten Z h b p) (E : Ext h h') : own_ten Z h' b p := by obtain ⟨k, vs, a1, a2, a3, a4⟩ := A; exact ⟨k, vs, a1.ext E, a2, a3, a4⟩
theorem own_ten.other {Z : State} {h h' : Heap} {a b : Addr} {p v : Value} {sl : Nat} (A : own_ten Z h b p) (W : Wr h h' a sl v) (q : b ≠ a) : own_ten Z h' b p := by obtain ⟨k, vs, a1, a2, a3, a4⟩ := A; exact ⟨k, vs, a1.other W q, a2, a3, a4⟩
theorem own_ex_ne {Z : State} {h : Heap} {a b : Addr} {C : String} {k : ClassId} {ty : FieldType} {z : Int32} {vs : List Value} {dv : Value} {a0 : Array Value} {n : Nat} (E : Exa Z h a C) (A : Arv Z h b k ty z vs dv) (wi : (Cond.instantiable C n).before a0 Z = true) : a ≠ b := E.neArv A wi
theorem own_d_jdk_22_method_1_code_48 : decode jdk_22_method_1_code 0 = .ok (.aload_n 0, 1) := by decide +kernel
theorem own_d_jdk_22_method_1_code_49 : decode jdk_22_method_1_code 1 = .ok (.invokespecial 1, 3) := by decide +kernel
theorem own_d_jdk_22_method_1_code_50 : decode jdk_22_method_1_code 4 = .ok (.return_, 1) := by decide +kernel
theorem own_pn51 : plainName "java/util/AbstractCollection" = true := by first | (simp [plainName, overriddenIn]; done) | decide +kernel
set_option maxRecDepth 65536 in
set_option maxHeartbeats 40000000 in
theorem ctAC (l : Launch) (Z : State) (a0 : Array Value) (hw : ∀ d ∈ tables_1, d.before a0 Z = true) (a : Addr) (h : Heap) (O : Old Z Z.heap.size h) :
    Ct 0 l Z [] [] (⟨"java/util/AbstractCollection", "<init>", "()V"⟩ : MethodName) jdk_22_method_1_code 1 none ({ frames := 1, cells := 0, slots := 0, locals := 12 } : Room) #[(.ref a)] h (fun v h' => v = none ∧ h = h') := by
  refine Ct.intro (plainFor_of_name own_pn51) O (fun _ => rfl) ⟨a0, EW.nil⟩ ?_
  intro p e s m below meth c T0 hx hby hml hret hnm hlk hsf S0
  refine Goes.cast (own_ef43 m a) ?_
  refine g_aloadN S0.here hx (hb hby own_d_jdk_22_method_1_code_48) rfl rfl 1 rfl ?_
  refine S0.initO hx (own_q94 hw) (own_q12 hw) (own_q13 hw) (by rw [hml]; rfl) (W := 0) (by decide) (Nat.le_refl _) (by decide) (hb hby own_d_jdk_22_method_1_code_49) 4 rfl (fun T12 S12 => ?_)
  exact S12.vret hx hlk hret (hb hby own_d_jdk_22_method_1_code_50) ⟨rfl, rfl⟩ (by decide) (by decide)
theorem own_d_jdk_39_method_1_code_52 : decode jdk_39_method_1_code 0 = .ok (.aload_n 0, 1) := by decide +kernel
theorem own_d_jdk_39_method_1_code_53 : decode jdk_39_method_1_code 1 = .ok (.invokespecial 1, 3) := by decide +kernel
theorem own_pd54 : parseMethodDescriptor "()V" = some ⟨[], none⟩ := by decide +kernel
theorem own_d_jdk_39_method_1_code_55 : decode jdk_39_method_1_code 4 = .ok (.aload_n 0, 1) := by decide +kernel
theorem own_d_jdk_39_method_1_code_56 : decode jdk_39_method_1_code 5 = .ok (.iconst 0, 1) := by decide +kernel
theorem own_d_jdk_39_method_1_code_57 : decode jdk_39_method_1_code 6 = .ok (.putfield 7, 3) := by decide +kernel
theorem own_d_jdk_39_method_1_code_58 : decode jdk_39_method_1_code 9 = .ok (.return_, 1) := by decide +kernel
theorem own_pn59 : plainName "java/util/AbstractList" = true := by first | (simp [plainName, overriddenIn]; done) | decide +kernel
set_option maxRecDepth 65536 in
set_option maxHeartbeats 40000000 in
theorem ctABL (l : Launch) (Z : State) (a0 : Array Value) (hw : ∀ d ∈ tables_1, d.before a0 Z = true) (d : Addr) (u : Value) (h : Heap) (O : Old Z Z.heap.size h) (E : Exa Z h d "java/util/ArrayList") (F : Fld Z h d "java/util/AbstractList" "modCount" "I" u) (ga : Z.heap.size ≤ d) :
    Ct 0 l Z [] [] (⟨"java/util/AbstractList", "<init>", "()V"⟩ : MethodName) jdk_39_method_1_code 1 none ({ frames := 2, cells := 0, slots := 0, locals := 24 } : Room) #[(.ref d)] h (fun v h' => v = none ∧ Wr h h' d (Jvm.RoadKit.slotOf Z "java/util/AbstractList" "modCount" "I") (.int 0)) := by
  refine Ct.intro (plainFor_of_name own_pn59) O (fun _ => rfl) ⟨a0, EW.nil⟩ ?_
  intro p e s m below meth c T0 hx hby hml hret hnm hlk hsf S0
  refine Goes.cast (own_ef43 m d) ?_
  refine g_aloadN S0.here hx (hb hby own_d_jdk_39_method_1_code_52) rfl rfl 1 rfl ?_
  refine S0.callI hx (W := 0) (a := d) rfl (own_q88 hw) (own_q89 hw) (own_q93 hw) (by decide) (own_q92 hw) (ctAC l Z a0 hw d h S0.old) nosf (by decide) (by decide) (by rw [hml]; rfl) [] [] (lenOf own_pd54 rfl) rfl rfl (Nat.le_refl _) (hb hby own_d_jdk_39_method_1_code_53) (by decide) (by decide) 4 rfl (fun v13 vm13 T13 h13 S13 Q13 R13 => ?_)
  obtain ⟨rfl, rfl⟩ := Q13
  show Goes _ _ _ _ T13 (mkF m 4 #[.val (.ref d)] [])
  refine g_aloadN S13.here hx (hb hby own_d_jdk_39_method_1_code_55) rfl rfl 5 rfl ?_
  refine g_iconst S13.here hx (hb hby own_d_jdk_39_method_1_code_56) (0 : Int32) (by decide) 6 rfl ?_
  refine S13.putF hx (host := "") (Or.inl (own_q95 hw)) Via.refl F E (Or.inl (own_q96 hw)) (own_q77 hw) (ty := .int) (by decide) rfl rfl safe_nil ga (hb hby own_d_jdk_39_method_1_code_57) 9 rfl (fun T14 h14 S14 W14 R14 => ?_)
  exact S14.vret hx hlk hret (hb hby own_d_jdk_39_method_1_code_58) ⟨rfl, W14⟩ (by decide) (by decide)
theorem own_d_jdk_38_method_2_code_60 : decode jdk_38_method_2_code 0 = .ok (.aload_n 0, 1) := by decide +kernel
theorem own_d_jdk_38_method_2_code_61 : decode jdk_38_method_2_code 1 = .ok (.invokespecial 1, 3) := by decide +kernel
theorem own_d_jdk_38_method_2_code_62 : decode jdk_38_method_2_code 4 = .ok (.aload_n 0, 1) := by decide +kernel
theorem own_d_jdk_38_method_2_code_63 : decode jdk_38_method_2_code 5 = .ok (.getstatic 39, 3) := by decide +kernel
theorem own_d_jdk_38_method_2_code_64 : decode jdk_38_method_2_code 8 = .ok (.putfield 9, 3) := by decide +kernel
theorem own_d_jdk_38_method_2_code_65 : decode jdk_38_method_2_code 11 = .ok (.return_, 1) := by decide +kernel
theorem own_pn66 : plainName "java/util/ArrayList" = true := by first | (simp [plainName, overriddenIn]; done) | decide +kernel
set_option maxRecDepth 65536 in
set_option maxHeartbeats 40000000 in
theorem ctLI (l : Launch) (Z : State) (a0 : Array Value) (hw : ∀ d ∈ tables_1, d.before a0 Z = true) (d df : Addr) (u1 u2 : Value) (h : Heap) (O : Old Z Z.heap.size h) (D : own_df Z df) (E : Exa Z h d "java/util/ArrayList") (F1 : Fld Z h d "java/util/AbstractList" "modCount" "I" u1) (F2 : Fld Z h d "java/util/ArrayList" "elementData" "[Ljava/lang/Object;" u2) (F3 : Fld Z h d "java/util/ArrayList" "size" "I" (.int 0)) (ga : Z.heap.size ≤ d) :
    Ct 0 l Z [] [] (⟨"java/util/ArrayList", "<init>", "()V"⟩ : MethodName) jdk_38_method_2_code 1 none ({ frames := 3, cells := 0, slots := 0, locals := 36 } : Room) #[(.ref d)] h (fun v h' => v = none ∧ own_al Z h' d df 0 ∧ Keep h h' [d]) := by
  refine Ct.intro (plainFor_of_name own_pn66) O (fun _ => rfl) ⟨a0, EW.nil⟩ ?_
  intro p e s m below meth c T0 hx hby hml hret hnm hlk hsf S0
  refine Goes.cast (own_ef43 m d) ?_
  refine g_aloadN S0.here hx (hb hby own_d_jdk_38_method_2_code_60) rfl rfl 1 rfl ?_
  refine S0.callI hx (W := 0) (a := d) rfl (own_q82 hw) (own_q83 hw) (own_q87 hw) (by decide) (own_q86 hw) (ctABL l Z a0 hw d _ h S0.old E F1 ga) nosf (by decide) (by decide) (by rw [hml]; rfl) [] [] (lenOf own_pd54 rfl) rfl rfl (Nat.le_refl _) (hb hby own_d_jdk_38_method_2_code_61) (by decide) (by decide) 4 rfl (fun v15 vm15 T15 h15 S15 Q15 R15 => ?_)
  obtain ⟨rfl, W15⟩ := Q15
  show Goes _ _ _ _ T15 (mkF m 4 #[.val (.ref d)] [])
  have E1 := E.wr W15
  have M1 := F1.same W15
  have L1 := F2.other W15 (Or.inr (slot_ne (Or.inl (own_q99 hw)) (Or.inl (own_q96 hw)) (by decide) (t := .array (.object "java/lang/Object")) (t' := .int) (by decide) (by decide)))
  have Z1 := F3.other W15 (Or.inr (slot_ne (Or.inl (own_q126 hw)) (Or.inl (own_q96 hw)) (by decide) (t := .int) (t' := .int) (by decide) (by decide)))
  have K1 := Keep.of_wr W15
  refine g_aloadN S15.here hx (hb hby own_d_jdk_38_method_2_code_62) rfl rfl 5 rfl ?_
  refine S15.getS hx (host := "") (Or.inl (own_q97 hw)) Via.refl (D.1.ext S15.old.2) (hb hby own_d_jdk_38_method_2_code_63) 8 rfl (fun T16 S16 => ?_)
  refine S16.putF hx (host := "") (Or.inl (own_q98 hw)) Via.refl L1 E1 (Or.inl (own_q99 hw)) (own_q77 hw) (ty := (.array (.object "java/lang/Object"))) (by decide) rfl rfl safe_nil ga (hb hby own_d_jdk_38_method_2_code_64) 11 rfl (fun T17 h17 S17 W17 R17 => ?_)
  have E2 := E1.wr W17
  have M2 := M1.other W17 (Or.inr (slot_ne (Or.inl (own_q96 hw)) (Or.inl (own_q99 hw)) (by decide) (t := .int) (t' := .array (.object "java/lang/Object")) (by decide) (by decide)))
  have L2 := L1.same W17
  have Z2 := Z1.other W17 (Or.inr (slot_ne (Or.inl (own_q126 hw)) (Or.inl (own_q99 hw)) (by decide) (t := .int) (t' := .array (.object "java/lang/Object")) (by decide) (by decide)))
  have K2 := K1.wr W17 (Or.inl (List.mem_singleton.mpr rfl))
  exact S17.vret hx hlk hret (hb hby own_d_jdk_38_method_2_code_65) ⟨rfl, ⟨E2, ⟨_, M2⟩, L2, Z2⟩, K2⟩ (by decide) (by decide)
theorem own_ef67 (m : MethodId) (x0 : Int32) (x1 : Int32) : entryFrame m #[(.int x0), (.int x1)] 2 = mkF m 0 #[.val (.int x0), .val (.int x1)] [] := by first | (simp [entryFrame, mkF, argsToLocals, Value.category]; done) | rfl
theorem own_d_jdk_29_method_65_code_68 : decode jdk_29_method_65_code 0 = .ok (.iload_n 0, 1) := by decide +kernel
theorem own_d_jdk_29_method_65_code_69 : decode jdk_29_method_65_code 1 = .ok (.iload_n 1, 1) := by decide +kernel
theorem own_d_jdk_29_method_65_code_70 : decode jdk_29_method_65_code 2 = .ok (.if_icmp .lt 7, 3) := by decide +kernel
theorem own_d_jdk_29_method_65_code_71 : decode jdk_29_method_65_code 5 = .ok (.iload_n 0, 1) := by decide +kernel
theorem own_d_jdk_29_method_65_code_72 : decode jdk_29_method_65_code 6 = .ok (.goto 4, 3) := by decide +kernel
theorem own_d_jdk_29_method_65_code_73 : decode jdk_29_method_65_code 10 = .ok (.ireturn, 1) := by decide +kernel
set_option maxRecDepth 65536 in
set_option maxHeartbeats 40000000 in
theorem ctMx (l : Launch) (Z : State) (a0 : Array Value) (hw : ∀ d ∈ tables_1, d.before a0 Z = true)  (h : Heap) (O : Old Z Z.heap.size h) :
    Ct 0 l Z [] [] (⟨"java/lang/Math", "max", "(II)I"⟩ : MethodName) jdk_29_method_65_code 2 (some .int) ({ frames := 0, cells := 0, slots := 0, locals := 0 } : Room) #[(.int (10 : Int32)), (.int (1 : Int32))] h (fun v h' => v = some (.int 10) ∧ h = h') := by
  refine Ct.intro (Jvm.Free.JP.mathPlain rfl (by decide +kernel)) O (fun _ => rfl) ⟨a0, EW.nil⟩ ?_
  intro p e s m below meth c T0 hx hby hml hret hnm hlk hsf S0
  refine Goes.cast (own_ef67 m (10 : Int32) (1 : Int32)) ?_
  refine g_iloadN S0.here hx (hb hby own_d_jdk_29_method_65_code_68) rfl 1 rfl ?_
  refine g_iloadN S0.here hx (hb hby own_d_jdk_29_method_65_code_69) rfl 2 rfl ?_
  refine g_icmpF S0.here hx (hb hby own_d_jdk_29_method_65_code_70) 10 1 (by decide) (by decide) (by show ¬ (10 < 1); decide) 5 rfl ?_
  refine g_iloadN S0.here hx (hb hby own_d_jdk_29_method_65_code_71) rfl 6 rfl ?_
  refine g_goto S0.here hx (hb hby own_d_jdk_29_method_65_code_72) 10 (by decide) (by decide) ?_
  exact S0.iret hx hlk hret (Or.inl rfl) rfl (hb hby own_d_jdk_29_method_65_code_73) ⟨rfl, rfl⟩ (by decide) (by decide)
theorem own_ef74 (m : MethodId) (x0 : Addr) (x1 : Int32) : entryFrame m #[(.ref x0), (.int x1)] 4 = mkF m 0 #[.val (.ref x0), .val (.int x1), .unset, .unset] [] := by first | (simp [entryFrame, mkF, argsToLocals, Value.category]; done) | rfl
theorem own_d_jdk_38_method_6_code_75 : decode jdk_38_method_6_code 0 = .ok (.aload_n 0, 1) := by decide +kernel
theorem own_d_jdk_38_method_6_code_76 : decode jdk_38_method_6_code 1 = .ok (.getfield 9, 3) := by decide +kernel
theorem own_d_jdk_38_method_6_code_77 : decode jdk_38_method_6_code 4 = .ok (.arraylength, 1) := by decide +kernel
theorem own_d_jdk_38_method_6_code_78 : decode jdk_38_method_6_code 5 = .ok (.istore_n 2, 1) := by decide +kernel
theorem own_d_jdk_38_method_6_code_79 : decode jdk_38_method_6_code 6 = .ok (.iload_n 2, 1) := by decide +kernel
theorem own_d_jdk_38_method_6_code_80 : decode jdk_38_method_6_code 7 = .ok (.ifCond .gt 13, 3) := by decide +kernel
theorem own_d_jdk_38_method_6_code_81 : decode jdk_38_method_6_code 10 = .ok (.aload_n 0, 1) := by decide +kernel
theorem own_d_jdk_38_method_6_code_82 : decode jdk_38_method_6_code 11 = .ok (.getfield 9, 3) := by decide +kernel
theorem own_d_jdk_38_method_6_code_83 : decode jdk_38_method_6_code 14 = .ok (.getstatic 39, 3) := by decide +kernel
theorem own_d_jdk_38_method_6_code_84 : decode jdk_38_method_6_code 17 = .ok (.if_acmp .eq 28, 3) := by decide +kernel
theorem own_d_jdk_38_method_6_code_85 : decode jdk_38_method_6_code 45 = .ok (.aload_n 0, 1) := by decide +kernel
theorem own_d_jdk_38_method_6_code_86 : decode jdk_38_method_6_code 46 = .ok (.bipush 10, 2) := by decide +kernel
theorem own_d_jdk_38_method_6_code_87 : decode jdk_38_method_6_code 48 = .ok (.iload_n 1, 1) := by decide +kernel
theorem own_d_jdk_38_method_6_code_88 : decode jdk_38_method_6_code 49 = .ok (.invokestatic 79, 3) := by decide +kernel
theorem own_pd89 : parseMethodDescriptor "(II)I" = some ⟨[.int, .int], some .int⟩ := by decide +kernel
theorem own_d_jdk_38_method_6_code_90 : decode jdk_38_method_6_code 52 = .ok (.anewarray 7, 3) := by decide +kernel
theorem own_d_jdk_38_method_6_code_91 : decode jdk_38_method_6_code 55 = .ok (.dup_x1, 1) := by decide +kernel
theorem own_d_jdk_38_method_6_code_92 : decode jdk_38_method_6_code 56 = .ok (.putfield 9, 3) := by decide +kernel
theorem own_d_jdk_38_method_6_code_93 : decode jdk_38_method_6_code 59 = .ok (.areturn, 1) := by decide +kernel
set_option maxRecDepth 65536 in
set_option maxHeartbeats 40000000 in
theorem ctG1 (l : Launch) (Z : State) (a0 : Array Value) (hw : ∀ d ∈ tables_1, d.before a0 Z = true) (d df : Addr) (h : Heap) (O : Old Z Z.heap.size h) (D : own_df Z df) (A : own_al Z h d df 0) (ga : Z.heap.size ≤ d) :
    Ct 0 l Z [] [] (⟨"java/util/ArrayList", "grow", "(I)[Ljava/lang/Object;"⟩ : MethodName) jdk_38_method_6_code 4 (some (.array (.object "java/lang/Object"))) ({ frames := 1, cells := 1, slots := 10, locals := 14 } : Room) #[(.ref d), (.int (1 : Int32))] h (fun v h' => ∃ (b : Addr), v = some (.ref b) ∧ own_al Z h' d b 0 ∧ (∃ k, Arv Z h' b k (.object "java/lang/Object") (10 : Int32) (List.replicate 10 .null) .null ∧ Ovr Z k "java/lang/Object") ∧ Keep h h' [d] ∧ h.size ≤ b) := by
  refine Ct.intro (plainFor_of_name own_pn66) O (fun _ => rfl) ⟨a0, EW.nil⟩ ?_
  intro p e s m below meth c T0 hx hby hml hret hnm hlk hsf S0
  refine Goes.cast (own_ef74 m d (1 : Int32)) ?_
  obtain ⟨a1, ⟨mc, a2⟩, a3, a4⟩ := A
  obtain ⟨D1, kd, D2⟩ := D
  refine g_aloadN S0.here hx (hb hby own_d_jdk_38_method_6_code_75) rfl rfl 1 rfl ?_
  refine S0.getF hx (host := "") (Or.inl (own_q98 hw)) Via.refl a3 (hb hby own_d_jdk_38_method_6_code_76) 4 rfl (fun T18 S18 => ?_)
  refine S18.len hx (D2.ext S18.old.2) (hb hby own_d_jdk_38_method_6_code_77) 5 rfl ?_
  refine g_istoreN S18.here hx (hb hby own_d_jdk_38_method_6_code_78) #[.val (.ref d), .val (.int (1 : Int32)), .val (.int (0 : Int32)), .unset] rfl 6 rfl ?_
  refine g_iloadN S18.here hx (hb hby own_d_jdk_38_method_6_code_79) rfl 7 rfl ?_
  refine g_ifF S18.here hx (hb hby own_d_jdk_38_method_6_code_80) 0 (by decide) (by show ¬ (0 < 0); decide) 10 rfl ?_
  refine g_aloadN S18.here hx (hb hby own_d_jdk_38_method_6_code_81) rfl rfl 11 rfl ?_
  refine S18.getF hx (host := "") (Or.inl (own_q98 hw)) Via.refl a3 (hb hby own_d_jdk_38_method_6_code_82) 14 rfl (fun T19 S19 => ?_)
  refine S19.getS hx (host := "") (Or.inl (own_q97 hw)) Via.refl (D1.ext S19.old.2) (hb hby own_d_jdk_38_method_6_code_83) 17 rfl (fun T20 S20 => ?_)
  refine S20.acmp hx (hb hby own_d_jdk_38_method_6_code_84) rfl rfl true (decide_eq_true rfl) (by decide) 45 (by decide) ?_
  refine g_aloadN S20.here hx (hb hby own_d_jdk_38_method_6_code_85) rfl rfl 46 rfl ?_
  refine g_bipush S20.here hx (hb hby own_d_jdk_38_method_6_code_86) (10 : Int32) (by decide) 48 rfl ?_
  refine g_iloadN S20.here hx (hb hby own_d_jdk_38_method_6_code_87) rfl 49 rfl ?_
  refine S20.callS hx (W := 1) (own_q149 hw) (own_q150 hw) (own_q151 hw) (own_q152 hw) (by decide) (ctMx l Z a0 hw h S20.old) nosf (by decide) (by decide) (by rw [hml]; rfl) [(.int (10 : Int32)), (.int (1 : Int32))] [(.ref d)] (lenOf own_pd89 rfl) rfl rfl (Nat.le_refl _) (hb hby own_d_jdk_38_method_6_code_88) (by decide) (by decide) 52 rfl (fun v21 vm21 T21 h21 S21 Q21 R21 => ?_)
  obtain ⟨rfl, rfl⟩ := Q21
  show Goes _ _ _ _ T21 (mkF m 52 #[.val (.ref d), .val (.int (1 : Int32)), .val (.int (0 : Int32)), .unset] [(.int (10 : Int32)), (.ref d)])
  refine S21.newR hx (own_q153 hw) (own_q154 hw) (n := (10 : Int32)) (by decide) (cap := 10) (by decide) (by decide) (hb hby own_d_jdk_38_method_6_code_90) (by decide) (by decide) 55 rfl (fun T22 h22 b k22 S22 g22 E22 V22 O22 R22 => ?_)
  have b1 := a1.ext E22
  have b2 := a2.ext E22
  have b3 := a3.ext E22
  have b4 := a4.ext E22
  have K1 := (Keep.refl h [d]).ext E22
  refine g_dup_x1 S22.here hx (hb hby own_d_jdk_38_method_6_code_91) rfl rfl 56 rfl ?_
  refine S22.putF hx (host := "") (Or.inl (own_q98 hw)) Via.refl b3 b1 (Or.inl (own_q99 hw)) (own_q77 hw) (ty := (.array (.object "java/lang/Object"))) (by decide) rfl rfl safe_nil ga (hb hby own_d_jdk_38_method_6_code_92) 59 rfl (fun T23 h23 S23 W23 R23 => ?_)
  have c1 := b1.wr W23
  have c2 := b2.other W23 (Or.inr (slot_ne (Or.inl (own_q96 hw)) (Or.inl (own_q99 hw)) (by decide) (t := .int) (t' := .array (.object "java/lang/Object")) (by decide) (by decide)))
  have c3 := b3.same W23
  have c4 := b4.other W23 (Or.inr (slot_ne (Or.inl (own_q126 hw)) (Or.inl (own_q99 hw)) (by decide) (t := .int) (t' := .array (.object "java/lang/Object")) (by decide) (by decide)))
  have V2 := V22.other W23 (Ne.symm (b1.neArv V22 (own_q77 hw)))
  have K2 := K1.wr W23 (Or.inl (List.mem_singleton.mpr rfl))
  exact S23.aret hx hlk hret rfl rfl rfl (hb hby own_d_jdk_38_method_6_code_93) ⟨_, rfl, ⟨c1, ⟨_, c2⟩, c3, c4⟩, ⟨_, V2, O22⟩, K2, Nat.le_of_eq g22.symm⟩ (by decide) (by decide)
theorem own_d_jdk_38_method_7_code_94 : decode jdk_38_method_7_code 0 = .ok (.aload_n 0, 1) := by decide +kernel
theorem own_d_jdk_38_method_7_code_95 : decode jdk_38_method_7_code 1 = .ok (.aload_n 0, 1) := by decide +kernel
theorem own_d_jdk_38_method_7_code_96 : decode jdk_38_method_7_code 2 = .ok (.getfield 48, 3) := by decide +kernel
theorem own_d_jdk_38_method_7_code_97 : decode jdk_38_method_7_code 5 = .ok (.iconst 1, 1) := by decide +kernel
theorem own_d_jdk_38_method_7_code_98 : decode jdk_38_method_7_code 6 = .ok (.iadd, 1) := by decide +kernel
theorem own_d_jdk_38_method_7_code_99 : decode jdk_38_method_7_code 7 = .ok (.invokevirtual 69, 3) := by decide +kernel
theorem own_pd100 : parseMethodDescriptor "(I)[Ljava/lang/Object;" = some ⟨[.int], some (.array (.object "java/lang/Object"))⟩ := by decide +kernel
theorem own_d_jdk_38_method_7_code_101 : decode jdk_38_method_7_code 10 = .ok (.areturn, 1) := by decide +kernel
set_option maxRecDepth 65536 in
set_option maxHeartbeats 40000000 in
theorem ctG0 (l : Launch) (Z : State) (a0 : Array Value) (hw : ∀ d ∈ tables_1, d.before a0 Z = true) (d df : Addr) (h : Heap) (O : Old Z Z.heap.size h) (D : own_df Z df) (A : own_al Z h d df 0) (ga : Z.heap.size ≤ d) :
    Ct 0 l Z [] [] (⟨"java/util/ArrayList", "grow", "()[Ljava/lang/Object;"⟩ : MethodName) jdk_38_method_7_code 1 (some (.array (.object "java/lang/Object"))) ({ frames := 2, cells := 1, slots := 10, locals := 29 } : Room) #[(.ref d)] h (fun v h' => ∃ (b : Addr), v = some (.ref b) ∧ own_al Z h' d b 0 ∧ (∃ k, Arv Z h' b k (.object "java/lang/Object") (10 : Int32) (List.replicate 10 .null) .null ∧ Ovr Z k "java/lang/Object") ∧ Keep h h' [d] ∧ h.size ≤ b) := by
  refine Ct.intro (plainFor_of_name own_pn66) O (fun _ => rfl) ⟨a0, EW.nil⟩ ?_
  intro p e s m below meth c T0 hx hby hml hret hnm hlk hsf S0
  refine Goes.cast (own_ef43 m d) ?_
  refine g_aloadN S0.here hx (hb hby own_d_jdk_38_method_7_code_94) rfl rfl 1 rfl ?_
  refine g_aloadN S0.here hx (hb hby own_d_jdk_38_method_7_code_95) rfl rfl 2 rfl ?_
  refine S0.getF hx (host := "") (Or.inl (own_q125 hw)) Via.refl A.2.2.2 (hb hby own_d_jdk_38_method_7_code_96) 5 rfl (fun T24 S24 => ?_)
  refine g_iconst S24.here hx (hb hby own_d_jdk_38_method_7_code_97) (1 : Int32) (by decide) 6 rfl ?_
  refine g_iadd S24.here hx (hb hby own_d_jdk_38_method_7_code_98) 7 rfl ?_
  rw [show (0 : Int32) + (1 : Int32) = 1 from by decide]
  refine S24.callP hx (W := 0) (own_q144 hw) (own_q145 hw) (own_q147 hw) (own_q146 hw) (own_q148 hw) (by decide) A.1 (own_q78 hw) (ctG1 l Z a0 hw d df h S24.old D A ga) nosf (by decide) (by decide) (by rw [hml]; rfl) [(.int (1 : Int32))] [] (lenOf own_pd100 rfl) rfl rfl (Nat.le_refl _) (hb hby own_d_jdk_38_method_7_code_99) (by decide) (by decide) 10 rfl (fun v25 vm25 T25 h25 S25 Q25 R25 => ?_)
  obtain ⟨b, rfl, q1, q2, q3, q4⟩ := Q25
  show Goes _ _ _ _ T25 (mkF m 10 #[.val (.ref d)] [(.ref b)])
  exact S25.aret hx hlk hret rfl rfl rfl (hb hby own_d_jdk_38_method_7_code_101) ⟨_, rfl, q1, q2, q3, q4⟩ (by decide) (by decide)
theorem own_set0 {vs : List Value} {n : Int32} {v p : Value} (hn : 1 ≤ n.toInt ∧ n.toInt ≤ 5) (h : vs.getD 0 .null = p) : (vs.set n.toNatClampNeg v).getD 0 .null = p := by
  have q : n.toNatClampNeg ≠ 0 := by simp only [Int32.toNatClampNeg]; omega
  rw [List.getD_eq_getElem?_getD, List.getElem?_set_ne q, ← List.getD_eq_getElem?_getD]; exact h
theorem own_ef102 (m : MethodId) (x0 : Addr) (x1 : Addr) (x2 : Addr) (x3 : Int32) : entryFrame m #[(.ref x0), (.ref x1), (.ref x2), (.int x3)] 4 = mkF m 0 #[.val (.ref x0), .val (.ref x1), .val (.ref x2), .val (.int x3)] [] := by first | (simp [entryFrame, mkF, argsToLocals, Value.category]; done) | rfl
theorem own_d_jdk_38_method_24_code_103 : decode jdk_38_method_24_code 0 = .ok (.iload_n 3, 1) := by decide +kernel
theorem own_d_jdk_38_method_24_code_104 : decode jdk_38_method_24_code 1 = .ok (.aload_n 2, 1) := by decide +kernel
theorem own_d_jdk_38_method_24_code_105 : decode jdk_38_method_24_code 2 = .ok (.arraylength, 1) := by decide +kernel
theorem own_d_jdk_38_method_24_code_106 : decode jdk_38_method_24_code 3 = .ok (.if_icmp .ne 8, 3) := by decide +kernel
theorem own_d_jdk_38_method_24_code_107 : decode jdk_38_method_24_code 6 = .ok (.aload_n 0, 1) := by decide +kernel
theorem own_d_jdk_38_method_24_code_108 : decode jdk_38_method_24_code 7 = .ok (.invokevirtual 129, 3) := by decide +kernel
theorem own_pd109 : parseMethodDescriptor "()[Ljava/lang/Object;" = some ⟨[], some (.array (.object "java/lang/Object"))⟩ := by decide +kernel
theorem own_d_jdk_38_method_24_code_110 : decode jdk_38_method_24_code 10 = .ok (.astore_n 2, 1) := by decide +kernel
theorem own_d_jdk_38_method_24_code_111 : decode jdk_38_method_24_code 11 = .ok (.aload_n 2, 1) := by decide +kernel
theorem own_d_jdk_38_method_24_code_112 : decode jdk_38_method_24_code 12 = .ok (.iload_n 3, 1) := by decide +kernel
theorem own_d_jdk_38_method_24_code_113 : decode jdk_38_method_24_code 13 = .ok (.aload_n 1, 1) := by decide +kernel
theorem own_d_jdk_38_method_24_code_114 : decode jdk_38_method_24_code 14 = .ok (.aastore, 1) := by decide +kernel
theorem own_d_jdk_38_method_24_code_115 : decode jdk_38_method_24_code 15 = .ok (.aload_n 0, 1) := by decide +kernel
theorem own_d_jdk_38_method_24_code_116 : decode jdk_38_method_24_code 16 = .ok (.iload_n 3, 1) := by decide +kernel
theorem own_d_jdk_38_method_24_code_117 : decode jdk_38_method_24_code 17 = .ok (.iconst 1, 1) := by decide +kernel
theorem own_d_jdk_38_method_24_code_118 : decode jdk_38_method_24_code 18 = .ok (.iadd, 1) := by decide +kernel
theorem own_d_jdk_38_method_24_code_119 : decode jdk_38_method_24_code 19 = .ok (.putfield 48, 3) := by decide +kernel
theorem own_d_jdk_38_method_24_code_120 : decode jdk_38_method_24_code 22 = .ok (.return_, 1) := by decide +kernel
set_option maxRecDepth 65536 in
set_option maxHeartbeats 40000000 in
theorem ctA3e (l : Launch) (Z : State) (a0 : Array Value) (hw : ∀ d ∈ tables_1, d.before a0 Z = true) (d e1 df : Addr) (h : Heap) (O : Old Z Z.heap.size h) (D : own_df Z df) (A : own_al Z h d df 0) (ga : Z.heap.size ≤ d) (P : Exa Z h e1 "com/example/farecraft/farecraft/PassPrice") :
    Ct 0 l Z [] [] (⟨"java/util/ArrayList", "add", "(Ljava/lang/Object;[Ljava/lang/Object;I)V"⟩ : MethodName) jdk_38_method_24_code 4 none ({ frames := 3, cells := 1, slots := 10, locals := 41 } : Room) #[(.ref d), (.ref e1), (.ref df), (.int (0 : Int32))] h (fun v h' => v = none ∧ (∃ b : Addr, own_al Z h' d b 1 ∧ own_ten Z h' b (.ref e1) ∧ h.size ≤ b) ∧ Keep h h' [d]) := by
  refine Ct.intro (plainFor_of_name own_pn66) O (fun _ => rfl) ⟨a0, EW.nil⟩ ?_
  intro p e s m below meth c T0 hx hby hml hret hnm hlk hsf S0
  refine Goes.cast (own_ef102 m d e1 df (0 : Int32)) ?_
  refine g_iloadN S0.here hx (hb hby own_d_jdk_38_method_24_code_103) rfl 1 rfl ?_
  refine g_aloadN S0.here hx (hb hby own_d_jdk_38_method_24_code_104) rfl rfl 2 rfl ?_
  obtain ⟨D1, kd, D2⟩ := D
  refine S0.len hx (D2.ext S0.old.2) (hb hby own_d_jdk_38_method_24_code_105) 3 rfl ?_
  refine g_icmpF S0.here hx (hb hby own_d_jdk_38_method_24_code_106) 0 0 (by decide) (by decide) (by show ¬ (¬ 0 = 0); decide) 6 rfl ?_
  refine g_aloadN S0.here hx (hb hby own_d_jdk_38_method_24_code_107) rfl rfl 7 rfl ?_
  refine S0.callP hx (W := 0) (own_q139 hw) (own_q140 hw) (own_q142 hw) (own_q141 hw) (own_q143 hw) (by decide) A.1 (own_q78 hw) (ctG0 l Z a0 hw d df h S0.old ⟨D1, kd, D2⟩ A ga) nosf (by decide) (by decide) (by rw [hml]; rfl) [] [] (lenOf own_pd109 rfl) rfl rfl (Nat.le_refl _) (hb hby own_d_jdk_38_method_24_code_108) (by decide) (by decide) 10 rfl (fun v26 vm26 T26 h26 S26 Q26 R26 => ?_)
  obtain ⟨b, rfl, A, ⟨kt, t1, t4⟩, K1, gb⟩ := Q26
  show Goes _ _ _ _ T26 (mkF m 10 #[.val (.ref d), .val (.ref e1), .val (.ref df), .val (.int (0 : Int32))] [(.ref b)])
  have gz : Z.heap.size ≤ b := Nat.le_trans O.2.1 gb
  have P := P.keep K1
  refine g_astoreN S26.here hx (hb hby own_d_jdk_38_method_24_code_110) rfl #[.val (.ref d), .val (.ref e1), .val (.ref b), .val (.int (0 : Int32))] rfl 11 rfl ?_
  refine g_aloadN S26.here hx (hb hby own_d_jdk_38_method_24_code_111) rfl rfl 12 rfl ?_
  refine g_iloadN S26.here hx (hb hby own_d_jdk_38_method_24_code_112) rfl 13 rfl ?_
  refine g_aloadN S26.here hx (hb hby own_d_jdk_38_method_24_code_113) rfl rfl 14 rfl ?_
  have dn := A.1.neArv t1 (own_q77 hw)
  have st : Sto Z h26 b (.ref e1) := by obtain ⟨cl, q1, q2, -⟩ := t1; exact Sto.ofV q1 q2 t4 (Ins.of_exa P (own_q155 hw))
  refine S26.stR hx t1 rfl rfl 0 ⟨by decide, by decide⟩ (by decide) (by decide) gz st safe_nil (hb hby own_d_jdk_38_method_24_code_114) 15 rfl (fun T27 h27 S27 W27 V27 R27 => ?_)
  obtain ⟨a1, ⟨mc, a2⟩, a3, a4⟩ := A.wr W27 dn
  have K2 := K1.trans (Keep.of_wr W27) (fun x hx => by cases List.mem_singleton.mp hx; exact Or.inr gb)
  refine g_aloadN S27.here hx (hb hby own_d_jdk_38_method_24_code_115) rfl rfl 16 rfl ?_
  refine g_iloadN S27.here hx (hb hby own_d_jdk_38_method_24_code_116) rfl 17 rfl ?_
  refine g_iconst S27.here hx (hb hby own_d_jdk_38_method_24_code_117) (1 : Int32) (by decide) 18 rfl ?_
  refine g_iadd S27.here hx (hb hby own_d_jdk_38_method_24_code_118) 19 rfl ?_
  refine S27.putF hx (host := "") (Or.inl (own_q125 hw)) Via.refl a4 a1 (Or.inl (own_q126 hw)) (own_q77 hw) (ty := .int) (by decide) rfl rfl safe_nil ga (hb hby own_d_jdk_38_method_24_code_119) 22 rfl (fun T28 h28 S28 W28 R28 => ?_)
  have c1 := a1.wr W28
  have c2 := a2.other W28 (Or.inr (slot_ne (Or.inl (own_q96 hw)) (Or.inl (own_q126 hw)) (by decide) (t := .int) (t' := .int) (by decide) (by decide)))
  have c3 := a3.other W28 (Or.inr (slot_ne (Or.inl (own_q99 hw)) (Or.inl (own_q126 hw)) (by decide) (t := .array (.object "java/lang/Object")) (t' := .int) (by decide) (by decide)))
  have c4 := a4.same W28
  have V2 := V27.other W28 (Ne.symm dn)
  have K3 := K2.wr W28 (Or.inl (List.mem_cons_self ..))
  exact S28.vret hx hlk hret (hb hby own_d_jdk_38_method_24_code_120) ⟨rfl, ⟨b, ⟨c1, ⟨_, c2⟩, c3, by rw [show (1 : Int32) = (0 : Int32) + (1 : Int32) from by decide]; exact c4⟩, ⟨_, _, V2, rfl, rfl, t4⟩, gb⟩, K3⟩ (by decide) (by decide)
set_option maxRecDepth 65536 in
set_option maxHeartbeats 40000000 in
theorem ctA3n (l : Launch) (Z : State) (a0 : Array Value) (hw : ∀ d ∈ tables_1, d.before a0 Z = true) (d e1 b : Addr) (n : Int32) (pp : Value) (h : Heap) (O : Old Z Z.heap.size h) (A : own_al Z h d b n) (hn : 1 ≤ n.toInt ∧ n.toInt ≤ 5) (T : own_ten Z h b pp) (ga : Z.heap.size ≤ d) (gz : Z.heap.size ≤ b) (P : Exa Z h e1 "com/example/farecraft/farecraft/PassPrice") :
    Ct 0 l Z [] [] (⟨"java/util/ArrayList", "add", "(Ljava/lang/Object;[Ljava/lang/Object;I)V"⟩ : MethodName) jdk_38_method_24_code 4 none ({ frames := 0, cells := 0, slots := 0, locals := 0 } : Room) #[(.ref d), (.ref e1), (.ref b), (.int n)] h (fun v h' => v = none ∧ own_al Z h' d b (n + 1) ∧ own_ten Z h' b pp ∧ Keep h h' [d, b]) := by
  refine Ct.intro (plainFor_of_name own_pn66) O (fun _ => rfl) ⟨a0, EW.nil⟩ ?_
  intro p e s m below meth c T0 hx hby hml hret hnm hlk hsf S0
  refine Goes.cast (own_ef102 m d e1 b n) ?_
  refine g_iloadN S0.here hx (hb hby own_d_jdk_38_method_24_code_103) rfl 1 rfl ?_
  refine g_aloadN S0.here hx (hb hby own_d_jdk_38_method_24_code_104) rfl rfl 2 rfl ?_
  obtain ⟨kt, vs, t1, t2, t3, t4⟩ := T
  refine S0.len hx t1 (hb hby own_d_jdk_38_method_24_code_105) 3 rfl ?_
  refine g_icmpT S0.here hx (hb hby own_d_jdk_38_method_24_code_106) n.toInt 10 rfl (by decide) (show ¬ n.toInt = 10 from fun q => by omega) 11 (by decide) (by decide) ?_
  refine g_aloadN S0.here hx (hb hby own_d_jdk_38_method_24_code_111) rfl rfl 12 rfl ?_
  refine g_iloadN S0.here hx (hb hby own_d_jdk_38_method_24_code_112) rfl 13 rfl ?_
  refine g_aloadN S0.here hx (hb hby own_d_jdk_38_method_24_code_113) rfl rfl 14 rfl ?_
  have dn := A.1.neArv t1 (own_q77 hw)
  have st : Sto Z h b (.ref e1) := by obtain ⟨cl, q1, q2, -⟩ := t1; exact Sto.ofV q1 q2 t4 (Ins.of_exa P (own_q155 hw))
  refine S0.stR hx t1 rfl rfl n.toNatClampNeg ⟨by rw [Int32.lt_iff_toInt_lt]; have e0 : (0 : Int32).toInt = 0 := (by decide); omega, by rw [Int32.lt_iff_toInt_lt]; have e0 : (10 : Int32).toInt = 10 := (by decide); omega⟩ rfl (by rw [t2]; simp only [Int32.toNatClampNeg]; omega) gz st safe_nil (hb hby own_d_jdk_38_method_24_code_114) 15 rfl (fun T29 h29 S29 W29 V29 R29 => ?_)
  obtain ⟨a1, ⟨mc, a2⟩, a3, a4⟩ := A.wr W29 dn
  have K2 : Keep h h29 [d, b] := (Keep.refl h [d, b]).wr W29 (Or.inl (List.mem_cons_of_mem _ (List.mem_singleton.mpr rfl)))
  refine g_aloadN S29.here hx (hb hby own_d_jdk_38_method_24_code_115) rfl rfl 16 rfl ?_
  refine g_iloadN S29.here hx (hb hby own_d_jdk_38_method_24_code_116) rfl 17 rfl ?_
  refine g_iconst S29.here hx (hb hby own_d_jdk_38_method_24_code_117) (1 : Int32) (by decide) 18 rfl ?_
  refine g_iadd S29.here hx (hb hby own_d_jdk_38_method_24_code_118) 19 rfl ?_
  refine S29.putF hx (host := "") (Or.inl (own_q125 hw)) Via.refl a4 a1 (Or.inl (own_q126 hw)) (own_q77 hw) (ty := .int) (by decide) rfl rfl safe_nil ga (hb hby own_d_jdk_38_method_24_code_119) 22 rfl (fun T30 h30 S30 W30 R30 => ?_)
  have c1 := a1.wr W30
  have c2 := a2.other W30 (Or.inr (slot_ne (Or.inl (own_q96 hw)) (Or.inl (own_q126 hw)) (by decide) (t := .int) (t' := .int) (by decide) (by decide)))
  have c3 := a3.other W30 (Or.inr (slot_ne (Or.inl (own_q99 hw)) (Or.inl (own_q126 hw)) (by decide) (t := .array (.object "java/lang/Object")) (t' := .int) (by decide) (by decide)))
  have c4 := a4.same W30
  have V2 := V29.other W30 (Ne.symm dn)
  have K3 := K2.wr W30 (Or.inl (List.mem_cons_self ..))
  exact S30.vret hx hlk hret (hb hby own_d_jdk_38_method_24_code_120) ⟨rfl, ⟨c1, ⟨_, c2⟩, c3, c4⟩, ⟨_, _, V2, by rw [List.length_set]; exact t2, own_set0 hn t3, t4⟩, K3⟩ (by decide) (by decide)
theorem own_ef121 (m : MethodId) (x0 : Addr) (x1 : Addr) : entryFrame m #[(.ref x0), (.ref x1)] 2 = mkF m 0 #[.val (.ref x0), .val (.ref x1)] [] := by first | (simp [entryFrame, mkF, argsToLocals, Value.category]; done) | rfl
theorem own_d_jdk_38_method_25_code_122 : decode jdk_38_method_25_code 0 = .ok (.aload_n 0, 1) := by decide +kernel
theorem own_d_jdk_38_method_25_code_123 : decode jdk_38_method_25_code 1 = .ok (.dup, 1) := by decide +kernel
theorem own_d_jdk_38_method_25_code_124 : decode jdk_38_method_25_code 2 = .ok (.getfield 63, 3) := by decide +kernel
theorem own_d_jdk_38_method_25_code_125 : decode jdk_38_method_25_code 5 = .ok (.iconst 1, 1) := by decide +kernel
theorem own_d_jdk_38_method_25_code_126 : decode jdk_38_method_25_code 6 = .ok (.iadd, 1) := by decide +kernel
theorem own_d_jdk_38_method_25_code_127 : decode jdk_38_method_25_code 7 = .ok (.putfield 63, 3) := by decide +kernel
theorem own_d_jdk_38_method_25_code_128 : decode jdk_38_method_25_code 10 = .ok (.aload_n 0, 1) := by decide +kernel
theorem own_d_jdk_38_method_25_code_129 : decode jdk_38_method_25_code 11 = .ok (.aload_n 1, 1) := by decide +kernel
theorem own_d_jdk_38_method_25_code_130 : decode jdk_38_method_25_code 12 = .ok (.aload_n 0, 1) := by decide +kernel
theorem own_d_jdk_38_method_25_code_131 : decode jdk_38_method_25_code 13 = .ok (.getfield 9, 3) := by decide +kernel
theorem own_d_jdk_38_method_25_code_132 : decode jdk_38_method_25_code 16 = .ok (.aload_n 0, 1) := by decide +kernel
theorem own_d_jdk_38_method_25_code_133 : decode jdk_38_method_25_code 17 = .ok (.getfield 48, 3) := by decide +kernel
theorem own_d_jdk_38_method_25_code_134 : decode jdk_38_method_25_code 20 = .ok (.invokevirtual 131, 3) := by decide +kernel
theorem own_pd135 : parseMethodDescriptor "(Ljava/lang/Object;[Ljava/lang/Object;I)V" = some ⟨[(.object "java/lang/Object"), (.array (.object "java/lang/Object")), .int], none⟩ := by decide +kernel
theorem own_d_jdk_38_method_25_code_136 : decode jdk_38_method_25_code 23 = .ok (.iconst 1, 1) := by decide +kernel
theorem own_d_jdk_38_method_25_code_137 : decode jdk_38_method_25_code 24 = .ok (.ireturn, 1) := by decide +kernel
set_option maxRecDepth 65536 in
set_option maxHeartbeats 40000000 in
theorem ctA1e (l : Launch) (Z : State) (a0 : Array Value) (hw : ∀ d ∈ tables_1, d.before a0 Z = true) (d e1 df : Addr) (h : Heap) (O : Old Z Z.heap.size h) (D : own_df Z df) (A : own_al Z h d df 0) (ga : Z.heap.size ≤ d) (P : Exa Z h e1 "com/example/farecraft/farecraft/PassPrice") :
    Ct 0 l Z [] [] (⟨"java/util/ArrayList", "add", "(Ljava/lang/Object;)Z"⟩ : MethodName) jdk_38_method_25_code 2 (some .boolean) ({ frames := 4, cells := 1, slots := 10, locals := 56 } : Room) #[(.ref d), (.ref e1)] h (fun v h' => v = some (.int 1) ∧ (∃ b : Addr, own_al Z h' d b 1 ∧ own_ten Z h' b (.ref e1) ∧ h.size ≤ b) ∧ Keep h h' [d]) := by
  refine Ct.intro (plainFor_of_name own_pn66) O (fun _ => rfl) ⟨a0, EW.nil⟩ ?_
  intro p e s m below meth c T0 hx hby hml hret hnm hlk hsf S0
  refine Goes.cast (own_ef121 m d e1) ?_
  refine g_aloadN S0.here hx (hb hby own_d_jdk_38_method_25_code_122) rfl rfl 1 rfl ?_
  refine g_dup S0.here hx (hb hby own_d_jdk_38_method_25_code_123) rfl 2 rfl ?_
  obtain ⟨a1, ⟨mc, a2⟩, a3, a4⟩ := A
  refine S0.getF hx (host := "") (Or.inl (own_q132 hw)) (Via.of (own_q133 hw)) a2 (hb hby own_d_jdk_38_method_25_code_124) 5 rfl (fun T31 S31 => ?_)
  refine g_iconst S31.here hx (hb hby own_d_jdk_38_method_25_code_125) (1 : Int32) (by decide) 6 rfl ?_
  refine g_iadd S31.here hx (hb hby own_d_jdk_38_method_25_code_126) 7 rfl ?_
  refine S31.putF hx (host := "") (Or.inl (own_q132 hw)) (Via.of (own_q133 hw)) a2 a1 (Or.inl (own_q96 hw)) (own_q77 hw) (ty := .int) (by decide) rfl rfl safe_nil ga (hb hby own_d_jdk_38_method_25_code_127) 10 rfl (fun T32 h32 S32 W32 R32 => ?_)
  have A : own_al Z h32 d df (0 : Int32) := ⟨a1.wr W32, ⟨_, a2.same W32⟩, a3.other W32 (Or.inr (slot_ne (Or.inl (own_q99 hw)) (Or.inl (own_q96 hw)) (by decide) (t := .array (.object "java/lang/Object")) (t' := .int) (by decide) (by decide))), a4.other W32 (Or.inr (slot_ne (Or.inl (own_q126 hw)) (Or.inl (own_q96 hw)) (by decide) (t := .int) (t' := .int) (by decide) (by decide)))⟩
  have P := P.wr W32
  have K0 := Keep.of_wr W32
  refine g_aloadN S32.here hx (hb hby own_d_jdk_38_method_25_code_128) rfl rfl 11 rfl ?_
  refine g_aloadN S32.here hx (hb hby own_d_jdk_38_method_25_code_129) rfl rfl 12 rfl ?_
  refine g_aloadN S32.here hx (hb hby own_d_jdk_38_method_25_code_130) rfl rfl 13 rfl ?_
  refine S32.getF hx (host := "") (Or.inl (own_q98 hw)) Via.refl A.2.2.1 (hb hby own_d_jdk_38_method_25_code_131) 16 rfl (fun T33 S33 => ?_)
  refine g_aloadN S33.here hx (hb hby own_d_jdk_38_method_25_code_132) rfl rfl 17 rfl ?_
  refine S33.getF hx (host := "") (Or.inl (own_q125 hw)) Via.refl A.2.2.2 (hb hby own_d_jdk_38_method_25_code_133) 20 rfl (fun T34 S34 => ?_)
  refine S34.callP hx (W := 0) (own_q134 hw) (own_q135 hw) (own_q137 hw) (own_q136 hw) (own_q138 hw) (by decide) A.1 (own_q78 hw) (ctA3e l Z a0 hw d e1 df h32 S34.old D A ga P) nosf (by decide) (by decide) (by rw [hml]; rfl) [(.ref e1), (.ref df), (.int (0 : Int32))] [] (lenOf own_pd135 rfl) rfl rfl (Nat.le_refl _) (hb hby own_d_jdk_38_method_25_code_134) (by decide) (by decide) 23 rfl (fun v35 vm35 T35 h35 S35 Q35 R35 => ?_)
  obtain ⟨rfl, ⟨b, q1, q2, q3⟩, K1⟩ := Q35
  show Goes _ _ _ _ T35 (mkF m 23 #[.val (.ref d), .val (.ref e1)] [])
  refine g_iconst S35.here hx (hb hby own_d_jdk_38_method_25_code_136) (1 : Int32) (by decide) 24 rfl ?_
  exact S35.iret hx hlk hret (Or.inr (Or.inl rfl)) rfl (hb hby own_d_jdk_38_method_25_code_137) ⟨rfl, ⟨b, q1, q2, Nat.le_trans K0.1 q3⟩, K0.trans K1 (fun x hx => Or.inl hx)⟩ (by decide) (by decide)
set_option maxRecDepth 65536 in
set_option maxHeartbeats 40000000 in
theorem ctA1n (l : Launch) (Z : State) (a0 : Array Value) (hw : ∀ d ∈ tables_1, d.before a0 Z = true) (d e1 b : Addr) (n : Int32) (pp : Value) (h : Heap) (O : Old Z Z.heap.size h) (A : own_al Z h d b n) (hn : 1 ≤ n.toInt ∧ n.toInt ≤ 5) (T : own_ten Z h b pp) (ga : Z.heap.size ≤ d) (gz : Z.heap.size ≤ b) (P : Exa Z h e1 "com/example/farecraft/farecraft/PassPrice") :
    Ct 0 l Z [] [] (⟨"java/util/ArrayList", "add", "(Ljava/lang/Object;)Z"⟩ : MethodName) jdk_38_method_25_code 2 (some .boolean) ({ frames := 1, cells := 0, slots := 0, locals := 15 } : Room) #[(.ref d), (.ref e1)] h (fun v h' => v = some (.int 1) ∧ own_al Z h' d b (n + 1) ∧ own_ten Z h' b pp ∧ Keep h h' [d, b]) := by
  refine Ct.intro (plainFor_of_name own_pn66) O (fun _ => rfl) ⟨a0, EW.nil⟩ ?_
  intro p e s m below meth c T0 hx hby hml hret hnm hlk hsf S0
  refine Goes.cast (own_ef121 m d e1) ?_
  refine g_aloadN S0.here hx (hb hby own_d_jdk_38_method_25_code_122) rfl rfl 1 rfl ?_
  refine g_dup S0.here hx (hb hby own_d_jdk_38_method_25_code_123) rfl 2 rfl ?_
  obtain ⟨a1, ⟨mc, a2⟩, a3, a4⟩ := A
  refine S0.getF hx (host := "") (Or.inl (own_q132 hw)) (Via.of (own_q133 hw)) a2 (hb hby own_d_jdk_38_method_25_code_124) 5 rfl (fun T36 S36 => ?_)
  refine g_iconst S36.here hx (hb hby own_d_jdk_38_method_25_code_125) (1 : Int32) (by decide) 6 rfl ?_
  refine g_iadd S36.here hx (hb hby own_d_jdk_38_method_25_code_126) 7 rfl ?_
  refine S36.putF hx (host := "") (Or.inl (own_q132 hw)) (Via.of (own_q133 hw)) a2 a1 (Or.inl (own_q96 hw)) (own_q77 hw) (ty := .int) (by decide) rfl rfl safe_nil ga (hb hby own_d_jdk_38_method_25_code_127) 10 rfl (fun T37 h37 S37 W37 R37 => ?_)
  have A : own_al Z h37 d b n := ⟨a1.wr W37, ⟨_, a2.same W37⟩, a3.other W37 (Or.inr (slot_ne (Or.inl (own_q99 hw)) (Or.inl (own_q96 hw)) (by decide) (t := .array (.object "java/lang/Object")) (t' := .int) (by decide) (by decide))), a4.other W37 (Or.inr (slot_ne (Or.inl (own_q126 hw)) (Or.inl (own_q96 hw)) (by decide) (t := .int) (t' := .int) (by decide) (by decide)))⟩
  have P := P.wr W37
  have K0 := Keep.of_wr W37
  have T := T.other W37 (by obtain ⟨kt, vs, t1, -⟩ := T; exact Ne.symm (a1.neArv t1 (own_q77 hw)))
  refine g_aloadN S37.here hx (hb hby own_d_jdk_38_method_25_code_128) rfl rfl 11 rfl ?_
  refine g_aloadN S37.here hx (hb hby own_d_jdk_38_method_25_code_129) rfl rfl 12 rfl ?_
  refine g_aloadN S37.here hx (hb hby own_d_jdk_38_method_25_code_130) rfl rfl 13 rfl ?_
  refine S37.getF hx (host := "") (Or.inl (own_q98 hw)) Via.refl A.2.2.1 (hb hby own_d_jdk_38_method_25_code_131) 16 rfl (fun T38 S38 => ?_)
  refine g_aloadN S38.here hx (hb hby own_d_jdk_38_method_25_code_132) rfl rfl 17 rfl ?_
  refine S38.getF hx (host := "") (Or.inl (own_q125 hw)) Via.refl A.2.2.2 (hb hby own_d_jdk_38_method_25_code_133) 20 rfl (fun T39 S39 => ?_)
  refine S39.callP hx (W := 0) (own_q134 hw) (own_q135 hw) (own_q137 hw) (own_q136 hw) (own_q138 hw) (by decide) A.1 (own_q78 hw) (ctA3n l Z a0 hw d e1 b n pp h37 S39.old A hn T ga gz P) nosf (by decide) (by decide) (by rw [hml]; rfl) [(.ref e1), (.ref b), (.int n)] [] (lenOf own_pd135 rfl) rfl rfl (Nat.le_refl _) (hb hby own_d_jdk_38_method_25_code_134) (by decide) (by decide) 23 rfl (fun v40 vm40 T40 h40 S40 Q40 R40 => ?_)
  obtain ⟨rfl, q1, q2, K1⟩ := Q40
  show Goes _ _ _ _ T40 (mkF m 23 #[.val (.ref d), .val (.ref e1)] [])
  refine g_iconst S40.here hx (hb hby own_d_jdk_38_method_25_code_136) (1 : Int32) (by decide) 24 rfl ?_
  exact S40.iret hx hlk hret (Or.inr (Or.inl rfl)) rfl (hb hby own_d_jdk_38_method_25_code_137) ⟨rfl, q1, q2, ((Keep.refl h [d, b]).trans K0 (fun x hx => Or.inl (List.mem_cons.mpr (Or.inl (List.mem_singleton.mp hx))))).trans K1 (fun x hx => Or.inl hx)⟩ (by decide) (by decide)
theorem own_ef138 (m : MethodId) (x0 : Addr) (x1 : Addr) (x4 : Addr) : entryFrame m #[(.ref x0), (.ref x1), .null, .null, (.ref x4), .null, .null, .null, .null, .null, .null] 11 = mkF m 0 #[.val (.ref x0), .val (.ref x1), .val .null, .val .null, .val (.ref x4), .val .null, .val .null, .val .null, .val .null, .val .null, .val .null] [] := by first | (simp [entryFrame, mkF, argsToLocals, Value.category]; done) | rfl
theorem own_d_prog_73_method_1_code_139 : decode prog_73_method_1_code 0 = .ok (.aload_n 0, 1) := by decide +kernel
theorem own_d_prog_73_method_1_code_140 : decode prog_73_method_1_code 1 = .ok (.invokespecial 1, 3) := by decide +kernel
theorem own_d_prog_73_method_1_code_141 : decode prog_73_method_1_code 4 = .ok (.aload_n 0, 1) := by decide +kernel
theorem own_d_prog_73_method_1_code_142 : decode prog_73_method_1_code 5 = .ok (.aload_n 1, 1) := by decide +kernel
theorem own_d_prog_73_method_1_code_143 : decode prog_73_method_1_code 6 = .ok (.putfield 7, 3) := by decide +kernel
theorem own_d_prog_73_method_1_code_144 : decode prog_73_method_1_code 9 = .ok (.aload_n 0, 1) := by decide +kernel
theorem own_d_prog_73_method_1_code_145 : decode prog_73_method_1_code 10 = .ok (.aload_n 2, 1) := by decide +kernel
theorem own_d_prog_73_method_1_code_146 : decode prog_73_method_1_code 11 = .ok (.putfield 13, 3) := by decide +kernel
theorem own_d_prog_73_method_1_code_147 : decode prog_73_method_1_code 14 = .ok (.aload_n 0, 1) := by decide +kernel
theorem own_d_prog_73_method_1_code_148 : decode prog_73_method_1_code 15 = .ok (.aload_n 3, 1) := by decide +kernel
theorem own_d_prog_73_method_1_code_149 : decode prog_73_method_1_code 16 = .ok (.putfield 16, 3) := by decide +kernel
theorem own_d_prog_73_method_1_code_150 : decode prog_73_method_1_code 19 = .ok (.aload_n 0, 1) := by decide +kernel
theorem own_d_prog_73_method_1_code_151 : decode prog_73_method_1_code 20 = .ok (.aload 4, 2) := by decide +kernel
theorem own_d_prog_73_method_1_code_152 : decode prog_73_method_1_code 22 = .ok (.putfield 19, 3) := by decide +kernel
theorem own_d_prog_73_method_1_code_153 : decode prog_73_method_1_code 25 = .ok (.aload_n 0, 1) := by decide +kernel
theorem own_d_prog_73_method_1_code_154 : decode prog_73_method_1_code 26 = .ok (.aload 5, 2) := by decide +kernel
theorem own_d_prog_73_method_1_code_155 : decode prog_73_method_1_code 28 = .ok (.putfield 22, 3) := by decide +kernel
theorem own_d_prog_73_method_1_code_156 : decode prog_73_method_1_code 31 = .ok (.aload_n 0, 1) := by decide +kernel
theorem own_d_prog_73_method_1_code_157 : decode prog_73_method_1_code 32 = .ok (.aload 6, 2) := by decide +kernel
theorem own_d_prog_73_method_1_code_158 : decode prog_73_method_1_code 34 = .ok (.putfield 25, 3) := by decide +kernel
theorem own_d_prog_73_method_1_code_159 : decode prog_73_method_1_code 37 = .ok (.aload_n 0, 1) := by decide +kernel
theorem own_d_prog_73_method_1_code_160 : decode prog_73_method_1_code 38 = .ok (.aload 7, 2) := by decide +kernel
theorem own_d_prog_73_method_1_code_161 : decode prog_73_method_1_code 40 = .ok (.putfield 28, 3) := by decide +kernel
theorem own_d_prog_73_method_1_code_162 : decode prog_73_method_1_code 43 = .ok (.aload_n 0, 1) := by decide +kernel
theorem own_d_prog_73_method_1_code_163 : decode prog_73_method_1_code 44 = .ok (.aload 8, 2) := by decide +kernel
theorem own_d_prog_73_method_1_code_164 : decode prog_73_method_1_code 46 = .ok (.putfield 31, 3) := by decide +kernel
theorem own_d_prog_73_method_1_code_165 : decode prog_73_method_1_code 49 = .ok (.aload_n 0, 1) := by decide +kernel
theorem own_d_prog_73_method_1_code_166 : decode prog_73_method_1_code 50 = .ok (.aload 9, 2) := by decide +kernel
theorem own_d_prog_73_method_1_code_167 : decode prog_73_method_1_code 52 = .ok (.putfield 34, 3) := by decide +kernel
theorem own_d_prog_73_method_1_code_168 : decode prog_73_method_1_code 55 = .ok (.aload_n 0, 1) := by decide +kernel
theorem own_d_prog_73_method_1_code_169 : decode prog_73_method_1_code 56 = .ok (.aload 10, 2) := by decide +kernel
theorem own_d_prog_73_method_1_code_170 : decode prog_73_method_1_code 58 = .ok (.putfield 38, 3) := by decide +kernel
theorem own_d_prog_73_method_1_code_171 : decode prog_73_method_1_code 61 = .ok (.return_, 1) := by decide +kernel
theorem own_pn172 : plainName "com/example/farecraft/farecraft/PassPrice" = true := by first | (simp [plainName, overriddenIn]; done) | decide +kernel
set_option maxRecDepth 65536 in
set_option maxHeartbeats 40000000 in
theorem ctPP (l : Launch) (Z : State) (a0 : Array Value) (hw : ∀ d ∈ tables_1, d.before a0 Z = true) (d a1 a4 : Addr) (h : Heap) (O : Old Z Z.heap.size h) (E : Exa Z h d "com/example/farecraft/farecraft/PassPrice") (H0 : own_has Z h d "com/example/farecraft/farecraft/PassPrice" "farePrice" "Ljava/lang/String;") (H1 : own_has Z h d "com/example/farecraft/farecraft/PassPrice" "timeInterval" "Ljava/lang/String;") (H2 : own_has Z h d "com/example/farecraft/farecraft/PassPrice" "duration" "Ljava/lang/String;") (H3 : own_has Z h d "com/example/farecraft/farecraft/PassPrice" "zone" "Ljava/lang/String;") (H4 : own_has Z h d "com/example/farecraft/farecraft/PassPrice" "userProfile" "Ljava/lang/String;") (H5 : own_has Z h d "com/example/farecraft/farecraft/PassPrice" "groupTicket" "Ljava/lang/String;") (H6 : own_has Z h d "com/example/farecraft/farecraft/PassPrice" "salesOfferPackage" "Ljava/lang/String;") (H7 : own_has Z h d "com/example/farecraft/farecraft/PassPrice" "fareProduct" "Ljava/lang/String;") (H8 : own_has Z h d "com/example/farecraft/farecraft/PassPrice" "amount" "Ljava/math/BigDecimal;") (H9 : own_has Z h d "com/example/farecraft/farecraft/PassPrice" "currency" "Ljava/lang/String;") (ga : Z.heap.size ≤ d) :
    Ct 0 l Z [] [] (⟨"com/example/farecraft/farecraft/PassPrice", "<init>", "(Ljava/lang/String;Ljava/lang/String;Ljava/lang/String;Ljava/lang/String;Ljava/lang/String;Ljava/lang/String;Ljava/lang/String;Ljava/lang/String;Ljava/math/BigDecimal;Ljava/lang/String;)V"⟩ : MethodName) prog_73_method_1_code 11 none ({ frames := 2, cells := 0, slots := 0, locals := 24 } : Room) #[(.ref d), (.ref a1), .null, .null, (.ref a4), .null, .null, .null, .null, .null, .null] h (fun v h' => v = none ∧ Exa Z h' d "com/example/farecraft/farecraft/PassPrice" ∧ Keep h h' [d]) := by
  refine Ct.intro (plainFor_of_name own_pn172) O (fun _ => rfl) ⟨a0, EW.nil⟩ ?_
  intro p e s m below meth c T0 hx hby hml hret hnm hlk hsf S0
  refine Goes.cast (own_ef138 m d a1 a4) ?_
  refine g_aloadN S0.here hx (hb hby own_d_prog_73_method_1_code_139) rfl rfl 1 rfl ?_
  refine S0.callI hx (W := 0) (a := d) rfl (own_q50 hw) (own_q51 hw) (own_q54 hw) (by decide) (own_q53 hw) (ctRec l Z a0 hw d h S0.old) nosf (by decide) (by decide) (by rw [hml]; rfl) [] [] (lenOf own_pd54 rfl) rfl rfl (Nat.le_refl _) (hb hby own_d_prog_73_method_1_code_140) (by decide) (by decide) 4 rfl (fun v41 vm41 T41 h41 S41 Q41 R41 => ?_)
  obtain ⟨rfl, rfl⟩ := Q41
  show Goes _ _ _ _ T41 (mkF m 4 #[.val (.ref d), .val (.ref a1), .val .null, .val .null, .val (.ref a4), .val .null, .val .null, .val .null, .val .null, .val .null, .val .null] [])
  refine g_aloadN S41.here hx (hb hby own_d_prog_73_method_1_code_141) rfl rfl 5 rfl ?_
  refine g_aloadN S41.here hx (hb hby own_d_prog_73_method_1_code_142) rfl rfl 6 rfl ?_
  obtain ⟨u0, U0⟩ := H0
  refine S41.putF hx (host := "") (Or.inl (own_q56 hw)) Via.refl U0 E (Or.inr ⟨(own_q57 hw), rfl, hnm⟩) (own_q31 hw) (ty := (.object "java/lang/String")) (by decide) rfl rfl safe_nil ga (hb hby own_d_prog_73_method_1_code_143) 9 rfl (fun T42 h42 S42 W42 R42 => ?_)
  have E1 := E.wr W42
  have K1 := Keep.of_wr W42
  have H1 := H1.wr W42
  have H2 := H2.wr W42
  have H3 := H3.wr W42
  have H4 := H4.wr W42
  have H5 := H5.wr W42
  have H6 := H6.wr W42
  have H7 := H7.wr W42
  have H8 := H8.wr W42
  have H9 := H9.wr W42
  refine g_aloadN S42.here hx (hb hby own_d_prog_73_method_1_code_144) rfl rfl 10 rfl ?_
  refine g_aloadN S42.here hx (hb hby own_d_prog_73_method_1_code_145) rfl rfl 11 rfl ?_
  obtain ⟨u1, U1⟩ := H1
  refine S42.putF hx (host := "") (Or.inl (own_q58 hw)) Via.refl U1 E1 (Or.inr ⟨(own_q59 hw), rfl, hnm⟩) (own_q31 hw) (ty := (.object "java/lang/String")) (by decide) rfl rfl safe_nil ga (hb hby own_d_prog_73_method_1_code_146) 14 rfl (fun T43 h43 S43 W43 R43 => ?_)
  have E2 := E1.wr W43
  have K2 := K1.wr W43 (Or.inl (List.mem_singleton.mpr rfl))
  have H2 := H2.wr W43
  have H3 := H3.wr W43
  have H4 := H4.wr W43
  have H5 := H5.wr W43
  have H6 := H6.wr W43
  have H7 := H7.wr W43
  have H8 := H8.wr W43
  have H9 := H9.wr W43
  refine g_aloadN S43.here hx (hb hby own_d_prog_73_method_1_code_147) rfl rfl 15 rfl ?_
  refine g_aloadN S43.here hx (hb hby own_d_prog_73_method_1_code_148) rfl rfl 16 rfl ?_
  obtain ⟨u2, U2⟩ := H2
  refine S43.putF hx (host := "") (Or.inl (own_q60 hw)) Via.refl U2 E2 (Or.inr ⟨(own_q61 hw), rfl, hnm⟩) (own_q31 hw) (ty := (.object "java/lang/String")) (by decide) rfl rfl safe_nil ga (hb hby own_d_prog_73_method_1_code_149) 19 rfl (fun T44 h44 S44 W44 R44 => ?_)
  have E3 := E2.wr W44
  have K3 := K2.wr W44 (Or.inl (List.mem_singleton.mpr rfl))
  have H3 := H3.wr W44
  have H4 := H4.wr W44
  have H5 := H5.wr W44
  have H6 := H6.wr W44
  have H7 := H7.wr W44
  have H8 := H8.wr W44
  have H9 := H9.wr W44
  refine g_aloadN S44.here hx (hb hby own_d_prog_73_method_1_code_150) rfl rfl 20 rfl ?_
  refine g_aload S44.here hx (hb hby own_d_prog_73_method_1_code_151) rfl rfl 22 rfl ?_
  obtain ⟨u3, U3⟩ := H3
  refine S44.putF hx (host := "") (Or.inl (own_q62 hw)) Via.refl U3 E3 (Or.inr ⟨(own_q63 hw), rfl, hnm⟩) (own_q31 hw) (ty := (.object "java/lang/String")) (by decide) rfl rfl safe_nil ga (hb hby own_d_prog_73_method_1_code_152) 25 rfl (fun T45 h45 S45 W45 R45 => ?_)
  have E4 := E3.wr W45
  have K4 := K3.wr W45 (Or.inl (List.mem_singleton.mpr rfl))
  have H4 := H4.wr W45
  have H5 := H5.wr W45
  have H6 := H6.wr W45
  have H7 := H7.wr W45
  have H8 := H8.wr W45
  have H9 := H9.wr W45
  refine g_aloadN S45.here hx (hb hby own_d_prog_73_method_1_code_153) rfl rfl 26 rfl ?_
  refine g_aload S45.here hx (hb hby own_d_prog_73_method_1_code_154) rfl rfl 28 rfl ?_
  obtain ⟨u4, U4⟩ := H4
  refine S45.putF hx (host := "") (Or.inl (own_q64 hw)) Via.refl U4 E4 (Or.inr ⟨(own_q65 hw), rfl, hnm⟩) (own_q31 hw) (ty := (.object "java/lang/String")) (by decide) rfl rfl safe_nil ga (hb hby own_d_prog_73_method_1_code_155) 31 rfl (fun T46 h46 S46 W46 R46 => ?_)
  have E5 := E4.wr W46
  have K5 := K4.wr W46 (Or.inl (List.mem_singleton.mpr rfl))
  have H5 := H5.wr W46
  have H6 := H6.wr W46
  have H7 := H7.wr W46
  have H8 := H8.wr W46
  have H9 := H9.wr W46
  refine g_aloadN S46.here hx (hb hby own_d_prog_73_method_1_code_156) rfl rfl 32 rfl ?_
  refine g_aload S46.here hx (hb hby own_d_prog_73_method_1_code_157) rfl rfl 34 rfl ?_
  obtain ⟨u5, U5⟩ := H5
  refine S46.putF hx (host := "") (Or.inl (own_q66 hw)) Via.refl U5 E5 (Or.inr ⟨(own_q67 hw), rfl, hnm⟩) (own_q31 hw) (ty := (.object "java/lang/String")) (by decide) rfl rfl safe_nil ga (hb hby own_d_prog_73_method_1_code_158) 37 rfl (fun T47 h47 S47 W47 R47 => ?_)
  have E6 := E5.wr W47
  have K6 := K5.wr W47 (Or.inl (List.mem_singleton.mpr rfl))
  have H6 := H6.wr W47
  have H7 := H7.wr W47
  have H8 := H8.wr W47
  have H9 := H9.wr W47
  refine g_aloadN S47.here hx (hb hby own_d_prog_73_method_1_code_159) rfl rfl 38 rfl ?_
  refine g_aload S47.here hx (hb hby own_d_prog_73_method_1_code_160) rfl rfl 40 rfl ?_
  obtain ⟨u6, U6⟩ := H6
  refine S47.putF hx (host := "") (Or.inl (own_q68 hw)) Via.refl U6 E6 (Or.inr ⟨(own_q69 hw), rfl, hnm⟩) (own_q31 hw) (ty := (.object "java/lang/String")) (by decide) rfl rfl safe_nil ga (hb hby own_d_prog_73_method_1_code_161) 43 rfl (fun T48 h48 S48 W48 R48 => ?_)
  have E7 := E6.wr W48
  have K7 := K6.wr W48 (Or.inl (List.mem_singleton.mpr rfl))
  have H7 := H7.wr W48
  have H8 := H8.wr W48
  have H9 := H9.wr W48
  refine g_aloadN S48.here hx (hb hby own_d_prog_73_method_1_code_162) rfl rfl 44 rfl ?_
  refine g_aload S48.here hx (hb hby own_d_prog_73_method_1_code_163) rfl rfl 46 rfl ?_
  obtain ⟨u7, U7⟩ := H7
  refine S48.putF hx (host := "") (Or.inl (own_q70 hw)) Via.refl U7 E7 (Or.inr ⟨(own_q71 hw), rfl, hnm⟩) (own_q31 hw) (ty := (.object "java/lang/String")) (by decide) rfl rfl safe_nil ga (hb hby own_d_prog_73_method_1_code_164) 49 rfl (fun T49 h49 S49 W49 R49 => ?_)
  have E8 := E7.wr W49
  have K8 := K7.wr W49 (Or.inl (List.mem_singleton.mpr rfl))
  have H8 := H8.wr W49
  have H9 := H9.wr W49
  refine g_aloadN S49.here hx (hb hby own_d_prog_73_method_1_code_165) rfl rfl 50 rfl ?_
  refine g_aload S49.here hx (hb hby own_d_prog_73_method_1_code_166) rfl rfl 52 rfl ?_
  obtain ⟨u8, U8⟩ := H8
  refine S49.putF hx (host := "") (Or.inl (own_q72 hw)) Via.refl U8 E8 (Or.inr ⟨(own_q73 hw), rfl, hnm⟩) (own_q31 hw) (ty := (.object "java/math/BigDecimal")) (by decide) rfl rfl safe_nil ga (hb hby own_d_prog_73_method_1_code_167) 55 rfl (fun T50 h50 S50 W50 R50 => ?_)
  have E9 := E8.wr W50
  have K9 := K8.wr W50 (Or.inl (List.mem_singleton.mpr rfl))
  have H9 := H9.wr W50
  refine g_aloadN S50.here hx (hb hby own_d_prog_73_method_1_code_168) rfl rfl 56 rfl ?_
  refine g_aload S50.here hx (hb hby own_d_prog_73_method_1_code_169) rfl rfl 58 rfl ?_
  obtain ⟨u9, U9⟩ := H9
  refine S50.putF hx (host := "") (Or.inl (own_q74 hw)) Via.refl U9 E9 (Or.inr ⟨(own_q75 hw), rfl, hnm⟩) (own_q31 hw) (ty := (.object "java/lang/String")) (by decide) rfl rfl safe_nil ga (hb hby own_d_prog_73_method_1_code_170) 61 rfl (fun T51 h51 S51 W51 R51 => ?_)
  have E10 := E9.wr W51
  have K10 := K9.wr W51 (Or.inl (List.mem_singleton.mpr rfl))
  exact S51.vret hx hlk hret (hb hby own_d_prog_73_method_1_code_171) ⟨rfl, E10, K10⟩ (by decide) (by decide)
theorem own_ef173 (m : MethodId) (x0 : Addr) (x1 : Addr) : entryFrame m #[(.ref x0), (.ref x1), .null] 3 = mkF m 0 #[.val (.ref x0), .val (.ref x1), .val .null] [] := by first | (simp [entryFrame, mkF, argsToLocals, Value.category]; done) | rfl
theorem own_d_prog_77_method_1_code_174 : decode prog_77_method_1_code 0 = .ok (.aload_n 0, 1) := by decide +kernel
theorem own_d_prog_77_method_1_code_175 : decode prog_77_method_1_code 1 = .ok (.invokespecial 1, 3) := by decide +kernel
theorem own_d_prog_77_method_1_code_176 : decode prog_77_method_1_code 4 = .ok (.aload_n 0, 1) := by decide +kernel
theorem own_d_prog_77_method_1_code_177 : decode prog_77_method_1_code 5 = .ok (.aload_n 1, 1) := by decide +kernel
theorem own_d_prog_77_method_1_code_178 : decode prog_77_method_1_code 6 = .ok (.putfield 7, 3) := by decide +kernel
theorem own_d_prog_77_method_1_code_179 : decode prog_77_method_1_code 9 = .ok (.aload_n 0, 1) := by decide +kernel
theorem own_d_prog_77_method_1_code_180 : decode prog_77_method_1_code 10 = .ok (.aload_n 2, 1) := by decide +kernel
theorem own_d_prog_77_method_1_code_181 : decode prog_77_method_1_code 11 = .ok (.putfield 13, 3) := by decide +kernel
theorem own_d_prog_77_method_1_code_182 : decode prog_77_method_1_code 14 = .ok (.return_, 1) := by decide +kernel
theorem own_pn183 : plainName "com/example/farecraft/farecraft/PassPrices$Settled" = true := by first | (simp [plainName, overriddenIn]; done) | decide +kernel
set_option maxRecDepth 65536 in
set_option maxHeartbeats 40000000 in
theorem ctSI (l : Launch) (Z : State) (a0 : Array Value) (hw : ∀ d ∈ tables_1, d.before a0 Z = true) (d a1 : Addr) (u1 u2 : Value) (h : Heap) (O : Old Z Z.heap.size h) (E : Exa Z h d "com/example/farecraft/farecraft/PassPrices$Settled") (F1 : Fld Z h d "com/example/farecraft/farecraft/PassPrices$Settled" "prices" "Ljava/util/List;" u1) (F2 : Fld Z h d "com/example/farecraft/farecraft/PassPrices$Settled" "refusal" "Lcom/example/farecraft/farecraft/FareFileException;" u2) (ga : Z.heap.size ≤ d) :
    Ct 0 l Z [] [] (⟨"com/example/farecraft/farecraft/PassPrices$Settled", "<init>", "(Ljava/util/List;Lcom/example/farecraft/farecraft/FareFileException;)V"⟩ : MethodName) prog_77_method_1_code 3 none ({ frames := 2, cells := 0, slots := 0, locals := 24 } : Room) #[(.ref d), (.ref a1), .null] h (fun v h' => v = none ∧ Exa Z h' d "com/example/farecraft/farecraft/PassPrices$Settled" ∧ Fld Z h' d "com/example/farecraft/farecraft/PassPrices$Settled" "prices" "Ljava/util/List;" (.ref a1) ∧ Fld Z h' d "com/example/farecraft/farecraft/PassPrices$Settled" "refusal" "Lcom/example/farecraft/farecraft/FareFileException;" .null ∧ Keep h h' [d]) := by
  refine Ct.intro (plainFor_of_name own_pn183) O (fun _ => rfl) ⟨a0, EW.nil⟩ ?_
  intro p e s m below meth c T0 hx hby hml hret hnm hlk hsf S0
  refine Goes.cast (own_ef173 m d a1) ?_
  refine g_aloadN S0.here hx (hb hby own_d_prog_77_method_1_code_174) rfl rfl 1 rfl ?_
  refine S0.callI hx (W := 0) (a := d) rfl (own_q106 hw) (own_q51 hw) (own_q54 hw) (by decide) (own_q53 hw) (ctRec l Z a0 hw d h S0.old) nosf (by decide) (by decide) (by rw [hml]; rfl) [] [] (lenOf own_pd54 rfl) rfl rfl (Nat.le_refl _) (hb hby own_d_prog_77_method_1_code_175) (by decide) (by decide) 4 rfl (fun v52 vm52 T52 h52 S52 Q52 R52 => ?_)
  obtain ⟨rfl, rfl⟩ := Q52
  show Goes _ _ _ _ T52 (mkF m 4 #[.val (.ref d), .val (.ref a1), .val .null] [])
  refine g_aloadN S52.here hx (hb hby own_d_prog_77_method_1_code_176) rfl rfl 5 rfl ?_
  refine g_aloadN S52.here hx (hb hby own_d_prog_77_method_1_code_177) rfl rfl 6 rfl ?_
  refine S52.putF hx (host := "") (Or.inl (own_q107 hw)) Via.refl F1 E (Or.inr ⟨(own_q108 hw), rfl, hnm⟩) (own_q101 hw) (ty := (.object "java/util/List")) (by decide) rfl rfl safe_nil ga (hb hby own_d_prog_77_method_1_code_178) 9 rfl (fun T53 h53 S53 W53 R53 => ?_)
  have E1 := E.wr W53
  have P1 := F1.same W53
  have Q1 := F2.other W53 (Or.inr (slot_ne (Or.inr (own_q110 hw)) (Or.inr (own_q108 hw)) (by decide) (t := .object "com/example/farecraft/farecraft/FareFileException") (t' := .object "java/util/List") (by decide) (by decide)))
  have K1 := Keep.of_wr W53
  refine g_aloadN S53.here hx (hb hby own_d_prog_77_method_1_code_179) rfl rfl 10 rfl ?_
  refine g_aloadN S53.here hx (hb hby own_d_prog_77_method_1_code_180) rfl rfl 11 rfl ?_
  refine S53.putF hx (host := "") (Or.inl (own_q109 hw)) Via.refl Q1 E1 (Or.inr ⟨(own_q110 hw), rfl, hnm⟩) (own_q101 hw) (ty := (.object "com/example/farecraft/farecraft/FareFileException")) (by decide) rfl rfl safe_nil ga (hb hby own_d_prog_77_method_1_code_181) 14 rfl (fun T54 h54 S54 W54 R54 => ?_)
  have E2 := E1.wr W54
  have Q2 := Q1.same W54
  have P2 := P1.other W54 (Or.inr (slot_ne (Or.inr (own_q108 hw)) (Or.inr (own_q110 hw)) (by decide) (t := .object "java/util/List") (t' := .object "com/example/farecraft/farecraft/FareFileException") (by decide) (by decide)))
  have K2 := K1.wr W54 (Or.inl (List.mem_singleton.mpr rfl))
  exact S54.vret hx hlk hret (hb hby own_d_prog_77_method_1_code_182) ⟨rfl, E2, P2, Q2, K2⟩ (by decide) (by decide)
theorem own_d_prog_77_method_2_code_184 : decode prog_77_method_2_code 0 = .ok (.aload_n 0, 1) := by decide +kernel
theorem own_d_prog_77_method_2_code_185 : decode prog_77_method_2_code 1 = .ok (.getfield 13, 3) := by decide +kernel
theorem own_d_prog_77_method_2_code_186 : decode prog_77_method_2_code 4 = .ok (.ifnull 8, 3) := by decide +kernel
theorem own_d_prog_77_method_2_code_187 : decode prog_77_method_2_code 12 = .ok (.aload_n 0, 1) := by decide +kernel
theorem own_d_prog_77_method_2_code_188 : decode prog_77_method_2_code 13 = .ok (.getfield 7, 3) := by decide +kernel
theorem own_d_prog_77_method_2_code_189 : decode prog_77_method_2_code 16 = .ok (.areturn, 1) := by decide +kernel
set_option maxRecDepth 65536 in
set_option maxHeartbeats 40000000 in
theorem ctSG (l : Launch) (Z : State) (a0 : Array Value) (hw : ∀ d ∈ tables_1, d.before a0 Z = true) (d a1 : Addr) (h : Heap) (O : Old Z Z.heap.size h) (F1 : Fld Z h d "com/example/farecraft/farecraft/PassPrices$Settled" "prices" "Ljava/util/List;" (.ref a1)) (F2 : Fld Z h d "com/example/farecraft/farecraft/PassPrices$Settled" "refusal" "Lcom/example/farecraft/farecraft/FareFileException;" .null) :
    Ct 0 l Z [] [] (⟨"com/example/farecraft/farecraft/PassPrices$Settled", "get", "()Ljava/util/List;"⟩ : MethodName) prog_77_method_2_code 1 (some (.object "java/util/List")) ({ frames := 0, cells := 0, slots := 0, locals := 0 } : Room) #[(.ref d)] h (fun v h' => v = some (.ref a1) ∧ h = h') := by
  refine Ct.intro (plainFor_of_name own_pn183) O (fun _ => rfl) ⟨a0, EW.nil⟩ ?_
  intro p e s m below meth c T0 hx hby hml hret hnm hlk hsf S0
  refine Goes.cast (own_ef43 m d) ?_
  refine g_aloadN S0.here hx (hb hby own_d_prog_77_method_2_code_184) rfl rfl 1 rfl ?_
  refine S0.getF hx (host := "") (Or.inl (own_q109 hw)) Via.refl F2 (hb hby own_d_prog_77_method_2_code_185) 4 rfl (fun T55 S55 => ?_)
  refine g_ifnullT S55.here hx (hb hby own_d_prog_77_method_2_code_186) 12 (by decide) (by decide) ?_
  refine g_aloadN S55.here hx (hb hby own_d_prog_77_method_2_code_187) rfl rfl 13 rfl ?_
  refine S55.getF hx (host := "") (Or.inl (own_q107 hw)) Via.refl F1 (hb hby own_d_prog_77_method_2_code_188) 16 rfl (fun T56 S56 => ?_)
  exact S56.aret hx hlk hret rfl rfl rfl (hb hby own_d_prog_77_method_2_code_189) ⟨rfl, rfl⟩ (by decide) (by decide)
theorem own_d_jdk_38_method_8_code_190 : decode jdk_38_method_8_code 0 = .ok (.aload_n 0, 1) := by decide +kernel
theorem own_d_jdk_38_method_8_code_191 : decode jdk_38_method_8_code 1 = .ok (.getfield 48, 3) := by decide +kernel
theorem own_d_jdk_38_method_8_code_192 : decode jdk_38_method_8_code 4 = .ok (.ireturn, 1) := by decide +kernel
set_option maxRecDepth 65536 in
set_option maxHeartbeats 40000000 in
theorem ctSz (l : Launch) (Z : State) (a0 : Array Value) (hw : ∀ d ∈ tables_1, d.before a0 Z = true) (d b : Addr) (n : Int32) (h : Heap) (O : Old Z Z.heap.size h) (A : own_al Z h d b n) :
    Ct 0 l Z [] [] (⟨"java/util/ArrayList", "size", "()I"⟩ : MethodName) jdk_38_method_8_code 1 (some .int) ({ frames := 0, cells := 0, slots := 0, locals := 0 } : Room) #[(.ref d)] h (fun v h' => v = some (.int n) ∧ h = h') := by
  refine Ct.intro (plainFor_of_name own_pn66) O (fun _ => rfl) ⟨a0, EW.nil⟩ ?_
  intro p e s m below meth c T0 hx hby hml hret hnm hlk hsf S0
  refine Goes.cast (own_ef43 m d) ?_
  refine g_aloadN S0.here hx (hb hby own_d_jdk_38_method_8_code_190) rfl rfl 1 rfl ?_
  refine S0.getF hx (host := "") (Or.inl (own_q125 hw)) Via.refl A.2.2.2 (hb hby own_d_jdk_38_method_8_code_191) 4 rfl (fun T57 S57 => ?_)
  exact S57.iret hx hlk hret (Or.inl rfl) rfl (hb hby own_d_jdk_38_method_8_code_192) ⟨rfl, rfl⟩ (by decide) (by decide)
theorem own_ef193 (m : MethodId) (x0 : Int32) (x1 : Int32) : entryFrame m #[(.int x0), (.int x1), .null] 3 = mkF m 0 #[.val (.int x0), .val (.int x1), .val .null] [] := by first | (simp [entryFrame, mkF, argsToLocals, Value.category]; done) | rfl
theorem own_d_jdk_41_method_11_code_194 : decode jdk_41_method_11_code 0 = .ok (.iload_n 0, 1) := by decide +kernel
theorem own_d_jdk_41_method_11_code_195 : decode jdk_41_method_11_code 1 = .ok (.ifCond .lt 8, 3) := by decide +kernel
theorem own_d_jdk_41_method_11_code_196 : decode jdk_41_method_11_code 4 = .ok (.iload_n 0, 1) := by decide +kernel
theorem own_d_jdk_41_method_11_code_197 : decode jdk_41_method_11_code 5 = .ok (.iload_n 1, 1) := by decide +kernel
theorem own_d_jdk_41_method_11_code_198 : decode jdk_41_method_11_code 6 = .ok (.if_icmp .lt 10, 3) := by decide +kernel
theorem own_d_jdk_41_method_11_code_199 : decode jdk_41_method_11_code 16 = .ok (.iload_n 0, 1) := by decide +kernel
theorem own_d_jdk_41_method_11_code_200 : decode jdk_41_method_11_code 17 = .ok (.ireturn, 1) := by decide +kernel
theorem own_pn201 : plainName "jdk/internal/util/Preconditions" = true := by first | (simp [plainName, overriddenIn]; done) | decide +kernel
set_option maxRecDepth 65536 in
set_option maxHeartbeats 40000000 in
theorem ctCI (l : Launch) (Z : State) (a0 : Array Value) (hw : ∀ d ∈ tables_1, d.before a0 Z = true) (n : Int32) (h : Heap) (O : Old Z Z.heap.size h) (hn : 1 ≤ n.toInt) :
    Ct 0 l Z [] [] (⟨"jdk/internal/util/Preconditions", "checkIndex", "(IILjava/util/function/BiFunction;)I"⟩ : MethodName) jdk_41_method_11_code 3 (some .int) ({ frames := 0, cells := 0, slots := 0, locals := 0 } : Room) #[(.int (0 : Int32)), (.int n), .null] h (fun v h' => v = some (.int 0) ∧ h = h') := by
  refine Ct.intro (plainFor_of_name own_pn201) O (fun _ => rfl) ⟨a0, EW.nil⟩ ?_
  intro p e s m below meth c T0 hx hby hml hret hnm hlk hsf S0
  refine Goes.cast (own_ef193 m (0 : Int32) n) ?_
  refine g_iloadN S0.here hx (hb hby own_d_jdk_41_method_11_code_194) rfl 1 rfl ?_
  refine g_ifF S0.here hx (hb hby own_d_jdk_41_method_11_code_195) 0 (by decide) (by show ¬ (0 < 0); decide) 4 rfl ?_
  refine g_iloadN S0.here hx (hb hby own_d_jdk_41_method_11_code_196) rfl 5 rfl ?_
  refine g_iloadN S0.here hx (hb hby own_d_jdk_41_method_11_code_197) rfl 6 rfl ?_
  refine g_icmpT S0.here hx (hb hby own_d_jdk_41_method_11_code_198) 0 n.toInt (by decide) rfl (show 0 < n.toInt from by omega) 16 (by decide) (by decide) ?_
  refine g_iloadN S0.here hx (hb hby own_d_jdk_41_method_11_code_199) rfl 17 rfl ?_
  exact S0.iret hx hlk hret (Or.inl rfl) rfl (hb hby own_d_jdk_41_method_11_code_200) ⟨rfl, rfl⟩ (by decide) (by decide)
theorem own_d_jdk_31_method_17_code_202 : decode jdk_31_method_17_code 0 = .ok (.iload_n 0, 1) := by decide +kernel
theorem own_d_jdk_31_method_17_code_203 : decode jdk_31_method_17_code 1 = .ok (.iload_n 1, 1) := by decide +kernel
theorem own_d_jdk_31_method_17_code_204 : decode jdk_31_method_17_code 2 = .ok (.aconst_null, 1) := by decide +kernel
theorem own_d_jdk_31_method_17_code_205 : decode jdk_31_method_17_code 3 = .ok (.invokestatic 105, 3) := by decide +kernel
theorem own_pd206 : parseMethodDescriptor "(IILjava/util/function/BiFunction;)I" = some ⟨[.int, .int, (.object "java/util/function/BiFunction")], some .int⟩ := by decide +kernel
theorem own_d_jdk_31_method_17_code_207 : decode jdk_31_method_17_code 6 = .ok (.ireturn, 1) := by decide +kernel
theorem own_pn208 : plainName "java/util/Objects" = true := by first | (simp [plainName, overriddenIn]; done) | decide +kernel
set_option maxRecDepth 65536 in
set_option maxHeartbeats 40000000 in
theorem ctOI (l : Launch) (Z : State) (a0 : Array Value) (hw : ∀ d ∈ tables_1, d.before a0 Z = true) (n : Int32) (h : Heap) (O : Old Z Z.heap.size h) (hn : 1 ≤ n.toInt) :
    Ct 0 l Z [] [] (⟨"java/util/Objects", "checkIndex", "(II)I"⟩ : MethodName) jdk_31_method_17_code 2 (some .int) ({ frames := 1, cells := 0, slots := 0, locals := 14 } : Room) #[(.int (0 : Int32)), (.int n)] h (fun v h' => v = some (.int 0) ∧ h = h') := by
  refine Ct.intro (plainFor_of_name own_pn208) O (fun _ => rfl) ⟨a0, EW.nil⟩ ?_
  intro p e s m below meth c T0 hx hby hml hret hnm hlk hsf S0
  refine Goes.cast (own_ef67 m (0 : Int32) n) ?_
  refine g_iloadN S0.here hx (hb hby own_d_jdk_31_method_17_code_202) rfl 1 rfl ?_
  refine g_iloadN S0.here hx (hb hby own_d_jdk_31_method_17_code_203) rfl 2 rfl ?_
  refine g_aconst_null S0.here hx (hb hby own_d_jdk_31_method_17_code_204) 3 rfl ?_
  refine S0.callS hx (W := 0) (own_q168 hw) (own_q169 hw) (own_q170 hw) (own_q171 hw) (by decide) (ctCI l Z a0 hw n h S0.old hn) nosf (by decide) (by decide) (by rw [hml]; rfl) [(.int (0 : Int32)), (.int n), .null] [] (lenOf own_pd206 rfl) rfl rfl (Nat.le_refl _) (hb hby own_d_jdk_31_method_17_code_205) (by decide) (by decide) 6 rfl (fun v58 vm58 T58 h58 S58 Q58 R58 => ?_)
  obtain ⟨rfl, rfl⟩ := Q58
  show Goes _ _ _ _ T58 (mkF m 6 #[.val (.int (0 : Int32)), .val (.int n)] [(.int (0 : Int32))])
  exact S58.iret hx hlk hret (Or.inl rfl) rfl (hb hby own_d_jdk_31_method_17_code_207) ⟨rfl, rfl⟩ (by decide) (by decide)
theorem own_ef209 (m : MethodId) (x0 : Addr) (x1 : Int32) : entryFrame m #[(.ref x0), (.int x1)] 2 = mkF m 0 #[.val (.ref x0), .val (.int x1)] [] := by first | (simp [entryFrame, mkF, argsToLocals, Value.category]; done) | rfl
theorem own_d_jdk_38_method_18_code_210 : decode jdk_38_method_18_code 0 = .ok (.aload_n 0, 1) := by decide +kernel
theorem own_d_jdk_38_method_18_code_211 : decode jdk_38_method_18_code 1 = .ok (.getfield 9, 3) := by decide +kernel
theorem own_d_jdk_38_method_18_code_212 : decode jdk_38_method_18_code 4 = .ok (.iload_n 1, 1) := by decide +kernel
theorem own_d_jdk_38_method_18_code_213 : decode jdk_38_method_18_code 5 = .ok (.aaload, 1) := by decide +kernel
theorem own_d_jdk_38_method_18_code_214 : decode jdk_38_method_18_code 6 = .ok (.areturn, 1) := by decide +kernel
set_option maxRecDepth 65536 in
set_option maxHeartbeats 40000000 in
theorem ctEd (l : Launch) (Z : State) (a0 : Array Value) (hw : ∀ d ∈ tables_1, d.before a0 Z = true) (d b e1 : Addr) (n : Int32) (h : Heap) (O : Old Z Z.heap.size h) (A : own_al Z h d b n) (T : own_ten Z h b (.ref e1)) :
    Ct 0 l Z [] [] (⟨"java/util/ArrayList", "elementData", "(I)Ljava/lang/Object;"⟩ : MethodName) jdk_38_method_18_code 2 (some (.object "java/lang/Object")) ({ frames := 0, cells := 0, slots := 0, locals := 0 } : Room) #[(.ref d), (.int (0 : Int32))] h (fun v h' => v = some (.ref e1) ∧ h = h') := by
  refine Ct.intro (plainFor_of_name own_pn66) O (fun _ => rfl) ⟨a0, EW.nil⟩ ?_
  intro p e s m below meth c T0 hx hby hml hret hnm hlk hsf S0
  refine Goes.cast (own_ef209 m d (0 : Int32)) ?_
  refine g_aloadN S0.here hx (hb hby own_d_jdk_38_method_18_code_210) rfl rfl 1 rfl ?_
  refine S0.getF hx (host := "") (Or.inl (own_q98 hw)) Via.refl A.2.2.1 (hb hby own_d_jdk_38_method_18_code_211) 4 rfl (fun T59 S59 => ?_)
  refine g_iloadN S59.here hx (hb hby own_d_jdk_38_method_18_code_212) rfl 5 rfl ?_
  obtain ⟨kt, vs, t1, t2, t3, t4⟩ := T
  refine S59.aald hx t1 rfl ⟨by decide, by decide⟩ t3 (hb hby own_d_jdk_38_method_18_code_213) 6 rfl ?_
  exact S59.aret hx hlk hret rfl rfl rfl (hb hby own_d_jdk_38_method_18_code_214) ⟨rfl, rfl⟩ (by decide) (by decide)
theorem own_d_jdk_38_method_20_code_215 : decode jdk_38_method_20_code 0 = .ok (.iload_n 1, 1) := by decide +kernel
theorem own_d_jdk_38_method_20_code_216 : decode jdk_38_method_20_code 1 = .ok (.aload_n 0, 1) := by decide +kernel
theorem own_d_jdk_38_method_20_code_217 : decode jdk_38_method_20_code 2 = .ok (.getfield 48, 3) := by decide +kernel
theorem own_d_jdk_38_method_20_code_218 : decode jdk_38_method_20_code 5 = .ok (.invokestatic 118, 3) := by decide +kernel
theorem own_d_jdk_38_method_20_code_219 : decode jdk_38_method_20_code 8 = .ok (.pop, 1) := by decide +kernel
theorem own_d_jdk_38_method_20_code_220 : decode jdk_38_method_20_code 9 = .ok (.aload_n 0, 1) := by decide +kernel
theorem own_d_jdk_38_method_20_code_221 : decode jdk_38_method_20_code 10 = .ok (.iload_n 1, 1) := by decide +kernel
theorem own_d_jdk_38_method_20_code_222 : decode jdk_38_method_20_code 11 = .ok (.invokevirtual 123, 3) := by decide +kernel
theorem own_pd223 : parseMethodDescriptor "(I)Ljava/lang/Object;" = some ⟨[.int], some (.object "java/lang/Object")⟩ := by decide +kernel
theorem own_d_jdk_38_method_20_code_224 : decode jdk_38_method_20_code 14 = .ok (.areturn, 1) := by decide +kernel
set_option maxRecDepth 65536 in
set_option maxHeartbeats 40000000 in
theorem ctGt (l : Launch) (Z : State) (a0 : Array Value) (hw : ∀ d ∈ tables_1, d.before a0 Z = true) (d b e1 : Addr) (n : Int32) (h : Heap) (O : Old Z Z.heap.size h) (hn : 1 ≤ n.toInt) (A : own_al Z h d b n) (T : own_ten Z h b (.ref e1)) :
    Ct 0 l Z [] [] (⟨"java/util/ArrayList", "get", "(I)Ljava/lang/Object;"⟩ : MethodName) jdk_38_method_20_code 2 (some (.object "java/lang/Object")) ({ frames := 2, cells := 0, slots := 0, locals := 27 } : Room) #[(.ref d), (.int (0 : Int32))] h (fun v h' => v = some (.ref e1) ∧ h = h') := by
  refine Ct.intro (plainFor_of_name own_pn66) O (fun _ => rfl) ⟨a0, EW.nil⟩ ?_
  intro p e s m below meth c T0 hx hby hml hret hnm hlk hsf S0
  refine Goes.cast (own_ef209 m d (0 : Int32)) ?_
  refine g_iloadN S0.here hx (hb hby own_d_jdk_38_method_20_code_215) rfl 1 rfl ?_
  refine g_aloadN S0.here hx (hb hby own_d_jdk_38_method_20_code_216) rfl rfl 2 rfl ?_
  refine S0.getF hx (host := "") (Or.inl (own_q125 hw)) Via.refl A.2.2.2 (hb hby own_d_jdk_38_method_20_code_217) 5 rfl (fun T60 S60 => ?_)
  refine S60.callS hx (W := 0) (own_q164 hw) (own_q165 hw) (own_q166 hw) (own_q167 hw) (by decide) (ctOI l Z a0 hw n h S60.old hn) nosf (by decide) (by decide) (by rw [hml]; rfl) [(.int (0 : Int32)), (.int n)] [] (lenOf own_pd89 rfl) rfl rfl (Nat.le_refl _) (hb hby own_d_jdk_38_method_20_code_218) (by decide) (by decide) 8 rfl (fun v61 vm61 T61 h61 S61 Q61 R61 => ?_)
  obtain ⟨rfl, rfl⟩ := Q61
  show Goes _ _ _ _ T61 (mkF m 8 #[.val (.ref d), .val (.int (0 : Int32))] [(.int (0 : Int32))])
  refine g_pop S61.here hx (hb hby own_d_jdk_38_method_20_code_219) rfl 9 rfl ?_
  refine g_aloadN S61.here hx (hb hby own_d_jdk_38_method_20_code_220) rfl rfl 10 rfl ?_
  refine g_iloadN S61.here hx (hb hby own_d_jdk_38_method_20_code_221) rfl 11 rfl ?_
  refine S61.callV hx (W := 0) (C := "java/util/ArrayList") (own_q172 hw) (own_q173 hw) (notFace_of_selects (args := #[]) (mvT S61.warm (own_q175 hw))) (own_q175 hw) (own_q174 hw) (by decide) A.1 (own_q176 hw) (own_q78 hw) (ctEd l Z a0 hw d b e1 n h S61.old A T) nosf (by decide) (by decide) (by rw [hml]; rfl) [(.int (0 : Int32))] [] (lenOf own_pd223 rfl) rfl rfl (Nat.le_refl _) (hb hby own_d_jdk_38_method_20_code_222) (by decide) (by decide) 14 rfl (fun v62 vm62 T62 h62 S62 Q62 R62 => ?_)
  obtain ⟨rfl, rfl⟩ := Q62
  show Goes _ _ _ _ T62 (mkF m 14 #[.val (.ref d), .val (.int (0 : Int32))] [(.ref e1)])
  exact S62.aret hx hlk hret rfl rfl rfl (hb hby own_d_jdk_38_method_20_code_224) ⟨rfl, rfl⟩ (by decide) (by decide)
theorem own_ef225 (m : MethodId) (x0 : Int32) (x1 : Int32) (x2 : Int32) : entryFrame m #[(.int x0), (.int x1), (.int x2)] maxLocals = mkF m 0 #[.val (.int x0), .val (.int x1), .val (.int x2), .unset, .unset, .unset, .unset, .unset, .unset, .unset] [] := by first | (simp [entryFrame, mkF, argsToLocals, Value.category, maxLocals]; done) | rfl
theorem own_pd226 : parseMethodDescriptor "(C)Ljava/lang/String;" = some ⟨[.char], some (.object "java/lang/String")⟩ := by decide +kernel
theorem own_pd227 : parseMethodDescriptor "(Ljava/lang/String;Ljava/lang/String;Ljava/lang/String;Ljava/lang/String;Ljava/lang/String;Ljava/lang/String;Ljava/lang/String;Ljava/lang/String;Ljava/math/BigDecimal;Ljava/lang/String;)V" = some ⟨[(.object "java/lang/String"), (.object "java/lang/String"), (.object "java/lang/String"), (.object "java/lang/String"), (.object "java/lang/String"), (.object "java/lang/String"), (.object "java/lang/String"), (.object "java/lang/String"), (.object "java/math/BigDecimal"), (.object "java/lang/String")], none⟩ := by decide +kernel
theorem own_pd228 : parseMethodDescriptor "(Ljava/util/List;Lcom/example/farecraft/farecraft/FareFileException;)V" = some ⟨[(.object "java/util/List"), (.object "com/example/farecraft/farecraft/FareFileException")], none⟩ := by decide +kernel
theorem own_pd229 : parseMethodDescriptor "()Ljava/util/List;" = some ⟨[], some (.object "java/util/List")⟩ := by decide +kernel
theorem own_pd230 : parseMethodDescriptor "()I" = some ⟨[], some .int⟩ := by decide +kernel
theorem own_pd231 : parseMethodDescriptor "(Ljava/lang/Object;)Z" = some ⟨[(.object "java/lang/Object")], some .boolean⟩ := by decide +kernel
theorem own_pn232 : plainName "com/example/farecraft/farecraft/SettledGetPinLaw" = true := by first | (simp [plainName, overriddenIn]; done) | decide +kernel
set_option maxRecDepth 65536 in
set_option maxHeartbeats 40000000 in
theorem ct0 (l : Launch) (Z : State) (a0 : Array Value) (hw : ∀ d ∈ tables_1, d.before a0 Z = true) (p1 p2 p3 : Int32) (df : Addr) (h : Heap) (O : Old Z Z.heap.size h) (G : own_cs Z) (DF : own_df Z df) :
    Ct 0 l Z [] [] x code maxLocals ret room_1 #[(.int p1), (.int p2), (.int p3)] h (fun v h' => v = some (.int 1)) := by
  refine Ct.intro (plainFor_of_name own_pn232) O (fun _ => rfl) ⟨a0, EW.nil⟩ ?_
  intro p e s m below meth c T0 hx hby hml hret hnm hlk hsf S0
  refine Goes.cast (own_ef225 m p1 p2 p3) ?_
  refine g_iconst S0.here hx (hb hby at_0) (2 : Int32) (by decide) 1 rfl ?_
  refine S0.newA (aty := .char) hx (own_q0 hw) (n := (2 : Int32)) (by decide) (cap := 2) (by decide) (by decide) (hb hby at_1) (by decide) (by decide) 3 rfl (fun T63 h63 b63 k63 S63 g63 E63 V63 _ R63 => ?_)
  have ga63 : Z.heap.size ≤ b63 := by rw [g63]; exact S0.size
  have gg63 : h.size ≤ b63 := Nat.le_of_eq g63.symm
  refine g_astoreN S63.here hx (hb hby at_3) rfl #[.val (.int p1), .val (.int p2), .val (.int p3), .val (.ref b63), .unset, .unset, .unset, .unset, .unset, .unset] rfl 4 rfl ?_
  refine g_aloadN S63.here hx (hb hby at_4) rfl rfl 5 rfl ?_
  refine g_iconst S63.here hx (hb hby at_5) (0 : Int32) (by decide) 6 rfl ?_
  refine g_iloadN S63.here hx (hb hby at_6) rfl 7 rfl ?_
  refine g_sipush S63.here hx (hb hby at_7) (255 : Int32) (by decide) 10 rfl ?_
  refine g_iand S63.here hx (hb hby at_10) 11 rfl ?_
  refine g_i2c S63.here hx (hb hby at_11) 12 rfl ?_
  have b_x0 := own_b8 p2
  generalize (p2 &&& (255 : Int32)).toUInt32.toUInt16.toUInt32.toInt32 = x0 at b_x0 ⊢
  refine S63.stC hx V63 0 ⟨by decide, by decide⟩ (by decide) (by simp) ga63 x0 (own_nar (own_b16 b_x0)) (hb hby at_12) 13 rfl (fun T64 h64 S64 W64 V64 R64 => ?_)
  have E64 := own_ext_wr E63 W64 gg63
  refine g_aloadN S64.here hx (hb hby at_13) rfl rfl 14 rfl ?_
  refine g_iconst S64.here hx (hb hby at_14) (1 : Int32) (by decide) 15 rfl ?_
  refine g_iloadN S64.here hx (hb hby at_15) rfl 16 rfl ?_
  refine g_sipush S64.here hx (hb hby at_16) (255 : Int32) (by decide) 19 rfl ?_
  refine g_iand S64.here hx (hb hby at_19) 20 rfl ?_
  refine g_i2c S64.here hx (hb hby at_20) 21 rfl ?_
  have b_x1 := own_b8 p3
  generalize (p3 &&& (255 : Int32)).toUInt32.toUInt16.toUInt32.toInt32 = x1 at b_x1 ⊢
  refine S64.stC hx V64 1 ⟨by decide, by decide⟩ (by decide) (by simp) ga63 x1 (own_nar (own_b16 b_x1)) (hb hby at_21) 22 rfl (fun T65 h65 S65 W65 V65 R65 => ?_)
  have E65 := own_ext_wr E64 W65 gg63
  refine S65.new hx (own_q1 hw) (own_q2 hw) (own_q3 hw) (hb hby at_22) (by decide) (by decide) 25 rfl (fun T66 h66 sa S66 g66 E66 A66 D66 F66 R66 U66 => ?_)
  have ga66 : Z.heap.size ≤ sa := by rw [g66]; exact S65.size
  have r1 : own_raw Z h66 sa := ⟨A66, ⟨_, D66 (Or.inr (own_q29 hw)) (ty := .array .byte) (by decide)⟩, _, D66 (Or.inr (own_q27 hw)) (ty := .byte) (by decide)⟩
  refine g_dup S66.here hx (hb hby at_25) rfl 26 rfl ?_
  refine g_aloadN S66.here hx (hb hby at_26) rfl rfl 27 rfl ?_
  have Vx := V65.ext E66
  refine own_mk S66 hx hw G (W := 1) (cs := [x0, x1]) 2 rfl (own_q4 hw) r1 Vx safe_nil ga66 (by decide) (by decide) (own_lat_cons b_x0 (own_lat_cons b_x1 own_lat_nil)) (by decide) (by decide) (by rw [hml]; rfl) [(.ref sa)] (Nat.le_refl _) (hb hby at_27) (by decide) (by decide) 30 rfl (fun T67 h67 S67 f1 K67 R67 => ?_)
  refine g_astore S67.here hx (hb hby at_30) rfl #[.val (.int p1), .val (.int p2), .val (.int p3), .val (.ref b63), .val (.ref sa), .unset, .unset, .unset, .unset, .unset] rfl 32 rfl ?_
  refine S67.new hx (own_q30 hw) (own_q31 hw) (own_q32 hw) (hb hby at_32) (by decide) (by decide) 35 rfl (fun T68 h68 pp S68 g68 E68 A68 D68 F68 R68 U68 => ?_)
  have ga68 : Z.heap.size ≤ pp := by rw [g68]; exact S67.size
  have H0 : own_has Z h68 pp "com/example/farecraft/farecraft/PassPrice" "farePrice" "Ljava/lang/String;" := ⟨_, D68 (Or.inr (own_q57 hw)) (ty := .object "java/lang/String") (by decide)⟩
  have H1 : own_has Z h68 pp "com/example/farecraft/farecraft/PassPrice" "timeInterval" "Ljava/lang/String;" := ⟨_, D68 (Or.inr (own_q59 hw)) (ty := .object "java/lang/String") (by decide)⟩
  have H2 : own_has Z h68 pp "com/example/farecraft/farecraft/PassPrice" "duration" "Ljava/lang/String;" := ⟨_, D68 (Or.inr (own_q61 hw)) (ty := .object "java/lang/String") (by decide)⟩
  have H3 : own_has Z h68 pp "com/example/farecraft/farecraft/PassPrice" "zone" "Ljava/lang/String;" := ⟨_, D68 (Or.inr (own_q63 hw)) (ty := .object "java/lang/String") (by decide)⟩
  have H4 : own_has Z h68 pp "com/example/farecraft/farecraft/PassPrice" "userProfile" "Ljava/lang/String;" := ⟨_, D68 (Or.inr (own_q65 hw)) (ty := .object "java/lang/String") (by decide)⟩
  have H5 : own_has Z h68 pp "com/example/farecraft/farecraft/PassPrice" "groupTicket" "Ljava/lang/String;" := ⟨_, D68 (Or.inr (own_q67 hw)) (ty := .object "java/lang/String") (by decide)⟩
  have H6 : own_has Z h68 pp "com/example/farecraft/farecraft/PassPrice" "salesOfferPackage" "Ljava/lang/String;" := ⟨_, D68 (Or.inr (own_q69 hw)) (ty := .object "java/lang/String") (by decide)⟩
  have H7 : own_has Z h68 pp "com/example/farecraft/farecraft/PassPrice" "fareProduct" "Ljava/lang/String;" := ⟨_, D68 (Or.inr (own_q71 hw)) (ty := .object "java/lang/String") (by decide)⟩
  have H8 : own_has Z h68 pp "com/example/farecraft/farecraft/PassPrice" "amount" "Ljava/math/BigDecimal;" := ⟨_, D68 (Or.inr (own_q73 hw)) (ty := .object "java/math/BigDecimal") (by decide)⟩
  have H9 : own_has Z h68 pp "com/example/farecraft/farecraft/PassPrice" "currency" "Ljava/lang/String;" := ⟨_, D68 (Or.inr (own_q75 hw)) (ty := .object "java/lang/String") (by decide)⟩
  refine g_dup S68.here hx (hb hby at_35) rfl 36 rfl ?_
  refine g_aload S68.here hx (hb hby at_36) rfl rfl 38 rfl ?_
  refine g_aconst_null S68.here hx (hb hby at_38) 39 rfl ?_
  refine g_aconst_null S68.here hx (hb hby at_39) 40 rfl ?_
  refine g_iloadN S68.here hx (hb hby at_40) rfl 41 rfl ?_
  refine g_sipush S68.here hx (hb hby at_41) (255 : Int32) (by decide) 44 rfl ?_
  refine g_iand S68.here hx (hb hby at_44) 45 rfl ?_
  refine g_i2c S68.here hx (hb hby at_45) 46 rfl ?_
  have b_x2 := own_b8 p3
  generalize (p3 &&& (255 : Int32)).toUInt32.toUInt16.toUInt32.toInt32 = x2 at b_x2 ⊢
  refine S68.callS hx (W := 5) (own_q33 hw) (own_q34 hw) (own_q3 hw) (own_q35 hw) (by decide) (ctVO l Z a0 hw x2 h68 S68.old G b_x2) nosf (by decide) (by decide) (by rw [hml]; rfl) [(.int x2)] [.null, .null, (.ref sa), (.ref pp), (.ref pp)] (lenOf own_pd226 rfl) rfl rfl (Nat.le_refl _) (hb hby at_46) (by decide) (by decide) 49 rfl (fun v69 vm69 T69 h69 S69 Q69 R69 => ?_)
  obtain ⟨sb, rfl, -, X1⟩ := Q69
  show Goes _ _ _ _ T69 (mkF m 49 #[.val (.int p1), .val (.int p2), .val (.int p3), .val (.ref b63), .val (.ref sa), .unset, .unset, .unset, .unset, .unset] [(.ref sb), .null, .null, (.ref sa), (.ref pp), (.ref pp)])
  have E1 := A68.ext X1
  have H0 := H0.ext X1
  have H1 := H1.ext X1
  have H2 := H2.ext X1
  have H3 := H3.ext X1
  have H4 := H4.ext X1
  have H5 := H5.ext X1
  have H6 := H6.ext X1
  have H7 := H7.ext X1
  have H8 := H8.ext X1
  have H9 := H9.ext X1
  refine g_aconst_null S69.here hx (hb hby at_49) 50 rfl ?_
  refine g_aconst_null S69.here hx (hb hby at_50) 51 rfl ?_
  refine g_aconst_null S69.here hx (hb hby at_51) 52 rfl ?_
  refine g_aconst_null S69.here hx (hb hby at_52) 53 rfl ?_
  refine g_aconst_null S69.here hx (hb hby at_53) 54 rfl ?_
  refine g_aconst_null S69.here hx (hb hby at_54) 55 rfl ?_
  refine S69.callI hx (W := 1) (a := pp) rfl (own_q47 hw) (own_q48 hw) (own_q49 hw) (by decide) (own_q32 hw) (ctPP l Z a0 hw pp sa sb h69 S69.old E1 H0 H1 H2 H3 H4 H5 H6 H7 H8 H9 ga68) nosf (by decide) (by decide) (by rw [hml]; rfl) [(.ref sa), .null, .null, (.ref sb), .null, .null, .null, .null, .null, .null] [(.ref pp)] (lenOf own_pd227 rfl) rfl rfl (Nat.le_refl _) (hb hby at_55) (by decide) (by decide) 58 rfl (fun v70 vm70 T70 h70 S70 Q70 R70 => ?_)
  obtain ⟨rfl, PE, -⟩ := Q70
  show Goes _ _ _ _ T70 (mkF m 58 #[.val (.int p1), .val (.int p2), .val (.int p3), .val (.ref b63), .val (.ref sa), .unset, .unset, .unset, .unset, .unset] [(.ref pp)])
  refine g_astore S70.here hx (hb hby at_58) rfl #[.val (.int p1), .val (.int p2), .val (.int p3), .val (.ref b63), .val (.ref sa), .val (.ref pp), .unset, .unset, .unset, .unset] rfl 60 rfl ?_
  refine S70.new hx (own_q76 hw) (own_q77 hw) (own_q78 hw) (hb hby at_60) (by decide) (by decide) 63 rfl (fun T71 h71 ls S71 g71 E71 A71 D71 F71 R71 U71 => ?_)
  have ga71 : Z.heap.size ≤ ls := by rw [g71]; exact S70.size
  have PE := PE.ext E71
  have M1 := D71 (Or.inl (own_q96 hw)) (ty := .int) (by decide)
  have L1 := D71 (Or.inl (own_q99 hw)) (ty := .array (.object "java/lang/Object")) (by decide)
  have Z1 := D71 (Or.inl (own_q126 hw)) (ty := .int) (by decide)
  refine g_dup S71.here hx (hb hby at_63) rfl 64 rfl ?_
  refine S71.callI hx (W := 1) (a := ls) rfl (own_q79 hw) (own_q80 hw) (own_q81 hw) (by decide) (own_q78 hw) (ctLI l Z a0 hw ls df _ _ h71 S71.old DF A71 M1 L1 Z1 ga71) nosf (by decide) (by decide) (by rw [hml]; rfl) [] [(.ref ls)] (lenOf own_pd54 rfl) rfl rfl (Nat.le_refl _) (hb hby at_64) (by decide) (by decide) 67 rfl (fun v72 vm72 T72 h72 S72 Q72 R72 => ?_)
  obtain ⟨rfl, AL0, K72⟩ := Q72
  show Goes _ _ _ _ T72 (mkF m 67 #[.val (.int p1), .val (.int p2), .val (.int p3), .val (.ref b63), .val (.ref sa), .val (.ref pp), .unset, .unset, .unset, .unset] [(.ref ls)])
  have PE := PE.keep K72
  refine g_astore S72.here hx (hb hby at_67) rfl #[.val (.int p1), .val (.int p2), .val (.int p3), .val (.ref b63), .val (.ref sa), .val (.ref pp), .val (.ref ls), .unset, .unset, .unset] rfl 69 rfl ?_
  refine g_iloadN S72.here hx (hb hby at_69) rfl 70 rfl ?_
  refine g_iconst S72.here hx (hb hby at_70) (3 : Int32) (by decide) 71 rfl ?_
  refine g_iand S72.here hx (hb hby at_71) 72 rfl ?_
  have bk := own_b3 p1
  generalize p1 &&& (3 : Int32) = k at bk ⊢
  refine g_istore S72.here hx (hb hby at_72) #[.val (.int p1), .val (.int p2), .val (.int p3), .val (.ref b63), .val (.ref sa), .val (.ref pp), .val (.ref ls), .val (.int k), .unset, .unset] rfl 74 rfl ?_
  have tail : ∀ (vm' : Vm) (T' : State) (h1' : Heap) (b : Addr), St 0 p l e room_1 s m #[(.int p1), (.int p2), (.int p3)] below meth c "com/example/farecraft/farecraft/SettledGetPinLaw" Z [] vm' T' h1' 20 120 → own_al Z h1' ls b k → (k.toInt = 0 ∨ own_ten Z h1' b (.ref pp)) → Exa Z h1' pp "com/example/farecraft/farecraft/PassPrice" → Goes p.tables e below (Pof 0 Z [] s room_1 (fun v h' => v = some (.int 1))) T' (mkF m 116 #[.val (.int p1), .val (.int p2), .val (.int p3), .val (.ref b63), .val (.ref sa), .val (.ref pp), .val (.ref ls), .val (.int k), .unset, .unset] []) := by
    intro vm' T' h1' b S1' AX TX PE
    refine S1'.new hx (own_q100 hw) (own_q101 hw) (own_q102 hw) (hb hby at_116) (by decide) (by decide) 119 rfl (fun T73 h73 se S73 g73 E73 A73 D73 F73 R73 U73 => ?_)
    have ga73 : Z.heap.size ≤ se := by rw [g73]; exact S1'.size
    have AX := AX.ext E73
    have PE := PE.ext E73
    have TX := TX.imp id (fun t => t.ext E73)
    have F1 := D73 (Or.inr (own_q108 hw)) (ty := .object "java/util/List") (by decide)
    have F2 := D73 (Or.inr (own_q110 hw)) (ty := .object "com/example/farecraft/farecraft/FareFileException") (by decide)
    refine g_dup S73.here hx (hb hby at_119) rfl 120 rfl ?_
    refine g_aload S73.here hx (hb hby at_120) rfl rfl 122 rfl ?_
    refine g_aconst_null S73.here hx (hb hby at_122) 123 rfl ?_
    refine S73.callI hx (W := 1) (a := se) rfl (own_q103 hw) (own_q104 hw) (own_q105 hw) (by decide) (own_q102 hw) (ctSI l Z a0 hw se ls _ _ h73 S73.old A73 F1 F2 ga73) nosf (by decide) (by decide) (by rw [hml]; rfl) [(.ref ls), .null] [(.ref se)] (lenOf own_pd228 rfl) rfl rfl (Nat.le_refl _) (hb hby at_123) (by decide) (by decide) 126 rfl (fun v74 vm74 T74 h74 S74 Q74 R74 => ?_)
    obtain ⟨rfl, SE1, SP, SR, K74⟩ := Q74
    show Goes _ _ _ _ T74 (mkF m 126 #[.val (.int p1), .val (.int p2), .val (.int p3), .val (.ref b63), .val (.ref sa), .val (.ref pp), .val (.ref ls), .val (.int k), .unset, .unset] [(.ref se)])
    have nl : ls ∉ [se] := ninS (Exa.ne AX.1 A73 (by decide)) nin0
    have AY : own_al Z h74 ls b k := ⟨AX.1.keep K74, by obtain ⟨mc, q⟩ := AX.2.1; exact ⟨mc, q.keep K74 nl⟩, AX.2.2.1.keep K74 nl, AX.2.2.2.keep K74 nl⟩
    have TY : k.toInt = 0 ∨ own_ten Z h74 b (.ref pp) := TX.imp id (fun t => by obtain ⟨kt, vs, t1, t2⟩ := t; exact ⟨kt, vs, t1.keep K74 (ninS (Ne.symm (A73.neArv t1 (own_q101 hw))) nin0), t2⟩)
    refine g_astore S74.here hx (hb hby at_126) rfl #[.val (.int p1), .val (.int p2), .val (.int p3), .val (.ref b63), .val (.ref sa), .val (.ref pp), .val (.ref ls), .val (.int k), .val (.ref se), .unset] rfl 128 rfl ?_
    refine g_aload S74.here hx (hb hby at_128) rfl rfl 130 rfl ?_
    refine S74.callV hx (W := 0) (C := "com/example/farecraft/farecraft/PassPrices$Settled") (own_q111 hw) (own_q112 hw) (notFace_of_selects (args := #[]) (mvT S74.warm (own_q114 hw))) (own_q114 hw) (own_q113 hw) (by decide) SE1 (own_q115 hw) (own_q102 hw) (ctSG l Z a0 hw se ls h74 S74.old SP SR) nosf (by decide) (by decide) (by rw [hml]; rfl) [] [] (lenOf own_pd229 rfl) rfl rfl (Nat.le_refl _) (hb hby at_130) (by decide) (by decide) 133 rfl (fun v75 vm75 T75 h75 S75 Q75 R75 => ?_)
    obtain ⟨rfl, rfl⟩ := Q75
    show Goes _ _ _ _ T75 (mkF m 133 #[.val (.int p1), .val (.int p2), .val (.int p3), .val (.ref b63), .val (.ref sa), .val (.ref pp), .val (.ref ls), .val (.int k), .val (.ref se), .unset] [(.ref ls)])
    refine g_astore S75.here hx (hb hby at_133) rfl #[.val (.int p1), .val (.int p2), .val (.int p3), .val (.ref b63), .val (.ref sa), .val (.ref pp), .val (.ref ls), .val (.int k), .val (.ref se), .val (.ref ls)] rfl 135 rfl ?_
    refine g_aload S75.here hx (hb hby at_135) rfl rfl 137 rfl ?_
    refine g_aload S75.here hx (hb hby at_137) rfl rfl 139 rfl ?_
    refine S75.acmp hx (hb hby at_139) rfl rfl true (decide_eq_true rfl) (by decide) 144 (by decide) ?_
    refine g_aload S75.here hx (hb hby at_144) rfl rfl 146 rfl ?_
    refine S75.callF hx (W := 0) (C := "java/util/ArrayList") (own_q116 hw) (own_q117 hw) (own_q118 hw) (own_q119 hw) (own_q120 hw) (own_q121 hw) (own_q122 hw) (own_q123 hw) (by decide) AY.1 (own_q124 hw) (own_q78 hw) (ctSz l Z a0 hw ls b k h74 S75.old AY) nosf (by decide) (by decide) (by rw [hml]; rfl) [] [] (lenOf own_pd230 rfl) rfl rfl (Nat.le_refl _) (hb hby at_146) (by decide) (by decide) 151 rfl (fun v76 vm76 T76 h76 S76 Q76 R76 => ?_)
    obtain ⟨rfl, rfl⟩ := Q76
    show Goes _ _ _ _ T76 (mkF m 151 #[.val (.int p1), .val (.int p2), .val (.int p3), .val (.ref b63), .val (.ref sa), .val (.ref pp), .val (.ref ls), .val (.int k), .val (.ref se), .val (.ref ls)] [(.int k)])
    refine g_iload S76.here hx (hb hby at_151) rfl 153 rfl ?_
    refine g_icmpT S76.here hx (hb hby at_153) k.toInt k.toInt rfl rfl (show k.toInt = k.toInt from rfl) 158 (by decide) (by decide) ?_
    refine g_iload S76.here hx (hb hby at_158) rfl 160 rfl ?_
    refine g_if S76.here hx (hb hby at_160) k.toInt rfl 176 163 (by decide) (by decide) rfl (fun (hc160 : k.toInt = 0) => ?_) (fun (hc160 : ¬ (k.toInt = 0)) => ?_)
    · refine g_iconst S76.here hx (hb hby at_176) (1 : Int32) (by decide) 177 rfl ?_
      refine g_goto S76.here hx (hb hby at_177) 181 (by decide) (by decide) ?_
      exact S76.iret hx hlk hret (Or.inr (Or.inl rfl)) rfl (hb hby at_181) rfl (by decide) (by decide)
    · refine g_aload S76.here hx (hb hby at_163) rfl rfl 165 rfl ?_
      refine g_iconst S76.here hx (hb hby at_165) (0 : Int32) (by decide) 166 rfl ?_
      have TZ : own_ten Z h74 b (.ref pp) := TY.resolve_left hc160
      refine S76.callF hx (W := 0) (C := "java/util/ArrayList") (own_q156 hw) (own_q157 hw) (own_q158 hw) (own_q159 hw) (own_q160 hw) (own_q161 hw) (own_q162 hw) (own_q123 hw) (by decide) AY.1 (own_q163 hw) (own_q78 hw) (ctGt l Z a0 hw ls b pp k h74 S76.old (by omega) AY TZ) nosf (by decide) (by decide) (by rw [hml]; rfl) [(.int (0 : Int32))] [] (lenOf own_pd223 rfl) rfl rfl (Nat.le_refl _) (hb hby at_166) (by decide) (by decide) 171 rfl (fun v77 vm77 T77 h77 S77 Q77 R77 => ?_)
      obtain ⟨rfl, rfl⟩ := Q77
      show Goes _ _ _ _ T77 (mkF m 171 #[.val (.int p1), .val (.int p2), .val (.int p3), .val (.ref b63), .val (.ref sa), .val (.ref pp), .val (.ref ls), .val (.int k), .val (.ref se), .val (.ref ls)] [(.ref pp)])
      refine g_aload S77.here hx (hb hby at_171) rfl rfl 173 rfl ?_
      refine S77.acmp hx (hb hby at_173) rfl rfl true (decide_eq_true rfl) (by decide) 176 (by decide) ?_
      refine g_iconst S77.here hx (hb hby at_176) (1 : Int32) (by decide) 177 rfl ?_
      refine g_goto S77.here hx (hb hby at_177) 181 (by decide) (by decide) ?_
      exact S77.iret hx hlk hret (Or.inr (Or.inl rfl)) rfl (hb hby at_181) rfl (by decide) (by decide)
  refine g_iload S72.here hx (hb hby at_74) rfl 76 rfl ?_
  refine g_iconst S72.here hx (hb hby at_76) (1 : Int32) (by decide) 77 rfl ?_
  refine g_icmp S72.here hx (hb hby at_77) k.toInt 1 rfl (by decide) 88 80 (by decide) (by decide) rfl (fun (hc77 : k.toInt < 1) => ?_) (fun (hc77 : ¬ (k.toInt < 1)) => ?_)
  · refine g_iload S72.here hx (hb hby at_88) rfl 90 rfl ?_
    refine g_iconst S72.here hx (hb hby at_90) (2 : Int32) (by decide) 91 rfl ?_
    refine g_icmpT S72.here hx (hb hby at_91) k.toInt 2 rfl (by decide) (show k.toInt < 2 from by omega) 102 (by decide) (by decide) ?_
    refine g_iload S72.here hx (hb hby at_102) rfl 104 rfl ?_
    refine g_iconst S72.here hx (hb hby at_104) (3 : Int32) (by decide) 105 rfl ?_
    refine g_icmpT S72.here hx (hb hby at_105) k.toInt 3 rfl (by decide) (show k.toInt < 3 from by omega) 116 (by decide) (by decide) ?_
    obtain rfl : k = 0 := Int32.toInt_inj.mp (by have e : (0 : Int32).toInt = 0 := (by decide); omega)
    exact tail _ _ _ _ (S72.more (by decide) (by decide)) AL0 (Or.inl (by decide)) PE
  · refine g_aload S72.here hx (hb hby at_80) rfl rfl 82 rfl ?_
    refine g_aload S72.here hx (hb hby at_82) rfl rfl 84 rfl ?_
    refine S72.callV hx (W := 0) (C := "java/util/ArrayList") (own_q127 hw) (own_q128 hw) (notFace_of_selects (args := #[]) (mvT S72.warm (own_q130 hw))) (own_q130 hw) (own_q129 hw) (by decide) AL0.1 (own_q131 hw) (own_q78 hw) (ctA1e l Z a0 hw ls pp df h72 S72.old DF AL0 ga71 PE) nosf (by decide) (by decide) (by rw [hml]; rfl) [(.ref pp)] [] (lenOf own_pd231 rfl) rfl rfl (Nat.le_refl _) (hb hby at_84) (by decide) (by decide) 87 rfl (fun v78 vm78 T78 h78 S78 Q78 R78 => ?_)
    obtain ⟨rfl, ⟨b, AL1, TN, gb⟩, K78⟩ := Q78
    show Goes _ _ _ _ T78 (mkF m 87 #[.val (.int p1), .val (.int p2), .val (.int p3), .val (.ref b63), .val (.ref sa), .val (.ref pp), .val (.ref ls), .val (.int k), .unset, .unset] [(.int (1 : Int32))])
    have gz : Z.heap.size ≤ b := Nat.le_trans S72.size gb
    have PE := PE.keep K78
    have z1 : (1 : Int32).toInt = 1 := by decide
    refine g_pop S78.here hx (hb hby at_87) rfl 88 rfl ?_
    refine g_iload S78.here hx (hb hby at_88) rfl 90 rfl ?_
    refine g_iconst S78.here hx (hb hby at_90) (2 : Int32) (by decide) 91 rfl ?_
    refine g_icmp S78.here hx (hb hby at_91) k.toInt 2 rfl (by decide) 102 94 (by decide) (by decide) rfl (fun (hc91 : k.toInt < 2) => ?_) (fun (hc91 : ¬ (k.toInt < 2)) => ?_)
    · refine g_iload S78.here hx (hb hby at_102) rfl 104 rfl ?_
      refine g_iconst S78.here hx (hb hby at_104) (3 : Int32) (by decide) 105 rfl ?_
      refine g_icmpT S78.here hx (hb hby at_105) k.toInt 3 rfl (by decide) (show k.toInt < 3 from by omega) 116 (by decide) (by decide) ?_
      obtain rfl : k = 1 := Int32.toInt_inj.mp (by have e : (1 : Int32).toInt = 1 := (by decide); omega)
      exact tail _ _ _ _ (S78.more (by decide) (by decide)) AL1 (Or.inr TN) PE
    · refine g_aload S78.here hx (hb hby at_94) rfl rfl 96 rfl ?_
      refine g_aload S78.here hx (hb hby at_96) rfl rfl 98 rfl ?_
      refine S78.callV hx (W := 0) (C := "java/util/ArrayList") (own_q127 hw) (own_q128 hw) (notFace_of_selects (args := #[]) (mvT S78.warm (own_q130 hw))) (own_q130 hw) (own_q129 hw) (by decide) AL1.1 (own_q131 hw) (own_q78 hw) (ctA1n l Z a0 hw ls pp b (1 : Int32) _ h78 S78.old AL1 (by decide) TN ga71 gz PE) nosf (by decide) (by decide) (by rw [hml]; rfl) [(.ref pp)] [] (lenOf own_pd231 rfl) rfl rfl (Nat.le_refl _) (hb hby at_98) (by decide) (by decide) 101 rfl (fun v79 vm79 T79 h79 S79 Q79 R79 => ?_)
      obtain ⟨rfl, AL2, TN, K79⟩ := Q79
      show Goes _ _ _ _ T79 (mkF m 101 #[.val (.int p1), .val (.int p2), .val (.int p3), .val (.ref b63), .val (.ref sa), .val (.ref pp), .val (.ref ls), .val (.int k), .unset, .unset] [(.int (1 : Int32))])
      have PE := PE.keep K79
      refine g_pop S79.here hx (hb hby at_101) rfl 102 rfl ?_
      refine g_iload S79.here hx (hb hby at_102) rfl 104 rfl ?_
      refine g_iconst S79.here hx (hb hby at_104) (3 : Int32) (by decide) 105 rfl ?_
      refine g_icmp S79.here hx (hb hby at_105) k.toInt 3 rfl (by decide) 116 108 (by decide) (by decide) rfl (fun (hc105 : k.toInt < 3) => ?_) (fun (hc105 : ¬ (k.toInt < 3)) => ?_)
      · obtain rfl : k = 2 := Int32.toInt_inj.mp (by have e : (2 : Int32).toInt = 2 := (by decide); omega)
        exact tail _ _ _ _ (S79.more (by decide) (by decide)) (by rw [show (2 : Int32) = ((1 : Int32) + (1 : Int32)) from by decide]; exact AL2) (Or.inr TN) PE
      · refine g_aload S79.here hx (hb hby at_108) rfl rfl 110 rfl ?_
        refine g_aload S79.here hx (hb hby at_110) rfl rfl 112 rfl ?_
        refine S79.callV hx (W := 0) (C := "java/util/ArrayList") (own_q127 hw) (own_q128 hw) (notFace_of_selects (args := #[]) (mvT S79.warm (own_q130 hw))) (own_q130 hw) (own_q129 hw) (by decide) AL2.1 (own_q131 hw) (own_q78 hw) (ctA1n l Z a0 hw ls pp b ((1 : Int32) + (1 : Int32)) _ h79 S79.old AL2 (by decide) TN ga71 gz PE) nosf (by decide) (by decide) (by rw [hml]; rfl) [(.ref pp)] [] (lenOf own_pd231 rfl) rfl rfl (Nat.le_refl _) (hb hby at_112) (by decide) (by decide) 115 rfl (fun v80 vm80 T80 h80 S80 Q80 R80 => ?_)
        obtain ⟨rfl, AL3, TN, K80⟩ := Q80
        show Goes _ _ _ _ T80 (mkF m 115 #[.val (.int p1), .val (.int p2), .val (.int p3), .val (.ref b63), .val (.ref sa), .val (.ref pp), .val (.ref ls), .val (.int k), .unset, .unset] [(.int (1 : Int32))])
        have PE := PE.keep K80
        refine g_pop S80.here hx (hb hby at_115) rfl 116 rfl ?_
        obtain rfl : k = 3 := Int32.toInt_inj.mp (by have e : (3 : Int32).toInt = 3 := (by decide); omega)
        exact tail _ _ _ _ (S80.more (by decide) (by decide)) (by rw [show (3 : Int32) = (((1 : Int32) + (1 : Int32)) + (1 : Int32)) from by decide]; exact AL3) (Or.inr TN) PE
theorem own_lenw {args : Array Value} {s : State} {t : Term} {a : Addr} {c : Cell} {ty : FieldType} {z : Int32} (ev : t.eval args s none [] s = some (.ref a)) (A : Arr s s.heap a c ty) (h : (Jvm.Cond.eq (Term.length t) (Term.int z)).value args s none s [] = some true) : c.slots.size < 2 ^ 31 ∧ c.slots.size.toInt32 = z := by
  have ha := A.fin (Vm.Alike.refl _)
  by_cases hl : c.slots.size < 2 ^ 31
  · exact ⟨hl, gotT (Cond.eq_ints (len_f ev ha hl) (Term.int_eval z)) h⟩
  · exfalso
    obtain ⟨x, y, q1, -, -⟩ := cmp_v (Or.inl h)
    simp [Term.eval, ev, ha, hl] at q1
set_option maxRecDepth 65536 in
set_option maxHeartbeats 40000000 in
theorem comes_1 {Post : Tables → Env → Array Value → State → Outcome → State → Prop} (hpost : ∀ tb e args s v u, (limb_1_1.after args s (.returned v) u = true ∧ limb_1_2.after args s (.returned v) u = true ∧ True) → FrameEnd s (.returned v) u (Jvm.fieldLocs frame_1_writes args s ++ Jvm.arrayLocs frame_1_arrays args s ++ Jvm.staticLocs frame_1_statics s) 32 192 → Post tb e args s (.returned v) u) :
    ArmFor flags0 classFile x code maxLocals ret World_1 tables_1 room_1 Calls_1 rest_1 Pre_1 Post := by
  intro l hfl _ _ p e ha hc hk s m args below hf hA hF happ hP
  obtain ⟨hcalls, hrest, hpre⟩ := hP
  obtain ⟨-, -, -, hnamed, -, -, -, hat⟩ := (Spec.applies_iff hf).mp happ
  obtain ⟨hg, hn⟩ := and_e (Cond.before_iff.mp (show (Jvm.Cond.and given_1 narrow_1).before args s = true from hpre))
  obtain ⟨gc, gr⟩ := and_e hg
  obtain ⟨g0, gr0⟩ := and_e gr
  obtain ⟨g1, gr1⟩ := and_e gr0
  have g2 := gr1
  obtain ⟨w0, w1, w2, rfl⟩ : ∃ w0 w1 w2 : Value, args = #[w0, w1, w2] := by
    have hs : args.size = 3 := by simpa [Cond.value, given_1] using gc
    obtain ⟨L⟩ := args
    match L, hs with
    | [w0, w1, w2], _ => exact ⟨w0, w1, w2, rfl⟩
  have hw := fun d (hd : d ∈ tables_1) => atoms_spec (ws := Jvm.Cond.code x code maxLocals ret :: tables_1) hat d (List.mem_cons_of_mem _ hd)
  have hfit : Fit s := fun {y c} hc i hi => by
    obtain ⟨ha, rfl⟩ := Array.getElem?_eq_some_iff.mp hc
    have q := List.all_eq_true.mp ((Array.all_eq_true_iff_forall_mem.mp hF) _ (Array.getElem_mem ha)) i (List.mem_range.mpr hi)
    simpa [Array.getElem?_eq_getElem hi] using q
  obtain ⟨i0, e0⟩ := is_v g0
  obtain rfl : w0 = (.int i0) := Option.some.inj e0
  obtain ⟨i1, e1⟩ := is_v g1
  obtain rfl : w1 = (.int i1) := Option.some.inj e1
  obtain ⟨i2, e2⟩ := is_v g2
  obtain rfl : w2 = (.int i2) := Option.some.inj e2
  obtain ⟨hsets, hown0⟩ := atoms_of _ (rest_1_c_eq ▸ (show rest_1_c.before _ s = true from hrest))
  have n5 := not_v (Cond.before_iff.mp (hsets _ (List.mem_of_getElem? (i := 2) rfl)))
  obtain ⟨z, ez⟩ := is_v (Cond.before_iff.mp (hsets _ (List.mem_of_getElem? (i := 1) rfl)))
  have G : own_cs s := ⟨z, Sta.start ez (Or.inl (hsets _ (List.mem_of_getElem? (i := 0) rfl))), gotF (Cond.eq_ints ez (Term.int_eval (0))) n5⟩
  obtain ⟨df, ed⟩ := exa_v (Cond.before_iff.mp (hsets _ (List.mem_of_getElem? (i := 16) rfl)))
  obtain ⟨cd, Ad⟩ := Arr.start ed (Cond.before_iff.mp (hsets _ (List.mem_of_getElem? (i := 15) rfl)))
  obtain ⟨zd, Ld⟩ := own_lenw ed Ad (Cond.before_iff.mp (hsets _ (List.mem_of_getElem? (i := 17) rfl)))
  have DF : own_df s df := ⟨Sta.start ed (Or.inr ⟨(own_q78 hw), hsets _ (List.mem_of_getElem? (i := 11) rfl)⟩), cd.cls, Arv.start hfit Ad zd Ld (by decide) (by decide) trivial⟩
  obtain ⟨n, o, h1, h2, h3, v, L, rfl, ⟨rfl, N, -⟩, -, hq⟩ := ct0 l s _ hw i0 i1 i2 df s.heap (Old.start s) G DF tables_1 p e ha hc hk s m _ below hf ((Spec.applies_iff_loose hf).mp happ).1 ⟨rfl, State.Warmed39.refl s, rfl, chv_nil, fun _ q => nomatch q⟩ (fun q => by cases q)
  have hq := hq.1 rfl
  refine ⟨n, _, h1, h2, h3, hpost _ _ _ _ _ _ ⟨Cond.after_iff.mpr rfl, Cond.after_iff.mpr (eq_i res_at (Term.int_eval (1)) rfl), trivial⟩ ⟨hq.1, hq.2.1, (hq.2.2.sift fun y hy => Or.inr (N y hy)).mono (by decide) (by decide)⟩⟩
theorem main_1_1 : Claimed_1_1 := comes_1 fun _ _ _ _ _ _ h hF => ⟨h.1, hF⟩
theorem main_1_2 : Claimed_1_2 := comes_1 fun _ _ _ _ _ _ h hF => ⟨h.2.1, hF⟩
end Jvm.Pilot.@@N@@
namespace Jvm.Pilot.@@N@@
open Jvm Jvm.ClassFile Sem Op Lib Jvm.Free Jvm.Stand Jvm.Pilot.@@N@@.Jvm.D
/-! MADE BY PROGRAM (witnessworld.py) out of the Statement's table words and the real class files: 33 classes; the members and pool entries that the words name. The judged class is class 1, her method 1. -/
namespace start1
open Jvm.ClassFile
def u (s : String) : CpInfo := .utf8 (stringToUtf16 s)
/-- a pool by its gaps: so many unusable entries, then the entry; so many at the end -/
def gap : Nat → List CpInfo → List CpInfo
  | 0, r => r
  | n + 1, r => .unusable :: gap n r
def poolList (es : List (Nat × CpInfo)) (last : Nat) : List CpInfo := es.foldr (fun e r => gap e.1 (e.2 :: r)) (gap last [])
def pool (es : List (Nat × CpInfo)) (last : Nat) : Array CpInfo := ⟨poolList es last⟩
def fileOf (pool : Array CpInfo) (this : Nat) (attrs : Array Attribute := #[]) (ms : Array MethodInfo := #[]) (fl : Nat := 33) (sup : Nat := 0) (ifs : Array Nat := #[]) (fds : Array FieldInfo := #[]) : ClassFile where
  minorVersion := 0
  majorVersion := 65
  constantPool := pool
  accessFlags := fl
  thisClass := this
  superClass := sup
  interfaces := ifs
  fields := fds
  methods := ms
  attributes := attrs
def plain (name : String) (sup : Option ClassId) : Class where
  name := name
  kind := .ordinary
  loader := none
  accessFlags := 33
  super := sup
  interfaces := #[]
  cf := none
  fields := #[]
  methods := #[]
  instanceTypes := #[]
  staticTypes := #[]
  resolved := #[]
  callSites := []
  init := .initialized
  statics := none
  mirror := none

def pool0 : Array CpInfo := pool [(5, u "<init>"), (0, u "()V"), (1, .class_ 10), (1, u "java/lang/Object")] 113

def k0c0 : Code := { maxStack := 0, maxLocals := 1, code := object_method_1_code, exceptionTable := #[], attributes := #[] }
def k0m0 : Method := { name := "<init>", desc := "()V", sig := { parameters := [], returnType := none }, accessFlags := 1, code := some k0c0 }
/-- java/lang/Object -/
def k0 : Class := { plain "java/lang/Object" none with
  accessFlags := 33
  interfaces := #[]
  cf := some (fileOf pool0 8 #[] #[{ accessFlags := 1, nameIndex := 5, descriptorIndex := 6, attributes := #[] }] 33 0 #[] #[])
  fields := #[]
  methods := #[k0m0]
  instanceTypes := #[]
  staticTypes := #[]
  resolved := Array.replicate 124 none
  statics := none }

def pool1 : Array CpInfo := pool [(2, .class_ 4), (0, .nameAndType 5 6), (0, u "java/lang/Object"), (0, u "<init>"), (0, u "()V"), (0, .class_ 8), (0, u "java/lang/String"), (0, .methodref 7 10), (0, .nameAndType 5 11), (0, u "([C)V"), (0, .class_ 13), (0, u "com/example/farecraft/farecraft/PassPrice"), (0, .methodref 7 15), (0, .nameAndType 16 17), (0, u "valueOf"), (0, u "(C)Ljava/lang/String;"), (0, .methodref 12 19), (0, .nameAndType 5 20), (0, u "(Ljava/lang/String;Ljava/lang/String;Ljava/lang/String;Ljava/lang/String;Ljava/lang/String;Ljava/lang/String;Ljava/lang/String;Ljava/lang/String;Ljava/math/BigDecimal;Ljava/lang/String;)V"), (0, .class_ 22), (0, u "java/util/ArrayList"), (0, .methodref 21 3), (0, .methodref 21 25), (0, .nameAndType 26 27), (0, u "add"), (0, u "(Ljava/lang/Object;)Z"), (0, .class_ 29), (0, u "com/example/farecraft/farecraft/PassPrices$Settled"), (0, .methodref 28 31), (0, .nameAndType 5 32), (0, u "(Ljava/util/List;Lcom/example/farecraft/farecraft/FareFileException;)V"), (0, .methodref 28 34), (0, .nameAndType 35 36), (0, u "get"), (0, u "()Ljava/util/List;"), (0, .interfaceMethodref 38 39), (0, .class_ 40), (0, .nameAndType 41 42), (0, u "java/util/List"), (0, u "size"), (0, u "()I"), (0, .interfaceMethodref 38 44), (0, .nameAndType 35 45), (0, u "(I)Ljava/lang/Object;"), (0, .class_ 47), (0, u "com/example/farecraft/farecraft/SettledGetPinLaw"), (2, u "law"), (0, u "(III)Z")] 12

def k1m0 : Method := { name := "<init>", desc := "()V", sig := { parameters := [], returnType := none }, accessFlags := 1, code := none }
def k1c1 : Code := { maxStack := 12, maxLocals := 10, code := code, exceptionTable := #[], attributes := #[] }
def k1m1 : Method := { name := "law", desc := "(III)Z", sig := { parameters := [.int, .int, .int], returnType := some .boolean }, accessFlags := 9, code := some k1c1 }
/-- com/example/farecraft/farecraft/SettledGetPinLaw -/
def k1 : Class := { plain "com/example/farecraft/farecraft/SettledGetPinLaw" (some 0) with
  accessFlags := 49
  interfaces := #[]
  cf := some (fileOf pool1 46 #[] #[{ accessFlags := 1, nameIndex := 5, descriptorIndex := 6, attributes := #[] }, { accessFlags := 9, nameIndex := 50, descriptorIndex := 51, attributes := #[] }] 49 2 #[] #[])
  fields := #[]
  methods := #[k1m0, k1m1]
  instanceTypes := #[]
  staticTypes := #[]
  resolved := Array.replicate 64 none
  statics := none }

def pool2 : Array CpInfo := pool [(1, .class_ 2), (0, u "java/io/Serializable"), (0, .class_ 4), (0, u "java/lang/Object")] 2

/-- java/io/Serializable -/
def k2 : Class := { plain "java/io/Serializable" (some 0) with
  accessFlags := 1537
  interfaces := #[]
  cf := some (fileOf pool2 1 #[] #[] 1537 3 #[] #[])
  fields := #[]
  methods := #[]
  instanceTypes := #[]
  staticTypes := #[]
  resolved := Array.replicate 7 none
  statics := none }

def pool3 : Array CpInfo := pool [(1, .class_ 2), (0, u "java/lang/Comparable"), (0, .class_ 4), (0, u "java/lang/Object")] 7

/-- java/lang/Comparable -/
def k3 : Class := { plain "java/lang/Comparable" (some 0) with
  accessFlags := 1537
  interfaces := #[]
  cf := some (fileOf pool3 1 #[] #[] 1537 3 #[] #[])
  fields := #[]
  methods := #[]
  instanceTypes := #[]
  staticTypes := #[]
  resolved := Array.replicate 12 none
  statics := none }

def pool4 : Array CpInfo := pool [(2, .class_ 4), (1, u "java/lang/CharSequence"), (42, .class_ 48), (0, u "java/lang/CharSequence$1CodePointIterator"), (10, .class_ 60), (0, u "java/lang/CharSequence$1CharIterator"), (5, .class_ 67), (0, u "java/lang/Object")] 63

/-- java/lang/CharSequence -/
def k4 : Class := { plain "java/lang/CharSequence" (some 0) with
  accessFlags := 1537
  interfaces := #[]
  cf := some (fileOf pool4 2 #[.nestMembers #[47, 59]] #[] 1537 66 #[] #[])
  fields := #[]
  methods := #[]
  instanceTypes := #[]
  staticTypes := #[]
  resolved := Array.replicate 131 none
  statics := none }

def pool5 : Array CpInfo := pool [(1, .class_ 2), (0, u "java/lang/constant/Constable"), (0, .class_ 4), (0, u "java/lang/Object")] 6

/-- java/lang/constant/Constable -/
def k5 : Class := { plain "java/lang/constant/Constable" (some 0) with
  accessFlags := 1537
  interfaces := #[]
  cf := some (fileOf pool5 1 #[] #[] 1537 3 #[] #[])
  fields := #[]
  methods := #[]
  instanceTypes := #[]
  staticTypes := #[]
  resolved := Array.replicate 11 none
  statics := none }

def pool6 : Array CpInfo := pool [(1, .class_ 2), (0, u "java/lang/constant/ConstantDesc"), (0, .class_ 4), (0, u "java/lang/Object")] 32

/-- java/lang/constant/ConstantDesc -/
def k6 : Class := { plain "java/lang/constant/ConstantDesc" (some 0) with
  accessFlags := 1537
  interfaces := #[]
  cf := some (fileOf pool6 1 #[] #[] 1537 3 #[] #[])
  fields := #[]
  methods := #[]
  instanceTypes := #[]
  staticTypes := #[]
  resolved := Array.replicate 37 none
  statics := none }

def pool7 : Array CpInfo := pool [(1, .methodref 2 3), (0, .class_ 4), (0, .nameAndType 5 6), (0, u "java/lang/Object"), (0, u "<init>"), (0, u "()V"), (2, .fieldref 10 11), (0, .class_ 12), (0, .nameAndType 13 14), (0, u "java/lang/String"), (0, u "value"), (0, u "[B"), (0, .fieldref 10 16), (0, .nameAndType 17 18), (0, u "coder"), (0, u "B"), (2, u "hash"), (0, u "I"), (2, u "hashIsZero"), (0, u "Z"), (0, .methodref 10 28), (0, .nameAndType 5 29), (0, u "([CIILjava/lang/Void;)V"), (8, .fieldref 10 39), (0, .nameAndType 40 26), (0, u "COMPACT_STRINGS"), (1, .class_ 44), (1, u "java/lang/StringUTF16"), (0, u "compress"), (1, .methodref 42 48), (0, .nameAndType 49 50), (0, u "coderFromArrayLen"), (0, u "([BI)B"), (2, u "toBytes"), (53, .class_ 109), (1, u "java/lang/StringLatin1"), (67, .methodref 42 178), (0, .nameAndType 45 179), (0, u "([CII)[B"), (29, .methodref 10 210), (0, .nameAndType 5 211), (0, u "([BB)V"), (157, u "(C)Z"), (205, .class_ 576), (0, u "java/lang/CharSequence"), (22, u "CASE_INSENSITIVE_ORDER"), (0, u "Ljava/util/Comparator;"), (181, u "valueOf"), (0, u "(C)Ljava/lang/String;"), (226, u "([C)V"), (4, .methodref 107 1016), (0, .nameAndType 1017 369), (0, u "canEncode"), (0, .methodref 107 1019), (0, .nameAndType 53 1020), (0, u "(C)[B"), (80, u "serialPersistentFields"), (0, u "[Ljava/io/ObjectStreamField;"), (0, .class_ 1104), (0, u "java/lang/String$CaseInsensitiveComparator"), (1, .class_ 1107), (0, u "java/io/Serializable"), (0, .class_ 1109), (0, u "java/lang/Comparable"), (0, .class_ 1111), (0, u "java/lang/constant/Constable"), (0, .class_ 1113), (0, u "java/lang/constant/ConstantDesc"), (2, u "serialVersionUID"), (0, u "J"), (3, u "REPL"), (0, u "C"), (2, u "LATIN1"), (1, u "UTF16")] 323

def k7m0 : Method := { name := "<init>", desc := "()V", sig := { parameters := [], returnType := none }, accessFlags := 1, code := none }
def k7c1 : Code := { maxStack := 5, maxLocals := 2, code := jdk_42_method_3_code, exceptionTable := #[], attributes := #[] }
def k7m1 : Method := { name := "<init>", desc := "([C)V", sig := { parameters := [(.array .char)], returnType := none }, accessFlags := 1, code := some k7c1 }
def k7c2 : Code := { maxStack := 4, maxLocals := 1, code := jdk_42_method_139_code, exceptionTable := #[], attributes := #[] }
def k7m2 : Method := { name := "valueOf", desc := "(C)Ljava/lang/String;", sig := { parameters := [.char], returnType := some (.object "java/lang/String") }, accessFlags := 9, code := some k7c2 }
def k7c3 : Code := { maxStack := 4, maxLocals := 6, code := jdk_42_method_149_code, exceptionTable := #[], attributes := #[] }
def k7m3 : Method := { name := "<init>", desc := "([CIILjava/lang/Void;)V", sig := { parameters := [(.array .char), .int, .int, (.object "java/lang/Void")], returnType := none }, accessFlags := 2, code := some k7c3 }
def k7c4 : Code := { maxStack := 2, maxLocals := 3, code := jdk_42_method_151_code, exceptionTable := #[], attributes := #[] }
def k7m4 : Method := { name := "<init>", desc := "([BB)V", sig := { parameters := [(.array .byte), .byte], returnType := none }, accessFlags := 0, code := some k7c4 }
/-- java/lang/String -/
def k7 : Class := { plain "java/lang/String" (some 0) with
  accessFlags := 49
  interfaces := #[2, 3, 4, 5, 6]
  cf := some (fileOf pool7 10 #[.nestMembers #[1103]] #[{ accessFlags := 1, nameIndex := 5, descriptorIndex := 6, attributes := #[] }, { accessFlags := 1, nameIndex := 5, descriptorIndex := 1010, attributes := #[] }, { accessFlags := 9, nameIndex := 782, descriptorIndex := 783, attributes := #[] }, { accessFlags := 2, nameIndex := 5, descriptorIndex := 29, attributes := #[] }, { accessFlags := 0, nameIndex := 5, descriptorIndex := 211, attributes := #[] }] 49 2 #[1106, 1108, 575, 1110, 1112] #[{ accessFlags := 18, nameIndex := 13, descriptorIndex := 14, attributes := #[] }, { accessFlags := 18, nameIndex := 17, descriptorIndex := 18, attributes := #[] }, { accessFlags := 2, nameIndex := 21, descriptorIndex := 22, attributes := #[] }, { accessFlags := 2, nameIndex := 25, descriptorIndex := 26, attributes := #[] }, { accessFlags := 26, nameIndex := 1116, descriptorIndex := 1117, attributes := #[] }, { accessFlags := 24, nameIndex := 40, descriptorIndex := 26, attributes := #[] }, { accessFlags := 26, nameIndex := 1101, descriptorIndex := 1102, attributes := #[] }, { accessFlags := 26, nameIndex := 1121, descriptorIndex := 1122, attributes := #[] }, { accessFlags := 25, nameIndex := 599, descriptorIndex := 600, attributes := #[] }, { accessFlags := 24, nameIndex := 1125, descriptorIndex := 18, attributes := #[] }, { accessFlags := 24, nameIndex := 1127, descriptorIndex := 18, attributes := #[] }])
  fields := #[{ name := "value", type := (.array .byte), accessFlags := 18, slot := 0, constantValue := 0 }, { name := "coder", type := .byte, accessFlags := 18, slot := 1, constantValue := 0 }, { name := "hash", type := .int, accessFlags := 2, slot := 2, constantValue := 0 }, { name := "hashIsZero", type := .boolean, accessFlags := 2, slot := 3, constantValue := 0 }, { name := "serialVersionUID", type := .long, accessFlags := 26, slot := 0, constantValue := 0 }, { name := "COMPACT_STRINGS", type := .boolean, accessFlags := 24, slot := 1, constantValue := 0 }, { name := "serialPersistentFields", type := (.array (.object "java/io/ObjectStreamField")), accessFlags := 26, slot := 2, constantValue := 0 }, { name := "REPL", type := .char, accessFlags := 26, slot := 3, constantValue := 0 }, { name := "CASE_INSENSITIVE_ORDER", type := (.object "java/util/Comparator"), accessFlags := 25, slot := 4, constantValue := 0 }, { name := "LATIN1", type := .byte, accessFlags := 24, slot := 5, constantValue := 0 }, { name := "UTF16", type := .byte, accessFlags := 24, slot := 6, constantValue := 0 }]
  methods := #[k7m0, k7m1, k7m2, k7m3, k7m4]
  instanceTypes := #[(.array .byte), .byte, .int, .boolean]
  staticTypes := #[.long, .boolean, (.array (.object "java/io/ObjectStreamField")), .char, (.object "java/util/Comparator"), .byte, .byte]
  resolved := Array.replicate 1451 none
  statics := some 0 }

def pool8 : Array CpInfo := pool [(6, .class_ 8), (1, u "java/lang/Object"), (0, u "<init>"), (0, u "()V"), (1, .class_ 14), (1, u "java/lang/StringUTF16"), (31, u "$assertionsDisabled"), (0, u "Z"), (13, u "HI_BYTE_SHIFT"), (0, u "I"), (2, u "LO_BYTE_SHIFT"), (49, .methodref 12 116), (0, .nameAndType 117 118), (0, u "compress"), (0, u "([CI[BII)I"), (3, u "([CII)[B"), (138, u "coderFromArrayLen"), (0, u "([BI)B"), (106, .class_ 371), (1, u "java/lang/StringUTF16$LinesSpliterator"), (58, u "MAX_LENGTH"), (196, .class_ 628), (0, u "java/lang/StringUTF16$CodePointsSpliterator"), (0, .class_ 630), (0, u "java/lang/StringUTF16$CharsSpliterator")] 4

def k8m0 : Method := { name := "<init>", desc := "()V", sig := { parameters := [], returnType := none }, accessFlags := 0, code := none }
def k8c1 : Code := { maxStack := 2, maxLocals := 2, code := jdk_52_method_15_code, exceptionTable := #[], attributes := #[] }
def k8m1 : Method := { name := "coderFromArrayLen", desc := "([BI)B", sig := { parameters := [(.array .byte), .int], returnType := some .byte }, accessFlags := 8, code := some k8c1 }
def k8c2 : Code := { maxStack := 5, maxLocals := 6, code := jdk_52_method_16_code, exceptionTable := #[], attributes := #[] }
def k8m2 : Method := { name := "compress", desc := "([CII)[B", sig := { parameters := [(.array .char), .int, .int], returnType := some (.array .byte) }, accessFlags := 9, code := some k8c2 }
def k8c3 : Code := { maxStack := 3, maxLocals := 7, code := jdk_52_method_21_code, exceptionTable := #[], attributes := #[] }
def k8m3 : Method := { name := "compress", desc := "([CI[BII)I", sig := { parameters := [(.array .char), .int, (.array .byte), .int, .int], returnType := some .int }, accessFlags := 9, code := some k8c3 }
/-- java/lang/StringUTF16 -/
def k8 : Class := { plain "java/lang/StringUTF16" (some 0) with
  accessFlags := 48
  interfaces := #[]
  cf := some (fileOf pool8 12 #[.nestMembers #[627, 629, 369]] #[{ accessFlags := 0, nameIndex := 9, descriptorIndex := 10, attributes := #[] }, { accessFlags := 8, nameIndex := 261, descriptorIndex := 262, attributes := #[] }, { accessFlags := 9, nameIndex := 117, descriptorIndex := 122, attributes := #[] }, { accessFlags := 9, nameIndex := 117, descriptorIndex := 118, attributes := #[] }] 48 6 #[] #[{ accessFlags := 26, nameIndex := 61, descriptorIndex := 62, attributes := #[] }, { accessFlags := 26, nameIndex := 65, descriptorIndex := 62, attributes := #[] }, { accessFlags := 24, nameIndex := 430, descriptorIndex := 62, attributes := #[] }, { accessFlags := 4120, nameIndex := 46, descriptorIndex := 47, attributes := #[] }])
  fields := #[{ name := "HI_BYTE_SHIFT", type := .int, accessFlags := 26, slot := 0, constantValue := 0 }, { name := "LO_BYTE_SHIFT", type := .int, accessFlags := 26, slot := 1, constantValue := 0 }, { name := "MAX_LENGTH", type := .int, accessFlags := 24, slot := 2, constantValue := 0 }, { name := "$assertionsDisabled", type := .boolean, accessFlags := 4120, slot := 3, constantValue := 0 }]
  methods := #[k8m0, k8m1, k8m2, k8m3]
  instanceTypes := #[]
  staticTypes := #[.int, .int, .int, .boolean]
  resolved := Array.replicate 635 none
  statics := none }

def pool9 : Array CpInfo := pool [(1, .methodref 2 3), (0, .class_ 4), (0, .nameAndType 5 6), (0, u "java/lang/Object"), (0, u "<init>"), (0, u "()V"), (0, .class_ 8), (0, u "java/lang/Record")] 13

def k9c0 : Code := { maxStack := 1, maxLocals := 1, code := jdk_30_method_1_code, exceptionTable := #[], attributes := #[] }
def k9m0 : Method := { name := "<init>", desc := "()V", sig := { parameters := [], returnType := none }, accessFlags := 4, code := some k9c0 }
/-- java/lang/Record -/
def k9 : Class := { plain "java/lang/Record" (some 0) with
  accessFlags := 1057
  interfaces := #[]
  cf := some (fileOf pool9 7 #[] #[{ accessFlags := 4, nameIndex := 5, descriptorIndex := 6, attributes := #[] }] 1057 2 #[] #[])
  fields := #[]
  methods := #[k9m0]
  instanceTypes := #[]
  staticTypes := #[]
  resolved := Array.replicate 22 none
  statics := none }

def pool10 : Array CpInfo := pool [(1, .methodref 2 3), (0, .class_ 4), (0, .nameAndType 5 6), (0, u "java/lang/Record"), (0, u "<init>"), (0, u "()V"), (0, .fieldref 8 9), (0, .class_ 10), (0, .nameAndType 11 12), (0, u "com/example/farecraft/farecraft/PassPrice"), (0, u "farePrice"), (0, u "Ljava/lang/String;"), (0, .fieldref 8 14), (0, .nameAndType 15 12), (0, u "timeInterval"), (0, .fieldref 8 17), (0, .nameAndType 18 12), (0, u "duration"), (0, .fieldref 8 20), (0, .nameAndType 21 12), (0, u "zone"), (0, .fieldref 8 23), (0, .nameAndType 24 12), (0, u "userProfile"), (0, .fieldref 8 26), (0, .nameAndType 27 12), (0, u "groupTicket"), (0, .fieldref 8 29), (0, .nameAndType 30 12), (0, u "salesOfferPackage"), (0, .fieldref 8 32), (0, .nameAndType 33 12), (0, u "fareProduct"), (0, .fieldref 8 35), (0, .nameAndType 36 37), (0, u "amount"), (0, u "Ljava/math/BigDecimal;"), (0, .fieldref 8 39), (0, .nameAndType 40 12), (0, u "currency"), (12, u "(Ljava/lang/String;Ljava/lang/String;Ljava/lang/String;Ljava/lang/String;Ljava/lang/String;Ljava/lang/String;Ljava/lang/String;Ljava/lang/String;Ljava/math/BigDecimal;Ljava/lang/String;)V")] 36

def k10c0 : Code := { maxStack := 2, maxLocals := 11, code := prog_73_method_1_code, exceptionTable := #[], attributes := #[] }
def k10m0 : Method := { name := "<init>", desc := "(Ljava/lang/String;Ljava/lang/String;Ljava/lang/String;Ljava/lang/String;Ljava/lang/String;Ljava/lang/String;Ljava/lang/String;Ljava/lang/String;Ljava/math/BigDecimal;Ljava/lang/String;)V", sig := { parameters := [(.object "java/lang/String"), (.object "java/lang/String"), (.object "java/lang/String"), (.object "java/lang/String"), (.object "java/lang/String"), (.object "java/lang/String"), (.object "java/lang/String"), (.object "java/lang/String"), (.object "java/math/BigDecimal"), (.object "java/lang/String")], returnType := none }, accessFlags := 1, code := some k10c0 }
/-- com/example/farecraft/farecraft/PassPrice -/
def k10 : Class := { plain "com/example/farecraft/farecraft/PassPrice" (some 9) with
  accessFlags := 49
  interfaces := #[]
  cf := some (fileOf pool10 8 #[] #[{ accessFlags := 1, nameIndex := 5, descriptorIndex := 53, attributes := #[] }] 49 2 #[] #[{ accessFlags := 18, nameIndex := 11, descriptorIndex := 12, attributes := #[] }, { accessFlags := 18, nameIndex := 15, descriptorIndex := 12, attributes := #[] }, { accessFlags := 18, nameIndex := 18, descriptorIndex := 12, attributes := #[] }, { accessFlags := 18, nameIndex := 21, descriptorIndex := 12, attributes := #[] }, { accessFlags := 18, nameIndex := 24, descriptorIndex := 12, attributes := #[] }, { accessFlags := 18, nameIndex := 27, descriptorIndex := 12, attributes := #[] }, { accessFlags := 18, nameIndex := 30, descriptorIndex := 12, attributes := #[] }, { accessFlags := 18, nameIndex := 33, descriptorIndex := 12, attributes := #[] }, { accessFlags := 18, nameIndex := 36, descriptorIndex := 37, attributes := #[] }, { accessFlags := 18, nameIndex := 40, descriptorIndex := 12, attributes := #[] }])
  fields := #[{ name := "farePrice", type := (.object "java/lang/String"), accessFlags := 18, slot := 0, constantValue := 0 }, { name := "timeInterval", type := (.object "java/lang/String"), accessFlags := 18, slot := 1, constantValue := 0 }, { name := "duration", type := (.object "java/lang/String"), accessFlags := 18, slot := 2, constantValue := 0 }, { name := "zone", type := (.object "java/lang/String"), accessFlags := 18, slot := 3, constantValue := 0 }, { name := "userProfile", type := (.object "java/lang/String"), accessFlags := 18, slot := 4, constantValue := 0 }, { name := "groupTicket", type := (.object "java/lang/String"), accessFlags := 18, slot := 5, constantValue := 0 }, { name := "salesOfferPackage", type := (.object "java/lang/String"), accessFlags := 18, slot := 6, constantValue := 0 }, { name := "fareProduct", type := (.object "java/lang/String"), accessFlags := 18, slot := 7, constantValue := 0 }, { name := "amount", type := (.object "java/math/BigDecimal"), accessFlags := 18, slot := 8, constantValue := 0 }, { name := "currency", type := (.object "java/lang/String"), accessFlags := 18, slot := 9, constantValue := 0 }]
  methods := #[k10m0]
  instanceTypes := #[(.object "java/lang/String"), (.object "java/lang/String"), (.object "java/lang/String"), (.object "java/lang/String"), (.object "java/lang/String"), (.object "java/lang/String"), (.object "java/lang/String"), (.object "java/lang/String"), (.object "java/math/BigDecimal"), (.object "java/lang/String")]
  staticTypes := #[]
  resolved := Array.replicate 90 none
  statics := none }

def pool11 : Array CpInfo := pool [(4, .class_ 6), (1, u "java/lang/Object"), (0, u "<init>"), (0, u "()V"), (5, .class_ 16), (1, u "java/lang/StringLatin1"), (73, u "canEncode"), (14, u "(C)Z"), (15, u "$assertionsDisabled"), (0, u "Z"), (98, .class_ 223), (1, u "java/lang/StringLatin1$LinesSpliterator"), (156, u "toBytes"), (1, u "(C)[B"), (7, .class_ 391), (0, u "java/lang/StringLatin1$CharsSpliterator")] 3

def k11m0 : Method := { name := "<init>", desc := "()V", sig := { parameters := [], returnType := none }, accessFlags := 0, code := none }
def k11c1 : Code := { maxStack := 2, maxLocals := 1, code := jdk_43_method_3_code, exceptionTable := #[], attributes := #[] }
def k11m1 : Method := { name := "canEncode", desc := "(C)Z", sig := { parameters := [.char], returnType := some .boolean }, accessFlags := 9, code := some k11c1 }
def k11c2 : Code := { maxStack := 4, maxLocals := 1, code := jdk_43_method_46_code, exceptionTable := #[], attributes := #[] }
def k11m2 : Method := { name := "toBytes", desc := "(C)[B", sig := { parameters := [.char], returnType := some (.array .byte) }, accessFlags := 9, code := some k11c2 }
/-- java/lang/StringLatin1 -/
def k11 : Class := { plain "java/lang/StringLatin1" (some 0) with
  accessFlags := 48
  interfaces := #[]
  cf := some (fileOf pool11 14 #[.nestMembers #[390, 221]] #[{ accessFlags := 0, nameIndex := 7, descriptorIndex := 8, attributes := #[] }, { accessFlags := 9, nameIndex := 90, descriptorIndex := 105, attributes := #[] }, { accessFlags := 9, nameIndex := 380, descriptorIndex := 382, attributes := #[] }] 48 4 #[] #[{ accessFlags := 4120, nameIndex := 121, descriptorIndex := 122, attributes := #[] }])
  fields := #[{ name := "$assertionsDisabled", type := .boolean, accessFlags := 4120, slot := 0, constantValue := 0 }]
  methods := #[k11m0, k11m1, k11m2]
  instanceTypes := #[]
  staticTypes := #[.boolean]
  resolved := Array.replicate 395 none
  statics := none }

def pool12 : Array CpInfo := pool [(8, .class_ 10), (1, u "java/lang/Iterable"), (24, .class_ 36), (0, u "java/lang/Object")] 25

/-- java/lang/Iterable -/
def k12 : Class := { plain "java/lang/Iterable" (some 0) with
  accessFlags := 1537
  interfaces := #[]
  cf := some (fileOf pool12 8 #[] #[] 1537 35 #[] #[])
  fields := #[]
  methods := #[]
  instanceTypes := #[]
  staticTypes := #[]
  resolved := Array.replicate 62 none
  statics := none }

def pool13 : Array CpInfo := pool [(10, .class_ 12), (1, u "java/util/Collection"), (47, .class_ 61), (0, u "java/lang/Object"), (0, .class_ 63), (0, u "java/lang/Iterable")] 51

/-- java/util/Collection -/
def k13 : Class := { plain "java/util/Collection" (some 0) with
  accessFlags := 1537
  interfaces := #[12]
  cf := some (fileOf pool13 10 #[] #[] 1537 60 #[62] #[])
  fields := #[]
  methods := #[]
  instanceTypes := #[]
  staticTypes := #[]
  resolved := Array.replicate 115 none
  statics := none }

def pool14 : Array CpInfo := pool [(1, .methodref 2 3), (0, .class_ 4), (0, .nameAndType 5 6), (0, u "java/lang/Object"), (0, u "<init>"), (0, u "()V"), (1, .class_ 10), (1, u "java/util/AbstractCollection"), (66, .class_ 78), (0, u "java/util/Collection")] 81

def k14c0 : Code := { maxStack := 1, maxLocals := 1, code := jdk_22_method_1_code, exceptionTable := #[], attributes := #[] }
def k14m0 : Method := { name := "<init>", desc := "()V", sig := { parameters := [], returnType := none }, accessFlags := 4, code := some k14c0 }
/-- java/util/AbstractCollection -/
def k14 : Class := { plain "java/util/AbstractCollection" (some 0) with
  accessFlags := 1057
  interfaces := #[13]
  cf := some (fileOf pool14 8 #[] #[{ accessFlags := 4, nameIndex := 5, descriptorIndex := 6, attributes := #[] }] 1057 2 #[77] #[])
  fields := #[]
  methods := #[k14m0]
  instanceTypes := #[]
  staticTypes := #[]
  resolved := Array.replicate 160 none
  statics := none }

def pool15 : Array CpInfo := pool [(8, .class_ 10), (1, u "java/util/SequencedCollection"), (15, .class_ 27), (0, u "java/lang/Object"), (0, .class_ 29), (0, u "java/util/Collection")] 27

/-- java/util/SequencedCollection -/
def k15 : Class := { plain "java/util/SequencedCollection" (some 0) with
  accessFlags := 1537
  interfaces := #[13]
  cf := some (fileOf pool15 8 #[] #[] 1537 26 #[28] #[])
  fields := #[]
  methods := #[]
  instanceTypes := #[]
  staticTypes := #[]
  resolved := Array.replicate 57 none
  statics := none }

def pool16 : Array CpInfo := pool [(8, .class_ 10), (1, u "java/util/List"), (64, u "get"), (0, u "(I)Ljava/lang/Object;"), (2, u "size"), (0, u "()I"), (22, .class_ 104), (0, u "java/lang/Object"), (15, .class_ 121), (0, u "java/util/SequencedCollection")] 129

def k16m0 : Method := { name := "size", desc := "()I", sig := { parameters := [], returnType := some .int }, accessFlags := 1025, code := none }
def k16m1 : Method := { name := "get", desc := "(I)Ljava/lang/Object;", sig := { parameters := [.int], returnType := some (.object "java/lang/Object") }, accessFlags := 1025, code := none }
/-- java/util/List -/
def k16 : Class := { plain "java/util/List" (some 0) with
  accessFlags := 1537
  interfaces := #[15]
  cf := some (fileOf pool16 8 #[] #[{ accessFlags := 1025, nameIndex := 79, descriptorIndex := 80, attributes := #[] }, { accessFlags := 1025, nameIndex := 75, descriptorIndex := 76, attributes := #[] }] 1537 103 #[120] #[])
  fields := #[]
  methods := #[k16m0, k16m1]
  instanceTypes := #[]
  staticTypes := #[]
  resolved := Array.replicate 251 none
  statics := none }

def pool17 : Array CpInfo := pool [(1, .methodref 2 3), (0, .class_ 4), (0, .nameAndType 5 6), (0, u "java/util/AbstractCollection"), (0, u "<init>"), (0, u "()V"), (0, .fieldref 8 9), (0, .class_ 10), (0, .nameAndType 11 12), (0, u "java/util/AbstractList"), (0, u "modCount"), (0, u "I"), (64, .class_ 78), (0, u "java/util/AbstractList$Itr"), (3, .class_ 83), (0, u "java/util/AbstractList$ListItr"), (9, .class_ 94), (0, u "java/util/AbstractList$RandomAccessSubList"), (3, .class_ 99), (0, u "java/util/AbstractList$SubList"), (33, .class_ 134), (0, u "java/util/List"), (73, .class_ 209), (0, u "java/util/AbstractList$SubList$1"), (0, .class_ 211), (0, u "java/util/AbstractList$RandomAccessSpliterator")] 6

def k17c0 : Code := { maxStack := 2, maxLocals := 1, code := jdk_39_method_1_code, exceptionTable := #[], attributes := #[] }
def k17m0 : Method := { name := "<init>", desc := "()V", sig := { parameters := [], returnType := none }, accessFlags := 4, code := some k17c0 }
/-- java/util/AbstractList -/
def k17 : Class := { plain "java/util/AbstractList" (some 14) with
  accessFlags := 1057
  interfaces := #[16]
  cf := some (fileOf pool17 8 #[.nestMembers #[93, 98, 208, 210, 82, 77]] #[{ accessFlags := 4, nameIndex := 5, descriptorIndex := 6, attributes := #[] }] 1057 2 #[133] #[{ accessFlags := 132, nameIndex := 11, descriptorIndex := 12, attributes := #[] }])
  fields := #[{ name := "modCount", type := .int, accessFlags := 132, slot := 0, constantValue := 0 }]
  methods := #[k17m0]
  instanceTypes := #[.int]
  staticTypes := #[]
  resolved := Array.replicate 218 none
  statics := none }

def pool18 : Array CpInfo := pool [(1, .class_ 2), (0, u "java/util/RandomAccess"), (0, .class_ 4), (0, u "java/lang/Object")] 2

/-- java/util/RandomAccess -/
def k18 : Class := { plain "java/util/RandomAccess" (some 0) with
  accessFlags := 1537
  interfaces := #[]
  cf := some (fileOf pool18 1 #[] #[] 1537 3 #[] #[])
  fields := #[]
  methods := #[]
  instanceTypes := #[]
  staticTypes := #[]
  resolved := Array.replicate 7 none
  statics := none }

def pool19 : Array CpInfo := pool [(1, .class_ 2), (0, u "java/lang/Cloneable"), (0, .class_ 4), (0, u "java/lang/Object")] 2

/-- java/lang/Cloneable -/
def k19 : Class := { plain "java/lang/Cloneable" (some 0) with
  accessFlags := 1537
  interfaces := #[]
  cf := some (fileOf pool19 1 #[] #[] 1537 3 #[] #[])
  fields := #[]
  methods := #[]
  instanceTypes := #[]
  staticTypes := #[]
  resolved := Array.replicate 7 none
  statics := none }

def pool20 : Array CpInfo := pool [(1, .methodref 2 3), (0, .class_ 4), (0, .nameAndType 5 6), (0, u "java/util/AbstractList"), (0, u "<init>"), (0, u "()V"), (0, .class_ 8), (0, u "java/lang/Object"), (0, .fieldref 10 11), (0, .class_ 12), (0, .nameAndType 13 14), (0, u "java/util/ArrayList"), (0, u "elementData"), (0, u "[Ljava/lang/Object;"), (2, u "EMPTY_ELEMENTDATA"), (21, .fieldref 10 40), (0, .nameAndType 41 14), (0, u "DEFAULTCAPACITY_EMPTY_ELEMENTDATA"), (5, u "()[Ljava/lang/Object;"), (0, .fieldref 10 49), (0, .nameAndType 50 51), (0, u "size"), (0, u "I"), (11, .fieldref 10 64), (0, .nameAndType 65 51), (0, u "modCount"), (3, .methodref 10 70), (0, .nameAndType 71 72), (0, u "grow"), (0, u "(I)[Ljava/lang/Object;"), (6, .methodref 80 81), (0, .class_ 82), (0, .nameAndType 83 84), (0, u "java/lang/Math"), (0, u "max"), (0, u "(II)I"), (11, u "(Ljava/lang/Object;)Z"), (21, .methodref 119 120), (0, .class_ 121), (0, .nameAndType 122 84), (0, u "java/util/Objects"), (0, u "checkIndex"), (0, .methodref 10 124), (0, .nameAndType 13 125), (0, u "(I)Ljava/lang/Object;"), (3, .methodref 10 130), (0, .nameAndType 71 47), (0, .methodref 10 132), (0, .nameAndType 133 134), (0, u "add"), (0, u "(Ljava/lang/Object;[Ljava/lang/Object;I)V"), (13, .class_ 149), (0, u "java/util/List"), (36, u "()I"), (75, .class_ 263), (0, u "java/util/ArrayList$ListItr"), (3, .class_ 268), (0, u "java/util/ArrayList$Itr"), (7, .class_ 277), (0, u "java/util/ArrayList$SubList"), (12, .class_ 291), (0, u "java/util/ArrayList$ArrayListSpliterator"), (37, .class_ 330), (0, u "java/util/RandomAccess"), (0, .class_ 332), (0, u "java/lang/Cloneable"), (0, .class_ 334), (0, u "java/io/Serializable"), (0, u "serialVersionUID"), (0, u "J"), (3, u "DEFAULT_CAPACITY"), (40, u "get"), (118, .class_ 501), (0, u "java/util/ArrayList$SubList$2"), (0, .class_ 503), (0, u "java/util/ArrayList$SubList$1")] 5

def k20c0 : Code := { maxStack := 2, maxLocals := 1, code := jdk_38_method_2_code, exceptionTable := #[], attributes := #[] }
def k20m0 : Method := { name := "<init>", desc := "()V", sig := { parameters := [], returnType := none }, accessFlags := 1, code := some k20c0 }
def k20c1 : Code := { maxStack := 4, maxLocals := 4, code := jdk_38_method_6_code, exceptionTable := #[], attributes := #[] }
def k20m1 : Method := { name := "grow", desc := "(I)[Ljava/lang/Object;", sig := { parameters := [.int], returnType := some (.array (.object "java/lang/Object")) }, accessFlags := 2, code := some k20c1 }
def k20c2 : Code := { maxStack := 3, maxLocals := 1, code := jdk_38_method_7_code, exceptionTable := #[], attributes := #[] }
def k20m2 : Method := { name := "grow", desc := "()[Ljava/lang/Object;", sig := { parameters := [], returnType := some (.array (.object "java/lang/Object")) }, accessFlags := 2, code := some k20c2 }
def k20c3 : Code := { maxStack := 1, maxLocals := 1, code := jdk_38_method_8_code, exceptionTable := #[], attributes := #[] }
def k20m3 : Method := { name := "size", desc := "()I", sig := { parameters := [], returnType := some .int }, accessFlags := 1, code := some k20c3 }
def k20c4 : Code := { maxStack := 2, maxLocals := 2, code := jdk_38_method_18_code, exceptionTable := #[], attributes := #[] }
def k20m4 : Method := { name := "elementData", desc := "(I)Ljava/lang/Object;", sig := { parameters := [.int], returnType := some (.object "java/lang/Object") }, accessFlags := 0, code := some k20c4 }
def k20c5 : Code := { maxStack := 2, maxLocals := 2, code := jdk_38_method_20_code, exceptionTable := #[], attributes := #[] }
def k20m5 : Method := { name := "get", desc := "(I)Ljava/lang/Object;", sig := { parameters := [.int], returnType := some (.object "java/lang/Object") }, accessFlags := 1, code := some k20c5 }
def k20c6 : Code := { maxStack := 3, maxLocals := 4, code := jdk_38_method_24_code, exceptionTable := #[], attributes := #[] }
def k20m6 : Method := { name := "add", desc := "(Ljava/lang/Object;[Ljava/lang/Object;I)V", sig := { parameters := [(.object "java/lang/Object"), (.array (.object "java/lang/Object")), .int], returnType := none }, accessFlags := 2, code := some k20c6 }
def k20c7 : Code := { maxStack := 4, maxLocals := 2, code := jdk_38_method_25_code, exceptionTable := #[], attributes := #[] }
def k20m7 : Method := { name := "add", desc := "(Ljava/lang/Object;)Z", sig := { parameters := [(.object "java/lang/Object")], returnType := some .boolean }, accessFlags := 1, code := some k20c7 }
/-- java/util/ArrayList -/
def k20 : Class := { plain "java/util/ArrayList" (some 17) with
  accessFlags := 33
  interfaces := #[16, 18, 19, 2]
  cf := some (fileOf pool20 10 #[.nestMembers #[290, 276, 500, 502, 262, 267]] #[{ accessFlags := 1, nameIndex := 5, descriptorIndex := 6, attributes := #[] }, { accessFlags := 2, nameIndex := 71, descriptorIndex := 72, attributes := #[] }, { accessFlags := 2, nameIndex := 71, descriptorIndex := 47, attributes := #[] }, { accessFlags := 1, nameIndex := 50, descriptorIndex := 186, attributes := #[] }, { accessFlags := 0, nameIndex := 13, descriptorIndex := 125, attributes := #[] }, { accessFlags := 1, nameIndex := 381, descriptorIndex := 125, attributes := #[] }, { accessFlags := 2, nameIndex := 133, descriptorIndex := 134, attributes := #[] }, { accessFlags := 1, nameIndex := 133, descriptorIndex := 96, attributes := #[] }] 33 2 #[148, 329, 331, 333] #[{ accessFlags := 26, nameIndex := 335, descriptorIndex := 336, attributes := #[] }, { accessFlags := 26, nameIndex := 340, descriptorIndex := 51, attributes := #[] }, { accessFlags := 26, nameIndex := 17, descriptorIndex := 14, attributes := #[] }, { accessFlags := 26, nameIndex := 41, descriptorIndex := 14, attributes := #[] }, { accessFlags := 128, nameIndex := 13, descriptorIndex := 14, attributes := #[] }, { accessFlags := 2, nameIndex := 50, descriptorIndex := 51, attributes := #[] }])
  fields := #[{ name := "serialVersionUID", type := .long, accessFlags := 26, slot := 0, constantValue := 0 }, { name := "DEFAULT_CAPACITY", type := .int, accessFlags := 26, slot := 1, constantValue := 0 }, { name := "EMPTY_ELEMENTDATA", type := (.array (.object "java/lang/Object")), accessFlags := 26, slot := 2, constantValue := 0 }, { name := "DEFAULTCAPACITY_EMPTY_ELEMENTDATA", type := (.array (.object "java/lang/Object")), accessFlags := 26, slot := 3, constantValue := 0 }, { name := "elementData", type := (.array (.object "java/lang/Object")), accessFlags := 128, slot := 1, constantValue := 0 }, { name := "size", type := .int, accessFlags := 2, slot := 2, constantValue := 0 }]
  methods := #[k20m0, k20m1, k20m2, k20m3, k20m4, k20m5, k20m6, k20m7]
  instanceTypes := #[.int, (.array (.object "java/lang/Object")), .int]
  staticTypes := #[.long, .int, (.array (.object "java/lang/Object")), (.array (.object "java/lang/Object"))]
  resolved := Array.replicate 509 none
  statics := some 1 }

def pool21 : Array CpInfo := pool [(1, .methodref 2 3), (0, .class_ 4), (0, .nameAndType 5 6), (0, u "java/lang/Record"), (0, u "<init>"), (0, u "()V"), (0, .fieldref 8 9), (0, .class_ 10), (0, .nameAndType 11 12), (0, u "com/example/farecraft/farecraft/PassPrices$Settled"), (0, u "prices"), (0, u "Ljava/util/List;"), (0, .fieldref 8 14), (0, .nameAndType 15 16), (0, u "refusal"), (0, u "Lcom/example/farecraft/farecraft/FareFileException;"), (14, u "(Ljava/util/List;Lcom/example/farecraft/farecraft/FareFileException;)V"), (4, u "get"), (0, u "()Ljava/util/List;"), (12, .class_ 51), (0, u "com/example/farecraft/farecraft/PassPrices")] 20

def k21c0 : Code := { maxStack := 2, maxLocals := 3, code := prog_77_method_1_code, exceptionTable := #[], attributes := #[] }
def k21m0 : Method := { name := "<init>", desc := "(Ljava/util/List;Lcom/example/farecraft/farecraft/FareFileException;)V", sig := { parameters := [(.object "java/util/List"), (.object "com/example/farecraft/farecraft/FareFileException")], returnType := none }, accessFlags := 0, code := some k21c0 }
def k21c1 : Code := { maxStack := 1, maxLocals := 1, code := prog_77_method_2_code, exceptionTable := #[], attributes := #[] }
def k21m1 : Method := { name := "get", desc := "()Ljava/util/List;", sig := { parameters := [], returnType := some (.object "java/util/List") }, accessFlags := 0, code := some k21c1 }
/-- com/example/farecraft/farecraft/PassPrices$Settled -/
def k21 : Class := { plain "com/example/farecraft/farecraft/PassPrices$Settled" (some 9) with
  accessFlags := 48
  interfaces := #[]
  cf := some (fileOf pool21 8 #[.nestHost 50] #[{ accessFlags := 0, nameIndex := 5, descriptorIndex := 31, attributes := #[] }, { accessFlags := 0, nameIndex := 36, descriptorIndex := 37, attributes := #[] }] 48 2 #[] #[{ accessFlags := 18, nameIndex := 11, descriptorIndex := 12, attributes := #[] }, { accessFlags := 18, nameIndex := 15, descriptorIndex := 16, attributes := #[] }])
  fields := #[{ name := "prices", type := (.object "java/util/List"), accessFlags := 18, slot := 0, constantValue := 0 }, { name := "refusal", type := (.object "com/example/farecraft/farecraft/FareFileException"), accessFlags := 18, slot := 1, constantValue := 0 }]
  methods := #[k21m0, k21m1]
  instanceTypes := #[(.object "java/util/List"), (.object "com/example/farecraft/farecraft/FareFileException")]
  staticTypes := #[]
  resolved := Array.replicate 72 none
  statics := none }

def pool22 : Array CpInfo := pool [(1, .class_ 2), (0, u "java/lang/Math"), (1, .class_ 6), (1, u "java/lang/Object"), (0, u "<init>"), (0, u "()V"), (89, .class_ 100), (1, u "java/lang/Math$RandomNumberGeneratorHolder"), (71, u "negativeZeroFloatBits"), (0, u "J"), (2, u "negativeZeroDoubleBits"), (21, u "max"), (46, u "$assertionsDisabled"), (0, u "Z"), (88, u "(II)I"), (2, u "twoToTheDoubleScaleDown"), (0, u "D"), (4, u "twoToTheDoubleScaleUp"), (9, u "E"), (3, u "PI"), (2, u "TAU"), (2, u "DEGREES_TO_RADIANS"), (0, u "RADIANS_TO_DEGREES")] 94

def k22m0 : Method := { name := "<init>", desc := "()V", sig := { parameters := [], returnType := none }, accessFlags := 2, code := none }
def k22c1 : Code := { maxStack := 2, maxLocals := 2, code := jdk_29_method_65_code, exceptionTable := #[], attributes := #[] }
def k22m1 : Method := { name := "max", desc := "(II)I", sig := { parameters := [.int, .int], returnType := some .int }, accessFlags := 9, code := some k22c1 }
/-- java/lang/Math -/
def k22 : Class := { plain "java/lang/Math" (some 0) with
  accessFlags := 49
  interfaces := #[]
  cf := some (fileOf pool22 1 #[.nestMembers #[98]] #[{ accessFlags := 2, nameIndex := 7, descriptorIndex := 8, attributes := #[] }, { accessFlags := 9, nameIndex := 198, descriptorIndex := 335, attributes := #[] }] 49 4 #[] #[{ accessFlags := 25, nameIndex := 354, descriptorIndex := 339, attributes := #[] }, { accessFlags := 25, nameIndex := 358, descriptorIndex := 339, attributes := #[] }, { accessFlags := 25, nameIndex := 361, descriptorIndex := 339, attributes := #[] }, { accessFlags := 26, nameIndex := 364, descriptorIndex := 339, attributes := #[] }, { accessFlags := 26, nameIndex := 365, descriptorIndex := 339, attributes := #[] }, { accessFlags := 26, nameIndex := 172, descriptorIndex := 173, attributes := #[] }, { accessFlags := 26, nameIndex := 176, descriptorIndex := 173, attributes := #[] }, { accessFlags := 8, nameIndex := 344, descriptorIndex := 339, attributes := #[] }, { accessFlags := 8, nameIndex := 338, descriptorIndex := 339, attributes := #[] }, { accessFlags := 4120, nameIndex := 245, descriptorIndex := 246, attributes := #[] }])
  fields := #[{ name := "E", type := .double, accessFlags := 25, slot := 0, constantValue := 0 }, { name := "PI", type := .double, accessFlags := 25, slot := 1, constantValue := 0 }, { name := "TAU", type := .double, accessFlags := 25, slot := 2, constantValue := 0 }, { name := "DEGREES_TO_RADIANS", type := .double, accessFlags := 26, slot := 3, constantValue := 0 }, { name := "RADIANS_TO_DEGREES", type := .double, accessFlags := 26, slot := 4, constantValue := 0 }, { name := "negativeZeroFloatBits", type := .long, accessFlags := 26, slot := 5, constantValue := 0 }, { name := "negativeZeroDoubleBits", type := .long, accessFlags := 26, slot := 6, constantValue := 0 }, { name := "twoToTheDoubleScaleUp", type := .double, accessFlags := 8, slot := 7, constantValue := 0 }, { name := "twoToTheDoubleScaleDown", type := .double, accessFlags := 8, slot := 8, constantValue := 0 }, { name := "$assertionsDisabled", type := .boolean, accessFlags := 4120, slot := 9, constantValue := 0 }]
  methods := #[k22m0, k22m1]
  instanceTypes := #[]
  staticTypes := #[.double, .double, .double, .double, .double, .long, .long, .double, .double, .boolean]
  resolved := Array.replicate 460 none
  statics := none }

def pool23 : Array CpInfo := pool [(2, .class_ 4), (1, u "java/lang/Object"), (0, u "<init>"), (0, u "()V"), (35, .class_ 44), (1, u "java/util/Objects"), (60, .methodref 106 107), (0, .class_ 108), (0, .nameAndType 109 110), (0, u "jdk/internal/util/Preconditions"), (0, u "checkIndex"), (0, u "(IILjava/util/function/BiFunction;)I"), (60, u "(II)I")] 12

def k23m0 : Method := { name := "<init>", desc := "()V", sig := { parameters := [], returnType := none }, accessFlags := 2, code := none }
def k23c1 : Code := { maxStack := 3, maxLocals := 2, code := jdk_31_method_17_code, exceptionTable := #[], attributes := #[] }
def k23m1 : Method := { name := "checkIndex", desc := "(II)I", sig := { parameters := [.int, .int], returnType := some .int }, accessFlags := 9, code := some k23c1 }
/-- java/util/Objects -/
def k23 : Class := { plain "java/util/Objects" (some 0) with
  accessFlags := 49
  interfaces := #[]
  cf := some (fileOf pool23 42 #[] #[{ accessFlags := 2, nameIndex := 5, descriptorIndex := 6, attributes := #[] }, { accessFlags := 9, nameIndex := 109, descriptorIndex := 171, attributes := #[] }] 49 2 #[] #[])
  fields := #[]
  methods := #[k23m0, k23m1]
  instanceTypes := #[]
  staticTypes := #[]
  resolved := Array.replicate 184 none
  statics := none }

def pool24 : Array CpInfo := pool [(2, .class_ 4), (1, u "java/lang/Object"), (0, u "<init>"), (0, u "()V"), (17, .class_ 26), (1, u "jdk/internal/util/Preconditions"), (6, u "checkIndex"), (21, .class_ 56), (0, u "jdk/internal/util/Preconditions$4"), (57, .class_ 115), (0, u "jdk/internal/util/Preconditions$1"), (7, u "SIOOBE_FORMATTER"), (0, u "Ljava/util/function/BiFunction;"), (0, .class_ 126), (0, u "jdk/internal/util/Preconditions$2"), (3, u "AIOOBE_FORMATTER"), (0, .class_ 132), (0, u "jdk/internal/util/Preconditions$3"), (3, u "IOOBE_FORMATTER"), (41, u "(IILjava/util/function/BiFunction;)I")] 15

def k24m0 : Method := { name := "<init>", desc := "()V", sig := { parameters := [], returnType := none }, accessFlags := 1, code := none }
def k24c1 : Code := { maxStack := 3, maxLocals := 3, code := jdk_41_method_11_code, exceptionTable := #[], attributes := #[] }
def k24m1 : Method := { name := "checkIndex", desc := "(IILjava/util/function/BiFunction;)I", sig := { parameters := [.int, .int, (.object "java/util/function/BiFunction")], returnType := some .int }, accessFlags := 9, code := some k24c1 }
/-- jdk/internal/util/Preconditions -/
def k24 : Class := { plain "jdk/internal/util/Preconditions" (some 0) with
  accessFlags := 33
  interfaces := #[]
  cf := some (fileOf pool24 24 #[.nestMembers #[55, 131, 125, 114]] #[{ accessFlags := 1, nameIndex := 5, descriptorIndex := 6, attributes := #[] }, { accessFlags := 9, nameIndex := 33, descriptorIndex := 178, attributes := #[] }] 33 2 #[] #[{ accessFlags := 25, nameIndex := 123, descriptorIndex := 124, attributes := #[] }, { accessFlags := 25, nameIndex := 130, descriptorIndex := 124, attributes := #[] }, { accessFlags := 25, nameIndex := 136, descriptorIndex := 124, attributes := #[] }])
  fields := #[{ name := "SIOOBE_FORMATTER", type := (.object "java/util/function/BiFunction"), accessFlags := 25, slot := 0, constantValue := 0 }, { name := "AIOOBE_FORMATTER", type := (.object "java/util/function/BiFunction"), accessFlags := 25, slot := 1, constantValue := 0 }, { name := "IOOBE_FORMATTER", type := (.object "java/util/function/BiFunction"), accessFlags := 25, slot := 2, constantValue := 0 }]
  methods := #[k24m0, k24m1]
  instanceTypes := #[]
  staticTypes := #[(.object "java/util/function/BiFunction"), (.object "java/util/function/BiFunction"), (.object "java/util/function/BiFunction")]
  resolved := Array.replicate 194 none
  statics := some 2 }

def pool25 : Array CpInfo := pool [(9, u "<init>"), (6, .class_ 18), (1, u "java/lang/Object"), (0, u "()V"), (1, .class_ 23), (1, u "jdk/internal/util/ArraysSupport"), (0, u "LOG2_ARRAY_LONG_INDEX_SCALE"), (0, u "I"), (2, u "U"), (0, u "Ljdk/internal/misc/Unsafe;"), (8, u "BIG_ENDIAN"), (0, u "Z"), (8, u "LOG2_BYTE_BIT_SIZE"), (4, u "LOG2_ARRAY_INT_INDEX_SCALE"), (54, u "JLA"), (0, u "Ljdk/internal/access/JavaLangAccess;"), (11, u "LOG2_ARRAY_BOOLEAN_INDEX_SCALE"), (9, u "LOG2_ARRAY_BYTE_INDEX_SCALE"), (5, u "LOG2_ARRAY_CHAR_INDEX_SCALE"), (5, u "LOG2_ARRAY_SHORT_INDEX_SCALE"), (18, u "LOG2_ARRAY_FLOAT_INDEX_SCALE"), (24, u "LOG2_ARRAY_DOUBLE_INDEX_SCALE"), (89, u "T_BOOLEAN"), (2, u "T_CHAR"), (1, u "T_FLOAT"), (1, u "T_DOUBLE"), (1, u "T_BYTE"), (1, u "T_SHORT"), (1, u "T_INT"), (1, u "T_LONG"), (1, u "SOFT_MAX_ARRAY_LENGTH")] 83

def k25m0 : Method := { name := "<init>", desc := "()V", sig := { parameters := [], returnType := none }, accessFlags := 2, code := none }
/-- jdk/internal/util/ArraysSupport -/
def k25 : Class := { plain "jdk/internal/util/ArraysSupport" (some 0) with
  accessFlags := 33
  interfaces := #[]
  cf := some (fileOf pool25 21 #[] #[{ accessFlags := 2, nameIndex := 9, descriptorIndex := 19, attributes := #[] }] 33 16 #[] #[{ accessFlags := 24, nameIndex := 28, descriptorIndex := 29, attributes := #[] }, { accessFlags := 26, nameIndex := 38, descriptorIndex := 39, attributes := #[] }, { accessFlags := 25, nameIndex := 121, descriptorIndex := 25, attributes := #[] }, { accessFlags := 25, nameIndex := 131, descriptorIndex := 25, attributes := #[] }, { accessFlags := 25, nameIndex := 137, descriptorIndex := 25, attributes := #[] }, { accessFlags := 25, nameIndex := 143, descriptorIndex := 25, attributes := #[] }, { accessFlags := 25, nameIndex := 53, descriptorIndex := 25, attributes := #[] }, { accessFlags := 25, nameIndex := 24, descriptorIndex := 25, attributes := #[] }, { accessFlags := 25, nameIndex := 162, descriptorIndex := 25, attributes := #[] }, { accessFlags := 25, nameIndex := 187, descriptorIndex := 25, attributes := #[] }, { accessFlags := 26, nameIndex := 48, descriptorIndex := 25, attributes := #[] }, { accessFlags := 25, nameIndex := 277, descriptorIndex := 25, attributes := #[] }, { accessFlags := 25, nameIndex := 280, descriptorIndex := 25, attributes := #[] }, { accessFlags := 25, nameIndex := 282, descriptorIndex := 25, attributes := #[] }, { accessFlags := 25, nameIndex := 284, descriptorIndex := 25, attributes := #[] }, { accessFlags := 25, nameIndex := 286, descriptorIndex := 25, attributes := #[] }, { accessFlags := 25, nameIndex := 288, descriptorIndex := 25, attributes := #[] }, { accessFlags := 25, nameIndex := 290, descriptorIndex := 25, attributes := #[] }, { accessFlags := 25, nameIndex := 292, descriptorIndex := 25, attributes := #[] }, { accessFlags := 26, nameIndex := 108, descriptorIndex := 109, attributes := #[] }, { accessFlags := 25, nameIndex := 294, descriptorIndex := 25, attributes := #[] }])
  fields := #[{ name := "U", type := (.object "jdk/internal/misc/Unsafe"), accessFlags := 24, slot := 0, constantValue := 0 }, { name := "BIG_ENDIAN", type := .boolean, accessFlags := 26, slot := 1, constantValue := 0 }, { name := "LOG2_ARRAY_BOOLEAN_INDEX_SCALE", type := .int, accessFlags := 25, slot := 2, constantValue := 0 }, { name := "LOG2_ARRAY_BYTE_INDEX_SCALE", type := .int, accessFlags := 25, slot := 3, constantValue := 0 }, { name := "LOG2_ARRAY_CHAR_INDEX_SCALE", type := .int, accessFlags := 25, slot := 4, constantValue := 0 }, { name := "LOG2_ARRAY_SHORT_INDEX_SCALE", type := .int, accessFlags := 25, slot := 5, constantValue := 0 }, { name := "LOG2_ARRAY_INT_INDEX_SCALE", type := .int, accessFlags := 25, slot := 6, constantValue := 0 }, { name := "LOG2_ARRAY_LONG_INDEX_SCALE", type := .int, accessFlags := 25, slot := 7, constantValue := 0 }, { name := "LOG2_ARRAY_FLOAT_INDEX_SCALE", type := .int, accessFlags := 25, slot := 8, constantValue := 0 }, { name := "LOG2_ARRAY_DOUBLE_INDEX_SCALE", type := .int, accessFlags := 25, slot := 9, constantValue := 0 }, { name := "LOG2_BYTE_BIT_SIZE", type := .int, accessFlags := 26, slot := 10, constantValue := 0 }, { name := "T_BOOLEAN", type := .int, accessFlags := 25, slot := 11, constantValue := 0 }, { name := "T_CHAR", type := .int, accessFlags := 25, slot := 12, constantValue := 0 }, { name := "T_FLOAT", type := .int, accessFlags := 25, slot := 13, constantValue := 0 }, { name := "T_DOUBLE", type := .int, accessFlags := 25, slot := 14, constantValue := 0 }, { name := "T_BYTE", type := .int, accessFlags := 25, slot := 15, constantValue := 0 }, { name := "T_SHORT", type := .int, accessFlags := 25, slot := 16, constantValue := 0 }, { name := "T_INT", type := .int, accessFlags := 25, slot := 17, constantValue := 0 }, { name := "T_LONG", type := .int, accessFlags := 25, slot := 18, constantValue := 0 }, { name := "JLA", type := (.object "jdk/internal/access/JavaLangAccess"), accessFlags := 26, slot := 19, constantValue := 0 }, { name := "SOFT_MAX_ARRAY_LENGTH", type := .int, accessFlags := 25, slot := 20, constantValue := 0 }]
  methods := #[k25m0]
  instanceTypes := #[]
  staticTypes := #[(.object "jdk/internal/misc/Unsafe"), .boolean, .int, .int, .int, .int, .int, .int, .int, .int, .int, .int, .int, .int, .int, .int, .int, .int, .int, (.object "jdk/internal/access/JavaLangAccess"), .int]
  resolved := Array.replicate 378 none
  statics := none }

/-- the primitive byte -/
def k26 : Class := { plain "byte" none with kind := .primitive 'B', accessFlags := 0x411 }
/-- [B -/
def k27 : Class := { plain "[B" (some 0) with kind := .array 26 .byte, interfaces := #[19, 2], accessFlags := 1041 }

/-- the primitive char -/
def k28 : Class := { plain "char" none with kind := .primitive 'C', accessFlags := 0x411 }
/-- [C -/
def k29 : Class := { plain "[C" (some 0) with kind := .array 28 .char, interfaces := #[19, 2], accessFlags := 1041 }

/-- the primitive int -/
def k30 : Class := { plain "int" none with kind := .primitive 'I', accessFlags := 0x411 }
/-- [I -/
def k31 : Class := { plain "[I" (some 0) with kind := .array 30 .int, interfaces := #[19, 2], accessFlags := 1041 }

/-- [Ljava/lang/Object; -/
def k32 : Class := { plain "[Ljava/lang/Object;" (some 0) with kind := .array 0 (.object "java/lang/Object"), interfaces := #[19, 2], accessFlags := 1041 }

def heap : Heap := #[{ cls := 7, slots := #[.long 0, .int 1, .null, .int 0, .null, .int 0, .int 0], vm := .statics 7 },
  { cls := 20, slots := #[.long 0, .int 0, .ref 3, .ref 4], vm := .statics 20 },
  { cls := 24, slots := #[.null, .null, .null], vm := .statics 24 },
  { cls := 32, slots := #[], vm := .none },
  { cls := 32, slots := #[], vm := .none }]
def classes : Array Class := #[k0, k1, k2, k3, k4, k5, k6, k7, k8, k9, k10, k11, k12, k13, k14, k15, k16, k17, k18, k19, k20, k21, k22, k23, k24, k25, k26, k27, k28, k29, k30, k31, k32]
def interned : List (Array UInt16 × Addr) := []
def slotsUsed : Nat := 14
def theMethod : MethodId := ⟨1, 1⟩
def args0 : Array Value := #[.int 5, .int 5, .int 5]
def aboutOver (below : List Frame) : State where
  vm := { classes := classes, interned := interned.toArray }
  heap := heap
  slotsUsed := slotsUsed
  threads := #[{ frames := .invoking theMethod args0 :: below }]
def below0 : List Frame := [.native { method := ⟨0, 0⟩, args := #[] }]
def about1 : State := aboutOver below0
def p0 : Program := .bare "" "" ""
def e0 : Env := launch0.env 0 0 0
theorem w_frames : about1.frames = Frame.invoking theMethod args0 :: below0 := rfl
set_option maxRecDepth 65536 in
theorem w_args : argsFit about1.vm theMethod args0 = true := by decide +kernel
set_option maxRecDepth 65536 in
theorem w_heap : heapFits about1 = true := by decide +kernel
set_option maxRecDepth 65536 in
theorem w_runnable : about1.curStatus? = some .runnable := by decide +kernel
set_option maxRecDepth 65536 in
theorem w_alone : about1.alone = true := by decide +kernel
set_option maxRecDepth 65536 in
theorem w_named : about1.methodNamed? x = some theMethod := by decide +kernel
set_option maxRecDepth 65536 in
theorem w_hears : about1.hears theMethod below0 = true := by decide +kernel
set_option maxRecDepth 65536 in
theorem w_ripe : about1.ripe theMethod args0 below0 = true := by decide +kernel
theorem w_running : about1.status = .running := rfl
set_option maxRecDepth 65536 in
theorem w_room : about1.hasRoom e0.platform room_1 = true :=
  launch0.hasRoom_least _ room_1 (by decide +kernel) (by decide +kernel) (by decide +kernel) (by decide +kernel) (by decide +kernel) (by decide +kernel)
theorem allAtoms_all (ts : List Jvm.Cond) (a : Array Jvm.Value) (st : Jvm.State) : (allAtoms ts).before a st = ts.all (fun c => c.before a st) := by
  induction ts with
  | nil => rfl
  | cons c t ih =>
    show (Jvm.Cond.and c (allAtoms t)).before a st = _
    rw [Jvm.Cond.before_and, ih, List.all_cons]
def words1 : List Jvm.Cond := Jvm.Cond.code x code maxLocals ret :: tables_1
/-- a 'code' word, met by the world's own term for the bytes: nothing is compared byte by byte -/
theorem code_word {y : MethodName} {bytes : ByteArray} {mx : Nat} {rt : Option FieldType} {a : Array Value} {s : State} {m : MethodId} {meth : Method} {c : Code} (h1 : s.methodNamed? y = some m) (h2 : s.vm.method? m = some meth) (h3 : meth.code = some c) (h4 : c.code = bytes)
    (h5 : (c.maxLocals == mx && c.exceptionTable.isEmpty && decide (c.maxStack ≤ mostOperands) && decide (meth.sig.returnType = rt) && !meth.locks && decide (parseMethodDescriptor y.desc = some meth.sig)) = true) : (Jvm.Cond.code y bytes mx rt).before a s = true := by
  simp only [Bool.and_eq_true, beq_iff_eq, Bool.not_eq_true', decide_eq_true_eq] at h5
  obtain ⟨⟨⟨⟨⟨g1, g2⟩, g3⟩, g4⟩, g5⟩, g6⟩ := h5
  simp [Cond.before, Cond.holds, Cond.value, h1, h2, h3, h4, g1, g2, g3, g4, g5, g6]
def isCode : Jvm.Cond → Bool
  | .code _ _ _ _ => true
  | _ => false
theorem all_split {L : List Jvm.Cond} {P : Jvm.Cond → Bool} (h1 : L.all (fun c => isCode c || P c) = true) (h2 : ∀ c ∈ L.filter isCode, P c = true) : L.all P = true := by
  refine List.all_eq_true.mpr fun c hc => ?_
  have h := List.all_eq_true.mp h1 c hc
  rcases Bool.eq_false_or_eq_true (isCode c) with hi | hi
  · exact h2 c (List.mem_filter.mpr ⟨hc, hi⟩)
  · simpa [hi] using h
set_option maxRecDepth 65536 in
theorem w_c0 : (Jvm.Cond.code x code maxLocals ret).before args0 about1 = true := code_word (m := ⟨1, 1⟩) (meth := k1m1) (c := k1c1) (by decide +kernel) rfl rfl rfl (by decide +kernel)
set_option maxRecDepth 65536 in
theorem w_c1 : (Jvm.Cond.code ({ cls := "java/lang/String", name := "<init>", desc := "([C)V" } : Jvm.MethodName) jdk_42_method_3_code (2 : Nat) (Option.none : Option Jvm.ClassFile.FieldType)).before args0 about1 = true := code_word (m := ⟨7, 1⟩) (meth := k7m1) (c := k7c1) (by decide +kernel) rfl rfl rfl (by decide +kernel)
set_option maxRecDepth 65536 in
theorem w_c2 : (Jvm.Cond.code ({ cls := "java/lang/String", name := "<init>", desc := "([CIILjava/lang/Void;)V" } : Jvm.MethodName) jdk_42_method_149_code (6 : Nat) (Option.none : Option Jvm.ClassFile.FieldType)).before args0 about1 = true := code_word (m := ⟨7, 3⟩) (meth := k7m3) (c := k7c3) (by decide +kernel) rfl rfl rfl (by decide +kernel)
set_option maxRecDepth 65536 in
theorem w_c3 : (Jvm.Cond.code ({ cls := "java/lang/Object", name := "<init>", desc := "()V" } : Jvm.MethodName) object_method_1_code (1 : Nat) (Option.none : Option Jvm.ClassFile.FieldType)).before args0 about1 = true := code_word (m := ⟨0, 0⟩) (meth := k0m0) (c := k0c0) (by decide +kernel) rfl rfl rfl (by decide +kernel)
set_option maxRecDepth 65536 in
theorem w_c4 : (Jvm.Cond.code ({ cls := "java/lang/StringUTF16", name := "compress", desc := "([CII)[B" } : Jvm.MethodName) jdk_52_method_16_code (6 : Nat) (Option.some (Jvm.ClassFile.FieldType.array Jvm.ClassFile.FieldType.byte))).before args0 about1 = true := code_word (m := ⟨8, 2⟩) (meth := k8m2) (c := k8c2) (by decide +kernel) rfl rfl rfl (by decide +kernel)
set_option maxRecDepth 65536 in
theorem w_c5 : (Jvm.Cond.code ({ cls := "java/lang/StringUTF16", name := "compress", desc := "([CI[BII)I" } : Jvm.MethodName) jdk_52_method_21_code (7 : Nat) (Option.some Jvm.ClassFile.FieldType.int)).before args0 about1 = true := code_word (m := ⟨8, 3⟩) (meth := k8m3) (c := k8c3) (by decide +kernel) rfl rfl rfl (by decide +kernel)
set_option maxRecDepth 65536 in
theorem w_c6 : (Jvm.Cond.code ({ cls := "java/lang/StringUTF16", name := "coderFromArrayLen", desc := "([BI)B" } : Jvm.MethodName) jdk_52_method_15_code (2 : Nat) (Option.some Jvm.ClassFile.FieldType.byte)).before args0 about1 = true := code_word (m := ⟨8, 1⟩) (meth := k8m1) (c := k8c1) (by decide +kernel) rfl rfl rfl (by decide +kernel)
set_option maxRecDepth 65536 in
theorem w_c7 : (Jvm.Cond.code ({ cls := "java/lang/String", name := "valueOf", desc := "(C)Ljava/lang/String;" } : Jvm.MethodName) jdk_42_method_139_code (1 : Nat) (Option.some (Jvm.ClassFile.FieldType.object "java/lang/String"))).before args0 about1 = true := code_word (m := ⟨7, 2⟩) (meth := k7m2) (c := k7c2) (by decide +kernel) rfl rfl rfl (by decide +kernel)
set_option maxRecDepth 65536 in
theorem w_c8 : (Jvm.Cond.code ({ cls := "java/lang/StringLatin1", name := "canEncode", desc := "(C)Z" } : Jvm.MethodName) jdk_43_method_3_code (1 : Nat) (Option.some Jvm.ClassFile.FieldType.boolean)).before args0 about1 = true := code_word (m := ⟨11, 1⟩) (meth := k11m1) (c := k11c1) (by decide +kernel) rfl rfl rfl (by decide +kernel)
set_option maxRecDepth 65536 in
theorem w_c9 : (Jvm.Cond.code ({ cls := "java/lang/StringLatin1", name := "toBytes", desc := "(C)[B" } : Jvm.MethodName) jdk_43_method_46_code (1 : Nat) (Option.some (Jvm.ClassFile.FieldType.array Jvm.ClassFile.FieldType.byte))).before args0 about1 = true := code_word (m := ⟨11, 2⟩) (meth := k11m2) (c := k11c2) (by decide +kernel) rfl rfl rfl (by decide +kernel)
set_option maxRecDepth 65536 in
theorem w_c10 : (Jvm.Cond.code ({ cls := "java/lang/String", name := "<init>", desc := "([BB)V" } : Jvm.MethodName) jdk_42_method_151_code (3 : Nat) (Option.none : Option Jvm.ClassFile.FieldType)).before args0 about1 = true := code_word (m := ⟨7, 4⟩) (meth := k7m4) (c := k7c4) (by decide +kernel) rfl rfl rfl (by decide +kernel)
set_option maxRecDepth 65536 in
theorem w_c11 : (Jvm.Cond.code ({ cls := "com/example/farecraft/farecraft/PassPrice", name := "<init>", desc := "(Ljava/lang/String;Ljava/lang/String;Ljava/lang/String;Ljava/lang/String;Ljava/lang/String;Ljava/lang/String;Ljava/lang/String;Ljava/lang/String;Ljava/math/BigDecimal;Ljava/lang/String;)V" } : Jvm.MethodName) prog_73_method_1_code (11 : Nat) (Option.none : Option Jvm.ClassFile.FieldType)).before args0 about1 = true := code_word (m := ⟨10, 0⟩) (meth := k10m0) (c := k10c0) (by decide +kernel) rfl rfl rfl (by decide +kernel)
set_option maxRecDepth 65536 in
theorem w_c12 : (Jvm.Cond.code ({ cls := "java/lang/Record", name := "<init>", desc := "()V" } : Jvm.MethodName) jdk_30_method_1_code (1 : Nat) (Option.none : Option Jvm.ClassFile.FieldType)).before args0 about1 = true := code_word (m := ⟨9, 0⟩) (meth := k9m0) (c := k9c0) (by decide +kernel) rfl rfl rfl (by decide +kernel)
set_option maxRecDepth 65536 in
theorem w_c13 : (Jvm.Cond.code ({ cls := "java/util/ArrayList", name := "<init>", desc := "()V" } : Jvm.MethodName) jdk_38_method_2_code (1 : Nat) (Option.none : Option Jvm.ClassFile.FieldType)).before args0 about1 = true := code_word (m := ⟨20, 0⟩) (meth := k20m0) (c := k20c0) (by decide +kernel) rfl rfl rfl (by decide +kernel)
set_option maxRecDepth 65536 in
theorem w_c14 : (Jvm.Cond.code ({ cls := "java/util/AbstractList", name := "<init>", desc := "()V" } : Jvm.MethodName) jdk_39_method_1_code (1 : Nat) (Option.none : Option Jvm.ClassFile.FieldType)).before args0 about1 = true := code_word (m := ⟨17, 0⟩) (meth := k17m0) (c := k17c0) (by decide +kernel) rfl rfl rfl (by decide +kernel)
set_option maxRecDepth 65536 in
theorem w_c15 : (Jvm.Cond.code ({ cls := "java/util/AbstractCollection", name := "<init>", desc := "()V" } : Jvm.MethodName) jdk_22_method_1_code (1 : Nat) (Option.none : Option Jvm.ClassFile.FieldType)).before args0 about1 = true := code_word (m := ⟨14, 0⟩) (meth := k14m0) (c := k14c0) (by decide +kernel) rfl rfl rfl (by decide +kernel)
set_option maxRecDepth 65536 in
theorem w_c16 : (Jvm.Cond.code ({ cls := "com/example/farecraft/farecraft/PassPrices$Settled", name := "<init>", desc := "(Ljava/util/List;Lcom/example/farecraft/farecraft/FareFileException;)V" } : Jvm.MethodName) prog_77_method_1_code (3 : Nat) (Option.none : Option Jvm.ClassFile.FieldType)).before args0 about1 = true := code_word (m := ⟨21, 0⟩) (meth := k21m0) (c := k21c0) (by decide +kernel) rfl rfl rfl (by decide +kernel)
set_option maxRecDepth 65536 in
theorem w_c17 : (Jvm.Cond.code ({ cls := "com/example/farecraft/farecraft/PassPrices$Settled", name := "get", desc := "()Ljava/util/List;" } : Jvm.MethodName) prog_77_method_2_code (1 : Nat) (Option.some (Jvm.ClassFile.FieldType.object "java/util/List"))).before args0 about1 = true := code_word (m := ⟨21, 1⟩) (meth := k21m1) (c := k21c1) (by decide +kernel) rfl rfl rfl (by decide +kernel)
set_option maxRecDepth 65536 in
theorem w_c18 : (Jvm.Cond.code ({ cls := "java/util/ArrayList", name := "size", desc := "()I" } : Jvm.MethodName) jdk_38_method_8_code (1 : Nat) (Option.some Jvm.ClassFile.FieldType.int)).before args0 about1 = true := code_word (m := ⟨20, 3⟩) (meth := k20m3) (c := k20c3) (by decide +kernel) rfl rfl rfl (by decide +kernel)
set_option maxRecDepth 65536 in
theorem w_c19 : (Jvm.Cond.code ({ cls := "java/util/ArrayList", name := "add", desc := "(Ljava/lang/Object;)Z" } : Jvm.MethodName) jdk_38_method_25_code (2 : Nat) (Option.some Jvm.ClassFile.FieldType.boolean)).before args0 about1 = true := code_word (m := ⟨20, 7⟩) (meth := k20m7) (c := k20c7) (by decide +kernel) rfl rfl rfl (by decide +kernel)
set_option maxRecDepth 65536 in
theorem w_c20 : (Jvm.Cond.code ({ cls := "java/util/ArrayList", name := "add", desc := "(Ljava/lang/Object;[Ljava/lang/Object;I)V" } : Jvm.MethodName) jdk_38_method_24_code (4 : Nat) (Option.none : Option Jvm.ClassFile.FieldType)).before args0 about1 = true := code_word (m := ⟨20, 6⟩) (meth := k20m6) (c := k20c6) (by decide +kernel) rfl rfl rfl (by decide +kernel)
set_option maxRecDepth 65536 in
theorem w_c21 : (Jvm.Cond.code ({ cls := "java/util/ArrayList", name := "grow", desc := "()[Ljava/lang/Object;" } : Jvm.MethodName) jdk_38_method_7_code (1 : Nat) (Option.some (Jvm.ClassFile.FieldType.array (Jvm.ClassFile.FieldType.object "java/lang/Object")))).before args0 about1 = true := code_word (m := ⟨20, 2⟩) (meth := k20m2) (c := k20c2) (by decide +kernel) rfl rfl rfl (by decide +kernel)
set_option maxRecDepth 65536 in
theorem w_c22 : (Jvm.Cond.code ({ cls := "java/util/ArrayList", name := "grow", desc := "(I)[Ljava/lang/Object;" } : Jvm.MethodName) jdk_38_method_6_code (4 : Nat) (Option.some (Jvm.ClassFile.FieldType.array (Jvm.ClassFile.FieldType.object "java/lang/Object")))).before args0 about1 = true := code_word (m := ⟨20, 1⟩) (meth := k20m1) (c := k20c1) (by decide +kernel) rfl rfl rfl (by decide +kernel)
set_option maxRecDepth 65536 in
theorem w_c23 : (Jvm.Cond.code ({ cls := "java/lang/Math", name := "max", desc := "(II)I" } : Jvm.MethodName) jdk_29_method_65_code (2 : Nat) (Option.some Jvm.ClassFile.FieldType.int)).before args0 about1 = true := code_word (m := ⟨22, 1⟩) (meth := k22m1) (c := k22c1) (by decide +kernel) rfl rfl rfl (by decide +kernel)
set_option maxRecDepth 65536 in
theorem w_c24 : (Jvm.Cond.code ({ cls := "java/util/ArrayList", name := "get", desc := "(I)Ljava/lang/Object;" } : Jvm.MethodName) jdk_38_method_20_code (2 : Nat) (Option.some (Jvm.ClassFile.FieldType.object "java/lang/Object"))).before args0 about1 = true := code_word (m := ⟨20, 5⟩) (meth := k20m5) (c := k20c5) (by decide +kernel) rfl rfl rfl (by decide +kernel)
set_option maxRecDepth 65536 in
theorem w_c25 : (Jvm.Cond.code ({ cls := "java/util/Objects", name := "checkIndex", desc := "(II)I" } : Jvm.MethodName) jdk_31_method_17_code (2 : Nat) (Option.some Jvm.ClassFile.FieldType.int)).before args0 about1 = true := code_word (m := ⟨23, 1⟩) (meth := k23m1) (c := k23c1) (by decide +kernel) rfl rfl rfl (by decide +kernel)
set_option maxRecDepth 65536 in
theorem w_c26 : (Jvm.Cond.code ({ cls := "jdk/internal/util/Preconditions", name := "checkIndex", desc := "(IILjava/util/function/BiFunction;)I" } : Jvm.MethodName) jdk_41_method_11_code (3 : Nat) (Option.some Jvm.ClassFile.FieldType.int)).before args0 about1 = true := code_word (m := ⟨24, 1⟩) (meth := k24m1) (c := k24c1) (by decide +kernel) rfl rfl rfl (by decide +kernel)
set_option maxRecDepth 65536 in
theorem w_c27 : (Jvm.Cond.code ({ cls := "java/util/ArrayList", name := "elementData", desc := "(I)Ljava/lang/Object;" } : Jvm.MethodName) jdk_38_method_18_code (2 : Nat) (Option.some (Jvm.ClassFile.FieldType.object "java/lang/Object"))).before args0 about1 = true := code_word (m := ⟨20, 4⟩) (meth := k20m4) (c := k20c4) (by decide +kernel) rfl rfl rfl (by decide +kernel)
def codes1 : List Jvm.Cond := [Jvm.Cond.code x code maxLocals ret, Jvm.Cond.code ({ cls := "java/lang/String", name := "<init>", desc := "([C)V" } : Jvm.MethodName) jdk_42_method_3_code (2 : Nat) (Option.none : Option Jvm.ClassFile.FieldType), Jvm.Cond.code ({ cls := "java/lang/String", name := "<init>", desc := "([CIILjava/lang/Void;)V" } : Jvm.MethodName) jdk_42_method_149_code (6 : Nat) (Option.none : Option Jvm.ClassFile.FieldType), Jvm.Cond.code ({ cls := "java/lang/Object", name := "<init>", desc := "()V" } : Jvm.MethodName) object_method_1_code (1 : Nat) (Option.none : Option Jvm.ClassFile.FieldType), Jvm.Cond.code ({ cls := "java/lang/StringUTF16", name := "compress", desc := "([CII)[B" } : Jvm.MethodName) jdk_52_method_16_code (6 : Nat) (Option.some (Jvm.ClassFile.FieldType.array Jvm.ClassFile.FieldType.byte)), Jvm.Cond.code ({ cls := "java/lang/StringUTF16", name := "compress", desc := "([CI[BII)I" } : Jvm.MethodName) jdk_52_method_21_code (7 : Nat) (Option.some Jvm.ClassFile.FieldType.int), Jvm.Cond.code ({ cls := "java/lang/StringUTF16", name := "coderFromArrayLen", desc := "([BI)B" } : Jvm.MethodName) jdk_52_method_15_code (2 : Nat) (Option.some Jvm.ClassFile.FieldType.byte), Jvm.Cond.code ({ cls := "java/lang/String", name := "valueOf", desc := "(C)Ljava/lang/String;" } : Jvm.MethodName) jdk_42_method_139_code (1 : Nat) (Option.some (Jvm.ClassFile.FieldType.object "java/lang/String")), Jvm.Cond.code ({ cls := "java/lang/StringLatin1", name := "canEncode", desc := "(C)Z" } : Jvm.MethodName) jdk_43_method_3_code (1 : Nat) (Option.some Jvm.ClassFile.FieldType.boolean), Jvm.Cond.code ({ cls := "java/lang/StringLatin1", name := "toBytes", desc := "(C)[B" } : Jvm.MethodName) jdk_43_method_46_code (1 : Nat) (Option.some (Jvm.ClassFile.FieldType.array Jvm.ClassFile.FieldType.byte)), Jvm.Cond.code ({ cls := "java/lang/String", name := "<init>", desc := "([BB)V" } : Jvm.MethodName) jdk_42_method_151_code (3 : Nat) (Option.none : Option Jvm.ClassFile.FieldType), Jvm.Cond.code ({ cls := "com/example/farecraft/farecraft/PassPrice", name := "<init>", desc := "(Ljava/lang/String;Ljava/lang/String;Ljava/lang/String;Ljava/lang/String;Ljava/lang/String;Ljava/lang/String;Ljava/lang/String;Ljava/lang/String;Ljava/math/BigDecimal;Ljava/lang/String;)V" } : Jvm.MethodName) prog_73_method_1_code (11 : Nat) (Option.none : Option Jvm.ClassFile.FieldType), Jvm.Cond.code ({ cls := "java/lang/Record", name := "<init>", desc := "()V" } : Jvm.MethodName) jdk_30_method_1_code (1 : Nat) (Option.none : Option Jvm.ClassFile.FieldType), Jvm.Cond.code ({ cls := "java/util/ArrayList", name := "<init>", desc := "()V" } : Jvm.MethodName) jdk_38_method_2_code (1 : Nat) (Option.none : Option Jvm.ClassFile.FieldType), Jvm.Cond.code ({ cls := "java/util/AbstractList", name := "<init>", desc := "()V" } : Jvm.MethodName) jdk_39_method_1_code (1 : Nat) (Option.none : Option Jvm.ClassFile.FieldType), Jvm.Cond.code ({ cls := "java/util/AbstractCollection", name := "<init>", desc := "()V" } : Jvm.MethodName) jdk_22_method_1_code (1 : Nat) (Option.none : Option Jvm.ClassFile.FieldType), Jvm.Cond.code ({ cls := "com/example/farecraft/farecraft/PassPrices$Settled", name := "<init>", desc := "(Ljava/util/List;Lcom/example/farecraft/farecraft/FareFileException;)V" } : Jvm.MethodName) prog_77_method_1_code (3 : Nat) (Option.none : Option Jvm.ClassFile.FieldType), Jvm.Cond.code ({ cls := "com/example/farecraft/farecraft/PassPrices$Settled", name := "get", desc := "()Ljava/util/List;" } : Jvm.MethodName) prog_77_method_2_code (1 : Nat) (Option.some (Jvm.ClassFile.FieldType.object "java/util/List")), Jvm.Cond.code ({ cls := "java/util/ArrayList", name := "size", desc := "()I" } : Jvm.MethodName) jdk_38_method_8_code (1 : Nat) (Option.some Jvm.ClassFile.FieldType.int), Jvm.Cond.code ({ cls := "java/util/ArrayList", name := "add", desc := "(Ljava/lang/Object;)Z" } : Jvm.MethodName) jdk_38_method_25_code (2 : Nat) (Option.some Jvm.ClassFile.FieldType.boolean), Jvm.Cond.code ({ cls := "java/util/ArrayList", name := "add", desc := "(Ljava/lang/Object;[Ljava/lang/Object;I)V" } : Jvm.MethodName) jdk_38_method_24_code (4 : Nat) (Option.none : Option Jvm.ClassFile.FieldType), Jvm.Cond.code ({ cls := "java/util/ArrayList", name := "grow", desc := "()[Ljava/lang/Object;" } : Jvm.MethodName) jdk_38_method_7_code (1 : Nat) (Option.some (Jvm.ClassFile.FieldType.array (Jvm.ClassFile.FieldType.object "java/lang/Object"))), Jvm.Cond.code ({ cls := "java/util/ArrayList", name := "grow", desc := "(I)[Ljava/lang/Object;" } : Jvm.MethodName) jdk_38_method_6_code (4 : Nat) (Option.some (Jvm.ClassFile.FieldType.array (Jvm.ClassFile.FieldType.object "java/lang/Object"))), Jvm.Cond.code ({ cls := "java/lang/Math", name := "max", desc := "(II)I" } : Jvm.MethodName) jdk_29_method_65_code (2 : Nat) (Option.some Jvm.ClassFile.FieldType.int), Jvm.Cond.code ({ cls := "java/util/ArrayList", name := "get", desc := "(I)Ljava/lang/Object;" } : Jvm.MethodName) jdk_38_method_20_code (2 : Nat) (Option.some (Jvm.ClassFile.FieldType.object "java/lang/Object")), Jvm.Cond.code ({ cls := "java/util/Objects", name := "checkIndex", desc := "(II)I" } : Jvm.MethodName) jdk_31_method_17_code (2 : Nat) (Option.some Jvm.ClassFile.FieldType.int), Jvm.Cond.code ({ cls := "jdk/internal/util/Preconditions", name := "checkIndex", desc := "(IILjava/util/function/BiFunction;)I" } : Jvm.MethodName) jdk_41_method_11_code (3 : Nat) (Option.some Jvm.ClassFile.FieldType.int), Jvm.Cond.code ({ cls := "java/util/ArrayList", name := "elementData", desc := "(I)Ljava/lang/Object;" } : Jvm.MethodName) jdk_38_method_18_code (2 : Nat) (Option.some (Jvm.ClassFile.FieldType.object "java/lang/Object"))]
set_option maxRecDepth 65536 in
theorem codes_eq : words1.filter isCode = codes1 := rfl
theorem w_codes : ∀ c ∈ words1.filter isCode, c.before args0 about1 = true := by
  rw [codes_eq]
  intro c hc
  simp only [codes1, List.mem_cons, List.not_mem_nil, or_false] at hc
  rcases hc with rfl | rfl | rfl | rfl | rfl | rfl | rfl | rfl | rfl | rfl | rfl | rfl | rfl | rfl | rfl | rfl | rfl | rfl | rfl | rfl | rfl | rfl | rfl | rfl | rfl | rfl | rfl | rfl
  · exact w_c0
  · exact w_c1
  · exact w_c2
  · exact w_c3
  · exact w_c4
  · exact w_c5
  · exact w_c6
  · exact w_c7
  · exact w_c8
  · exact w_c9
  · exact w_c10
  · exact w_c11
  · exact w_c12
  · exact w_c13
  · exact w_c14
  · exact w_c15
  · exact w_c16
  · exact w_c17
  · exact w_c18
  · exact w_c19
  · exact w_c20
  · exact w_c21
  · exact w_c22
  · exact w_c23
  · exact w_c24
  · exact w_c25
  · exact w_c26
  · exact w_c27
set_option maxRecDepth 65536 in
theorem w_t1 : (words1.take 24).all (fun c => isCode c || c.before args0 about1) = true := by decide +kernel
set_option maxRecDepth 65536 in
theorem w_t2 : ((words1.drop 24).take 24).all (fun c => isCode c || c.before args0 about1) = true := by decide +kernel
set_option maxRecDepth 65536 in
theorem w_t3 : (((words1.drop 24).drop 24).take 24).all (fun c => isCode c || c.before args0 about1) = true := by decide +kernel
set_option maxRecDepth 65536 in
theorem w_t4 : ((((words1.drop 24).drop 24).drop 24).take 24).all (fun c => isCode c || c.before args0 about1) = true := by decide +kernel
set_option maxRecDepth 65536 in
theorem w_t5 : (((((words1.drop 24).drop 24).drop 24).drop 24).take 24).all (fun c => isCode c || c.before args0 about1) = true := by decide +kernel
set_option maxRecDepth 65536 in
theorem w_t6 : ((((((words1.drop 24).drop 24).drop 24).drop 24).drop 24).take 24).all (fun c => isCode c || c.before args0 about1) = true := by decide +kernel
set_option maxRecDepth 65536 in
theorem w_t7 : (((((((words1.drop 24).drop 24).drop 24).drop 24).drop 24).drop 24).take 24).all (fun c => isCode c || c.before args0 about1) = true := by decide +kernel
set_option maxRecDepth 65536 in
theorem w_t8 : (((((((words1.drop 24).drop 24).drop 24).drop 24).drop 24).drop 24).drop 24).all (fun c => isCode c || c.before args0 about1) = true := by decide +kernel
theorem w_tables : (allAtoms (Jvm.Cond.code x code maxLocals ret :: tables_1)).before args0 about1 = true := by
  rw [allAtoms_all]
  show words1.all (fun c => c.before args0 about1) = true
  refine all_split ?_ w_codes
  rw [← List.take_append_drop 24 words1, List.all_append, w_t1, ← List.take_append_drop 24 (words1.drop 24), List.all_append, w_t2, ← List.take_append_drop 24 ((words1.drop 24).drop 24), List.all_append, w_t3, ← List.take_append_drop 24 (((words1.drop 24).drop 24).drop 24), List.all_append, w_t4, ← List.take_append_drop 24 ((((words1.drop 24).drop 24).drop 24).drop 24), List.all_append, w_t5, ← List.take_append_drop 24 (((((words1.drop 24).drop 24).drop 24).drop 24).drop 24), List.all_append, w_t6, ← List.take_append_drop 24 ((((((words1.drop 24).drop 24).drop 24).drop 24).drop 24).drop 24), List.all_append, w_t7, w_t8]
  rfl
set_option maxRecDepth 65536 in
theorem w_rest : rest_1_c.before args0 about1 = true := by decide +kernel
set_option maxRecDepth 65536 in
theorem w_case : (Jvm.Cond.and given_1 narrow_1).before args0 about1 = true := by decide +kernel
theorem w_applies : (headSpec (Jvm.Cond.code x code maxLocals ret :: tables_1) room_1).applies x e0.platform about1 = true :=
  (Spec.applies_iff w_frames).mpr ⟨w_running, w_runnable, w_alone, w_named, w_hears, w_ripe, w_room, w_tables⟩
theorem atStart : AtStart classFile x code maxLocals ret World_1 tables_1 room_1 Calls_1 rest_1 Pre_1 launch0 p0 e0 about1 theMethod args0 below0 :=
  ⟨lists_1, trivial, launch0.admits_env _ _ _, launch0.least_env, fairChoices_fair.cas, fairChoices_fair.clock, w_frames, w_args, w_heap, w_applies, trivial, w_rest, w_case⟩
end start1
theorem witness_1 : WitnessClaimed_1 := ⟨start1.p0, start1.e0, start1.about1, start1.theMethod, start1.args0, start1.below0, start1.atStart⟩
end Jvm.Pilot.@@N@@
