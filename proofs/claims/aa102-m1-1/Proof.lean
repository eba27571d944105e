import JvmDerived
import JvmDerived.Pilot.@@N@@Statement
import JvmDerived.Pilot.@@N@@Code
set_option linter.unusedVariables false
set_option linter.unusedSimpArgs false

namespace Jvm.Own
open Sem ClassFile Op Lib Jvm.Stand Jvm.Free Jvm.LawKit Jvm.RoadKit
/-- the goal of a walk: from here the invocation ends, and P holds of its end -/
def Goes (tb : Tables) (e : Env) (below : List Frame) (P : Outcome → State → Prop) (T : State) (F : JFrame) : Prop :=
  ∃ t o, Steps tb e below (T.setTop F) t ∧ t.status = .running ∧ Ended t below o ∧ P o t
/-- what a comparison says, of the integers -/
def icR : ClassFile.Cond → Int → Int → Prop
  | .eq, x, y => x = y
  | .ne, x, y => ¬ x = y
  | .lt, x, y => x < y
  | .ge, x, y => y ≤ x
  | .gt, x, y => y < x
  | .le, x, y => x ≤ y
theorem icR_iff (cd : ClassFile.Cond) (x y : Int32) : if_icmp.holds cd x y = true ↔ icR cd x.toInt y.toInt := by
  cases cd <;> simp [if_icmp.holds, icR, Int32.lt_iff_toInt_lt, Int32.le_iff_toInt_le, Int32.toInt_inj]
theorem icR_yes {cd : ClassFile.Cond} {x y : Int32} {X Y : Int} (ex : x.toInt = X) (ey : y.toInt = Y) (h : icR cd X Y) : if_icmp.holds cd x y = true := by
  subst ex ey; exact (icR_iff cd x y).mpr h
theorem icR_no {cd : ClassFile.Cond} {x y : Int32} {X Y : Int} (ex : x.toInt = X) (ey : y.toInt = Y) (h : ¬ icR cd X Y) : if_icmp.holds cd x y = false := by
  subst ex ey; exact Bool.eq_false_iff.mpr fun q => h ((icR_iff cd x y).mp q)
section G
variable {tb : Tables} {e : Env} {below : List Frame} {P : Outcome → State → Prop} {T T' : State} {F F' : JFrame}
theorem Goes.via (k : Goes tb e below P T' F') (st : ∀ target, Steps tb e below (T'.setTop F') target → Steps tb e below (T.setTop F) target) : Goes tb e below P T F := by
  obtain ⟨t, o, h1, h2⟩ := k; exact ⟨t, o, st _ h1, h2⟩
theorem Goes.to (k : Goes tb e below P T' F') (st : Steps tb e below (T.setTop F) (T'.setTop F')) : Goes tb e below P T F := k.via fun _ h => st.trans h
theorem Goes.cast (q : F = F') (k : Goes tb e below P T F') : Goes tb e below P T F := q ▸ k
variable [Ours tb] {m : MethodId} {c : Code} {pc : Nat} {L L' : Array Slot} {S : List Value}
theorem g_aloadN (h : At T m c below) (hx : tb.exec = Jvm.exec) {k : Fin 4} {v : Value} (hd : decode c.code pc = .ok (.aload_n k, 1)) (hl : L[k.val]? = some (.val v)) (hv : v.isRef = true) (p' : Nat) (hp : p' = pc + 1) (q : Goes tb e below P T (mkF m p' L (v :: S))) : Goes tb e below P T (mkF m pc L (S)) := by
  subst hp; exact q.via fun _ k => XS.aloadN h hx rfl hd hl hv k
theorem g_aload (h : At T m c below) (hx : tb.exec = Jvm.exec) {k : Nat} {v : Value} (hd : decode c.code pc = .ok (.aload k, 2)) (hl : L[k]? = some (.val v)) (hv : v.isRef = true) (p' : Nat) (hp : p' = pc + 2) (q : Goes tb e below P T (mkF m p' L (v :: S))) : Goes tb e below P T (mkF m pc L (S)) := by
  subst hp; exact q.via fun _ k => XS.aload h hx rfl hd hl hv k
theorem g_iloadN (h : At T m c below) (hx : tb.exec = Jvm.exec) {k : Fin 4} {v : Int32} (hd : decode c.code pc = .ok (.iload_n k, 1)) (hl : L[k.val]? = some (.val (.int v))) (p' : Nat) (hp : p' = pc + 1) (q : Goes tb e below P T (mkF m p' L (.int v :: S))) : Goes tb e below P T (mkF m pc L (S)) := by
  subst hp; exact q.via fun _ k => XS.iloadN h hx rfl hd hl k
theorem g_iload (h : At T m c below) (hx : tb.exec = Jvm.exec) {k : Nat} {v : Int32} (hd : decode c.code pc = .ok (.iload k, 2)) (hl : L[k]? = some (.val (.int v))) (p' : Nat) (hp : p' = pc + 2) (q : Goes tb e below P T (mkF m p' L (.int v :: S))) : Goes tb e below P T (mkF m pc L (S)) := by
  subst hp; exact q.via fun _ k => XS.iload h hx rfl hd hl k
theorem g_lloadN (h : At T m c below) (hx : tb.exec = Jvm.exec) {k : Fin 4} {v : Int64} (hd : decode c.code pc = .ok (.lload_n k, 1)) (hl : L[k.val]? = some (.val (.long v))) (p' : Nat) (hp : p' = pc + 1) (q : Goes tb e below P T (mkF m p' L (.long v :: S))) : Goes tb e below P T (mkF m pc L (S)) := by
  subst hp; exact q.via fun _ k => XS.lloadN h hx rfl hd hl k
theorem g_lload (h : At T m c below) (hx : tb.exec = Jvm.exec) {k : Nat} {v : Int64} (hd : decode c.code pc = .ok (.lload k, 2)) (hl : L[k]? = some (.val (.long v))) (p' : Nat) (hp : p' = pc + 2) (q : Goes tb e below P T (mkF m p' L (.long v :: S))) : Goes tb e below P T (mkF m pc L (S)) := by
  subst hp; exact q.via fun _ k => XS.lload h hx rfl hd hl k
theorem g_istoreN (h : At T m c below) (hx : tb.exec = Jvm.exec) {k : Fin 4} {x : Int32} (hd : decode c.code pc = .ok (.istore_n k, 1)) (L2 : Array Slot) (hl : storeLocals L k.val (.int x) = some L2) (p' : Nat) (hp : p' = pc + 1) (q : Goes tb e below P T (mkF m p' L2 (S))) : Goes tb e below P T (mkF m pc L (.int x :: S)) := by
  subst hp; exact q.via fun _ k => XS.istoreN h hx rfl hd rfl hl k
theorem g_istore (h : At T m c below) (hx : tb.exec = Jvm.exec) {k : Nat} {x : Int32} (hd : decode c.code pc = .ok (.istore k, 2)) (L2 : Array Slot) (hl : storeLocals L k (.int x) = some L2) (p' : Nat) (hp : p' = pc + 2) (q : Goes tb e below P T (mkF m p' L2 (S))) : Goes tb e below P T (mkF m pc L (.int x :: S)) := by
  subst hp; exact q.via fun _ k => XS.istore h hx rfl hd rfl hl k
theorem g_lstoreN (h : At T m c below) (hx : tb.exec = Jvm.exec) {k : Fin 4} {x : Int64} (hd : decode c.code pc = .ok (.lstore_n k, 1)) (L2 : Array Slot) (hl : storeLocals L k.val (.long x) = some L2) (p' : Nat) (hp : p' = pc + 1) (q : Goes tb e below P T (mkF m p' L2 (S))) : Goes tb e below P T (mkF m pc L (.long x :: S)) := by
  subst hp; exact q.via fun _ k => XS.lstoreN h hx rfl hd rfl hl k
theorem g_lstore (h : At T m c below) (hx : tb.exec = Jvm.exec) {k : Nat} {x : Int64} (hd : decode c.code pc = .ok (.lstore k, 2)) (L2 : Array Slot) (hl : storeLocals L k (.long x) = some L2) (p' : Nat) (hp : p' = pc + 2) (q : Goes tb e below P T (mkF m p' L2 (S))) : Goes tb e below P T (mkF m pc L (.long x :: S)) := by
  subst hp; exact q.via fun _ k => XS.lstore h hx rfl hd rfl hl k
theorem g_astoreN (h : At T m c below) (hx : tb.exec = Jvm.exec) {k : Fin 4} {x : Value} (hd : decode c.code pc = .ok (.astore_n k, 1)) (hv : x.isRef = true) (L2 : Array Slot) (hl : storeLocals L k.val x = some L2) (p' : Nat) (hp : p' = pc + 1) (q : Goes tb e below P T (mkF m p' L2 (S))) : Goes tb e below P T (mkF m pc L (x :: S)) := by
  subst hp; exact q.via fun _ k => XS.astoreN h hx rfl hd rfl hv hl k
theorem g_astore (h : At T m c below) (hx : tb.exec = Jvm.exec) {k : Nat} {x : Value} (hd : decode c.code pc = .ok (.astore k, 2)) (hv : x.isRef = true) (L2 : Array Slot) (hl : storeLocals L k x = some L2) (p' : Nat) (hp : p' = pc + 2) (q : Goes tb e below P T (mkF m p' L2 (S))) : Goes tb e below P T (mkF m pc L (x :: S)) := by
  subst hp; exact q.via fun _ k => XS.astore h hx rfl hd rfl hv hl k
theorem g_iconst (h : At T m c below) (hx : tb.exec = Jvm.exec) {i : Int} (hd : decode c.code pc = .ok (.iconst i, 1)) (v : Int32) (hv : Int32.ofInt i = v) (p' : Nat) (hp : p' = pc + 1) (q : Goes tb e below P T (mkF m p' L (.int v :: S))) : Goes tb e below P T (mkF m pc L (S)) := by
  subst hp hv; exact q.via fun _ k => XS.iconst h hx rfl hd  k
theorem g_bipush (h : At T m c below) (hx : tb.exec = Jvm.exec) {i : Int} (hd : decode c.code pc = .ok (.bipush i, 2)) (v : Int32) (hv : (Int8.ofInt i).toInt32 = v) (p' : Nat) (hp : p' = pc + 2) (q : Goes tb e below P T (mkF m p' L (.int v :: S))) : Goes tb e below P T (mkF m pc L (S)) := by
  subst hp hv; exact q.via fun _ k => XS.bipush h hx rfl hd  k
theorem g_sipush (h : At T m c below) (hx : tb.exec = Jvm.exec) {i : Int} (hd : decode c.code pc = .ok (.sipush i, 3)) (v : Int32) (hv : (Int16.ofInt i).toInt32 = v) (p' : Nat) (hp : p' = pc + 3) (q : Goes tb e below P T (mkF m p' L (.int v :: S))) : Goes tb e below P T (mkF m pc L (S)) := by
  subst hp hv; exact q.via fun _ k => XS.sipush h hx rfl hd  k
theorem g_aconst_null (h : At T m c below) (hx : tb.exec = Jvm.exec)  (hd : decode c.code pc = .ok (.aconst_null, 1))  (p' : Nat) (hp : p' = pc + 1) (q : Goes tb e below P T (mkF m p' L (.null :: S))) : Goes tb e below P T (mkF m pc L (S)) := by
  subst hp; exact q.via fun _ k => XS.aconstNull h hx rfl hd  k
theorem g_iadd (h : At T m c below) (hx : tb.exec = Jvm.exec) {x y : Int32} (hd : decode c.code pc = .ok (.iadd, 1))  (p' : Nat) (hp : p' = pc + 1) (q : Goes tb e below P T (mkF m p' L (.int (x + y) :: S))) : Goes tb e below P T (mkF m pc L (.int y :: .int x :: S)) := by
  subst hp; exact q.via fun _ k => XS.iadd h hx rfl hd rfl k
theorem g_isub (h : At T m c below) (hx : tb.exec = Jvm.exec) {x y : Int32} (hd : decode c.code pc = .ok (.isub, 1))  (p' : Nat) (hp : p' = pc + 1) (q : Goes tb e below P T (mkF m p' L (.int (x - y) :: S))) : Goes tb e below P T (mkF m pc L (.int y :: .int x :: S)) := by
  subst hp; exact q.via fun _ k => XS.isub h hx rfl hd rfl k
theorem g_imul (h : At T m c below) (hx : tb.exec = Jvm.exec) {x y : Int32} (hd : decode c.code pc = .ok (.imul, 1))  (p' : Nat) (hp : p' = pc + 1) (q : Goes tb e below P T (mkF m p' L (.int (x * y) :: S))) : Goes tb e below P T (mkF m pc L (.int y :: .int x :: S)) := by
  subst hp; exact q.via fun _ k => XS.imul h hx rfl hd rfl k
theorem g_iand (h : At T m c below) (hx : tb.exec = Jvm.exec) {x y : Int32} (hd : decode c.code pc = .ok (.iand, 1))  (p' : Nat) (hp : p' = pc + 1) (q : Goes tb e below P T (mkF m p' L (.int (x &&& y) :: S))) : Goes tb e below P T (mkF m pc L (.int y :: .int x :: S)) := by
  subst hp; exact q.via fun _ k => XS.iand h hx rfl hd rfl k
theorem g_ior (h : At T m c below) (hx : tb.exec = Jvm.exec) {x y : Int32} (hd : decode c.code pc = .ok (.ior, 1))  (p' : Nat) (hp : p' = pc + 1) (q : Goes tb e below P T (mkF m p' L (.int (x ||| y) :: S))) : Goes tb e below P T (mkF m pc L (.int y :: .int x :: S)) := by
  subst hp; exact q.via fun _ k => XS.ior h hx rfl hd rfl k
theorem g_ixor (h : At T m c below) (hx : tb.exec = Jvm.exec) {x y : Int32} (hd : decode c.code pc = .ok (.ixor, 1))  (p' : Nat) (hp : p' = pc + 1) (q : Goes tb e below P T (mkF m p' L (.int (x ^^^ y) :: S))) : Goes tb e below P T (mkF m pc L (.int y :: .int x :: S)) := by
  subst hp; exact q.via fun _ k => XS.ixor h hx rfl hd rfl k
theorem g_ishl (h : At T m c below) (hx : tb.exec = Jvm.exec) {x y : Int32} (hd : decode c.code pc = .ok (.ishl, 1))  (p' : Nat) (hp : p' = pc + 1) (q : Goes tb e below P T (mkF m p' L (.int (x <<< (y &&& 31)) :: S))) : Goes tb e below P T (mkF m pc L (.int y :: .int x :: S)) := by
  subst hp; exact q.via fun _ k => XS.ishl h hx rfl hd rfl k
theorem g_ishr (h : At T m c below) (hx : tb.exec = Jvm.exec) {x y : Int32} (hd : decode c.code pc = .ok (.ishr, 1))  (p' : Nat) (hp : p' = pc + 1) (q : Goes tb e below P T (mkF m p' L (.int (x >>> (y &&& 31)) :: S))) : Goes tb e below P T (mkF m pc L (.int y :: .int x :: S)) := by
  subst hp; exact q.via fun _ k => XS.ishr h hx rfl hd rfl k
theorem g_iushr (h : At T m c below) (hx : tb.exec = Jvm.exec) {x y : Int32} (hd : decode c.code pc = .ok (.iushr, 1))  (p' : Nat) (hp : p' = pc + 1) (q : Goes tb e below P T (mkF m p' L (.int ((x.toUInt32 >>> (y &&& 31).toUInt32).toInt32) :: S))) : Goes tb e below P T (mkF m pc L (.int y :: .int x :: S)) := by
  subst hp; exact q.via fun _ k => XS.iushr h hx rfl hd rfl k
theorem g_ladd (h : At T m c below) (hx : tb.exec = Jvm.exec) {x y : Int64} (hd : decode c.code pc = .ok (.ladd, 1))  (p' : Nat) (hp : p' = pc + 1) (q : Goes tb e below P T (mkF m p' L (.long (x + y) :: S))) : Goes tb e below P T (mkF m pc L (.long y :: .long x :: S)) := by
  subst hp; exact q.via fun _ k => XS.ladd h hx rfl hd rfl k
theorem g_lsub (h : At T m c below) (hx : tb.exec = Jvm.exec) {x y : Int64} (hd : decode c.code pc = .ok (.lsub, 1))  (p' : Nat) (hp : p' = pc + 1) (q : Goes tb e below P T (mkF m p' L (.long (x - y) :: S))) : Goes tb e below P T (mkF m pc L (.long y :: .long x :: S)) := by
  subst hp; exact q.via fun _ k => XS.lsub h hx rfl hd rfl k
theorem g_lmul (h : At T m c below) (hx : tb.exec = Jvm.exec) {x y : Int64} (hd : decode c.code pc = .ok (.lmul, 1))  (p' : Nat) (hp : p' = pc + 1) (q : Goes tb e below P T (mkF m p' L (.long (x * y) :: S))) : Goes tb e below P T (mkF m pc L (.long y :: .long x :: S)) := by
  subst hp; exact q.via fun _ k => XS.lmul h hx rfl hd rfl k
theorem g_land (h : At T m c below) (hx : tb.exec = Jvm.exec) {x y : Int64} (hd : decode c.code pc = .ok (.land, 1))  (p' : Nat) (hp : p' = pc + 1) (q : Goes tb e below P T (mkF m p' L (.long (x &&& y) :: S))) : Goes tb e below P T (mkF m pc L (.long y :: .long x :: S)) := by
  subst hp; exact q.via fun _ k => XS.land h hx rfl hd rfl k
theorem g_lor (h : At T m c below) (hx : tb.exec = Jvm.exec) {x y : Int64} (hd : decode c.code pc = .ok (.lor, 1))  (p' : Nat) (hp : p' = pc + 1) (q : Goes tb e below P T (mkF m p' L (.long (x ||| y) :: S))) : Goes tb e below P T (mkF m pc L (.long y :: .long x :: S)) := by
  subst hp; exact q.via fun _ k => XS.lor h hx rfl hd rfl k
theorem g_lshl (h : At T m c below) (hx : tb.exec = Jvm.exec) {x : Int64} {y : Int32} (hd : decode c.code pc = .ok (.lshl, 1))  (p' : Nat) (hp : p' = pc + 1) (q : Goes tb e below P T (mkF m p' L (.long (x <<< (y &&& 0x3f).toInt64) :: S))) : Goes tb e below P T (mkF m pc L (.int y :: .long x :: S)) := by
  subst hp; exact q.via fun _ k => XS.lshl h hx rfl hd rfl k
theorem g_lshr (h : At T m c below) (hx : tb.exec = Jvm.exec) {x : Int64} {y : Int32} (hd : decode c.code pc = .ok (.lshr, 1))  (p' : Nat) (hp : p' = pc + 1) (q : Goes tb e below P T (mkF m p' L (.long (x >>> (y &&& 0x3f).toInt64) :: S))) : Goes tb e below P T (mkF m pc L (.int y :: .long x :: S)) := by
  subst hp; exact q.via fun _ k => XS.lshr h hx rfl hd rfl k
theorem g_lushr (h : At T m c below) (hx : tb.exec = Jvm.exec) {x : Int64} {y : Int32} (hd : decode c.code pc = .ok (.lushr, 1))  (p' : Nat) (hp : p' = pc + 1) (q : Goes tb e below P T (mkF m p' L (.long ((x.toUInt64 >>> (y &&& 0x3f).toInt64.toUInt64).toInt64) :: S))) : Goes tb e below P T (mkF m pc L (.int y :: .long x :: S)) := by
  subst hp; exact q.via fun _ k => XS.lushr h hx rfl hd rfl k
theorem g_lcmp (h : At T m c below) (hx : tb.exec = Jvm.exec) {x y : Int64} (hd : decode c.code pc = .ok (.lcmp, 1))  (p' : Nat) (hp : p' = pc + 1) (q : Goes tb e below P T (mkF m p' L (.int (lcmpW x y) :: S))) : Goes tb e below P T (mkF m pc L (.long y :: .long x :: S)) := by
  subst hp; exact q.via fun _ k => XS.lcmp h hx rfl hd rfl k
theorem g_i2l (h : At T m c below) (hx : tb.exec = Jvm.exec) {x : Int32} (hd : decode c.code pc = .ok (.i2l, 1))  (p' : Nat) (hp : p' = pc + 1) (q : Goes tb e below P T (mkF m p' L (.long (x.toInt64) :: S))) : Goes tb e below P T (mkF m pc L (.int x :: S)) := by
  subst hp; exact q.via fun _ k => XS.i2l h hx rfl hd rfl k
theorem g_l2i (h : At T m c below) (hx : tb.exec = Jvm.exec) {x : Int64} (hd : decode c.code pc = .ok (.l2i, 1))  (p' : Nat) (hp : p' = pc + 1) (q : Goes tb e below P T (mkF m p' L (.int (x.toInt32) :: S))) : Goes tb e below P T (mkF m pc L (.long x :: S)) := by
  subst hp; exact q.via fun _ k => XS.l2i h hx rfl hd rfl k
theorem g_i2b (h : At T m c below) (hx : tb.exec = Jvm.exec) {x : Int32} (hd : decode c.code pc = .ok (.i2b, 1))  (p' : Nat) (hp : p' = pc + 1) (q : Goes tb e below P T (mkF m p' L (.int (x.toInt8.toInt32) :: S))) : Goes tb e below P T (mkF m pc L (.int x :: S)) := by
  subst hp; exact q.via fun _ k => XS.i2b h hx rfl hd rfl k
theorem g_i2c (h : At T m c below) (hx : tb.exec = Jvm.exec) {x : Int32} (hd : decode c.code pc = .ok (.i2c, 1))  (p' : Nat) (hp : p' = pc + 1) (q : Goes tb e below P T (mkF m p' L (.int (x.toUInt32.toUInt16.toUInt32.toInt32) :: S))) : Goes tb e below P T (mkF m pc L (.int x :: S)) := by
  subst hp; exact q.via fun _ k => XS.i2c h hx rfl hd rfl k
theorem g_i2s (h : At T m c below) (hx : tb.exec = Jvm.exec) {x : Int32} (hd : decode c.code pc = .ok (.i2s, 1))  (p' : Nat) (hp : p' = pc + 1) (q : Goes tb e below P T (mkF m p' L (.int (x.toInt16.toInt32) :: S))) : Goes tb e below P T (mkF m pc L (.int x :: S)) := by
  subst hp; exact q.via fun _ k => XS.i2s h hx rfl hd rfl k
theorem g_irem (h : At T m c below) (hx : tb.exec = Jvm.exec) {x y : Int32} (hd : decode c.code pc = .ok (.irem, 1)) (hy : y ≠ 0) (p' : Nat) (hp : p' = pc + 1) (q : Goes tb e below P T (mkF m p' L (.int (x % y) :: S))) : Goes tb e below P T (mkF m pc L (.int y :: .int x :: S)) := by
  subst hp; exact q.via fun _ k => XS.irem h hx rfl hd rfl hy (by rw [show x - x / y * y = x % y from irem_eq_mod x y]; exact k)
theorem g_idiv (h : At T m c below) (hx : tb.exec = Jvm.exec) {x y : Int32} (hd : decode c.code pc = .ok (.idiv, 1)) (hy : y ≠ 0) (p' : Nat) (hp : p' = pc + 1) (q : Goes tb e below P T (mkF m p' L (.int (x / y) :: S))) : Goes tb e below P T (mkF m pc L (.int y :: .int x :: S)) := by
  subst hp; exact q.via fun _ k => XS.idiv h hx rfl hd rfl hy k
theorem g_dup (h : At T m c below) (hx : tb.exec = Jvm.exec) {x : Value} (hd : decode c.code pc = .ok (.dup, 1)) (hc : x.category = 1) (p' : Nat) (hp : p' = pc + 1) (q : Goes tb e below P T (mkF m p' L (x :: x :: S))) : Goes tb e below P T (mkF m pc L (x :: S)) := by
  subst hp; exact q.via fun _ k => XS.dup h hx rfl hd rfl hc k
theorem g_pop (h : At T m c below) (hx : tb.exec = Jvm.exec) {x : Value} (hd : decode c.code pc = .ok (.pop, 1)) (hc : x.category = 1) (p' : Nat) (hp : p' = pc + 1) (q : Goes tb e below P T (mkF m p' L (S))) : Goes tb e below P T (mkF m pc L (x :: S)) := by
  subst hp; exact q.via fun _ k => XS.pop h hx rfl hd rfl hc k
theorem g_dup_x1 (h : At T m c below) (hx : tb.exec = Jvm.exec) {x y : Value} (hd : decode c.code pc = .ok (.dup_x1, 1)) (hc : x.category = 1) (hc' : y.category = 1) (p' : Nat) (hp : p' = pc + 1) (q : Goes tb e below P T (mkF m p' L (x :: y :: x :: S))) : Goes tb e below P T (mkF m pc L (x :: y :: S)) := by
  subst hp; exact q.via fun _ k => XS.dupX1 h hx rfl hd rfl hc hc' k
theorem g_lconst (h : At T m c below) (hx : tb.exec = Jvm.exec) {k : Fin 2} (hd : decode c.code pc = .ok (.lconst k, 1)) (v : Int64) (hv : Int64.ofNat k.val = v) (p' : Nat) (hp : p' = pc + 1) (q : Goes tb e below P T (mkF m p' L (.long v :: S))) : Goes tb e below P T (mkF m pc L (S)) := by
  subst hp hv; exact q.via fun _ k => XS.lconst h hx rfl hd  k
theorem g_iinc (h : At T m c below) (hx : tb.exec = Jvm.exec) {k : Nat} {i : Int} {x : Int32} (hd : decode c.code pc = .ok (.iinc k i, 3)) (hl : L[k]? = some (.val (.int x))) (L2 : Array Slot) (hl2 : storeLocals L k (.int (x + Int32.ofInt i)) = some L2) (p' : Nat) (hp : p' = pc + 3) (q : Goes tb e below P T (mkF m p' L2 (S))) : Goes tb e below P T (mkF m pc L (S)) := by
  subst hp; exact q.via fun _ k => XS.iinc h hx rfl hd hl hl2 k
theorem g_goto (h : At T m c below) (hx : tb.exec = Jvm.exec) {o : Int} (hd : decode c.code pc = .ok (.goto o, 3)) (p' : Nat) (ho : 0 ≤ (pc : Int) + o) (hp : ((pc : Int) + o).toNat = p') (q : Goes tb e below P T (mkF m p' L S)) : Goes tb e below P T (mkF m pc L S) := q.via fun _ k => XS.goto h hx rfl rfl hd ho hp k
theorem g_icmpT (h : At T m c below) (hx : tb.exec = Jvm.exec) {cd : ClassFile.Cond} {x y : Int32} {o : Int} (hd : decode c.code pc = .ok (.if_icmp cd o, 3)) (X Y : Int) (ex : x.toInt = X) (ey : y.toInt = Y) (hc : icR cd X Y) (p' : Nat) (ho : 0 ≤ (pc : Int) + o) (hp : ((pc : Int) + o).toNat = p') (q : Goes tb e below P T (mkF m p' L S)) : Goes tb e below P T (mkF m pc L (.int y :: .int x :: S)) := q.via fun _ k => XS.icmpYes h hx rfl rfl hd rfl (icR_yes ex ey hc) ho hp k
theorem g_icmpF (h : At T m c below) (hx : tb.exec = Jvm.exec) {cd : ClassFile.Cond} {x y : Int32} {o : Int} (hd : decode c.code pc = .ok (.if_icmp cd o, 3)) (X Y : Int) (ex : x.toInt = X) (ey : y.toInt = Y) (hc : ¬ icR cd X Y) (p' : Nat) (hp : p' = pc + 3) (q : Goes tb e below P T (mkF m p' L S)) : Goes tb e below P T (mkF m pc L (.int y :: .int x :: S)) := by
  subst hp; exact q.via fun _ k => XS.icmpNo h hx rfl hd rfl (icR_no ex ey hc) k
theorem g_icmp (h : At T m c below) (hx : tb.exec = Jvm.exec) {cd : ClassFile.Cond} {x y : Int32} {o : Int} (hd : decode c.code pc = .ok (.if_icmp cd o, 3)) (X Y : Int) (ex : x.toInt = X) (ey : y.toInt = Y) (p1 p2 : Nat) (ho : 0 ≤ (pc : Int) + o) (hp : ((pc : Int) + o).toNat = p1) (hp2 : p2 = pc + 3) (q1 : icR cd X Y → Goes tb e below P T (mkF m p1 L S)) (q2 : ¬ icR cd X Y → Goes tb e below P T (mkF m p2 L S)) : Goes tb e below P T (mkF m pc L (.int y :: .int x :: S)) := by
  by_cases hc : icR cd X Y
  · exact g_icmpT h hx hd X Y ex ey hc p1 ho hp (q1 hc)
  · exact g_icmpF h hx hd X Y ex ey hc p2 hp2 (q2 hc)
theorem g_ifT (h : At T m c below) (hx : tb.exec = Jvm.exec) {cd : ClassFile.Cond} {x : Int32} {o : Int} (hd : decode c.code pc = .ok (.ifCond cd o, 3)) (X : Int) (ex : x.toInt = X) (hc : icR cd X 0) (p' : Nat) (ho : 0 ≤ (pc : Int) + o) (hp : ((pc : Int) + o).toNat = p') (q : Goes tb e below P T (mkF m p' L S)) : Goes tb e below P T (mkF m pc L (.int x :: S)) := q.via fun _ k => XS.ifYes h hx rfl rfl hd rfl ((if0 _ _).trans (icR_yes ex (by decide) hc)) ho hp k
theorem g_ifF (h : At T m c below) (hx : tb.exec = Jvm.exec) {cd : ClassFile.Cond} {x : Int32} {o : Int} (hd : decode c.code pc = .ok (.ifCond cd o, 3)) (X : Int) (ex : x.toInt = X) (hc : ¬ icR cd X 0) (p' : Nat) (hp : p' = pc + 3) (q : Goes tb e below P T (mkF m p' L S)) : Goes tb e below P T (mkF m pc L (.int x :: S)) := by
  subst hp; exact q.via fun _ k => XS.ifNo h hx rfl hd rfl ((if0 _ _).trans (icR_no ex (by decide) hc)) k
theorem g_if (h : At T m c below) (hx : tb.exec = Jvm.exec) {cd : ClassFile.Cond} {x : Int32} {o : Int} (hd : decode c.code pc = .ok (.ifCond cd o, 3)) (X : Int) (ex : x.toInt = X) (p1 p2 : Nat) (ho : 0 ≤ (pc : Int) + o) (hp : ((pc : Int) + o).toNat = p1) (hp2 : p2 = pc + 3) (q1 : icR cd X 0 → Goes tb e below P T (mkF m p1 L S)) (q2 : ¬ icR cd X 0 → Goes tb e below P T (mkF m p2 L S)) : Goes tb e below P T (mkF m pc L (.int x :: S)) := by
  by_cases hc : icR cd X 0
  · exact g_ifT h hx hd X ex hc p1 ho hp (q1 hc)
  · exact g_ifF h hx hd X ex hc p2 hp2 (q2 hc)
theorem g_ifnullT (h : At T m c below) (hx : tb.exec = Jvm.exec) {o : Int} (hd : decode c.code pc = .ok (.ifnull o, 3)) (p' : Nat) (ho : 0 ≤ (pc : Int) + o) (hp : ((pc : Int) + o).toNat = p') (q : Goes tb e below P T (mkF m p' L S)) : Goes tb e below P T (mkF m pc L (.null :: S)) := q.via fun _ k => XS.ifnullYes h hx rfl rfl hd rfl ho hp k
theorem g_ifnullF (h : At T m c below) (hx : tb.exec = Jvm.exec) {o : Int} {b : Addr} (hd : decode c.code pc = .ok (.ifnull o, 3)) (p' : Nat) (hp : p' = pc + 3) (q : Goes tb e below P T (mkF m p' L S)) : Goes tb e below P T (mkF m pc L (.ref b :: S)) := by
  subst hp; exact q.via fun _ k => XS.ifnullNo h hx rfl hd rfl k
theorem g_ifnonnullT (h : At T m c below) (hx : tb.exec = Jvm.exec) {o : Int} {b : Addr} (hd : decode c.code pc = .ok (.ifnonnull o, 3)) (p' : Nat) (ho : 0 ≤ (pc : Int) + o) (hp : ((pc : Int) + o).toNat = p') (q : Goes tb e below P T (mkF m p' L S)) : Goes tb e below P T (mkF m pc L (.ref b :: S)) := q.via fun _ k => XS.ifnonnullYes h hx rfl rfl hd rfl ho hp k
theorem g_ifnonnullF (h : At T m c below) (hx : tb.exec = Jvm.exec) {o : Int} (hd : decode c.code pc = .ok (.ifnonnull o, 3)) (p' : Nat) (hp : p' = pc + 3) (q : Goes tb e below P T (mkF m p' L S)) : Goes tb e below P T (mkF m pc L (.null :: S)) := by
  subst hp; exact q.via fun _ k => XS.ifnonnullNo h hx rfl hd rfl k
end G
/-! part B: the walk's state (St), one law a step that reads the tables or the heap -/
/-- md 0: no String constant is loaded; 1: some may be; 2: and a stack trace may be filled in -/
def EndOf (md : Nat) (s : State) (o : Outcome) (t : State) (L : List Loc) (k n : Nat) : Prop := (md = 0 → FrameEnd s o t L k n) ∧ (md ≠ 0 → ReturnedEndW s o t L k n)
def KnOf (md : Nat) (vm : Vm) (bl : List Frame) : Prop := md = 2 → vm.MethodsKnown ∧ vm.FramesKnown bl
def St (md : Nat) (p : Program) (l : Launch) (e : Env) (R : Room) (s : State) (m : MethodId) (args : Array Value) (below : List Frame) (meth : Method) (c : Code) (own : String) (Z : State) (EL : List (String × Nat)) (vm : Vm) (T : State) (h : Heap) (cells slots : Nat) : Prop :=
  ∃ locs k, Stand p l e R (s.setVm vm) m args below meth c T locs cells slots ∧ T.heap = h ∧ Z.Warmed39 vm ∧ vm.findClass own = some m.cls ∧ s.Since vm k ∧ k ≤ h.size ∧ CHr Z EL s.vm s.heap vm h ∧ Fr Z.heap.size locs ∧ Old Z Z.heap.size h ∧ (md = 0 → vm = s.vm ∧ EL = []) ∧ KnOf md vm below ∧ ∃ a0, EW Z a0 EL ∧ Old Z Z.heap.size s.heap
/-- what a body leaves, as its caller is told -/
def Pof (md : Nat) (Z : State) (EL : List (String × Nat)) (s : State) (rm : Room) (Q : Option Value → Heap → Prop) : Outcome → State → Prop :=
  fun o U => ∃ v L, o = .returned v ∧ (Q v U.heap ∧ Fr Z.heap.size L ∧ Old Z Z.heap.size U.heap) ∧ CHr Z EL s.vm s.heap U.vm U.heap ∧ EndOf md s o U L rm.cells rm.slots
/-- a contract -/
def Ct (md : Nat) (l : Launch) (Z : State) (EL : List (String × Nat)) (sf : List Addr) (y : MethodName) (bytes : ByteArray) (maxL : Nat) (ret : Option FieldType) (rm : Room) (as' : Array Value) (h : Heap) (Q : Option Value → Heap → Prop) : Prop :=
  ∀ ws, MetFree l y (head1 (Cond.code y bytes maxL ret :: ws) rm) (fun a U => a = as' ∧ Z.Warmed39 U.vm ∧ U.heap = h ∧ CHv Z EL U.vm h ∧ ∀ x ∈ sf, Safe Z EL U.vm h x) (fun _ _ bl s _ => KnOf md s.vm bl) (fun _ U o U' => Pof md Z EL U rm Q o U')
theorem own_is1 {z : Int32} {Q : Prop} (h : (z = 1 ∧ Q) ∨ (z = 0 ∧ ¬ Q)) (q : Q) : z = 1 := h.elim (fun r => r.1) fun r => absurd q r.2
theorem own_is0 {z : Int32} {Q : Prop} (h : (z = 1 ∧ Q) ∨ (z = 0 ∧ ¬ Q)) (q : ¬ Q) : z = 0 := h.elim (fun r => absurd r.2 q) fun r => r.1
theorem own_two {Q : Addr → Prop} {a b : Addr} (h1 : Q a) (h2 : Q b) : ∀ x ∈ [a, b], Q x := fun x hx => (List.mem_cons.mp hx).elim (fun e => e ▸ h1) fun e => (List.mem_singleton.mp e) ▸ h2
theorem own_ne_new {a b : Addr} {h : Heap} (g : b = h.size) (l : a < h.size) : b ≠ a := fun q => absurd l (by rw [← q, g]; exact Nat.lt_irrefl _)
section B
variable {md : Nat} {p : Program} {l : Launch} {e : Env} {R : Room} {s : State} {m : MethodId} {args : Array Value} {below : List Frame} {meth : Method} {c : Code} {own : String} {Z : State} {EL : List (String × Nat)} {vm vm' : Vm} {T : State} {h h' : Heap} {cells slots : Nat} {P : Outcome → State → Prop} {pc : Nat} {L : Array Slot} {K : List Value} {a0 : Array Value}
theorem safe_nil {x : Addr} : Safe Z [] vm h x := fun B => by obtain ⟨q, hq, -⟩ := B; cases hq
theorem chv_nil : CHv Z [] vm h := fun q hq => by cases hq
theorem chr_nil (g : h.size ≤ h'.size) : CHr Z [] vm h vm' h' := ⟨chv_nil, g, fun y B => by obtain ⟨q, hq, -⟩ := B; cases hq⟩
theorem ew_nil : EW Z a0 [] := EW.nil
theorem St.here (S : St md p l e R s m args below meth c own Z EL vm T h cells slots) : At T m c below := by obtain ⟨_, _, X, -⟩ := S; exact X.here
theorem St.old (S : St md p l e R s m args below meth c own Z EL vm T h cells slots) : Old Z Z.heap.size h := by obtain ⟨_, _, -, -, -, -, -, -, -, -, O, -⟩ := S; exact O
theorem St.warm (S : St md p l e R s m args below meth c own Z EL vm T h cells slots) : Z.Warmed39 vm := by obtain ⟨_, _, -, -, hZ, -⟩ := S; exact hZ
theorem St.chr (S : St md p l e R s m args below meth c own Z EL vm T h cells slots) : CHr Z EL s.vm s.heap vm h := by obtain ⟨_, _, -, -, -, -, -, -, C, -⟩ := S; exact C
theorem St.ew (S : St md p l e R s m args below meth c own Z EL vm T h cells slots) : ∃ a0, EW Z a0 EL := by obtain ⟨_, _, -, -, -, -, -, -, -, -, -, -, -, a0, E, -⟩ := S; exact ⟨a0, E⟩
theorem St.size (S : St md p l e R s m args below meth c own Z EL vm T h cells slots) : Z.heap.size ≤ h.size := S.old.2.1
theorem St.safeE (S : St md p l e R s m args below meth c own Z EL vm T h cells slots) {x : Addr} {C : String} (E : Exa Z h x C) (h1 : C ≠ "java/lang/String") (h2 : C ≠ "[B") : Safe Z EL vm h x := Safe.exa S.warm.alike E h1 h2
theorem St.safeA (S : St md p l e R s m args below meth c own Z EL vm T h cells slots) {x : Addr} {k : ClassId} {ty : FieldType} {z : Int32} {vs : List Value} {dv : Value} (F : Arv Z h x k ty z vs dv) (ht : ty ≠ .byte) : Safe Z EL vm h x := Safe.arv S.warm.alike F ht
/-- entering a body -/
theorem Ct.intro {y : MethodName} {bytes : ByteArray} {maxL : Nat} {ret : Option FieldType} {rm : Room} {as' : Array Value} {Q : Option Value → Heap → Prop} (hpl : plainFor y = true) (hO : Old Z Z.heap.size h) (hmd : md = 0 → EL = []) (hE : ∃ a0, EW Z a0 EL) {sf : List Addr}
    (body : ∀ p e s m below meth c T, p.tables.exec = Jvm.exec → c.code = bytes → c.maxLocals = maxL → meth.sig.returnType = ret → meth.name = y.name → meth.locks = false → (∀ x ∈ sf, Safe Z EL s.vm h x) →
      St md p l e rm s m as' below meth c y.cls Z EL s.vm T h 0 0 → Goes p.tables e below (Pof md Z EL s rm Q) T (entryFrame m as' maxL)) : Ct md l Z EL sf y bytes maxL ret rm as' h Q := by
  intro ws
  refine MetFree.of_bodySF hpl hisR ?_
  intro p e s m args below meth c s₁ Bd hml hP hK
  obtain ⟨rfl, hZ, rfl, hC, hsf⟩ := hP
  obtain ⟨a1, hE⟩ := hE
  have X0 : Stand p l e rm s m args below meth c s₁ [] 0 0 := Stand.of_body Bd
  have e0 : s₁.heap = s.heap := by rw [Bd.state]; rfl
  have hown : s.vm.findClass y.cls = some m.cls := findClass_of_methodNamed Bd.named
  refine body p e s m below meth c s₁ Bd.exec Bd.bytes hml Bd.returns (name_of_methodNamed Bd.named Bd.method).1 Bd.notSynchronized hsf ⟨[], 0, X0, e0, hZ, hown, (State.WarmedH.refl s).since 0, Nat.zero_le _, CHr.refl hC, Fr.nil _, hO, fun q => ⟨rfl, hmd q⟩, hK, a1, hE, hO⟩
/-- new -/
theorem St.new (S : St md p l e R s m args below meth c own Z EL vm T h cells slots) (hx : p.tables.exec = Jvm.exec) {C : String} {index n : Nat} (w : (Cond.classLink own index C).before a0 Z = true) (wi : (Cond.instantiable C n).before a0 Z = true) (wz : (Cond.initialized C).before a0 Z = true) (hd : decode c.code pc = .ok (.new index, 3)) (hc : cells + 1 ≤ R.cells) (hl : slots + n ≤ R.slots) (p' : Nat) (hp : p' = pc + 3)
    (q : ∀ T' h' a, St md p l e R s m args below meth c own Z EL vm T' h' (cells + 1) (slots + n) → a = h.size → Ext h h' → Exa Z h' a C → (∀ {O nm d : String} {ty : FieldType}, Laid Z a0 C O nm d → parseFieldDescriptor d = some ty → Fld Z h' a O nm d (defaultValue ty)) → Safe Z EL vm h' a → CHr Z EL vm h vm h' → (∃ cell : Cell, h'[a]? = some cell ∧ cell.vm = .none ∧ cell.monitor = {}) → Goes p.tables e below P T' (mkF m p' L (.ref a :: K))) : Goes p.tables e below P T (mkF m pc L K) := by
  subst hp
  obtain ⟨locs, k, X, eT, hZ, hown, hS, hk, hC, hF, hO, h0, h2, hE⟩ := S
  obtain ⟨T', h', X', e', E', A', D', U', st⟩ := newO X hx hZ hown w wi wz eT (g := mkF m pc L K) rfl hd hc hl
  exact (q T' h' h.size ⟨locs, k, X', e', hZ, hown, hS, Nat.le_trans hk E'.1, hC.trans (CHr.ext E' hC.1), hF, hO.ext E', h0, h2, hE⟩ rfl E' A' D' (Safe.ext E' hC.1 (Safe.new (Nat.le_refl _))) (CHr.ext E' hC.1) U').via st
theorem St.getF (S : St md p l e R s m args below meth c own Z EL vm T h cells slots) (hx : p.tables.exec = Jvm.exec) {R0 O n d host : String} {index : Nat} (w : (Cond.fieldLink own index R0 n d).before a0 Z = true ∨ (Cond.fieldLinkNest own index R0 n d host).before a0 Z = true) (via : Via Z R0 O n d) {a : Addr} {v : Value} (F : Fld Z h a O n d v) (hd : decode c.code pc = .ok (.getfield index, 3)) (p' : Nat) (hp : p' = pc + 3)
    (q : ∀ T', St md p l e R s m args below meth c own Z EL vm T' h cells slots → Goes p.tables e below P T' (mkF m p' L (v :: K))) : Goes p.tables e below P T (mkF m pc L (.ref a :: K)) := by
  subst hp
  obtain ⟨locs, k, X, eT, hZ, hown, r⟩ := S
  obtain ⟨T', X', e', st⟩ := RoadKit.getF X hx hZ hown w via eT F (g := mkF m pc L (.ref a :: K)) rfl rfl hd
  exact (q T' ⟨locs, k, X', e', hZ, hown, r⟩).via st
theorem St.putF (S : St md p l e R s m args below meth c own Z EL vm T h cells slots) (hx : p.tables.exec = Jvm.exec) {R0 O n d host C : String} {index kk : Nat} {ty : FieldType} (w : (Cond.fieldLink own index R0 n d).before a0 Z = true ∨ (Cond.fieldLinkNest own index R0 n d host).before a0 Z = true) (via : Via Z R0 O n d) {a : Addr} {v u : Value} (F : Fld Z h a O n d u) (E : Exa Z h a C)
    (Ly : (Cond.lays C O n d).before a0 Z = true ∨ ((Cond.laysFinal C O n d).before a0 Z = true ∧ own = O ∧ meth.name = "<init>")) (wi : (Cond.instantiable C kk).before a0 Z = true) (hty : parseFieldDescriptor d = some ty) (hn : narrow ty v = v) (hf : fits ty v = true) (sf : Safe Z EL vm h a) (ga : Z.heap.size ≤ a) (hd : decode c.code pc = .ok (.putfield index, 3)) (p' : Nat) (hp : p' = pc + 3)
    (q : ∀ T' h', St md p l e R s m args below meth c own Z EL vm T' h' cells slots → Wr h h' a (Jvm.RoadKit.slotOf Z O n d) v → CHr Z EL vm h vm h' → Goes p.tables e below P T' (mkF m p' L K)) : Goes p.tables e below P T (mkF m pc L (v :: .ref a :: K)) := by
  subst hp
  obtain ⟨locs, k, X, eT, hZ, hown, hS, hk, hC, hF, hO, h0, h2, hE⟩ := S
  obtain ⟨T', h', X', e', W', st⟩ := RoadKit.putF X hx hZ hown w via eT F E Ly wi hty hn hf (g := mkF m pc L (v :: .ref a :: K)) rfl rfl hd
  have hR := CHr.wr W' sf hC.1
  exact (q T' h' ⟨_, k, X', e', hZ, hown, hS, Nat.le_trans hk hR.2.1, hC.trans hR, Fr.snoc X' hF ga, hO.wr W' ga, h0, h2, hE⟩ W' hR).via st
theorem St.getS (S : St md p l e R s m args below meth c own Z EL vm T h cells slots) (hx : p.tables.exec = Jvm.exec) {R0 O n d host : String} {index : Nat} (w : (Cond.fieldLink own index R0 n d).before a0 Z = true ∨ (Cond.fieldLinkNest own index R0 n d host).before a0 Z = true) (via : Via Z R0 O n d) {v : Value} (F : Sta Z h O n d v) (hd : decode c.code pc = .ok (.getstatic index, 3)) (p' : Nat) (hp : p' = pc + 3)
    (q : ∀ T', St md p l e R s m args below meth c own Z EL vm T' h cells slots → Goes p.tables e below P T' (mkF m p' L (v :: K))) : Goes p.tables e below P T (mkF m pc L K) := by
  subst hp
  obtain ⟨locs, k, X, eT, hZ, hown, r⟩ := S
  obtain ⟨T', X', e', st⟩ := getS2 X hx hZ hown w via eT F (g := mkF m pc L K) rfl hd
  exact (q T' ⟨locs, k, X', e', hZ, hown, r⟩).via st
theorem St.castY (S : St md p l e R s m args below meth c own Z EL vm T h cells slots) (hx : p.tables.exec = Jvm.exec) {C : String} {index : Nat} (w : (Cond.classLink own index C).before a0 Z = true) {a : Addr} (F : Ins Z h a C true) (hd : decode c.code pc = .ok (.checkcast index, 3)) (p' : Nat) (hp : p' = pc + 3)
    (q : ∀ T', St md p l e R s m args below meth c own Z EL vm T' h cells slots → Goes p.tables e below P T' (mkF m p' L (.ref a :: K))) : Goes p.tables e below P T (mkF m pc L (.ref a :: K)) := by
  subst hp
  obtain ⟨locs, k, X, eT, hZ, hown, r⟩ := S
  obtain ⟨T', X', e', st⟩ := RoadKit.castY X hx hZ hown w eT F (g := mkF m pc L (.ref a :: K)) rfl rfl hd
  exact (q T' ⟨locs, k, X', e', hZ, hown, r⟩).via st
theorem St.instY (S : St md p l e R s m args below meth c own Z EL vm T h cells slots) (hx : p.tables.exec = Jvm.exec) {C : String} {index : Nat} (w : (Cond.classLink own index C).before a0 Z = true) {a : Addr} (F : Ins Z h a C true) (hd : decode c.code pc = .ok (.instanceof index, 3)) (p' : Nat) (hp : p' = pc + 3)
    (q : ∀ T', St md p l e R s m args below meth c own Z EL vm T' h cells slots → Goes p.tables e below P T' (mkF m p' L (.int 1 :: K))) : Goes p.tables e below P T (mkF m pc L (.ref a :: K)) := by
  subst hp
  obtain ⟨locs, k, X, eT, hZ, hown, r⟩ := S
  obtain ⟨T', X', e', st⟩ := RoadKit.instY X hx hZ hown w eT F (g := mkF m pc L (.ref a :: K)) rfl rfl hd
  exact (q T' ⟨locs, k, X', e', hZ, hown, r⟩).via st
theorem St.ldcI (S : St md p l e R s m args below meth c own Z EL vm T h cells slots) (hx : p.tables.exec = Jvm.exec) {index : Nat} {v : Int32} (w : (Cond.constant own index v).before a0 Z = true) (hd : decode c.code pc = .ok (.ldc index, 2)) (p' : Nat) (hp : p' = pc + 2)
    (q : Goes p.tables e below P T (mkF m p' L (.int v :: K))) : Goes p.tables e below P T (mkF m pc L K) := by
  subst hp
  obtain ⟨locs, k, X, eT, hZ, hown, r⟩ := S
  exact q.via fun t k => X.ldcInt hx hown (mvT (s := s.setVm vm) hZ w) (g := mkF m pc L K) rfl hd t k
theorem St.ldcJ (S : St md p l e R s m args below meth c own Z EL vm T h cells slots) (hx : p.tables.exec = Jvm.exec) {index : Nat} {v : Int64} (w : (Cond.constantLong own index v).before a0 Z = true) (hd : decode c.code pc = .ok (.ldc2_w index, 3)) (p' : Nat) (hp : p' = pc + 3)
    (q : Goes p.tables e below P T (mkF m p' L (.long v :: K))) : Goes p.tables e below P T (mkF m pc L K) := by
  subst hp
  obtain ⟨locs, k, X, eT, hZ, hown, r⟩ := S
  exact q.via fun t k => X.ldc2Long hx hown (mvT (s := s.setVm vm) hZ w) (g := mkF m pc L K) rfl hd t k
/-- newarray of a primitive kind -/
theorem St.newA (S : St md p l e R s m args below meth c own Z EL vm T h cells slots) (hx : p.tables.exec = Jvm.exec) {aty : ArrayType} (w : (Cond.arrayClass (newarray.typeOf aty)).before a0 Z = true) {n : Int32} (hn : ¬ n < 0) {cap : Nat} (hcap : n.toNatClampNeg ≤ cap) (hb : cap * 8 ≤ 536870912) (hd : decode c.code pc = .ok (.newarray aty, 2)) (hc : cells + 1 ≤ R.cells) (hl : slots + cap ≤ R.slots) (p' : Nat) (hp : p' = pc + 2)
    (q : ∀ T' h' a k, St md p l e R s m args below meth c own Z EL vm T' h' (cells + 1) (slots + cap) → a = h.size → Ext h h' → Arv Z h' a k (newarray.typeOf aty) n (List.replicate cap (defaultValue (newarray.typeOf aty))) (defaultValue (newarray.typeOf aty)) → Safe Z EL vm h' a → CHr Z EL vm h vm h' → Goes p.tables e below P T' (mkF m p' L (.ref a :: K))) : Goes p.tables e below P T (mkF m pc L (.int n :: K)) := by
  subst hp
  obtain ⟨locs, k, X, eT, hZ, hown, hS, hk, hC, hF, hO, h0, h2, hE⟩ := S
  obtain ⟨T', h', cA, X', e', E', A', st⟩ := newP X hx hZ w eT (g := mkF m pc L (.int n :: K)) rfl hd rfl hn hcap hb hc hl
  exact (q T' h' h.size cA ⟨locs, k, X', e', hZ, hown, hS, Nat.le_trans hk E'.1, hC.trans (CHr.ext E' hC.1), hF, hO.ext E', h0, h2, hE⟩ rfl E' ((Arv.new A' hn).pad (pad_rep [] _ cap)) (Safe.ext E' hC.1 (Safe.new (Nat.le_refl _))) (CHr.ext E' hC.1)).via st
/-- castore -/
theorem St.stC (S : St md p l e R s m args below meth c own Z EL vm T h cells slots) (hx : p.tables.exec = Jvm.exec) {a : Addr} {k : ClassId} {z j x : Int32} {vs : List Value} {dv : Value} (A : Arv Z h a k .char z vs dv) (i : Nat) (hj : ¬ j < 0 ∧ j < z) (hi : j.toNatClampNeg = i) (hv : i < vs.length) (ga : Z.heap.size ≤ a) (x' : Int32) (hx' : nar .char x = x') (hd : decode c.code pc = .ok (.castore, 1)) (p' : Nat) (hp : p' = pc + 1)
    (q : ∀ T' h', St md p l e R s m args below meth c own Z EL vm T' h' cells slots → Wr h h' a i (.int x') → Arv Z h' a k .char z (vs.set i (.int x')) dv → CHr Z EL vm h vm h' → Goes p.tables e below P T' (mkF m p' L K)) : Goes p.tables e below P T (mkF m pc L (.int x :: .int j :: .ref a :: K)) := by
  subst hp hx'
  have sf := S.safeA A (by decide)
  obtain ⟨locs, kk, X, eT, hZ, hown, hS, hk, hC, hF, hO, h0, h2, hE⟩ := S
  obtain ⟨cl, A1, A2, A3, A4, A5, A6⟩ := A
  obtain ⟨T', h', X', e', W', st⟩ := RoadKit.stC X hx hZ eT A1 (j := j) (inb_of A3 hj) (g := mkF m pc L (.int x :: .int j :: .ref a :: K)) rfl rfl hd
  have hR := CHr.wr W' sf hC.1
  exact (q T' h' ⟨_, kk, X', e', hZ, hown, hS, Nat.le_trans hk hR.2.1, hC.trans hR, Fr.snoc X' hF ga, hO.wr W' ga, h0, h2, hE⟩ (by rw [← hi]; exact W') (Arv.set A1 A2 A3 A4 A5 A6 (fits_nar_char x) W' i hi hv) hR).via st
theorem St.len (S : St md p l e R s m args below meth c own Z EL vm T h cells slots) (hx : p.tables.exec = Jvm.exec) {a : Addr} {k : ClassId} {ty : FieldType} {z : Int32} {vs : List Value} {dv : Value} (A : Arv Z h a k ty z vs dv) (hd : decode c.code pc = .ok (.arraylength, 1)) (p' : Nat) (hp : p' = pc + 1)
    (q : Goes p.tables e below P T (mkF m p' L (.int z :: K))) : Goes p.tables e below P T (mkF m pc L (.ref a :: K)) := by
  subst hp
  obtain ⟨locs, kk, X, eT, hZ, hown, r⟩ := S
  obtain ⟨cl, A1, A2, A3, A4, A5, A6⟩ := A
  refine q.via fun t k => X.arraylength hx (by rw [eT]; exact A1.1) (State.isArrayOf_alike (T := s.setVm vm) hZ.alike A1.2.1) (g := mkF m pc L (.ref a :: K)) rfl rfl hd t ?_
  rw [len_of A3 A4]; exact k
end B

/-! part C: calls, String constants, returns -/
abbrev PreN (R : Room) (as' : Array Value) (h : Heap) (k n : Nat) : Pt → Array Value → Prop := fun A a => a = as' ∧ A.U.heap = h ∧ A.cells + k ≤ R.cells ∧ A.slots + n ≤ R.slots
abbrev PostN (Q : Option Value → Heap → List Loc → Prop) (k n : Nat) : Pt → Array Value → Option Value → Pt → Prop := fun A _ v B => ∃ L, Q v B.U.heap L ∧ B.locs = A.locs ++ L ∧ B.cells = A.cells + k ∧ B.slots = A.slots + n
abbrev PostW (Q : Option Value → Heap → List Loc → Prop) (k n : Nat) (Z : State) (EL : List (String × Nat)) (vm : Vm) (h : Heap) : Pt → Array Value → Option Value → Pt → Prop := fun A _ v B => ∃ L, Q v B.U.heap L ∧ B.locs = A.locs ++ L ∧ B.cells = A.cells + k ∧ B.slots = A.slots + n ∧ CHr Z EL vm h B.U.vm B.U.heap
section C
variable {md : Nat} {p : Program} {l : Launch} {e : Env} {R : Room} {s : State} {m : MethodId} {args : Array Value} {below : List Frame} {meth : Method} {c : Code} {own : String} {Z : State} {EL : List (String × Nat)} {vm : Vm} {T : State} {h : Heap} {cells slots : Nat} {P : Outcome → State → Prop} {pc : Nat} {L : Array Slot} {K : List Value} {a0 : Array Value} {y : MethodName} {bytes : ByteArray} {maxL : Nat} {ret : Option FieldType} {rm : Room} {as' : Array Value} {Q : Option Value → Heap → Prop} {W len : Nat}
theorem nosf : ∀ x ∈ ([] : List Addr), x < h.size ∧ Safe Z EL vm h x := fun _ q => nomatch q
theorem ctBack {sf : List Addr} (hM : Ct 0 l Z [] sf y bytes maxL ret rm as' h Q) (hZ : Z.Warmed39 s.vm) (wc : (Cond.code y bytes maxL ret).before a0 Z = true) (wz : (Cond.initialized y.cls).before a0 Z = true) (hf : rm.frames + 1 ≤ R.frames) (hl : W + (maxL + 11) + rm.locals ≤ R.locals) :
    Back l R p e below s args y len W (PreN R as' h rm.cells rm.slots) (PostN (fun v h' L => Q v h' ∧ Fr Z.heap.size L ∧ Old Z Z.heap.size h' ∧ h.size ≤ h'.size) rm.cells rm.slots) := by
  have hM' : MetFree l y (head1 [Cond.code y bytes maxL ret] rm) (fun a U => a = as' ∧ Z.Warmed39 U.vm ∧ U.heap = h) (fun _ _ _ _ _ => True) (fun _ U o U' => ∃ v L, o = .returned v ∧ (Q v U'.heap ∧ Fr Z.heap.size L ∧ Old Z Z.heap.size U'.heap ∧ h.size ≤ U'.heap.size) ∧ FrameEnd U o U' L rm.cells rm.slots) := fun p e ha hc hk s m args below hf happ hP hK => by
    obtain ⟨n, o, h1, h2, h3, v, L, r1, r2, r3, r4⟩ := hM [] p e ha hc hk s m args below hf happ ⟨hP.1, hP.2.1, hP.2.2, chv_nil, fun _ _ => safe_nil⟩ (fun q => by cases q)
    exact ⟨n, o, h1, h2, h3, v, L, r1, ⟨r2.1, r2.2.1, r2.2.2, by rw [← hP.2.2]; exact r3.2.1⟩, r4.1 rfl⟩
  exact backOf (Q := fun v h' L => Q v h' ∧ Fr Z.heap.size L ∧ Old Z Z.heap.size h' ∧ h.size ≤ h'.size) hM' hZ wc wz hf hl
theorem ctBackS {sf : List Addr} (hmd : md ≠ 0) (hM : Ct md l Z EL sf y bytes maxL ret rm as' h Q) (hZ : Z.Warmed39 vm) (wc : (Cond.code y bytes maxL ret).before a0 Z = true) (wz : (Cond.initialized y.cls).before a0 Z = true) (hf : rm.frames + 1 ≤ R.frames) (hl : W + (maxL + 11) + rm.locals ≤ R.locals) {a1 : Array Value} (hEL : EW Z a1 EL) (H : CHv Z EL vm h) (hkn : KnOf md vm below) (hsf : ∀ x ∈ sf, x < h.size ∧ Safe Z EL vm h x) :
    BackS l R p e below (s.setVm vm) args y len W (PreN R as' h rm.cells rm.slots) (PostW (fun v h' L => Q v h' ∧ Fr Z.heap.size L ∧ Old Z Z.heap.size h') rm.cells rm.slots Z EL vm h) :=
  BackS.of_freeWG (bytes := bytes) (maxL := maxL) (ret := ret) (E := fun _ first o t L k n => k = rm.cells ∧ n = rm.slots ∧ (∃ v, o = .returned v ∧ Q v t.heap ∧ Fr Z.heap.size L ∧ Old Z Z.heap.size t.heap) ∧ CHr Z EL first.vm first.heap t.vm t.heap) (hM []) hf hl
    (fun m meth c A a Y hp => have hU : Z.Warmed39 A.U.vm := wtrans (s := s.setVm vm) hZ Y.warmed
      ⟨by show (Cond.and _ .tt).before a A.U = true; rw [Cond.before_and, mv hU wc]; rfl, mv hU wc, mv hU wz, hp.2.2.1, hp.2.2.2⟩)
    (fun m meth c A a g mk Y hp => ⟨hp.1, wtrans (s := s.setVm vm) hZ Y.warmed, hp.2.1, (CHv.at Y hZ hEL H).1, fun x hx => (CHv.at Y hZ hEL H).safe (hsf x hx).1 (hsf x hx).2⟩) (fun m meth c A a g mk Y _ hg q2 => known_frames Y hg (hkn q2).1 (hkn q2).2)
    (fun _ _ _ _ ⟨v, L, h1, h2, h3, h4⟩ => ⟨L, _, _, h4.2 hmd, rfl, rfl, ⟨v, h1, h2⟩, h3⟩)
    (fun m meth c A a g mk v t L k n Y hp _ _ ⟨e1, e2, ⟨v', e3, e4⟩, e5⟩ => by
      cases e3; subst e1 e2
      refine ⟨L, e4, rfl, rfl, rfl, (CHv.at Y hZ hEL H).trans ?_⟩
      rw [← hp.2.1]; exact e5)
theorem St.callSN (S : St md p l e R s m args below meth c own Z EL vm T h cells slots) (hx : p.tables.exec = Jvm.exec) {index : Nat}  (w1 : (Cond.methodLink own index y).before a0 Z = true) (w2 : (Cond.static y).before a0 Z = true) (w3 : (Cond.initialized y.cls).before a0 Z = true) (w4 : (Cond.code y bytes maxL ret).before a0 Z = true) (hy : y.cls ≠ "java/lang/invoke/MethodHandle" ∧ y.cls ≠ "java/lang/invoke/VarHandle") {k n : Nat} {QN : Option Value → Heap → List Loc → Prop} (hK : Back l R p e below (s.setVm vm) args y 3 W (PreN R as' h k n) (PostN QN k n)) (hQ : ∀ v h' Lc, QN v h' Lc → Fr Z.heap.size Lc ∧ Old Z Z.heap.size h' ∧ CHr Z EL vm h vm h') (hml : L.size = c.maxLocals) (argsL rest : List Value) (hlen : ∀ sig, parseMethodDescriptor y.desc = some sig → argsL.length = sig.parameters.length) (hst : K = argsL.reverse ++ rest) (has : argsL.toArray = as') (hW : (rest.map fun v => v.category).sum ≤ W) (hd : decode c.code pc = .ok (.invokestatic index, 3)) (hc : cells + k ≤ R.cells) (hs : slots + n ≤ R.slots) (p' : Nat) (hp : p' = pc + 3)
    (q : ∀ v T' h' Lc, St md p l e R s m args below meth c own Z EL vm T' h' (cells + k) (slots + n) → QN v h' Lc → CHr Z EL vm h vm h' → Goes p.tables e below P T' (mkF m p' L (v.toList ++ rest))) : Goes p.tables e below P T (mkF m pc L K) := by
  subst hp hst has
  obtain ⟨locs, k0, X, eT, hZ, hown, hS, hk, hC, hF, hO, h0, h2, hE⟩ := S
  obtain ⟨v, vm1, ⟨T', L', k', n'⟩, -, X', ⟨Lc, hq, l', y', z'⟩, st⟩ := Jvm.LawKit.callS X hx hown (mvT (s := s.setVm vm) hZ w1) (mvT (s := s.setVm vm) hZ w2) (mvT (s := s.setVm vm) hZ w3) (mvT (s := s.setVm vm) hZ w4) hy hK (g := mkF m pc L (argsL.reverse ++ rest)) rfl hml  (argsL := argsL) (rest := rest) hlen rfl (by show 2 * 0 + _ ≤ _; omega) hd (fun _ _ => ⟨rfl, eT, hc, hs⟩)
  dsimp only [Pt.U, Pt.locs, Pt.cells, Pt.slots] at X' l' y' z' st hq
  subst l' y' z'
  obtain ⟨r1, r2, r3⟩ := hQ v _ Lc hq
  exact (q v T' T'.heap Lc ⟨_, k0, X', rfl, hZ, hown, hS, Nat.le_trans hk r3.2.1, hC.trans r3, hF.app r1, r2, h0, h2, hE⟩ hq r3).via st
theorem St.callS {sf : List Addr} (S : St md p l e R s m args below meth c own Z EL vm T h cells slots) (hx : p.tables.exec = Jvm.exec) {index : Nat}  (w1 : (Cond.methodLink own index y).before a0 Z = true) (w2 : (Cond.static y).before a0 Z = true) (w3 : (Cond.initialized y.cls).before a0 Z = true) (w4 : (Cond.code y bytes maxL ret).before a0 Z = true) (hy : y.cls ≠ "java/lang/invoke/MethodHandle" ∧ y.cls ≠ "java/lang/invoke/VarHandle") (hM : Ct md l Z EL sf y bytes maxL ret rm as' h Q) (hsf : ∀ x ∈ sf, x < h.size ∧ Safe Z EL vm h x) (hf : rm.frames + 1 ≤ R.frames) (hl : W + (maxL + 11) + rm.locals ≤ R.locals) (hml : L.size = c.maxLocals) (argsL rest : List Value) (hlen : ∀ sig, parseMethodDescriptor y.desc = some sig → argsL.length = sig.parameters.length) (hst : K = argsL.reverse ++ rest) (has : argsL.toArray = as') (hW : (rest.map fun v => v.category).sum ≤ W) (hd : decode c.code pc = .ok (.invokestatic index, 3)) (hc : cells + rm.cells ≤ R.cells) (hs : slots + rm.slots ≤ R.slots) (p' : Nat) (hp : p' = pc + 3)
    (q : ∀ v vm' T' h', St md p l e R s m args below meth c own Z EL vm' T' h' (cells + rm.cells) (slots + rm.slots) → Q v h' → CHr Z EL vm h vm' h' → Goes p.tables e below P T' (mkF m p' L (v.toList ++ rest))) : Goes p.tables e below P T (mkF m pc L K) := by
  by_cases hmd : md = 0
  · subst hmd
    have hEL : EL = [] := by obtain ⟨_, _, -, -, -, -, -, -, -, -, -, h0, -⟩ := S; exact (h0 rfl).2
    subst hEL
    have hZ := S.warm
    exact St.callSN S hx w1 w2 w3 w4 hy (ctBack (s := s.setVm vm) hM hZ w4 w3 hf hl) (fun v h' Lc r => ⟨r.2.1, r.2.2.1, chr_nil r.2.2.2⟩) hml argsL rest hlen hst has hW hd hc hs p' hp (fun v T' h' Lc S' r R' => q v vm T' h' S' r.1 R')
  · subst hp hst has
    obtain ⟨locs, k0, X, eT, hZ, hown, hS, hk, hC, hF, hO, h0, h2, a1, hE⟩ := S
    have hK := ctBackS (s := s) (R := R) (p := p) (e := e) (below := below) (args := args) (W := W) (len := 3) hmd hM hZ w4 w3 hf hl hE.1 hC.1 h2 hsf
    obtain ⟨v, vm1, ⟨T', L', k', n'⟩, -, X', hS2, hgr, ⟨Lc, ⟨hq, r1, r2⟩, l', y', z', hR⟩, st⟩ := callSS X hx hown (mvT (s := s.setVm vm) hZ w1) (mvT (s := s.setVm vm) hZ w2) (mvT (s := s.setVm vm) hZ w3) (mvT (s := s.setVm vm) hZ w4) hy hK (g := mkF m pc L (argsL.reverse ++ rest)) rfl hml  (argsL := argsL) (rest := rest) hlen rfl (by show 2 * 0 + _ ≤ _; omega) hd (fun _ _ => ⟨rfl, eT, hc, hs⟩)
    dsimp only [Pt.U, Pt.locs, Pt.cells, Pt.slots] at X' l' y' z' st hq hS2 hgr hR
    subst l' y' z'
    obtain ⟨Y1, Y2, Y3, Y4⟩ := rebS hS (n1 := T.heap.size) (by rw [eT]; exact hk) X' hS2 hgr hZ hown
    exact (q v T'.vm T' T'.heap ⟨_, _, Y1, rfl, Y3, Y4, Y2, Nat.le_refl _, hC.trans hR, hF.app r1, r2, fun z => absurd z hmd, fun z => ⟨(h2 z).1.alikeC hS2.1.alike, (h2 z).2.alikeC hS2.1.alike⟩, a1, hE⟩ hq hR).to st
theorem St.callIN (S : St md p l e R s m args below meth c own Z EL vm T h cells slots) (hx : p.tables.exec = Jvm.exec) {index : Nat} {a : Addr} (hy1 : y.name = "<init>") (w1 : (Cond.methodLink own index y).before a0 Z = true) (w2 : (Cond.instanceMethod y).before a0 Z = true) (w4 : (Cond.code y bytes maxL none).before a0 Z = true) (hy : y.cls ≠ "java/lang/invoke/MethodHandle" ∧ y.cls ≠ "java/lang/invoke/VarHandle") {k n : Nat} {QN : Option Value → Heap → List Loc → Prop} (hK : Back l R p e below (s.setVm vm) args y 3 W (PreN R as' h k n) (PostN QN k n)) (hQ : ∀ v h' Lc, QN v h' Lc → Fr Z.heap.size Lc ∧ Old Z Z.heap.size h' ∧ CHr Z EL vm h vm h') (hml : L.size = c.maxLocals) (argsL rest : List Value) (hlen : ∀ sig, parseMethodDescriptor y.desc = some sig → argsL.length = sig.parameters.length) (hst : K = argsL.reverse ++ .ref a :: rest) (has : (.ref a :: argsL).toArray = as') (hW : (rest.map fun v => v.category).sum ≤ W) (hd : decode c.code pc = .ok (.invokespecial index, 3)) (hc : cells + k ≤ R.cells) (hs : slots + n ≤ R.slots) (p' : Nat) (hp : p' = pc + 3)
    (q : ∀ v T' h' Lc, St md p l e R s m args below meth c own Z EL vm T' h' (cells + k) (slots + n) → QN v h' Lc → CHr Z EL vm h vm h' → Goes p.tables e below P T' (mkF m p' L (v.toList ++ rest))) : Goes p.tables e below P T (mkF m pc L K) := by
  subst hp hst has
  obtain ⟨locs, k0, X, eT, hZ, hown, hS, hk, hC, hF, hO, h0, h2, hE⟩ := S
  obtain ⟨v, vm1, ⟨T', L', k', n'⟩, -, X', ⟨Lc, hq, l', y', z'⟩, st⟩ := X.specialBack hx hy1 hown (mvT (s := s.setVm vm) hZ w1) (mvT (s := s.setVm vm) hZ w2) (mvT (s := s.setVm vm) hZ w4) hy hK (g := mkF m pc L (argsL.reverse ++ .ref a :: rest)) rfl hml (Steps.refl _) (argsL := argsL) (rest := rest) hlen rfl (by show 2 * 0 + _ ≤ _; omega) hd (fun _ _ => ⟨rfl, eT, hc, hs⟩)
  dsimp only [Pt.U, Pt.locs, Pt.cells, Pt.slots] at X' l' y' z' st hq
  subst l' y' z'
  obtain ⟨r1, r2, r3⟩ := hQ v _ Lc hq
  exact (q v T' T'.heap Lc ⟨_, k0, X', rfl, hZ, hown, hS, Nat.le_trans hk r3.2.1, hC.trans r3, hF.app r1, r2, h0, h2, hE⟩ hq r3).to st
theorem St.callI {sf : List Addr} (S : St md p l e R s m args below meth c own Z EL vm T h cells slots) (hx : p.tables.exec = Jvm.exec) {index : Nat} {a : Addr} (hy1 : y.name = "<init>") (w1 : (Cond.methodLink own index y).before a0 Z = true) (w2 : (Cond.instanceMethod y).before a0 Z = true) (w4 : (Cond.code y bytes maxL none).before a0 Z = true) (hy : y.cls ≠ "java/lang/invoke/MethodHandle" ∧ y.cls ≠ "java/lang/invoke/VarHandle") (wz : (Cond.initialized y.cls).before a0 Z = true) (hM : Ct md l Z EL sf y bytes maxL none rm as' h Q) (hsf : ∀ x ∈ sf, x < h.size ∧ Safe Z EL vm h x) (hf : rm.frames + 1 ≤ R.frames) (hl : W + (maxL + 11) + rm.locals ≤ R.locals) (hml : L.size = c.maxLocals) (argsL rest : List Value) (hlen : ∀ sig, parseMethodDescriptor y.desc = some sig → argsL.length = sig.parameters.length) (hst : K = argsL.reverse ++ .ref a :: rest) (has : (.ref a :: argsL).toArray = as') (hW : (rest.map fun v => v.category).sum ≤ W) (hd : decode c.code pc = .ok (.invokespecial index, 3)) (hc : cells + rm.cells ≤ R.cells) (hs : slots + rm.slots ≤ R.slots) (p' : Nat) (hp : p' = pc + 3)
    (q : ∀ v vm' T' h', St md p l e R s m args below meth c own Z EL vm' T' h' (cells + rm.cells) (slots + rm.slots) → Q v h' → CHr Z EL vm h vm' h' → Goes p.tables e below P T' (mkF m p' L (v.toList ++ rest))) : Goes p.tables e below P T (mkF m pc L K) := by
  by_cases hmd : md = 0
  · subst hmd
    have hEL : EL = [] := by obtain ⟨_, _, -, -, -, -, -, -, -, -, -, h0, -⟩ := S; exact (h0 rfl).2
    subst hEL
    have hZ := S.warm
    exact St.callIN S hx hy1 w1 w2 w4 hy (ctBack (s := s.setVm vm) hM hZ w4 wz hf hl) (fun v h' Lc r => ⟨r.2.1, r.2.2.1, chr_nil r.2.2.2⟩) hml argsL rest hlen hst has hW hd hc hs p' hp (fun v T' h' Lc S' r R' => q v vm T' h' S' r.1 R')
  · subst hp hst has
    obtain ⟨locs, k0, X, eT, hZ, hown, hS, hk, hC, hF, hO, h0, h2, a1, hE⟩ := S
    have hK := ctBackS (s := s) (R := R) (p := p) (e := e) (below := below) (args := args) (W := W) (len := 3) hmd hM hZ w4 wz hf hl hE.1 hC.1 h2 hsf
    obtain ⟨v, vm1, ⟨T', L', k', n'⟩, -, X', hS2, hgr, ⟨Lc, ⟨hq, r1, r2⟩, l', y', z', hR⟩, st⟩ := X.specialBackS hx hy1 hown (mvT (s := s.setVm vm) hZ w1) (mvT (s := s.setVm vm) hZ w2) (mvT (s := s.setVm vm) hZ w4) hy hK (g := mkF m pc L (argsL.reverse ++ .ref a :: rest)) rfl hml (Steps.refl _) (argsL := argsL) (rest := rest) hlen rfl (by show 2 * 0 + _ ≤ _; omega) hd (fun _ _ => ⟨rfl, eT, hc, hs⟩)
    dsimp only [Pt.U, Pt.locs, Pt.cells, Pt.slots] at X' l' y' z' st hq hS2 hgr hR
    subst l' y' z'
    obtain ⟨Y1, Y2, Y3, Y4⟩ := rebS hS (n1 := T.heap.size) (by rw [eT]; exact hk) X' hS2 hgr hZ hown
    exact (q v T'.vm T' T'.heap ⟨_, _, Y1, rfl, Y3, Y4, Y2, Nat.le_refl _, hC.trans hR, hF.app r1, r2, fun z => absurd z hmd, fun z => ⟨(h2 z).1.alikeC hS2.1.alike, (h2 z).2.alikeC hS2.1.alike⟩, a1, hE⟩ hq hR).to st
theorem St.callVN (S : St md p l e R s m args below meth c own Z EL vm T h cells slots) (hx : p.tables.exec = Jvm.exec) {index : Nat} {a : Addr} {C : String} {x : MethodName} (w1 : (Cond.methodLink own index x).before a0 Z = true) (w2 : (Cond.declares x).before a0 Z = true) (nf : NotFace (s.setVm vm) x) (w5 : (Cond.selects C x y).before a0 Z = true) (w6 : (Cond.instanceMethod y).before a0 Z = true) (hy : x.cls ≠ "java/lang/invoke/MethodHandle" ∧ x.cls ≠ "java/lang/invoke/VarHandle") (E : Exa Z h a C) {k n : Nat} {QN : Option Value → Heap → List Loc → Prop} (hK : Back l R p e below (s.setVm vm) args y 3 W (PreN R as' h k n) (PostN QN k n)) (hQ : ∀ v h' Lc, QN v h' Lc → Fr Z.heap.size Lc ∧ Old Z Z.heap.size h' ∧ CHr Z EL vm h vm h') (hml : L.size = c.maxLocals) (argsL rest : List Value) (hlen : ∀ sig, parseMethodDescriptor x.desc = some sig → argsL.length = sig.parameters.length) (hst : K = argsL.reverse ++ .ref a :: rest) (has : (.ref a :: argsL).toArray = as') (hW : (rest.map fun v => v.category).sum ≤ W) (hd : decode c.code pc = .ok (.invokevirtual index, 3)) (hc : cells + k ≤ R.cells) (hs : slots + n ≤ R.slots) (p' : Nat) (hp : p' = pc + 3)
    (q : ∀ v T' h' Lc, St md p l e R s m args below meth c own Z EL vm T' h' (cells + k) (slots + n) → QN v h' Lc → CHr Z EL vm h vm h' → Goes p.tables e below P T' (mkF m p' L (v.toList ++ rest))) : Goes p.tables e below P T (mkF m pc L K) := by
  subst hp hst has
  obtain ⟨locs, k0, X, eT, hZ, hown, hS, hk, hC, hF, hO, h0, h2, hE⟩ := S
  obtain ⟨cq, kq, qa, qb, qc⟩ := isOf (s := s.setVm vm) hZ eT E
  obtain ⟨v, vm1, ⟨T', L', k', n'⟩, -, X', ⟨Lc, hq, l', y', z'⟩, st⟩ := X.virtualBack hx hown (mvT (s := s.setVm vm) hZ w1) (mvT (s := s.setVm vm) hZ w2) nf (mvT (s := s.setVm vm) hZ w5) (mvT (s := s.setVm vm) hZ w6) hy hK qa qc (g := mkF m pc L (argsL.reverse ++ .ref a :: rest)) rfl hml (Steps.refl _) (argsL := argsL) (rest := rest) hlen rfl (by show 2 * 0 + _ ≤ _; omega) hd (fun _ _ => ⟨rfl, eT, hc, hs⟩)
  dsimp only [Pt.U, Pt.locs, Pt.cells, Pt.slots] at X' l' y' z' st hq
  subst l' y' z'
  obtain ⟨r1, r2, r3⟩ := hQ v _ Lc hq
  exact (q v T' T'.heap Lc ⟨_, k0, X', rfl, hZ, hown, hS, Nat.le_trans hk r3.2.1, hC.trans r3, hF.app r1, r2, h0, h2, hE⟩ hq r3).to st
theorem St.callV {sf : List Addr} (S : St md p l e R s m args below meth c own Z EL vm T h cells slots) (hx : p.tables.exec = Jvm.exec) {index : Nat} {a : Addr} {C : String} {x : MethodName} (w1 : (Cond.methodLink own index x).before a0 Z = true) (w2 : (Cond.declares x).before a0 Z = true) (nf : NotFace (s.setVm vm) x) (w5 : (Cond.selects C x y).before a0 Z = true) (w6 : (Cond.instanceMethod y).before a0 Z = true) (hy : x.cls ≠ "java/lang/invoke/MethodHandle" ∧ x.cls ≠ "java/lang/invoke/VarHandle") (E : Exa Z h a C) (wc : (Cond.code y bytes maxL ret).before a0 Z = true) (wz : (Cond.initialized y.cls).before a0 Z = true) (hM : Ct md l Z EL sf y bytes maxL ret rm as' h Q) (hsf : ∀ x ∈ sf, x < h.size ∧ Safe Z EL vm h x) (hf : rm.frames + 1 ≤ R.frames) (hl : W + (maxL + 11) + rm.locals ≤ R.locals) (hml : L.size = c.maxLocals) (argsL rest : List Value) (hlen : ∀ sig, parseMethodDescriptor x.desc = some sig → argsL.length = sig.parameters.length) (hst : K = argsL.reverse ++ .ref a :: rest) (has : (.ref a :: argsL).toArray = as') (hW : (rest.map fun v => v.category).sum ≤ W) (hd : decode c.code pc = .ok (.invokevirtual index, 3)) (hc : cells + rm.cells ≤ R.cells) (hs : slots + rm.slots ≤ R.slots) (p' : Nat) (hp : p' = pc + 3)
    (q : ∀ v vm' T' h', St md p l e R s m args below meth c own Z EL vm' T' h' (cells + rm.cells) (slots + rm.slots) → Q v h' → CHr Z EL vm h vm' h' → Goes p.tables e below P T' (mkF m p' L (v.toList ++ rest))) : Goes p.tables e below P T (mkF m pc L K) := by
  by_cases hmd : md = 0
  · subst hmd
    have hEL : EL = [] := by obtain ⟨_, _, -, -, -, -, -, -, -, -, -, h0, -⟩ := S; exact (h0 rfl).2
    subst hEL
    have hZ := S.warm
    exact St.callVN S hx w1 w2 nf w5 w6 hy E (ctBack (s := s.setVm vm) hM hZ wc wz hf hl) (fun v h' Lc r => ⟨r.2.1, r.2.2.1, chr_nil r.2.2.2⟩) hml argsL rest hlen hst has hW hd hc hs p' hp (fun v T' h' Lc S' r R' => q v vm T' h' S' r.1 R')
  · subst hp hst has
    obtain ⟨locs, k0, X, eT, hZ, hown, hS, hk, hC, hF, hO, h0, h2, a1, hE⟩ := S
    obtain ⟨cq, kq, qa, qb, qc⟩ := isOf (s := s.setVm vm) hZ eT E
    have hK := ctBackS (s := s) (R := R) (p := p) (e := e) (below := below) (args := args) (W := W) (len := 3) hmd hM hZ wc wz hf hl hE.1 hC.1 h2 hsf
    obtain ⟨v, vm1, ⟨T', L', k', n'⟩, -, X', hS2, hgr, ⟨Lc, ⟨hq, r1, r2⟩, l', y', z', hR⟩, st⟩ := X.virtualBackS hx hown (mvT (s := s.setVm vm) hZ w1) (mvT (s := s.setVm vm) hZ w2) nf (mvT (s := s.setVm vm) hZ w5) (mvT (s := s.setVm vm) hZ w6) hy hK qa qc (g := mkF m pc L (argsL.reverse ++ .ref a :: rest)) rfl hml (Steps.refl _) (argsL := argsL) (rest := rest) hlen rfl (by show 2 * 0 + _ ≤ _; omega) hd (fun _ _ => ⟨rfl, eT, hc, hs⟩)
    dsimp only [Pt.U, Pt.locs, Pt.cells, Pt.slots] at X' l' y' z' st hq hS2 hgr hR
    subst l' y' z'
    obtain ⟨Y1, Y2, Y3, Y4⟩ := rebS hS (n1 := T.heap.size) (by rw [eT]; exact hk) X' hS2 hgr hZ hown
    exact (q v T'.vm T' T'.heap ⟨_, _, Y1, rfl, Y3, Y4, Y2, Nat.le_refl _, hC.trans hR, hF.app r1, r2, fun z => absurd z hmd, fun z => ⟨(h2 z).1.alikeC hS2.1.alike, (h2 z).2.alikeC hS2.1.alike⟩, a1, hE⟩ hq hR).to st
theorem St.callUN (S : St md p l e R s m args below meth c own Z EL vm T h cells slots) (hx : p.tables.exec = Jvm.exec) {index : Nat} {a : Addr} {C owner : String} {x : MethodName} (w1 : (Cond.methodLink own index x).before a0 Z = true) (w2 : (Cond.sameMethod x.cls owner x.name x.desc).before a0 Z = true) (w3 : (Cond.declares ⟨owner, x.name, x.desc⟩).before a0 Z = true) (w5 : (Cond.selects C x y).before a0 Z = true) (w6 : (Cond.instanceMethod y).before a0 Z = true) (hy : owner ≠ "java/lang/invoke/MethodHandle" ∧ owner ≠ "java/lang/invoke/VarHandle") (E : Exa Z h a C) {k n : Nat} {QN : Option Value → Heap → List Loc → Prop} (hK : Back l R p e below (s.setVm vm) args y 3 W (PreN R as' h k n) (PostN QN k n)) (hQ : ∀ v h' Lc, QN v h' Lc → Fr Z.heap.size Lc ∧ Old Z Z.heap.size h' ∧ CHr Z EL vm h vm h') (hml : L.size = c.maxLocals) (argsL rest : List Value) (hlen : ∀ sig, parseMethodDescriptor x.desc = some sig → argsL.length = sig.parameters.length) (hst : K = argsL.reverse ++ .ref a :: rest) (has : (.ref a :: argsL).toArray = as') (hW : (rest.map fun v => v.category).sum ≤ W) (hd : decode c.code pc = .ok (.invokevirtual index, 3)) (hc : cells + k ≤ R.cells) (hs : slots + n ≤ R.slots) (p' : Nat) (hp : p' = pc + 3)
    (q : ∀ v T' h' Lc, St md p l e R s m args below meth c own Z EL vm T' h' (cells + k) (slots + n) → QN v h' Lc → CHr Z EL vm h vm h' → Goes p.tables e below P T' (mkF m p' L (v.toList ++ rest))) : Goes p.tables e below P T (mkF m pc L K) := by
  subst hp hst has
  obtain ⟨locs, k0, X, eT, hZ, hown, hS, hk, hC, hF, hO, h0, h2, hE⟩ := S
  obtain ⟨cq, kq, qa, qb, qc⟩ := isOf (s := s.setVm vm) hZ eT E
  obtain ⟨v, vm1, ⟨T', L', k', n'⟩, -, X', ⟨Lc, hq, l', y', z'⟩, st⟩ := X.virtualBackUp hx hown (mvT (s := s.setVm vm) hZ w1) (mvT (s := s.setVm vm) hZ w2) (mvT (s := s.setVm vm) hZ w3) hy (mvT (s := s.setVm vm) hZ w5) (mvT (s := s.setVm vm) hZ w6) hK qa qc (g := mkF m pc L (argsL.reverse ++ .ref a :: rest)) rfl hml (Steps.refl _) (argsL := argsL) (rest := rest) hlen rfl (by show 2 * 0 + _ ≤ _; omega) hd (fun _ _ => ⟨rfl, eT, hc, hs⟩)
  dsimp only [Pt.U, Pt.locs, Pt.cells, Pt.slots] at X' l' y' z' st hq
  subst l' y' z'
  obtain ⟨r1, r2, r3⟩ := hQ v _ Lc hq
  exact (q v T' T'.heap Lc ⟨_, k0, X', rfl, hZ, hown, hS, Nat.le_trans hk r3.2.1, hC.trans r3, hF.app r1, r2, h0, h2, hE⟩ hq r3).to st
theorem St.callU {sf : List Addr} (S : St md p l e R s m args below meth c own Z EL vm T h cells slots) (hx : p.tables.exec = Jvm.exec) {index : Nat} {a : Addr} {C owner : String} {x : MethodName} (w1 : (Cond.methodLink own index x).before a0 Z = true) (w2 : (Cond.sameMethod x.cls owner x.name x.desc).before a0 Z = true) (w3 : (Cond.declares ⟨owner, x.name, x.desc⟩).before a0 Z = true) (w5 : (Cond.selects C x y).before a0 Z = true) (w6 : (Cond.instanceMethod y).before a0 Z = true) (hy : owner ≠ "java/lang/invoke/MethodHandle" ∧ owner ≠ "java/lang/invoke/VarHandle") (E : Exa Z h a C) (wc : (Cond.code y bytes maxL ret).before a0 Z = true) (wz : (Cond.initialized y.cls).before a0 Z = true) (hM : Ct md l Z EL sf y bytes maxL ret rm as' h Q) (hsf : ∀ x ∈ sf, x < h.size ∧ Safe Z EL vm h x) (hf : rm.frames + 1 ≤ R.frames) (hl : W + (maxL + 11) + rm.locals ≤ R.locals) (hml : L.size = c.maxLocals) (argsL rest : List Value) (hlen : ∀ sig, parseMethodDescriptor x.desc = some sig → argsL.length = sig.parameters.length) (hst : K = argsL.reverse ++ .ref a :: rest) (has : (.ref a :: argsL).toArray = as') (hW : (rest.map fun v => v.category).sum ≤ W) (hd : decode c.code pc = .ok (.invokevirtual index, 3)) (hc : cells + rm.cells ≤ R.cells) (hs : slots + rm.slots ≤ R.slots) (p' : Nat) (hp : p' = pc + 3)
    (q : ∀ v vm' T' h', St md p l e R s m args below meth c own Z EL vm' T' h' (cells + rm.cells) (slots + rm.slots) → Q v h' → CHr Z EL vm h vm' h' → Goes p.tables e below P T' (mkF m p' L (v.toList ++ rest))) : Goes p.tables e below P T (mkF m pc L K) := by
  by_cases hmd : md = 0
  · subst hmd
    have hEL : EL = [] := by obtain ⟨_, _, -, -, -, -, -, -, -, -, -, h0, -⟩ := S; exact (h0 rfl).2
    subst hEL
    have hZ := S.warm
    exact St.callUN S hx w1 w2 w3 w5 w6 hy E (ctBack (s := s.setVm vm) hM hZ wc wz hf hl) (fun v h' Lc r => ⟨r.2.1, r.2.2.1, chr_nil r.2.2.2⟩) hml argsL rest hlen hst has hW hd hc hs p' hp (fun v T' h' Lc S' r R' => q v vm T' h' S' r.1 R')
  · subst hp hst has
    obtain ⟨locs, k0, X, eT, hZ, hown, hS, hk, hC, hF, hO, h0, h2, a1, hE⟩ := S
    obtain ⟨cq, kq, qa, qb, qc⟩ := isOf (s := s.setVm vm) hZ eT E
    have hK := ctBackS (s := s) (R := R) (p := p) (e := e) (below := below) (args := args) (W := W) (len := 3) hmd hM hZ wc wz hf hl hE.1 hC.1 h2 hsf
    obtain ⟨v, vm1, ⟨T', L', k', n'⟩, -, X', hS2, hgr, ⟨Lc, ⟨hq, r1, r2⟩, l', y', z', hR⟩, st⟩ := virtualBackUpS X hx hown (mvT (s := s.setVm vm) hZ w1) (mvT (s := s.setVm vm) hZ w2) (mvT (s := s.setVm vm) hZ w3) hy (mvT (s := s.setVm vm) hZ w5) (mvT (s := s.setVm vm) hZ w6) hK qa qc (g := mkF m pc L (argsL.reverse ++ .ref a :: rest)) rfl hml (Steps.refl _) (argsL := argsL) (rest := rest) hlen rfl (by show 2 * 0 + _ ≤ _; omega) hd (fun _ _ => ⟨rfl, eT, hc, hs⟩)
    dsimp only [Pt.U, Pt.locs, Pt.cells, Pt.slots] at X' l' y' z' st hq hS2 hgr hR
    subst l' y' z'
    obtain ⟨Y1, Y2, Y3, Y4⟩ := rebS hS (n1 := T.heap.size) (by rw [eT]; exact hk) X' hS2 hgr hZ hown
    exact (q v T'.vm T' T'.heap ⟨_, _, Y1, rfl, Y3, Y4, Y2, Nat.le_refl _, hC.trans hR, hF.app r1, r2, fun z => absurd z hmd, fun z => ⟨(h2 z).1.alikeC hS2.1.alike, (h2 z).2.alikeC hS2.1.alike⟩, a1, hE⟩ hq hR).to st
theorem St.callPN (S : St md p l e R s m args below meth c own Z EL vm T h cells slots) (hx : p.tables.exec = Jvm.exec) {index : Nat} {a : Addr} (w1 : (Cond.methodLink own index y).before a0 Z = true) (w6 : (Cond.instanceMethod y).before a0 Z = true) (w5 : (Cond.selects y.cls y y).before a0 Z = true) (w7 : (Cond.privateMethod y).before a0 Z = true) (w4 : (Cond.code y bytes maxL ret).before a0 Z = true) (hy : y.cls ≠ "java/lang/invoke/MethodHandle" ∧ y.cls ≠ "java/lang/invoke/VarHandle") {C : String} (E : Exa Z h a C) {k n : Nat} {QN : Option Value → Heap → List Loc → Prop} (hK : Back l R p e below (s.setVm vm) args y 3 W (PreN R as' h k n) (PostN QN k n)) (hQ : ∀ v h' Lc, QN v h' Lc → Fr Z.heap.size Lc ∧ Old Z Z.heap.size h' ∧ CHr Z EL vm h vm h') (hml : L.size = c.maxLocals) (argsL rest : List Value) (hlen : ∀ sig, parseMethodDescriptor y.desc = some sig → argsL.length = sig.parameters.length) (hst : K = argsL.reverse ++ .ref a :: rest) (has : (.ref a :: argsL).toArray = as') (hW : (rest.map fun v => v.category).sum ≤ W) (hd : decode c.code pc = .ok (.invokevirtual index, 3)) (hc : cells + k ≤ R.cells) (hs : slots + n ≤ R.slots) (p' : Nat) (hp : p' = pc + 3)
    (q : ∀ v T' h' Lc, St md p l e R s m args below meth c own Z EL vm T' h' (cells + k) (slots + n) → QN v h' Lc → CHr Z EL vm h vm h' → Goes p.tables e below P T' (mkF m p' L (v.toList ++ rest))) : Goes p.tables e below P T (mkF m pc L K) := by
  subst hp hst has
  obtain ⟨locs, k0, X, eT, hZ, hown, hS, hk, hC, hF, hO, h0, h2, hE⟩ := S
  obtain ⟨cq, qa, qb⟩ := E.cell
  obtain ⟨v, vm1, ⟨T', L', k', n'⟩, -, X', ⟨Lc, hq, l', y', z'⟩, st⟩ := X.privateBack hx hown (mvT (s := s.setVm vm) hZ w1) (mvT (s := s.setVm vm) hZ w6) (mvT (s := s.setVm vm) hZ w5) (Cond.privateMethod_at (mvP (s := s.setVm vm) hZ w7 (args := #[]))) (mvT (s := s.setVm vm) hZ w4) hy hK (g := mkF m pc L (argsL.reverse ++ .ref a :: rest)) rfl hml (Steps.refl _) (a := a) (by rw [eT]; exact qa) qb (argsL := argsL) (rest := rest) hlen rfl (by show 2 * 0 + _ ≤ _; omega) hd (fun _ _ => ⟨rfl, eT, hc, hs⟩)
  dsimp only [Pt.U, Pt.locs, Pt.cells, Pt.slots] at X' l' y' z' st hq
  subst l' y' z'
  obtain ⟨r1, r2, r3⟩ := hQ v _ Lc hq
  exact (q v T' T'.heap Lc ⟨_, k0, X', rfl, hZ, hown, hS, Nat.le_trans hk r3.2.1, hC.trans r3, hF.app r1, r2, h0, h2, hE⟩ hq r3).to st
theorem St.callP {sf : List Addr} (S : St md p l e R s m args below meth c own Z EL vm T h cells slots) (hx : p.tables.exec = Jvm.exec) {index : Nat} {a : Addr} (w1 : (Cond.methodLink own index y).before a0 Z = true) (w6 : (Cond.instanceMethod y).before a0 Z = true) (w5 : (Cond.selects y.cls y y).before a0 Z = true) (w7 : (Cond.privateMethod y).before a0 Z = true) (w4 : (Cond.code y bytes maxL ret).before a0 Z = true) (hy : y.cls ≠ "java/lang/invoke/MethodHandle" ∧ y.cls ≠ "java/lang/invoke/VarHandle") {C : String} (E : Exa Z h a C) (wz : (Cond.initialized y.cls).before a0 Z = true) (hM : Ct md l Z EL sf y bytes maxL ret rm as' h Q) (hsf : ∀ x ∈ sf, x < h.size ∧ Safe Z EL vm h x) (hf : rm.frames + 1 ≤ R.frames) (hl : W + (maxL + 11) + rm.locals ≤ R.locals) (hml : L.size = c.maxLocals) (argsL rest : List Value) (hlen : ∀ sig, parseMethodDescriptor y.desc = some sig → argsL.length = sig.parameters.length) (hst : K = argsL.reverse ++ .ref a :: rest) (has : (.ref a :: argsL).toArray = as') (hW : (rest.map fun v => v.category).sum ≤ W) (hd : decode c.code pc = .ok (.invokevirtual index, 3)) (hc : cells + rm.cells ≤ R.cells) (hs : slots + rm.slots ≤ R.slots) (p' : Nat) (hp : p' = pc + 3)
    (q : ∀ v vm' T' h', St md p l e R s m args below meth c own Z EL vm' T' h' (cells + rm.cells) (slots + rm.slots) → Q v h' → CHr Z EL vm h vm' h' → Goes p.tables e below P T' (mkF m p' L (v.toList ++ rest))) : Goes p.tables e below P T (mkF m pc L K) := by
  by_cases hmd : md = 0
  · subst hmd
    have hEL : EL = [] := by obtain ⟨_, _, -, -, -, -, -, -, -, -, -, h0, -⟩ := S; exact (h0 rfl).2
    subst hEL
    have hZ := S.warm
    exact St.callPN S hx w1 w6 w5 w7 w4 hy E (ctBack (s := s.setVm vm) hM hZ w4 wz hf hl) (fun v h' Lc r => ⟨r.2.1, r.2.2.1, chr_nil r.2.2.2⟩) hml argsL rest hlen hst has hW hd hc hs p' hp (fun v T' h' Lc S' r R' => q v vm T' h' S' r.1 R')
  · subst hp hst has
    obtain ⟨locs, k0, X, eT, hZ, hown, hS, hk, hC, hF, hO, h0, h2, a1, hE⟩ := S
    obtain ⟨cq, qa, qb⟩ := E.cell
    have hK := ctBackS (s := s) (R := R) (p := p) (e := e) (below := below) (args := args) (W := W) (len := 3) hmd hM hZ w4 wz hf hl hE.1 hC.1 h2 hsf
    obtain ⟨v, vm1, ⟨T', L', k', n'⟩, -, X', hS2, hgr, ⟨Lc, ⟨hq, r1, r2⟩, l', y', z', hR⟩, st⟩ := privateBackS X hx hown (mvT (s := s.setVm vm) hZ w1) (mvT (s := s.setVm vm) hZ w6) (mvT (s := s.setVm vm) hZ w5) (Cond.privateMethod_at (mvP (s := s.setVm vm) hZ w7 (args := #[]))) (mvT (s := s.setVm vm) hZ w4) hy hK (g := mkF m pc L (argsL.reverse ++ .ref a :: rest)) rfl hml (Steps.refl _) (a := a) (by rw [eT]; exact qa) qb (argsL := argsL) (rest := rest) hlen rfl (by show 2 * 0 + _ ≤ _; omega) hd (fun _ _ => ⟨rfl, eT, hc, hs⟩)
    dsimp only [Pt.U, Pt.locs, Pt.cells, Pt.slots] at X' l' y' z' st hq hS2 hgr hR
    subst l' y' z'
    obtain ⟨Y1, Y2, Y3, Y4⟩ := rebS hS (n1 := T.heap.size) (by rw [eT]; exact hk) X' hS2 hgr hZ hown
    exact (q v T'.vm T' T'.heap ⟨_, _, Y1, rfl, Y3, Y4, Y2, Nat.le_refl _, hC.trans hR, hF.app r1, r2, fun z => absurd z hmd, fun z => ⟨(h2 z).1.alikeC hS2.1.alike, (h2 z).2.alikeC hS2.1.alike⟩, a1, hE⟩ hq hR).to st
theorem St.callFN (S : St md p l e R s m args below meth c own Z EL vm T h cells slots) (hx : p.tables.exec = Jvm.exec) {index : Nat} {a : Addr} {C : String} {x : MethodName} {count : Nat} (w1 : (Cond.methodLink own index x).before a0 Z = true) (w2 : (Cond.declares x).before a0 Z = true) (w3 : (Cond.interfaceMethod x.cls x.cls x.name x.desc).before a0 Z = true) (w5 : (Cond.selects C x y).before a0 Z = true) (w6 : (Cond.instanceMethod y).before a0 Z = true) (w7 : (Cond.publicMethod y).before a0 Z = true) (w8 : (Cond.unhidden C x.name x.desc).before a0 Z = true) (w9 : (Cond.castable C x.cls).before a0 Z = true) (hy : x.cls ≠ "java/lang/invoke/MethodHandle" ∧ x.cls ≠ "java/lang/invoke/VarHandle") (E : Exa Z h a C) {k n : Nat} {QN : Option Value → Heap → List Loc → Prop} (hK : Back l R p e below (s.setVm vm) args y 5 W (PreN R as' h k n) (PostN QN k n)) (hQ : ∀ v h' Lc, QN v h' Lc → Fr Z.heap.size Lc ∧ Old Z Z.heap.size h' ∧ CHr Z EL vm h vm h') (hml : L.size = c.maxLocals) (argsL rest : List Value) (hlen : ∀ sig, parseMethodDescriptor x.desc = some sig → argsL.length = sig.parameters.length) (hst : K = argsL.reverse ++ .ref a :: rest) (has : (.ref a :: argsL).toArray = as') (hW : (rest.map fun v => v.category).sum ≤ W) (hd : decode c.code pc = .ok (.invokeinterface index count, 5)) (hc : cells + k ≤ R.cells) (hs : slots + n ≤ R.slots) (p' : Nat) (hp : p' = pc + 5)
    (q : ∀ v T' h' Lc, St md p l e R s m args below meth c own Z EL vm T' h' (cells + k) (slots + n) → QN v h' Lc → CHr Z EL vm h vm h' → Goes p.tables e below P T' (mkF m p' L (v.toList ++ rest))) : Goes p.tables e below P T (mkF m pc L K) := by
  subst hp hst has
  obtain ⟨locs, k0, X, eT, hZ, hown, hS, hk, hC, hF, hO, h0, h2, hE⟩ := S
  obtain ⟨cq, kq, qa, qb, qc⟩ := isOf (s := s.setVm vm) hZ eT E
  obtain ⟨v, vm1, ⟨T', L', k', n'⟩, -, X', ⟨Lc, hq, l', y', z'⟩, st⟩ := X.interfaceBack hx hown (mvT (s := s.setVm vm) hZ w1) (mvT (s := s.setVm vm) hZ w2) (mvT (s := s.setVm vm) hZ w3 (by simp [Cond.onTables, Cond.keepsFace, Cond.keeps, Cond.steady, Cond.faceAtom]; exact hy)) (mvT (s := s.setVm vm) hZ w5) (mvT (s := s.setVm vm) hZ w6) (mvT (s := s.setVm vm) hZ w7) (mvT (s := s.setVm vm) hZ w8) (mvT (s := s.setVm vm) hZ w9) hy hK qa qb qc (g := mkF m pc L (argsL.reverse ++ .ref a :: rest)) rfl hml (Steps.refl _) (argsL := argsL) (rest := rest) hlen rfl (by show 2 * 0 + _ ≤ _; omega) hd (fun _ _ => ⟨rfl, eT, hc, hs⟩)
  dsimp only [Pt.U, Pt.locs, Pt.cells, Pt.slots] at X' l' y' z' st hq
  subst l' y' z'
  obtain ⟨r1, r2, r3⟩ := hQ v _ Lc hq
  exact (q v T' T'.heap Lc ⟨_, k0, X', rfl, hZ, hown, hS, Nat.le_trans hk r3.2.1, hC.trans r3, hF.app r1, r2, h0, h2, hE⟩ hq r3).to st
theorem St.callF {sf : List Addr} (S : St md p l e R s m args below meth c own Z EL vm T h cells slots) (hx : p.tables.exec = Jvm.exec) {index : Nat} {a : Addr} {C : String} {x : MethodName} {count : Nat} (w1 : (Cond.methodLink own index x).before a0 Z = true) (w2 : (Cond.declares x).before a0 Z = true) (w3 : (Cond.interfaceMethod x.cls x.cls x.name x.desc).before a0 Z = true) (w5 : (Cond.selects C x y).before a0 Z = true) (w6 : (Cond.instanceMethod y).before a0 Z = true) (w7 : (Cond.publicMethod y).before a0 Z = true) (w8 : (Cond.unhidden C x.name x.desc).before a0 Z = true) (w9 : (Cond.castable C x.cls).before a0 Z = true) (hy : x.cls ≠ "java/lang/invoke/MethodHandle" ∧ x.cls ≠ "java/lang/invoke/VarHandle") (E : Exa Z h a C) (wc : (Cond.code y bytes maxL ret).before a0 Z = true) (wz : (Cond.initialized y.cls).before a0 Z = true) (hM : Ct md l Z EL sf y bytes maxL ret rm as' h Q) (hsf : ∀ x ∈ sf, x < h.size ∧ Safe Z EL vm h x) (hf : rm.frames + 1 ≤ R.frames) (hl : W + (maxL + 11) + rm.locals ≤ R.locals) (hml : L.size = c.maxLocals) (argsL rest : List Value) (hlen : ∀ sig, parseMethodDescriptor x.desc = some sig → argsL.length = sig.parameters.length) (hst : K = argsL.reverse ++ .ref a :: rest) (has : (.ref a :: argsL).toArray = as') (hW : (rest.map fun v => v.category).sum ≤ W) (hd : decode c.code pc = .ok (.invokeinterface index count, 5)) (hc : cells + rm.cells ≤ R.cells) (hs : slots + rm.slots ≤ R.slots) (p' : Nat) (hp : p' = pc + 5)
    (q : ∀ v vm' T' h', St md p l e R s m args below meth c own Z EL vm' T' h' (cells + rm.cells) (slots + rm.slots) → Q v h' → CHr Z EL vm h vm' h' → Goes p.tables e below P T' (mkF m p' L (v.toList ++ rest))) : Goes p.tables e below P T (mkF m pc L K) := by
  by_cases hmd : md = 0
  · subst hmd
    have hEL : EL = [] := by obtain ⟨_, _, -, -, -, -, -, -, -, -, -, h0, -⟩ := S; exact (h0 rfl).2
    subst hEL
    have hZ := S.warm
    exact St.callFN S hx w1 w2 w3 w5 w6 w7 w8 w9 hy E (ctBack (s := s.setVm vm) hM hZ wc wz hf hl) (fun v h' Lc r => ⟨r.2.1, r.2.2.1, chr_nil r.2.2.2⟩) hml argsL rest hlen hst has hW hd hc hs p' hp (fun v T' h' Lc S' r R' => q v vm T' h' S' r.1 R')
  · subst hp hst has
    obtain ⟨locs, k0, X, eT, hZ, hown, hS, hk, hC, hF, hO, h0, h2, a1, hE⟩ := S
    obtain ⟨cq, kq, qa, qb, qc⟩ := isOf (s := s.setVm vm) hZ eT E
    have hK := ctBackS (s := s) (R := R) (p := p) (e := e) (below := below) (args := args) (W := W) (len := 5) hmd hM hZ wc wz hf hl hE.1 hC.1 h2 hsf
    obtain ⟨v, vm1, ⟨T', L', k', n'⟩, -, X', hS2, hgr, ⟨Lc, ⟨hq, r1, r2⟩, l', y', z', hR⟩, st⟩ := X.interfaceBackS hx hown (mvT (s := s.setVm vm) hZ w1) (mvT (s := s.setVm vm) hZ w2) (mvT (s := s.setVm vm) hZ w3 (by simp [Cond.onTables, Cond.keepsFace, Cond.keeps, Cond.steady, Cond.faceAtom]; exact hy)) (mvT (s := s.setVm vm) hZ w5) (mvT (s := s.setVm vm) hZ w6) (mvT (s := s.setVm vm) hZ w7) (mvT (s := s.setVm vm) hZ w8) (mvT (s := s.setVm vm) hZ w9) hy hK qa qb qc (g := mkF m pc L (argsL.reverse ++ .ref a :: rest)) rfl hml (Steps.refl _) (argsL := argsL) (rest := rest) hlen rfl (by show 2 * 0 + _ ≤ _; omega) hd (fun _ _ => ⟨rfl, eT, hc, hs⟩)
    dsimp only [Pt.U, Pt.locs, Pt.cells, Pt.slots] at X' l' y' z' st hq hS2 hgr hR
    subst l' y' z'
    obtain ⟨Y1, Y2, Y3, Y4⟩ := rebS hS (n1 := T.heap.size) (by rw [eT]; exact hk) X' hS2 hgr hZ hown
    exact (q v T'.vm T' T'.heap ⟨_, _, Y1, rfl, Y3, Y4, Y2, Nat.le_refl _, hC.trans hR, hF.app r1, r2, fun z => absurd z hmd, fun z => ⟨(h2 z).1.alikeC hS2.1.alike, (h2 z).2.alikeC hS2.1.alike⟩, a1, hE⟩ hq hR).to st
/-- a String constant, whatever it says -/
theorem St.ldcO (S : St md p l e R s m args below meth c own Z EL vm T h cells slots) (hx : p.tables.exec = Jvm.exec) (hmd : md ≠ 0) {index : Nat} {text : String} (w : (Cond.stringLink own index text).before a0 Z = true) (wS : ∀ a ∈ Bundle.stringAtoms, a.before a0 Z = true) (hd : decode c.code pc = .ok (.ldc index, 2)) {n : Nat} (hn : 4 * text.toList.length ≤ n) (hbig : n ≤ 536870912) (hc : cells + 2 ≤ R.cells) (hl : slots + (n + 4) ≤ R.slots) (p' : Nat) (hp : p' = pc + 2)
    (q : ∀ vm' T' h' a, St md p l e R s m args below meth c own Z EL vm' T' h' (cells + 2) (slots + (n + 4)) → Ext h h' → CHr Z EL vm h vm' h' → Goes p.tables e below P T' (mkF m p' L (.ref a :: K))) : Goes p.tables e below P T (mkF m pc L K) := by
  subst hp
  obtain ⟨locs, k0, X, eT, hZ, hown, hS, hk, hC, hF, hO, h0, h2, a1, hE⟩ := S
  obtain ⟨a, T', h', k1, X', e', E', hS', hk', hZ', hown', hR, -, st⟩ := ldcOH X hx hZ hown w wS eT hS hk hE.1 hC.1 (g := mkF m pc L K) rfl hd hn hbig hc hl
  have hal : vm.Alike T'.vm := hZ.alike.symm.trans hZ'.alike
  exact (q T'.vm T' h' a ⟨locs, k1, X', e', hZ', hown', hS', hk', hC.trans hR, hF, hO.ext E', fun z => absurd z hmd, fun z => ⟨(h2 z).1.alikeC hal, (h2 z).2.alikeC hal⟩, a1, hE⟩ E' hR).via st
/-- a String constant of the list, read -/
theorem St.ldcC (S : St md p l e R s m args below meth c own Z EL vm T h cells slots) (hx : p.tables.exec = Jvm.exec) (hmd : md ≠ 0) {index : Nat} {text : String} (w : (Cond.stringLink own index text).before a0 Z = true) (wS : ∀ a ∈ Bundle.stringAtoms, a.before a0 Z = true) (hmem : (own, index) ∈ EL) {vs : List Value} {z : Int32} (ht : (∀ c ∈ text.toList, c.toNat < 256) ∧ text.toList.map (fun c => Value.int (Jvm.Lit.byteI c.toNat.toUInt16)) = vs) (hz : ¬ z < 0) (hzl : z.toNatClampNeg = vs.length)
    (hd : decode c.code pc = .ok (.ldc index, 2)) {n : Nat} (hn : 4 * text.toList.length ≤ n) (hbig : n ≤ 536870912) (hc : cells + 2 ≤ R.cells) (hl : slots + (n + 4) ≤ R.slots) (p' : Nat) (hp : p' = pc + 2)
    (q : ∀ vm' T' h' a b k, St md p l e R s m args below meth c own Z EL vm' T' h' (cells + 2) (slots + (n + 4)) → Ext h h' → CHr Z EL vm h vm' h' → Exa Z h' a "java/lang/String" → Fld Z h' a "java/lang/String" "coder" "B" (.int 0) → Fld Z h' a "java/lang/String" "value" "[B" (.ref b) → Arv Z h' b k .byte z vs (.int 0) → (∀ x, Safe Z EL vm' h' x → x ≠ a ∧ x ≠ b) → Goes p.tables e below P T' (mkF m p' L (.ref a :: K))) : Goes p.tables e below P T (mkF m pc L K) := by
  subst hp
  obtain ⟨locs, k0, X, eT, hZ, hown, hS, hk, hC, hF, hO, h0, h2, a1, hE⟩ := S
  obtain ⟨a, T', h', k1, b, k, X', e', E', hS', hk', hZ', hown', q1, q2, q3, q4, -, -, hR, -, hne, st⟩ := ldcCH X hx hZ hown w wS eT hS hk hE.1 hmem hC.1 ht hz hzl (g := mkF m pc L K) rfl hd hn hbig hc hl
  have hal : vm.Alike T'.vm := hZ.alike.symm.trans hZ'.alike
  exact (q T'.vm T' h' a b k ⟨locs, k1, X', e', hZ', hown', hS', hk', hC.trans hR, hF, hO.ext E', fun z => absurd z hmd, fun z => ⟨(h2 z).1.alikeC hal, (h2 z).2.alikeC hal⟩, a1, hE⟩ E' hR q1 q2 q3 q4 hne).via st
/-- the end of a body -/
theorem St.leave' (S : St md p l e R s m args below meth c own Z EL vm T h cells slots) (hlk : meth.locks = false) {v : Option Value} (hv : meth.sig.returnType = none → v = none) (hq : Q v h) (hc : cells ≤ R.cells) (hs : slots ≤ R.slots) {F : JFrame}
    (step : ∀ (locs : List Loc) (fs : List Frame), Stand p l e R (s.setVm vm) m args below meth c T locs cells slots → (∀ (f : JFrame) (acts : List Action), f.method = m → f.locked = none → f.entered = [] → (doReturn e (T.setTop f) acts v).1 = T.setFrames fs) → Steps p.tables e below (T.setTop F) (T.setFrames fs)) :
    Goes p.tables e below (Pof md Z EL s R Q) T F := by
  obtain ⟨locs, k0, X, eT, hZ, hown, hS, hk, hC, hF, hO, h0, h2, a1, hE⟩ := S
  have hR := CHv.at X hZ hE.1 hC.1
  by_cases hmd : md = 0
  · obtain ⟨rfl, rfl⟩ := h0 hmd
    obtain ⟨fs, hr, hrun, hended, hW, hsame⟩ := X.leave hv
    exact ⟨_, _, step locs fs X hr, hrun, hended, v, locs, rfl, ⟨by show Q v T.heap; rw [eT]; exact hq, hF, by show Old Z _ T.heap; rw [eT]; exact hO⟩, by show CHr Z _ _ _ T.vm T.heap; rw [eT]; exact hC.trans hR, fun _ => ⟨⟨_, rfl⟩, hW, hsame.mono hc hs⟩, fun q => absurd hmd q⟩
  · obtain ⟨fs, hr, hrun, hended, r1, r2, r3, r4⟩ := leaveW X hS (by rw [eT]; exact hk) hv hlk
    exact ⟨_, _, step locs fs X hr, hrun, hended, v, locs, rfl, ⟨by show Q v T.heap; rw [eT]; exact hq, hF, by show Old Z _ T.heap; rw [eT]; exact hO⟩, by show CHr Z _ _ _ T.vm T.heap; rw [eT]; exact hC.trans hR, fun q => absurd q hmd, fun _ => ⟨r1, r2, r3, r4.mono hc hs⟩⟩
theorem St.iret (S : St md p l e R s m args below meth c own Z EL vm T h cells slots) (hx : p.tables.exec = Jvm.exec) (hlk : meth.locks = false) {t : FieldType} {z : Int32} (hret : meth.sig.returnType = some t) (ht : t = .int ∨ t = .boolean ∨ t = .byte ∨ t = .char ∨ t = .short) (hn : narrow t (.int z) = .int z) (hd : decode c.code pc = .ok (.ireturn, 1)) (hq : Q (some (.int z)) h) (hc : cells ≤ R.cells) (hs : slots ≤ R.slots) : Goes p.tables e below (Pof md Z EL s R Q) T (mkF m pc L (.int z :: K)) :=
  S.leave' hlk (fun q => by rw [hret] at q; cases q) hq hc hs fun locs fs X hr => retOut X hx hret hn (Or.inl ⟨rfl, ht, z, rfl⟩) hd hr
theorem St.lret (S : St md p l e R s m args below meth c own Z EL vm T h cells slots) (hx : p.tables.exec = Jvm.exec) (hlk : meth.locks = false) {z : Int64} (hret : meth.sig.returnType = some .long) (hd : decode c.code pc = .ok (.lreturn, 1)) (hq : Q (some (.long z)) h) (hc : cells ≤ R.cells) (hs : slots ≤ R.slots) : Goes p.tables e below (Pof md Z EL s R Q) T (mkF m pc L (.long z :: K)) :=
  S.leave' hlk (fun q => by rw [hret] at q; cases q) hq hc hs fun locs fs X hr => retOut X hx hret rfl (Or.inr (Or.inl ⟨rfl, rfl, z, rfl⟩)) hd hr
theorem St.aret (S : St md p l e R s m args below meth c own Z EL vm T h cells slots) (hx : p.tables.exec = Jvm.exec) (hlk : meth.locks = false) {t : FieldType} {v : Value} (hret : meth.sig.returnType = some t) (ht : t.isReference = true) (hv : v.isRef = true) (hn : narrow t v = v) (hd : decode c.code pc = .ok (.areturn, 1)) (hq : Q (some v) h) (hc : cells ≤ R.cells) (hs : slots ≤ R.slots) : Goes p.tables e below (Pof md Z EL s R Q) T (mkF m pc L (v :: K)) :=
  S.leave' hlk (fun q => by rw [hret] at q; cases q) hq hc hs fun locs fs X hr => retOut X hx hret hn (Or.inr (Or.inr (Or.inr (Or.inr ⟨rfl, ht, hv⟩)))) hd hr
theorem St.vret (S : St md p l e R s m args below meth c own Z EL vm T h cells slots) (hx : p.tables.exec = Jvm.exec) (hlk : meth.locks = false) (hret : meth.sig.returnType = none) (hd : decode c.code pc = .ok (.return_, 1)) (hq : Q none h) (hc : cells ≤ R.cells) (hs : slots ≤ R.slots) : Goes p.tables e below (Pof md Z EL s R Q) T (mkF m pc L []) :=
  S.leave' hlk (fun _ => rfl) hq hc hs fun locs fs X hr => X.returnOut hx hret hd hr
end C

/-! part E: more steps -/
section E
variable {md : Nat} {p : Program} {l : Launch} {e : Env} {R : Room} {s : State} {m : MethodId} {args : Array Value} {below : List Frame} {meth : Method} {c : Code} {own : String} {Z : State} {EL : List (String × Nat)} {vm : Vm} {T : State} {h : Heap} {cells slots : Nat} {P : Outcome → State → Prop} {pc : Nat} {L : Array Slot} {K : List Value} {a0 : Array Value}
theorem St.initO (S : St md p l e R s m args below meth c own Z EL vm T h cells slots) (hx : p.tables.exec = Jvm.exec) {index : Nat} (w1 : (Cond.methodLink own index Lib.objectInit).before a0 Z = true) (w2 : (Cond.instanceMethod Lib.objectInit).before a0 Z = true) (w3 : (Cond.code Lib.objectInit ⟨#[0xb1]⟩ 1 none).before a0 Z = true) (hml : L.size = c.maxLocals) {a : Addr} {W : Nat} (hf : 1 ≤ R.frames) (hW : (K.map fun v => v.category).sum ≤ W) (hl : W + 12 ≤ R.locals) (hd : decode c.code pc = .ok (.invokespecial index, 3)) (p' : Nat) (hp : p' = pc + 3)
    (q : ∀ T', St md p l e R s m args below meth c own Z EL vm T' h cells slots → Goes p.tables e below P T' (mkF m p' L K)) : Goes p.tables e below P T (mkF m pc L (.ref a :: K)) := by
  subst hp
  obtain ⟨locs, k, X, eT, hZ, hown, r⟩ := S
  obtain ⟨T', X', e', st⟩ := RoadKit.initO X hx hZ hown w1 w2 w3 eT (g := mkF m pc L (.ref a :: K)) rfl hml rfl hd hf (W := W) (by show 2 * 0 + _ ≤ _; omega) hl
  exact (q T' ⟨locs, k, X', e', hZ, hown, r⟩).via st
theorem St.instNull (S : St md p l e R s m args below meth c own Z EL vm T h cells slots) (hx : p.tables.exec = Jvm.exec) {index : Nat} (hd : decode c.code pc = .ok (.instanceof index, 3)) (p' : Nat) (hp : p' = pc + 3)
    (q : Goes p.tables e below P T (mkF m p' L (.int 0 :: K))) : Goes p.tables e below P T (mkF m pc L (.null :: K)) := by
  subst hp
  obtain ⟨locs, k, X, eT, hZ, hown, r⟩ := S
  exact q.via fun t k => X.instanceofNull hx (g := mkF m pc L (.null :: K)) rfl rfl hd t k
theorem St.acmp (S : St md p l e R s m args below meth c own Z EL vm T h cells slots) (hx : p.tables.exec = Jvm.exec) {cd : ACond} {x y : Value} {o : Int} (hd : decode c.code pc = .ok (.if_acmp cd o, 3)) (h1 : x.isRef = true) (h2 : y.isRef = true) (same : Bool) (hq : decide (x = y) = same) (ho : 0 ≤ (pc : Int) + o) (p' : Nat) (hp : p' = if acV cd same = true then ((pc : Int) + o).toNat else pc + 3)
    (q : Goes p.tables e below P T (mkF m p' L K)) : Goes p.tables e below P T (mkF m pc L (y :: x :: K)) := by
  obtain ⟨locs, k, X, eT, hZ, hown, r⟩ := S
  exact q.via fun t k => RoadKit.acmp X hx (g := mkF m pc L (y :: x :: K)) rfl h1 h2 rfl hd rfl hq ho hp k
theorem Arv.at' {a : Addr} {k : ClassId} {ty : FieldType} {z j : Int32} {vs : List Value} {dv v : Value} (A : Arv Z h a k ty z vs dv) (hj : ¬ j < 0 ∧ j < z) (hv : vs.getD j.toNatClampNeg dv = v) : ∃ cl : Cell, Arr Z h a cl ty ∧ ¬ (j < 0 ∨ cl.slots.size ≤ j.toNatClampNeg) ∧ cl.slots[j.toNatClampNeg]? = some v := by
  obtain ⟨cl, A1, A2, A3, A4, A5, A6⟩ := A
  exact ⟨cl, A1, inb_of A3 hj, A5.at (inb_of A3 hj) hv⟩
theorem St.aald (S : St md p l e R s m args below meth c own Z EL vm T h cells slots) (hx : p.tables.exec = Jvm.exec) {a : Addr} {k : ClassId} {ty : FieldType} {z j : Int32} {vs : List Value} {dv v : Value} (A : Arv Z h a k ty z vs dv) (hty : ty.isReference = true) (hj : ¬ j < 0 ∧ j < z) (hv : vs.getD j.toNatClampNeg dv = v) (hd : decode c.code pc = .ok (.aaload, 1)) (p' : Nat) (hp : p' = pc + 1)
    (q : Goes p.tables e below P T (mkF m p' L (v :: K))) : Goes p.tables e below P T (mkF m pc L (.int j :: .ref a :: K)) := by
  subst hp
  obtain ⟨locs, kk, X, eT, hZ, hown, r⟩ := S
  obtain ⟨cl, A1, A2, A3⟩ := Arv.at' A hj hv
  exact q.via fun t k => X.aaload hx (j := j) (v := v) (by rw [eT]; exact A1.1) (State.isArrayOf_alike (T := s.setVm vm) hZ.alike A1.2.1) hty A1.2.2 A2 A3 (g := mkF m pc L (.int j :: .ref a :: K)) rfl rfl hd t k
theorem St.cald (S : St md p l e R s m args below meth c own Z EL vm T h cells slots) (hx : p.tables.exec = Jvm.exec) {a : Addr} {k : ClassId} {z j : Int32} {vs : List Value} {dv v : Value} (A : Arv Z h a k .char z vs dv) (hj : ¬ j < 0 ∧ j < z) (hv : vs.getD j.toNatClampNeg dv = v) (hd : decode c.code pc = .ok (.caload, 1)) (p' : Nat) (hp : p' = pc + 1)
    (q : Goes p.tables e below P T (mkF m p' L (v :: K))) : Goes p.tables e below P T (mkF m pc L (.int j :: .ref a :: K)) := by
  subst hp
  obtain ⟨locs, kk, X, eT, hZ, hown, r⟩ := S
  obtain ⟨cl, A1, A2, A3⟩ := Arv.at' A hj hv
  exact q.via fun t k => X.caload hx (j := j) (v := v) (by rw [eT]; exact A1.1) (State.isArrayOf_alike (T := s.setVm vm) hZ.alike A1.2.1) A1.2.2 A2 A3 (g := mkF m pc L (.int j :: .ref a :: K)) rfl rfl hd t k
theorem St.bald (S : St md p l e R s m args below meth c own Z EL vm T h cells slots) (hx : p.tables.exec = Jvm.exec) {a : Addr} {k : ClassId} {z j : Int32} {vs : List Value} {dv v : Value} (A : Arv Z h a k .byte z vs dv) (hj : ¬ j < 0 ∧ j < z) (hv : vs.getD j.toNatClampNeg dv = v) (hd : decode c.code pc = .ok (.baload, 1)) (p' : Nat) (hp : p' = pc + 1)
    (q : Goes p.tables e below P T (mkF m p' L (v :: K))) : Goes p.tables e below P T (mkF m pc L (.int j :: .ref a :: K)) := by
  subst hp
  obtain ⟨locs, kk, X, eT, hZ, hown, r⟩ := S
  obtain ⟨cl, A1, A2, A3⟩ := Arv.at' A hj hv
  exact q.via fun t k => X.baloadBytes hx (j := j) (v := v) (by rw [eT]; exact A1.1) (State.isArrayOf_alike (T := s.setVm vm) hZ.alike A1.2.1) A1.2.2 A2 A3 (g := mkF m pc L (.int j :: .ref a :: K)) rfl rfl hd t k
theorem St.clone (S : St md p l e R s m args below meth c own Z EL vm T h cells slots) (hx : p.tables.exec = Jvm.exec) {ad : String} {index : Nat} (w1 : (Cond.methodLink own index ⟨ad, "clone", "()Ljava/lang/Object;"⟩).before a0 Z = true) (w2 : (Cond.sameMethod ad "java/lang/Object" "clone" "()Ljava/lang/Object;").before a0 Z = true) (w3 : (Cond.native ⟨"java/lang/Object", "clone", "()Ljava/lang/Object;"⟩).before a0 Z = true)
    (w4 : (Cond.instanceMethod ⟨"java/lang/Object", "clone", "()Ljava/lang/Object;"⟩).before a0 Z = true) (w5 : (Cond.selects ad ⟨ad, "clone", "()Ljava/lang/Object;"⟩ ⟨"java/lang/Object", "clone", "()Ljava/lang/Object;"⟩).before a0 Z = true) (w6 : (Cond.castable ad "java/lang/Cloneable").before a0 Z = true)
    {a : Addr} {k : ClassId} {ty : FieldType} {z : Int32} {vs : List Value} {dv : Value} (F : Arv Z h a k ty z vs dv) (E : Exa Z h a ad) (hml : L.size = c.maxLocals) {W cap : Nat} (hf : 1 ≤ R.frames) (hW : (K.map fun v => v.category).sum ≤ W) (hl : W + 14 ≤ R.locals) (hcap : z.toNatClampNeg ≤ cap) (hc : cells + 1 ≤ R.cells) (hsl : slots + cap ≤ R.slots) (hd : decode c.code pc = .ok (.invokevirtual index, 3)) (p' : Nat) (hp : p' = pc + 3)
    (q : ∀ T' h' b, St md p l e R s m args below meth c own Z EL vm T' h' (cells + 1) (slots + cap) → b = h.size → Ext h h' → Arv Z h' b k ty z vs dv → Exa Z h' b ad → Goes p.tables e below P T' (mkF m p' L (.ref b :: K))) : Goes p.tables e below P T (mkF m pc L (.ref a :: K)) := by
  subst hp
  obtain ⟨locs, k0, X, eT, hZ, hown, hS, hk, hC, hF, hO, h0, h2, hE⟩ := S
  obtain ⟨T', h', X', e', E', A', B', st⟩ := cloneH X hx hZ hown w1 w2 w3 w4 w5 w6 eT F.arh E (g := mkF m pc L (.ref a :: K)) rfl hml rfl hd hf (W := W) (by show 2 * 0 + _ ≤ _; omega) hl hcap hc hsl
  exact (q T' h' h.size ⟨locs, k0, X', e', hZ, hown, hS, Nat.le_trans hk E'.1, hC.trans (CHr.ext E' hC.1), hF, hO.ext E', h0, h2, hE⟩ rfl E' A' B').via st
/-- anewarray of a class -/
theorem St.newR (S : St md p l e R s m args below meth c own Z EL vm T h cells slots) (hx : p.tables.exec = Jvm.exec) {C : String} {index : Nat} (w1 : (Cond.classLink own index C).before a0 Z = true) (w2 : (Cond.arrayOver (.object C)).before a0 Z = true) {n : Int32} (hn : ¬ n < 0) {cap : Nat} (hcap : n.toNatClampNeg ≤ cap) (hb : cap * 8 ≤ 536870912) (hd : decode c.code pc = .ok (.anewarray index, 3)) (hc : cells + 1 ≤ R.cells) (hl : slots + cap ≤ R.slots) (p' : Nat) (hp : p' = pc + 3)
    (q : ∀ T' h' a k, St md p l e R s m args below meth c own Z EL vm T' h' (cells + 1) (slots + cap) → a = h.size → Ext h h' → Arv Z h' a k (.object C) n (List.replicate cap .null) .null → Ovr Z k C → CHr Z EL vm h vm h' → Goes p.tables e below P T' (mkF m p' L (.ref a :: K))) : Goes p.tables e below P T (mkF m pc L (.int n :: K)) := by
  subst hp
  obtain ⟨locs, k, X, eT, hZ, hown, hS, hk, hC, hF, hO, h0, h2, hE⟩ := S
  obtain ⟨T', h', cA, X', e', E', A', O', st⟩ := RoadKit.newR X hx hZ hown w1 w2 eT (g := mkF m pc L (.int n :: K)) rfl hd rfl hn hcap hb hc hl
  exact (q T' h' h.size cA ⟨locs, k, X', e', hZ, hown, hS, Nat.le_trans hk E'.1, hC.trans (CHr.ext E' hC.1), hF, hO.ext E', h0, h2, hE⟩ rfl E' ((Arv.new A' hn).pad (pad_rep [] _ cap)) O' (CHr.ext E' hC.1)).via st
/-- aastore -/
theorem St.stR (S : St md p l e R s m args below meth c own Z EL vm T h cells slots) (hx : p.tables.exec = Jvm.exec) {a : Addr} {k : ClassId} {ty : FieldType} {z j : Int32} {vs : List Value} {dv v : Value} (A : Arv Z h a k ty z vs dv) (hty : ty.isReference = true) (hf : fits ty v = true) (i : Nat) (hj : ¬ j < 0 ∧ j < z) (hi : j.toNatClampNeg = i) (hv : i < vs.length) (ga : Z.heap.size ≤ a) (F : Sto Z h a v) (sf : Safe Z EL vm h a) (hd : decode c.code pc = .ok (.aastore, 1)) (p' : Nat) (hp : p' = pc + 1)
    (q : ∀ T' h', St md p l e R s m args below meth c own Z EL vm T' h' cells slots → Wr h h' a i v → Arv Z h' a k ty z (vs.set i v) dv → CHr Z EL vm h vm h' → Goes p.tables e below P T' (mkF m p' L K)) : Goes p.tables e below P T (mkF m pc L (v :: .int j :: .ref a :: K)) := by
  subst hp
  obtain ⟨locs, kk, X, eT, hZ, hown, hS, hk, hC, hF, hO, h0, h2, hE⟩ := S
  obtain ⟨cl, A1, A2, A3, A4, A5, A6⟩ := A
  obtain ⟨T', h', X', e', W', st⟩ := RoadKit.stR X hx hZ eT A1 (j := j) (inb_of A3 hj) hty F (g := mkF m pc L (v :: .int j :: .ref a :: K)) rfl rfl hd
  have hR := CHr.wr W' sf hC.1
  exact (q T' h' ⟨_, kk, X', e', hZ, hown, hS, Nat.le_trans hk hR.2.1, hC.trans hR, Fr.snoc X' hF ga, hO.wr W' ga, h0, h2, hE⟩ (by rw [← hi]; exact W') (Arv.set A1 A2 A3 A4 A5 A6 hf W' i hi hv) hR).via st
/-- bastore into a byte[] -/
theorem St.stB (S : St md p l e R s m args below meth c own Z EL vm T h cells slots) (hx : p.tables.exec = Jvm.exec) {a : Addr} {k : ClassId} {z j x : Int32} {vs : List Value} {dv : Value} (A : Arv Z h a k .byte z vs dv) (i : Nat) (hj : ¬ j < 0 ∧ j < z) (hi : j.toNatClampNeg = i) (hv : i < vs.length) (ga : Z.heap.size ≤ a) (sf : Safe Z EL vm h a) (hd : decode c.code pc = .ok (.bastore, 1)) (p' : Nat) (hp : p' = pc + 1)
    (q : ∀ T' h', St md p l e R s m args below meth c own Z EL vm T' h' cells slots → Wr h h' a i (.int x.toInt8.toInt32) → Arv Z h' a k .byte z (vs.set i (.int x.toInt8.toInt32)) dv → CHr Z EL vm h vm h' → Goes p.tables e below P T' (mkF m p' L K)) : Goes p.tables e below P T (mkF m pc L (.int x :: .int j :: .ref a :: K)) := by
  subst hp
  obtain ⟨locs, kk, X, eT, hZ, hown, hS, hk, hC, hF, hO, h0, h2, hE⟩ := S
  obtain ⟨cl, A1, A2, A3, A4, A5, A6⟩ := A
  obtain ⟨T', h', X', e', W', st⟩ := RoadKit.stB X hx hZ eT A1 (j := j) (inb_of A3 hj) (g := mkF m pc L (.int x :: .int j :: .ref a :: K)) rfl rfl hd
  have hR := CHr.wr W' sf hC.1
  exact (q T' h' ⟨_, kk, X', e', hZ, hown, hS, Nat.le_trans hk hR.2.1, hC.trans hR, Fr.snoc X' hF ga, hO.wr W' ga, h0, h2, hE⟩ (by rw [← hi]; exact W') (Arv.set A1 A2 A3 A4 A5 A6 (fits_nar_byte x) W' i hi hv) hR).via st
/-- super(message) of a Throwable's subclass, the stack trace filled in -/
theorem St.exc1 (S : St 2 p l e R s m args below meth c own Z EL vm T h cells slots) (hx : p.tables.exec = Jvm.exec) (hl : l.stackTraces = true) {rc : String} {links : List Free.Exc.Link} {ic n : Nat} (hok : Free.Exc.linksOk 1 links = true) (w1 : (Cond.methodLink own ic (Free.Exc.ctor 1 (Free.Exc.headName links))).before a0 Z = true) (w2 : (Cond.instanceMethod (Free.Exc.ctor 1 (Free.Exc.headName links))).before a0 Z = true) (wT : (Free.Exc.chainTab 1 rc links).before a0 Z = true) (wi : (Cond.instantiable rc n).before a0 Z = true) (r : ∀ d ∈ twoRefs, d.before a0 Z = true)
    {a : Addr} (E : Exa Z h a rc) (N : Unt h a) (B : Fld Z h a "java/lang/Throwable" "backtrace" "Ljava/lang/Object;" .null) (B2 : Fld Z h a "java/lang/Throwable" "detailMessage" "Ljava/lang/String;" .null) {msg : Value} (hmsg : msg.isRef = true) (sf : Safe Z EL vm h a) (ga : Z.heap.size ≤ a) (hml : L.size = c.maxLocals) (hd : decode c.code pc = .ok (.invokespecial ic, 3))
    (hf : 4 + links.length ≤ R.frames) (hlo : (K.map fun v => v.category).sum + (56 + 14 * links.length) ≤ R.locals) (hc : cells + 1 ≤ R.cells) (hsl : slots + 2752 ≤ R.slots) (p' : Nat) (hp : p' = pc + 3)
    (q : ∀ T' h', St 2 p l e R s m args below meth c own Z EL vm T' h' (cells + 1) (slots + 2752) → Kp Z h h' a → Exa Z h' a rc → Fld Z h' a "java/lang/Throwable" "detailMessage" "Ljava/lang/String;" msg → CHr Z EL vm h vm h' → Goes p.tables e below P T' (mkF m p' L K)) : Goes p.tables e below P T (mkF m pc L (msg :: .ref a :: K)) := by
  subst hp
  obtain ⟨locs, k0, X, eT, hZ, hown, hS, hk, hC, hF, hO, h0, h2, a1, hE, hOs⟩ := S
  have hT0 : ThS Z (s.setVm vm).heap := ThS.start.ext hOs.2
  obtain ⟨T', h', X', e', K', E', -, M', -, -, st⟩ := excL1 X hx hl hZ hown hok w1 w2 wT wi r hT0 (ThS.start.ext hO.2) (h2 rfl).1 (h2 rfl).2 eT E N B B2 hmsg (g := mkF m pc L (msg :: .ref a :: K)) rfl hml rfl hd hf (by show 2 * 0 + _ + _ ≤ _; omega) hc hsl
  have hKe := keep_of_kp K'
  have hR : CHr Z EL vm h vm h' := CHr.keep hKe (fun x hx => by cases List.mem_singleton.mp hx; exact sf) hC.1
  exact (q T' h' ⟨_, k0, X', e', hZ, hown, hS, Nat.le_trans hk hR.2.1, hC.trans hR, Fr.six hF ga, hO.keep hKe (fun x hx => by cases List.mem_singleton.mp hx; exact ga), h0, h2, a1, hE, hOs⟩ K' E' M' hR).via st
theorem St.more (S : St md p l e R s m args below meth c own Z EL vm T h cells slots) {k n : Nat} (h1 : cells ≤ k) (h2 : slots ≤ n) : St md p l e R s m args below meth c own Z EL vm T h k n := by
  obtain ⟨locs, k0, X, r⟩ := S
  exact ⟨locs, k0, X.more h1 h2, r⟩
end E

end Jvm.Own

namespace Jvm.Own
open Sem ClassFile Op Lib Jvm.Stand Jvm.Free Jvm.LawKit Jvm.RoadKit
/-! part F: the super call, arraycopy -/
section F
variable {md : Nat} {p : Program} {l : Launch} {e : Env} {R : Room} {s : State} {m : MethodId} {args : Array Value} {below : List Frame} {meth : Method} {c : Code} {own : String} {Z : State} {EL : List (String × Nat)} {vm : Vm} {T : State} {h : Heap} {cells slots : Nat} {P : Outcome → State → Prop} {pc : Nat} {L : Array Slot} {K : List Value} {a0 : Array Value} {y : MethodName} {bytes : ByteArray} {maxL : Nat} {ret : Option FieldType} {rm : Room} {as' : Array Value} {Q : Option Value → Heap → Prop} {W len : Nat}
theorem own_nf {U : State} {x y' : MethodName} {aa : Array Value} (hc : x.cls = y'.cls) (w : (Cond.instanceMethod y').before aa U = true) (nf : NotFace U y') : NotFace U x := fun r0 h0 => by
  obtain ⟨r1, _, h1, -⟩ := Cond.instanceMethod_spec w
  obtain ⟨kr, q1, q2⟩ := nf r1 h1
  have e0 := findClass_of_methodNamed h0
  have e1 := findClass_of_methodNamed h1
  rw [hc] at e0
  have e2 : r0.cls = r1.cls := Option.some.inj (e0.symm.trans e1)
  exact ⟨kr, by rw [e2]; exact q1, q2⟩
theorem own_same {U : State} {x : MethodName} {aa : Array Value} (w : (Cond.instanceMethod x).before aa U = true) (nf : NotFace U x) (hx : x.cls ≠ "java/lang/invoke/MethodHandle" ∧ x.cls ≠ "java/lang/invoke/VarHandle") : (Cond.sameMethod x.cls x.cls x.name x.desc).before aa U = true := by
  obtain ⟨r1, _, h1, -⟩ := Cond.instanceMethod_spec w
  obtain ⟨kr, q1, q2⟩ := nf r1 h1
  have hf := State.methodFound?_of_named h1 hx
  have e1 := findClass_of_methodNamed h1
  have h1' : U.methodNamed? ⟨x.cls, x.name, x.desc⟩ = some r1 := h1
  simp [Cond.before, Cond.holds, Cond.value, e1, hf, h1', q1, q2]
theorem own_decl {U : State} {x : MethodName} {aa : Array Value} (wi : (Cond.instanceMethod x).before aa U = true) (wc : (Cond.code x bytes maxL ret).before aa U = true) : (Cond.declares x).before aa U = true := by
  obtain ⟨mk, methM, hn, hm, hst, -⟩ := Cond.instanceMethod_spec wi
  obtain ⟨m2, cM, q1, -, -, -, -, -, -, hsig⟩ := Cond.code_spec hn wc
  cases hm.symm.trans q1
  simp [Cond.before, Cond.holds, Cond.value, hn, hm, hst, hsig]
theorem St.callXN (S : St md p l e R s m args below meth c own Z EL vm T h cells slots) (hx : p.tables.exec = Jvm.exec) {index : Nat} {a : Addr} {C : String} (w1 : (Cond.methodLink own index y).before a0 Z = true) (w2 : (Cond.sameMethod y.cls y.cls y.name y.desc).before a0 Z = true) (w3 : (Cond.instanceMethod y).before a0 Z = true) (w4 : (Cond.superclass own y.cls).before a0 Z = true) (hn : y.name ≠ "<init>") (F : Ins Z h a C true) (wc : (Cond.code y bytes maxL ret).before a0 Z = true) {k n : Nat} {QN : Option Value → Heap → List Loc → Prop} (hK : Back l R p e below (s.setVm vm) args y 3 W (PreN R as' h k n) (PostN QN k n)) (hQ : ∀ v h' Lc, QN v h' Lc → Fr Z.heap.size Lc ∧ Old Z Z.heap.size h' ∧ CHr Z EL vm h vm h') (hml : L.size = c.maxLocals) (argsL rest : List Value) (hlen : ∀ sig, parseMethodDescriptor y.desc = some sig → argsL.length = sig.parameters.length) (hst : K = argsL.reverse ++ .ref a :: rest) (has : (.ref a :: argsL).toArray = as') (hW : (rest.map fun v => v.category).sum ≤ W) (hd : decode c.code pc = .ok (.invokespecial index, 3)) (hc : cells + k ≤ R.cells) (hs : slots + n ≤ R.slots) (p' : Nat) (hp : p' = pc + 3)
    (q : ∀ v T' h' Lc, St md p l e R s m args below meth c own Z EL vm T' h' (cells + k) (slots + n) → QN v h' Lc → CHr Z EL vm h vm h' → Goes p.tables e below P T' (mkF m p' L (v.toList ++ rest))) : Goes p.tables e below P T (mkF m pc L K) := by
  subst hp hst has
  obtain ⟨locs, k0, X, eT, hZ, hown, hS, hk, hC, hF, hO, h0, h2, hE⟩ := S
  obtain ⟨v, vm1, ⟨T', L', k', n'⟩, -, X', ⟨Lc, hq, l', y', z'⟩, st⟩ := superBack (K := C) X hx hZ hown w1 w2 w3 w4 hn hK eT F (g := mkF m pc L (argsL.reverse ++ .ref a :: rest)) rfl hml wc (argsL := argsL) (rest := rest) hlen rfl (by show 2 * 0 + _ ≤ _; omega) hd (fun _ _ => ⟨rfl, eT, hc, hs⟩)
  dsimp only [Pt.U, Pt.locs, Pt.cells, Pt.slots] at X' l' y' z' st hq
  subst l' y' z'
  obtain ⟨r1, r2, r3⟩ := hQ v _ Lc hq
  exact (q v T' T'.heap Lc ⟨_, k0, X', rfl, hZ, hown, hS, Nat.le_trans hk r3.2.1, hC.trans r3, hF.app r1, r2, h0, h2, hE⟩ hq r3).to st
theorem St.callX0 {sf : List Addr} (S : St 0 p l e R s m args below meth c own Z [] vm T h cells slots) (hx : p.tables.exec = Jvm.exec) {index : Nat} {a : Addr} {C : String} (w1 : (Cond.methodLink own index y).before a0 Z = true) (w2 : (Cond.sameMethod y.cls y.cls y.name y.desc).before a0 Z = true) (w3 : (Cond.instanceMethod y).before a0 Z = true) (w4 : (Cond.superclass own y.cls).before a0 Z = true) (hn : y.name ≠ "<init>") (F : Ins Z h a C true) (wc : (Cond.code y bytes maxL ret).before a0 Z = true) (wz : (Cond.initialized y.cls).before a0 Z = true) (hM : Ct 0 l Z [] sf y bytes maxL ret rm as' h Q) (hf : rm.frames + 1 ≤ R.frames) (hl : W + (maxL + 11) + rm.locals ≤ R.locals) (hml : L.size = c.maxLocals) (argsL rest : List Value) (hlen : ∀ sig, parseMethodDescriptor y.desc = some sig → argsL.length = sig.parameters.length) (hst : K = argsL.reverse ++ .ref a :: rest) (has : (.ref a :: argsL).toArray = as') (hW : (rest.map fun v => v.category).sum ≤ W) (hd : decode c.code pc = .ok (.invokespecial index, 3)) (hc : cells + rm.cells ≤ R.cells) (hs : slots + rm.slots ≤ R.slots) (p' : Nat) (hp : p' = pc + 3)
    (q : ∀ v vm' T' h', St 0 p l e R s m args below meth c own Z [] vm' T' h' (cells + rm.cells) (slots + rm.slots) → Q v h' → CHr Z [] vm h vm' h' → Goes p.tables e below P T' (mkF m p' L (v.toList ++ rest))) : Goes p.tables e below P T (mkF m pc L K) :=
  St.callXN S hx w1 w2 w3 w4 hn F wc (ctBack (s := s.setVm vm) hM S.warm wc wz hf hl) (fun v h' Lc r => ⟨r.2.1, r.2.2.1, chr_nil r.2.2.2⟩) hml argsL rest hlen hst has hW hd hc hs p' hp (fun v T' h' Lc S' r R' => q v vm T' h' S' r.1 R')
/-- System.arraycopy over bytes -/
theorem St.cpB (S : St md p l e R s m args below meth c own Z EL vm T h cells slots) (hx : p.tables.exec = Jvm.exec) {index : Nat} (w1 : (Cond.methodLink own index Jvm.Stand.acN).before a0 Z = true) (w2 : (Cond.native Jvm.Stand.acN).before a0 Z = true) (w3 : (Cond.static Jvm.Stand.acN).before a0 Z = true) (w4 : (Cond.initialized "java/lang/System").before a0 Z = true)
    {a b : Addr} {k k' : ClassId} {z z' sp dp nn : Int32} {vs vd us : List Value} {dv dd : Value} (A : Arv Z h a k .byte z vs dv) (B : Arv Z h b k' .byte z' vd dd) (h1 : ¬ sp < 0) (h2 : ¬ dp < 0) (h3 : ¬ nn < 0) (h4 : sp.toNatClampNeg + nn.toNatClampNeg ≤ z.toNatClampNeg) (h5 : dp.toNatClampNeg + nn.toNatClampNeg ≤ z'.toNatClampNeg)
    (hus : us = (List.range nn.toNatClampNeg).map fun i => vs.getD (sp.toNatClampNeg + i) dv) (hl : dp.toNatClampNeg + nn.toNatClampNeg ≤ vd.length) (ge : Z.heap.size ≤ b) (sf : Safe Z EL vm h b) (hml : L.size = c.maxLocals) (rest : List Value) (hd : decode c.code pc = .ok (.invokestatic index, 3)) (hf : 1 ≤ R.frames) (hW : (rest.map fun v => v.category).sum ≤ W) (hlo : W + 18 ≤ R.locals) (p' : Nat) (hp : p' = pc + 3)
    (q : ∀ T' h', St md p l e R s m args below meth c own Z EL vm T' h' cells slots → Keep h h' [b] → Arv Z h' b k' .byte z' (vd.take dp.toNatClampNeg ++ us ++ vd.drop (dp.toNatClampNeg + nn.toNatClampNeg)) dd → CHr Z EL vm h vm h' → Goes p.tables e below P T' (mkF m p' L rest)) : Goes p.tables e below P T (mkF m pc L (.int nn :: .int dp :: .ref b :: .int sp :: .ref a :: rest)) := by
  subst hp
  obtain ⟨locs, k0, X, eT, hZ, hown, hS, hk, hC, hF, hO, h0, h2', hE⟩ := S
  obtain ⟨T', h', L', X', e', F', K', B', st⟩ := cpA X hx hZ hown w1 w2 w3 w4 eT A B (Or.inl ⟨rfl, rfl⟩) h1 h2 h3 h4 h5 hus hl hF ge (g := mkF m pc L (.int nn :: .int dp :: .ref b :: .int sp :: .ref a :: rest)) rfl hml rfl hd hf (W := W) (by show 2 * 0 + _ ≤ _; omega) hlo
  have hR : CHr Z EL vm h vm h' := CHr.keep K' (fun x hx => by cases List.mem_singleton.mp hx; exact sf) hC.1
  exact (q T' h' ⟨L', k0, X', e', hZ, hown, hS, Nat.le_trans hk hR.2.1, hC.trans hR, F', hO.keep K' (fun x hx => by cases List.mem_singleton.mp hx; exact ge), h0, h2', hE⟩ K' B' hR).via st
/-- newarray of a primitive kind, with its class -/
theorem St.newAE (S : St md p l e R s m args below meth c own Z EL vm T h cells slots) (hx : p.tables.exec = Jvm.exec) {aty : ArrayType} (w : (Cond.arrayClass (newarray.typeOf aty)).before a0 Z = true) {n : Int32} (hn : ¬ n < 0) {cap : Nat} (hcap : n.toNatClampNeg ≤ cap) (hb : cap * 8 ≤ 536870912) (hd : decode c.code pc = .ok (.newarray aty, 2)) (hc : cells + 1 ≤ R.cells) (hl : slots + cap ≤ R.slots) {ad : String} (had : "[" ++ (newarray.typeOf aty).toString = ad) (p' : Nat) (hp : p' = pc + 2)
    (q : ∀ T' h' a k, St md p l e R s m args below meth c own Z EL vm T' h' (cells + 1) (slots + cap) → a = h.size → Ext h h' → Arv Z h' a k (newarray.typeOf aty) n (List.replicate cap (defaultValue (newarray.typeOf aty))) (defaultValue (newarray.typeOf aty)) → Exa Z h' a ad → Safe Z EL vm h' a → CHr Z EL vm h vm h' → Goes p.tables e below P T' (mkF m p' L (.ref a :: K))) : Goes p.tables e below P T (mkF m pc L (.int n :: K)) := by
  subst hp
  obtain ⟨locs, k, X, eT, hZ, hown, hS, hk, hC, hF, hO, h0, h2, hE⟩ := S
  obtain ⟨T', h', cA, X', e', E', A', B', st⟩ := newPE X hx hZ w eT (g := mkF m pc L (.int n :: K)) rfl hd rfl hn hcap hb hc hl had
  exact (q T' h' h.size cA ⟨locs, k, X', e', hZ, hown, hS, Nat.le_trans hk E'.1, hC.trans (CHr.ext E' hC.1), hF, hO.ext E', h0, h2, hE⟩ rfl E' ((Arv.new A' hn).pad (pad_rep [] _ cap)) B' (Safe.ext E' hC.1 (Safe.new (Nat.le_refl _))) (CHr.ext E' hC.1)).via st
/-- the array of a String constant is a byte[] -/
theorem own_exaB {a b : Addr} {k : ClassId} {z : Int32} {vs : List Value} {dv : Value} (N : ∀ x, Safe Z EL vm h x → x ≠ a ∧ x ≠ b) (hal : Z.vm.Alike vm) (A : Arv Z h b k .byte z vs dv) : Exa Z h b "[B" := by
  have B : Bk Z EL vm h b := Classical.byContradiction fun q => (N b q).2 rfl
  obtain ⟨cl, ⟨A1, A2, A3⟩, -⟩ := A
  obtain ⟨A4, kA, hkA, compA, hkindA⟩ := A2
  obtain ⟨p, -, u, a', -, q, -, F, rfl | rfl⟩ := B
  · exfalso
    obtain ⟨kA', hkA', ekA⟩ := hal.2.2 _ _ hkA
    cases (show h[q.sa]? = some q.sC from F.ha).symm.trans A1
    obtain ⟨cS, ⟨-, -, e⟩, ⟨kS, g1, g2, -⟩, -⟩ := F
    subst e
    cases (show vm.classes[q.sC.cls]? = some kS from g1).symm.trans hkA'
    rw [ekA] at g2
    have := hkindA.symm.trans g2
    cases this
  · cases (show h[q.sd]? = some q.SA from F.hd).symm.trans A1
    have Fd : h[q.sd]? = some q.SA := F.hd
    obtain ⟨cS, -, -, f, -⟩ := F
    have f : vm.findClass "[B" = some q.SA.cls := f
    rw [hal.findClass] at f
    refine ⟨q.SA, kA, Fd, f, hkA, ?_, fun r => by rw [hkindA] at r; cases r⟩
    cases hv : q.SA.vm <;> first | rfl | exact absurd hv (A4 _)
end F
end Jvm.Own
/- laws to paste: Road.codOf, pair_says, StrChars.shr0 (cut by pick.py; bodies as the Statement names them) -/
namespace Jvm.Pilot.@@N@@
namespace StrChars
open Jvm Sem ClassFile Op Lib Jvm.Stand Jvm.Free.XT Jvm.Free.ALB Jvm.Free.JM Jvm.Free
open Jvm.Lib.Cold (StaticIs)
/-- a char array whose places are chars -/
def Ch (a : Addr) (A : Cell) (U : State) : Prop := Arr .char a A U ∧ Typed .char A
theorem Ch.mv {a : Addr} {A : Cell} {U U' : State} (h : Ch a A U) (hal : U.vm.Alike U'.vm) (hh : U'.heap = U.heap) : Ch a A U' := ⟨h.1.mv hal hh, h.2⟩
theorem Ch.keep {a : Addr} {A : Cell} {U U' : State} (h : Ch a A U) (hal : U.vm.Alike U'.vm) (hk : U'.heap[a]? = some A) : Ch a A U' := ⟨h.1.keep hal hk, h.2⟩
/-- what place i of a char[]'s cell holds -/
def cv (A : Cell) (i : Nat) : Int32 := match A.slots[i]? with | some (.int x) => x | _ => 0
theorem Ch.get {a : Addr} {A : Cell} {U : State} (h : Ch a A U) {i : Nat} (hi : i < A.slots.size) : A.slots[i]? = some (.int (cv A i)) := by
  have e := Array.getElem?_eq_getElem hi
  have f := h.2 i _ e
  unfold cv; rw [e]
  generalize A.slots[i] = v at f
  cases v <;> simp [fits] at f ⊢
/-- the byte that i2b leaves of a char -/
def lo8 (x : Int32) : Int32 := x.toInt8.toInt32
theorem fits_lo8 (y : Int32) : fits .byte (.int (lo8 y)) = true := by
  have h1 := y.toInt8.le_toInt
  have h2 := y.toInt8.toInt_lt
  simp only [lo8, fits, Bool.and_eq_true, decide_eq_true_eq, Int32.le_iff_toInt_le, Int8.toInt_toInt32, show (-128 : Int32).toInt = -128 from by decide, show (127 : Int32).toInt = 127 from by decide]
  omega
/-- A' is A but that each place j of lo .. hi - 1 holds f j -/
def Laid (A A' : Cell) (lo hi : Nat) (f : Nat → Value) : Prop := A'.cls = A.cls ∧ A'.vm = A.vm ∧ A'.slots.size = A.slots.size ∧ ∀ i, A'.slots[i]? = if lo ≤ i ∧ i < hi then some (f i) else A.slots[i]?
theorem Laid.zero (A : Cell) (lo : Nat) (f : Nat → Value) : Laid A A lo (lo + 0) f := ⟨rfl, rfl, rfl, fun i => by rw [if_neg (by omega)]⟩
theorem Laid.step {A Ak : Cell} {lo k : Nat} {f : Nat → Value} {v : Value} (h : Laid A Ak lo k f) (hlo : lo ≤ k) (hk : k < Ak.slots.size) (hv : v = f k) : Laid A (Ak.setSlot k v) lo (k + 1) f := by
  refine ⟨h.1, h.2.1, by simpa [Cell.setSlot] using h.2.2.1, fun i => ?_⟩
  by_cases e : k = i
  · subst e; rw [Cell.slots_setSlot_self v hk, if_pos (by omega), hv]
  · rw [Cell.slots_setSlot_ne v e, h.2.2.2 i]
    by_cases q : lo ≤ i ∧ i < k
    · rw [if_pos q, if_pos (by omega)]
    · rw [if_neg q, if_neg (by omega)]
def U16 : String := "java/lang/StringUTF16"
namespace Cmp5
def yN : MethodName := ⟨"java/lang/StringUTF16", "compress", "([CI[BII)I"⟩
abbrev yB : ByteArray := jdk_52_method_21_code
theorem d0 : decode yB 0 = .ok (.iconst 0, 1) := by decide +kernel
theorem d1 : decode yB 1 = .ok (.istore 5, 2) := by decide +kernel
theorem d3 : decode yB 3 = .ok (.iload 5, 2) := by decide +kernel
theorem d5 : decode yB 5 = .ok (.iload 4, 2) := by decide +kernel
theorem d7 : decode yB 7 = .ok (.if_icmp (.ge) 37, 3) := by decide +kernel
theorem d10 : decode yB 10 = .ok (.aload_n 0, 1) := by decide +kernel
theorem d11 : decode yB 11 = .ok (.iload_n 1, 1) := by decide +kernel
theorem d12 : decode yB 12 = .ok (.caload, 1) := by decide +kernel
theorem d13 : decode yB 13 = .ok (.istore 6, 2) := by decide +kernel
theorem d15 : decode yB 15 = .ok (.iload 6, 2) := by decide +kernel
theorem d17 : decode yB 17 = .ok (.sipush 255, 3) := by decide +kernel
theorem d20 : decode yB 20 = .ok (.if_icmp (.le) 6, 3) := by decide +kernel
theorem d26 : decode yB 26 = .ok (.aload_n 2, 1) := by decide +kernel
theorem d27 : decode yB 27 = .ok (.iload_n 3, 1) := by decide +kernel
theorem d28 : decode yB 28 = .ok (.iload 6, 2) := by decide +kernel
theorem d30 : decode yB 30 = .ok (.i2b, 1) := by decide +kernel
theorem d31 : decode yB 31 = .ok (.bastore, 1) := by decide +kernel
theorem d32 : decode yB 32 = .ok (.iinc 1 1, 3) := by decide +kernel
theorem d35 : decode yB 35 = .ok (.iinc 3 1, 3) := by decide +kernel
theorem d38 : decode yB 38 = .ok (.iinc 5 1, 3) := by decide +kernel
theorem d41 : decode yB 41 = .ok (.goto (-38), 3) := by decide +kernel
theorem d44 : decode yB 44 = .ok (.iload 4, 2) := by decide +kernel
theorem d46 : decode yB 46 = .ok (.ireturn, 1) := by decide +kernel
def site : List Cond := []
def tab : Cond := tabOf yN yB 7 (some .int) site
def P (b : Addr) (A : Cell) (d : Addr) (B : Cell) (o q len : Nat) (args : Array Value) (s : State) : Prop := args = #[.ref b, .int (Int32.ofNat o), .ref d, .int (Int32.ofNat q), .int (Int32.ofNat len)] ∧ Ch b A s ∧ Arr .byte d B s ∧ b ≠ d ∧ o + len ≤ A.slots.size ∧ q + len ≤ B.slots.size ∧ ∀ i, i < len → ¬ 255 < cv A (o + i)
def E (b : Addr) (A : Cell) (d : Addr) (B : Cell) (o q len : Nat) (r : Option Value) (s u : State) : Prop := r = some (.int (Int32.ofNat len)) ∧ ∃ B', Put d B' s u ∧ Laid B B' q (q + len) (fun j => Value.int (lo8 (cv A (o + (j - q)))))
/-- no char of the range above 255: len; the places written hold each char's low byte -/
theorem law (l : Launch) (b : Addr) (A : Cell) (d : Addr) (B : Cell) (o q len : Nat) : Law l yN 5 5 0 0 yB 7 (some .int) site (P b A d B o q len) (E b A d B o q len) (copyLocs d q len) 0 0 := by
  refine Law.of_walk (plainFor_of_name (by decide +kernel)) (by decide +kernel) (by decide +kernel) (by decide) (fun _ _ h => by rw [h.1]; rfl) (fun _ U U' hal hh h => ⟨h.1, h.2.1.mv hal hh, h.2.2.1.mv hal hh, h.2.2.2⟩) (fun r U U' V V' h1 hal h2 h => ⟨h.1, h.2.elim fun B' q => ⟨B', q.1.mv h1 h2, q.2⟩⟩) ?_
  intro p e s m args below meth c s₁ X0 hexec hbytes hml hret hlk hnm hown hh0 W hP
  obtain ⟨rfl, hA, hB, hne, l1, l2, hp⟩ := hP
  have c1 : Steps p.tables e below (s₁.setTop (entryFrame m #[.ref b, .int (Int32.ofNat o), .ref d, .int (Int32.ofNat q), .int (Int32.ofNat len)] 7)) (s₁.setTop (mkF m 0 #[.val (.ref b), .val (.int (Int32.ofNat o)), .val (.ref d), .val (.int (Int32.ofNat q)), .val (.int (Int32.ofNat len)), .unset, .unset] [])) := entry rfl
  have hA0 := hA.1.mv X0.warmed.alike hh0
  have hB0 := hB.mv X0.warmed.alike hh0
  have a31 := hA.1.2.2.2
  have c2 : Steps p.tables e below (s₁.setTop (entryFrame m #[.ref b, .int (Int32.ofNat o), .ref d, .int (Int32.ofNat q), .int (Int32.ofNat len)] 7)) (s₁.setTop (mkF m 3 #[.val (.ref b), .val (.int (Int32.ofNat o)), .val (.ref d), .val (.int (Int32.ofNat q)), .val (.int (Int32.ofNat len)), .val (.int 0), .unset] [])) := c1.trans (by
    refine iconstV X0.here hexec rfl 0 (hb hbytes d0) (by decide) ?_
    refine XS.istore X0.here hexec rfl (hb hbytes d1) rfl rfl ?_
    exact Steps.refl _)
  have loop : ∀ (r i : Nat), i + r = len → ∀ (z : Slot), (z = .unset ∨ ∃ w, z = .val w ∧ w.category = 1) → ∀ (Tl : State) (Bk : Cell), Stand p l e { frames := 0, locals := 0, cells := 0, slots := 0 } s m #[.ref b, .int (Int32.ofNat o), .ref d, .int (Int32.ofNat q), .int (Int32.ofNat len)] below meth c Tl ([] ++ copyLocs d q i) 0 0 → Put d Bk s₁ Tl → Laid B Bk q (q + i) (fun j => Value.int (lo8 (cv A (o + (j - q))))) →
      Steps p.tables e below (s₁.setTop (entryFrame m #[.ref b, .int (Int32.ofNat o), .ref d, .int (Int32.ofNat q), .int (Int32.ofNat len)] 7)) (Tl.setTop (mkF m 3 #[.val (.ref b), .val (.int (Int32.ofNat (o + i))), .val (.ref d), .val (.int (Int32.ofNat (q + i))), .val (.int (Int32.ofNat len)), .val (.int (Int32.ofNat i)), z] [])) → ∃ (T' : State) (B' : Cell) (z' : Slot), Stand p l e { frames := 0, locals := 0, cells := 0, slots := 0 } s m #[.ref b, .int (Int32.ofNat o), .ref d, .int (Int32.ofNat q), .int (Int32.ofNat len)] below meth c T' ([] ++ copyLocs d q len) 0 0 ∧ Put d B' s₁ T' ∧ Laid B B' q (q + len) (fun j => Value.int (lo8 (cv A (o + (j - q))))) ∧
      Steps p.tables e below (s₁.setTop (entryFrame m #[.ref b, .int (Int32.ofNat o), .ref d, .int (Int32.ofNat q), .int (Int32.ofNat len)] 7)) (T'.setTop (mkF m 3 #[.val (.ref b), .val (.int (Int32.ofNat (o + len))), .val (.ref d), .val (.int (Int32.ofNat (q + len))), .val (.int (Int32.ofNat len)), .val (.int (Int32.ofNat len)), z'] [])) := by
    intro r
    induction r with
    | zero =>
      intro i hi z hz Tl Bk Xl pl fl cl
      have hil : i = len := by omega
      rw [hil] at Xl fl cl
      exact ⟨Tl, Bk, z, Xl, pl, fl, cl⟩
    | succ r ih =>
      intro i hi z hz Tl Bk Xl pl fl cl
      have all := X0.warmed.alike.symm.trans Xl.warmed.alike
      have hAl := hA0.keep all (pl.other hne hA0.1)
      have hBk := hB0.like all pl.1 fl.1 fl.2.1 fl.2.2.1
      have hlt : q + i < Bk.slots.size := by rw [fl.2.2.1]; omega
      have c3 : Steps p.tables e below (s₁.setTop (entryFrame m #[.ref b, .int (Int32.ofNat o), .ref d, .int (Int32.ofNat q), .int (Int32.ofNat len)] 7)) (Tl.setTop (mkF m 12 #[.val (.ref b), .val (.int (Int32.ofNat (o + i))), .val (.ref d), .val (.int (Int32.ofNat (q + i))), .val (.int (Int32.ofNat len)), .val (.int (Int32.ofNat i)), z] [.int (Int32.ofNat (o + i)), .ref b])) := cl.trans (by
        refine XS.iload Xl.here hexec rfl (hb hbytes d3) rfl ?_
        refine XS.iload Xl.here hexec rfl (hb hbytes d5) rfl ?_
        refine XS.icmpNo Xl.here hexec rfl (hb hbytes d7) rfl (ii_ge_f (lt32 (by omega) (by omega))) ?_
        refine XS.aloadN Xl.here hexec rfl (hb hbytes d10) rfl rfl ?_
        refine XS.iloadN Xl.here hexec rfl (hb hbytes d11) rfl ?_
        exact Steps.refl _)
      have c4 : Steps p.tables e below (s₁.setTop (entryFrame m #[.ref b, .int (Int32.ofNat o), .ref d, .int (Int32.ofNat q), .int (Int32.ofNat len)] 7)) (Tl.setTop (mkF m 13 #[.val (.ref b), .val (.int (Int32.ofNat (o + i))), .val (.ref d), .val (.int (Int32.ofNat (q + i))), .val (.int (Int32.ofNat len)), .val (.int (Int32.ofNat i)), z] [.int (cv A (o + i))])) := c3.trans (by
        refine Xl.aget hexec hAl rfl (hA.get (i := o + i) (by omega)) rfl rfl (hb hbytes d12) ?_
        exact Steps.refl _)
      have c5 : Steps p.tables e below (s₁.setTop (entryFrame m #[.ref b, .int (Int32.ofNat o), .ref d, .int (Int32.ofNat q), .int (Int32.ofNat len)] 7)) (Tl.setTop (mkF m 15 #[.val (.ref b), .val (.int (Int32.ofNat (o + i))), .val (.ref d), .val (.int (Int32.ofNat (q + i))), .val (.int (Int32.ofNat len)), .val (.int (Int32.ofNat i)), .val (.int (cv A (o + i)))] [])) := c4.trans (by
        refine XS.istoreS Xl.here hexec rfl (hb hbytes d13) rfl rfl hz ?_
        exact Steps.refl _)
      have c6 : Steps p.tables e below (s₁.setTop (entryFrame m #[.ref b, .int (Int32.ofNat o), .ref d, .int (Int32.ofNat q), .int (Int32.ofNat len)] 7)) (Tl.setTop (mkF m 31 #[.val (.ref b), .val (.int (Int32.ofNat (o + i))), .val (.ref d), .val (.int (Int32.ofNat (q + i))), .val (.int (Int32.ofNat len)), .val (.int (Int32.ofNat i)), .val (.int (cv A (o + i)))] [.int (lo8 (cv A (o + i))), .int (Int32.ofNat (q + i)), .ref d])) := c5.trans (by
        refine XS.iload Xl.here hexec rfl (hb hbytes d15) rfl ?_
        refine sipushV Xl.here hexec rfl 255 (hb hbytes d17) (by decide) ?_
        refine XS.icmpYes Xl.here hexec rfl (pc0 := 20) rfl (hb hbytes d20) rfl (ii_le_t (hp i (by omega))) (by decide) rfl ?_
        refine XS.aloadN Xl.here hexec rfl (hb hbytes d26) rfl rfl ?_
        refine XS.iloadN Xl.here hexec rfl (hb hbytes d27) rfl ?_
        refine XS.iload Xl.here hexec rfl (hb hbytes d28) rfl ?_
        refine i2b Xl.here hexec rfl (hb hbytes d30) rfl ?_
        exact Steps.refl _)
      obtain ⟨T7, X7, p7, st7⟩ := Xl.aput hexec hBk rfl hlt rfl (fits_lo8 (cv A (o + i))) (g := (mkF m 31 #[.val (.ref b), .val (.int (Int32.ofNat (o + i))), .val (.ref d), .val (.int (Int32.ofNat (q + i))), .val (.int (Int32.ofNat len)), .val (.int (Int32.ofNat i)), .val (.int (cv A (o + i)))] [.int (lo8 (cv A (o + i))), .int (Int32.ofNat (q + i)), .ref d])) rfl (rest := []) rfl (hb hbytes d31)
      have c8 : Steps p.tables e below (s₁.setTop (entryFrame m #[.ref b, .int (Int32.ofNat o), .ref d, .int (Int32.ofNat q), .int (Int32.ofNat len)] 7)) (T7.setTop (mkF m 32 #[.val (.ref b), .val (.int (Int32.ofNat (o + i))), .val (.ref d), .val (.int (Int32.ofNat (q + i))), .val (.int (Int32.ofNat len)), .val (.int (Int32.ofNat i)), .val (.int (cv A (o + i)))] [])) := c6.trans (st7 _ (Steps.refl _))
      have c9 : Steps p.tables e below (s₁.setTop (entryFrame m #[.ref b, .int (Int32.ofNat o), .ref d, .int (Int32.ofNat q), .int (Int32.ofNat len)] 7)) (T7.setTop (mkF m 3 #[.val (.ref b), .val (.int (Int32.ofNat (o + i) + 1)), .val (.ref d), .val (.int (Int32.ofNat (q + i) + 1)), .val (.int (Int32.ofNat len)), .val (.int (Int32.ofNat i + 1)), .val (.int (cv A (o + i)))] [])) := c8.trans (by
        refine iincV X7.here hexec rfl 1 (hb hbytes d32) (by decide) rfl rfl ?_
        refine iincV X7.here hexec rfl 1 (hb hbytes d35) (by decide) rfl rfl ?_
        refine iincV X7.here hexec rfl 1 (hb hbytes d38) (by decide) rfl rfl ?_
        refine XS.goto X7.here hexec rfl (pc0 := 41) rfl (hb hbytes d41) (by decide) rfl ?_
        exact Steps.refl _)
      have c10 : Steps p.tables e below (s₁.setTop (entryFrame m #[.ref b, .int (Int32.ofNat o), .ref d, .int (Int32.ofNat q), .int (Int32.ofNat len)] 7)) (T7.setTop (mkF m 3 #[.val (.ref b), .val (.int (Int32.ofNat (o + (i + 1)))), .val (.ref d), .val (.int (Int32.ofNat (q + (i + 1)))), .val (.int (Int32.ofNat len)), .val (.int (Int32.ofNat (i + 1))), .val (.int (cv A (o + i)))] [])) := by
        have := c9
        rw [succ32, succ32, succ32] at this
        exact this
      exact ih (i + 1) (by omega) _ (Or.inr ⟨_, rfl, rfl⟩) T7 _ (by rw [copyLocs_step, ← List.append_assoc]; exact X7) (pl.trans p7) (fl.step (by omega) hlt (by simp)) c10
  obtain ⟨T9, B9, z9, X9, p9, f9, g9⟩ := loop len 0 (by omega) .unset (Or.inl rfl) s₁ B (by simpa [copyLocs] using X0) ⟨hB0.1, fun _ _ => rfl, rfl⟩ (Laid.zero _ _ _) c2
  have c11 : Steps p.tables e below (s₁.setTop (entryFrame m #[.ref b, .int (Int32.ofNat o), .ref d, .int (Int32.ofNat q), .int (Int32.ofNat len)] 7)) (T9.setTop (mkF m 46 #[.val (.ref b), .val (.int (Int32.ofNat (o + len))), .val (.ref d), .val (.int (Int32.ofNat (q + len))), .val (.int (Int32.ofNat len)), .val (.int (Int32.ofNat len)), z9] [.int (Int32.ofNat len)])) := g9.trans (by
    refine XS.iload X9.here hexec rfl (hb hbytes d3) rfl ?_
    refine XS.iload X9.here hexec rfl (hb hbytes d5) rfl ?_
    refine XS.icmpYes X9.here hexec rfl (pc0 := 7) rfl (hb hbytes d7) rfl (ii_ge_t (nlt32 (by omega) (Nat.le_refl _))) (by decide) rfl ?_
    refine XS.iload X9.here hexec rfl (hb hbytes d44) rfl ?_
    exact Steps.refl _)
  exact ⟨T9, some (.int (Int32.ofNat len)), _, _, _, X9, by simp, rfl, rfl, (fun h => by cases h), ⟨rfl, B9, p9.from hh0, f9⟩, fun fs hl => c11.trans (X9.ireturnOut hexec hret rfl (Or.inl rfl) (hb hbytes d46) hl)⟩
end Cmp5
namespace Cmp3
def yN : MethodName := ⟨"java/lang/StringUTF16", "compress", "([CII)[B"⟩
abbrev yB : ByteArray := jdk_52_method_16_code
theorem d0 : decode yB 0 = .ok (.iload_n 2, 1) := by decide +kernel
theorem d1 : decode yB 1 = .ok (.newarray .byte, 2) := by decide +kernel
theorem d3 : decode yB 3 = .ok (.astore_n 3, 1) := by decide +kernel
theorem d4 : decode yB 4 = .ok (.aload_n 0, 1) := by decide +kernel
theorem d5 : decode yB 5 = .ok (.iload_n 1, 1) := by decide +kernel
theorem d6 : decode yB 6 = .ok (.aload_n 3, 1) := by decide +kernel
theorem d7 : decode yB 7 = .ok (.iconst 0, 1) := by decide +kernel
theorem d8 : decode yB 8 = .ok (.iload_n 2, 1) := by decide +kernel
theorem d9 : decode yB 9 = .ok (.invokestatic 115, 3) := by decide +kernel
theorem d12 : decode yB 12 = .ok (.istore 4, 2) := by decide +kernel
theorem d14 : decode yB 14 = .ok (.iload 4, 2) := by decide +kernel
theorem d16 : decode yB 16 = .ok (.iload_n 2, 1) := by decide +kernel
theorem d17 : decode yB 17 = .ok (.if_icmp (.eq) 40, 3) := by decide +kernel
theorem d57 : decode yB 57 = .ok (.aload_n 3, 1) := by decide +kernel
theorem d58 : decode yB 58 = .ok (.areturn, 1) := by decide +kernel
def site : List Cond := [.arrayClass .byte, Cmp5.tab] ++ staticW U16 115 Cmp5.yN
def tab : Cond := tabOf yN yB 6 (some (.array .byte)) site
def P (b : Addr) (A : Cell) (o len : Nat) (args : Array Value) (s : State) : Prop := args = #[.ref b, .int (Int32.ofNat o), .int (Int32.ofNat len)] ∧ Ch b A s ∧ o + len ≤ A.slots.size ∧ len ≤ 536870912 ∧ ∀ i, i < len → ¬ 255 < cv A (o + i)
def E (b : Addr) (A : Cell) (o len : Nat) (r : Option Value) (s u : State) : Prop := NewArr .byte "[B" len (fun j => .int (lo8 (cv A (o + j)))) r s u ∧ u.heap.size = s.heap.size + 1
/-- no char of the range above 255: a new byte[] of their low bytes -/
theorem law (l : Launch) (b : Addr) (A : Cell) (o len : Nat) : Law l yN 3 3 1 18 yB 6 (some (.array .byte)) site (P b A o len) (E b A o len) [] 1 len := by
  refine Law.of_walk (plainFor_of_name (by decide +kernel)) (by decide +kernel) (by decide +kernel) (by decide) (fun _ _ h => by rw [h.1]; rfl) (fun _ U U' hal hh h => ⟨h.1, h.2.1.mv hal hh, h.2.2⟩) (fun r U U' V V' h1 hal h2 h => ⟨NewArr.mv r U U' V V' h1 hal h2 h.1, by rw [h1, h2]; exact h.2⟩) ?_
  intro p e s m args below meth c s₁ X0 hexec hbytes hml hret hlk hnm hown hh0 W hP
  obtain ⟨rfl, hA, l1, l2, hp⟩ := hP
  have a31 := hA.1.2.2.2
  have c1 : Steps p.tables e below (s₁.setTop (entryFrame m #[.ref b, .int (Int32.ofNat o), .int (Int32.ofNat len)] 6)) (s₁.setTop (mkF m 0 #[.val (.ref b), .val (.int (Int32.ofNat o)), .val (.int (Int32.ofNat len)), .unset, .unset, .unset] [])) := entry rfl
  have c2 : Steps p.tables e below (s₁.setTop (entryFrame m #[.ref b, .int (Int32.ofNat o), .int (Int32.ofNat len)] 6)) (s₁.setTop (mkF m 1 #[.val (.ref b), .val (.int (Int32.ofNat o)), .val (.int (Int32.ofNat len)), .unset, .unset, .unset] [.int (Int32.ofNat len)])) := c1.trans (by
    refine XS.iloadN X0.here hexec rfl (hb hbytes d0) rfl ?_
    exact Steps.refl _)
  obtain ⟨T3, B3, X3, ba3, bs3, bv3, bh3, bf3, st3⟩ := X0.anew hexec (atype := .byte) (wk W (.arrayClass .byte)) rfl (by show len * 1 ≤ _; omega) (by omega) (g := (mkF m 1 #[.val (.ref b), .val (.int (Int32.ofNat o)), .val (.int (Int32.ofNat len)), .unset, .unset, .unset] [.int (Int32.ofNat len)])) rfl (hb hbytes d1) (rest := []) rfl (Nat.le_refl _) (by show 0 + len ≤ len; omega)
  rw [hh0] at ba3 st3
  have kp3 : XT.Kept s T3 := (XT.Kept.of_eq hh0).push bh3
  have hA3 := hA.keep X3.warmed.alike (kp3 _ _ hA.1.1)
  have hne : b ≠ s.heap.size := hA.1.ne
  have c4 : Steps p.tables e below (s₁.setTop (entryFrame m #[.ref b, .int (Int32.ofNat o), .int (Int32.ofNat len)] 6)) (T3.setTop (mkF m 3 #[.val (.ref b), .val (.int (Int32.ofNat o)), .val (.int (Int32.ofNat len)), .unset, .unset, .unset] [.ref s.heap.size])) := c2.trans (st3 _ (Steps.refl _))
  have c5 : Steps p.tables e below (s₁.setTop (entryFrame m #[.ref b, .int (Int32.ofNat o), .int (Int32.ofNat len)] 6)) (T3.setTop (mkF m 9 #[.val (.ref b), .val (.int (Int32.ofNat o)), .val (.int (Int32.ofNat len)), .val (.ref s.heap.size), .unset, .unset] [.int (Int32.ofNat len), .int 0, .ref s.heap.size, .int (Int32.ofNat o), .ref b])) := c4.trans (by
    refine XS.astoreN X3.here hexec rfl (hb hbytes d3) rfl rfl rfl ?_
    refine XS.aloadN X3.here hexec rfl (hb hbytes d4) rfl rfl ?_
    refine XS.iloadN X3.here hexec rfl (hb hbytes d5) rfl ?_
    refine XS.aloadN X3.here hexec rfl (hb hbytes d6) rfl rfl ?_
    refine iconstV X3.here hexec rfl 0 (hb hbytes d7) (by decide) ?_
    refine XS.iloadN X3.here hexec rfl (hb hbytes d8) rfl ?_
    exact Steps.refl _)
  obtain ⟨v6, T6, X6, E6, g6⟩ := X3.callS hexec (Cmp5.law l b A s.heap.size B3 o 0 len) hown (wks W (staticW U16 115 Cmp5.yN)) (wk W Cmp5.tab) (W := 0) (Nat.le_of_ble_eq_true rfl) (Nat.le_of_ble_eq_true rfl) (Nat.le_refl _) (by show 0 + len + 0 ≤ len; omega) (g := (mkF m 9 #[.val (.ref b), .val (.int (Int32.ofNat o)), .val (.int (Int32.ofNat len)), .val (.ref s.heap.size), .unset, .unset] [.int (Int32.ofNat len), .int (Int32.ofNat 0), .ref s.heap.size, .int (Int32.ofNat o), .ref b])) rfl (by rw [hml]; rfl) c5 (argsL := [.ref b, .int (Int32.ofNat o), .ref s.heap.size, .int (Int32.ofNat 0), .int (Int32.ofNat len)]) (rest := []) rfl rfl (by show 2 * 0 + 0 ≤ _; decide) (hb hbytes d9) (⟨rfl, hA3, ba3, hne, l1, by rw [bs3]; simp, hp⟩)
  obtain ⟨rfl, B6, p6, f6⟩ := E6
  have c7 : Steps p.tables e below (s₁.setTop (entryFrame m #[.ref b, .int (Int32.ofNat o), .int (Int32.ofNat len)] 6)) (T6.setTop (mkF m 12 #[.val (.ref b), .val (.int (Int32.ofNat o)), .val (.int (Int32.ofNat len)), .val (.ref s.heap.size), .unset, .unset] [.int (Int32.ofNat len)])) := g6
  have c8 : Steps p.tables e below (s₁.setTop (entryFrame m #[.ref b, .int (Int32.ofNat o), .int (Int32.ofNat len)] 6)) (T6.setTop (mkF m 58 #[.val (.ref b), .val (.int (Int32.ofNat o)), .val (.int (Int32.ofNat len)), .val (.ref s.heap.size), .val (.int (Int32.ofNat len)), .unset] [.ref s.heap.size])) := c7.trans (by
    refine XS.istore X6.here hexec rfl (hb hbytes d12) rfl rfl ?_
    refine XS.iload X6.here hexec rfl (hb hbytes d14) rfl ?_
    refine XS.iloadN X6.here hexec rfl (hb hbytes d16) rfl ?_
    refine XS.icmpYes X6.here hexec rfl (pc0 := 17) rfl (hb hbytes d17) rfl (ii_eq_t rfl) (by decide) rfl ?_
    refine XS.aloadN X6.here hexec rfl (hb hbytes d57) rfl rfl ?_
    exact Steps.refl _)
  have X8 := X6.wide (L' := []) (cells' := 1) (slots' := len) (fun x hx hlt => by
    simp only [List.nil_append, copyLocs, List.mem_map, List.mem_range] at hx
    obtain ⟨i, -, rfl⟩ := hx
    exact absurd hlt (Nat.lt_irrefl _)) (Nat.le_refl _) (by omega)
  exact ⟨T6, some (.ref s.heap.size), _, _, _, X8, rfl, rfl, rfl, (fun h => by cases h), ⟨⟨rfl, B6, ba3.like (X3.warmed.alike.symm.trans X6.warmed.alike) p6.1 f6.1 f6.2.1 f6.2.2.1, f6.2.1.trans bv3, by rw [X6.warmed.alike.findClass, f6.1]; exact bf3, by rw [f6.2.2.1, bs3]; simp, fun j hj => by rw [f6.2.2.2 j, if_pos (by omega)]; rfl, kp3.put p6 (Nat.le_refl _)⟩, by rw [p6.2.2, bh3, hh0]; simp⟩, fun fs hl => c8.trans (X8.areturnOut hexec rfl hret rfl (hb hbytes d58) hl)⟩
end Cmp3
namespace CodL
def yN : MethodName := ⟨"java/lang/StringUTF16", "coderFromArrayLen", "([BI)B"⟩
abbrev yB : ByteArray := jdk_52_method_15_code
theorem d0 : decode yB 0 = .ok (.iload_n 1, 1) := by decide +kernel
theorem d1 : decode yB 1 = .ok (.aload_n 0, 1) := by decide +kernel
theorem d2 : decode yB 2 = .ok (.arraylength, 1) := by decide +kernel
theorem d3 : decode yB 3 = .ok (.isub, 1) := by decide +kernel
theorem d4 : decode yB 4 = .ok (.bipush 31, 2) := by decide +kernel
theorem d6 : decode yB 6 = .ok (.iushr, 1) := by decide +kernel
theorem d7 : decode yB 7 = .ok (.i2b, 1) := by decide +kernel
theorem d8 : decode yB 8 = .ok (.ireturn, 1) := by decide +kernel
def site : List Cond := []
def tab : Cond := tabOf yN yB 2 (some .byte) site
def P (d : Addr) (B : Cell) (args : Array Value) (s : State) : Prop := args = #[.ref d, .int (Int32.ofNat B.slots.size)] ∧ Arr .byte d B s
def E (r : Option Value) (s u : State) : Prop := XT.PureE (some (.int 0)) r s u
/-- an array as long as the number of chars: LATIN1 -/
theorem law (l : Launch) (d : Addr) (B : Cell) : Law l yN 2 2 0 0 yB 2 (some .byte) site (P d B) E [] 0 0 := by
  refine Law.of_walk (plainFor_of_name (by decide +kernel)) (by decide +kernel) (by decide +kernel) (by decide) (fun _ _ h => by rw [h.1]; rfl) (fun _ U U' hal hh h => ⟨h.1, h.2.mv hal hh⟩) (fun r U U' V V' h1 hal h2 h => XT.PureE.mv r U U' V V' h1 hal h2 h) ?_
  intro p e s m args below meth c s₁ X0 hexec hbytes hml hret hlk hnm hown hh0 W hP
  obtain ⟨rfl, hB⟩ := hP
  have hB0 := hB.mv X0.warmed.alike hh0
  have c1 : Steps p.tables e below (s₁.setTop (entryFrame m #[.ref d, .int (Int32.ofNat B.slots.size)] 2)) (s₁.setTop (mkF m 0 #[.val (.ref d), .val (.int (Int32.ofNat B.slots.size))] [])) := entry rfl
  have c2 : Steps p.tables e below (s₁.setTop (entryFrame m #[.ref d, .int (Int32.ofNat B.slots.size)] 2)) (s₁.setTop (mkF m 2 #[.val (.ref d), .val (.int (Int32.ofNat B.slots.size))] [.ref d, .int (Int32.ofNat B.slots.size)])) := c1.trans (by
    refine XS.iloadN X0.here hexec rfl (hb hbytes d0) rfl ?_
    refine XS.aloadN X0.here hexec rfl (hb hbytes d1) rfl rfl ?_
    exact Steps.refl _)
  have c3 : Steps p.tables e below (s₁.setTop (entryFrame m #[.ref d, .int (Int32.ofNat B.slots.size)] 2)) (s₁.setTop (mkF m 8 #[.val (.ref d), .val (.int (Int32.ofNat B.slots.size))] [.int (lo8 (ushr (Int32.ofNat B.slots.size - Int32.ofNat B.slots.size) 31))])) := c2.trans (by
    refine X0.alen hexec hB0 rfl rfl (hb hbytes d2) ?_
    refine XS.isub X0.here hexec rfl (hb hbytes d3) rfl ?_
    refine bipushV X0.here hexec rfl 31 (hb hbytes d4) (by decide) ?_
    refine iushr X0.here hexec rfl (hb hbytes d6) rfl ?_
    refine i2b X0.here hexec rfl (hb hbytes d7) rfl ?_
    exact Steps.refl _)
  have e0 : lo8 (ushr (Int32.ofNat B.slots.size - Int32.ofNat B.slots.size) 31) = 0 := by rw [Int32.sub_self]; decide
  rw [e0] at c3
  exact ⟨s₁, some (.int 0), _, _, _, X0, rfl, rfl, rfl, (fun h => by cases h), ⟨rfl, hh0⟩, fun fs hl => c3.trans (X0.ireturnOut hexec hret rfl (Or.inr (Or.inr (Or.inl rfl))) (hb hbytes d8) hl)⟩
end CodL
/-- the String at a is Latin-1 over a new byte[] (the heap's one new cell): the low bytes of the len chars of A from o on; every cell but a is kept -/
def Got (a : Addr) (D : Cell) (fV fC : Field) (A : Cell) (o len : Nat) (r : Option Value) (s u : State) : Prop := r = none ∧ ∃ D' V : Cell, Blank "java/lang/String" a D' u ∧ Same D D' [fV.slot, fC.slot] ∧ D'.slots[fV.slot]? = some (.ref s.heap.size) ∧ D'.slots[fC.slot]? = some (.int 0) ∧ Arr .byte s.heap.size V u ∧ V.vm = .none ∧ u.vm.findClass "[B" = some V.cls ∧ V.slots.size = len ∧ (∀ j, j < len → V.slots[j]? = some (.int (lo8 (cv A (o + j))))) ∧ (∀ (y : Addr) (c : Cell), y ≠ a → s.heap[y]? = some c → u.heap[y]? = some c) ∧ u.heap.size = s.heap.size + 1
theorem Got.mv {a : Addr} {D A : Cell} {fV fC : Field} {o len : Nat} : ∀ r (U U' V V' : State), U'.heap = U.heap → V.vm.Alike V'.vm → V'.heap = V.heap → Got a D fV fC A o len r U V → Got a D fV fC A o len r U' V' :=
  fun r U U' V V' h1 hal h2 ⟨e0, D', X, a1, a2, a3, a4, a5, a6, a7, a8, a9, a10, a11⟩ => ⟨e0, D', X, a1.mv hal h2, a2, by rw [h1]; exact a3, a4, by rw [h1]; exact a5.mv hal h2, a6, by rw [hal.findClass]; exact a7, a8, a9, by rw [h1, h2]; exact a10, by rw [h1, h2]; exact a11⟩
namespace New4
def yN : MethodName := ⟨"java/lang/String", "<init>", "([CIILjava/lang/Void;)V"⟩
abbrev yB : ByteArray := jdk_42_method_149_code
theorem d0 : decode yB 0 = .ok (.aload_n 0, 1) := by decide +kernel
theorem d1 : decode yB 1 = .ok (.invokespecial 1, 3) := by decide +kernel
theorem d4 : decode yB 4 = .ok (.iload_n 3, 1) := by decide +kernel
theorem d5 : decode yB 5 = .ok (.ifCond (.ne) 22, 3) := by decide +kernel
theorem d27 : decode yB 27 = .ok (.getstatic 38, 3) := by decide +kernel
theorem d30 : decode yB 30 = .ok (.ifCond (.eq) 28, 3) := by decide +kernel
theorem d33 : decode yB 33 = .ok (.aload_n 1, 1) := by decide +kernel
theorem d34 : decode yB 34 = .ok (.iload_n 2, 1) := by decide +kernel
theorem d35 : decode yB 35 = .ok (.iload_n 3, 1) := by decide +kernel
theorem d36 : decode yB 36 = .ok (.invokestatic 177, 3) := by decide +kernel
theorem d39 : decode yB 39 = .ok (.astore 5, 2) := by decide +kernel
theorem d41 : decode yB 41 = .ok (.aload_n 0, 1) := by decide +kernel
theorem d42 : decode yB 42 = .ok (.aload 5, 2) := by decide +kernel
theorem d44 : decode yB 44 = .ok (.iload_n 3, 1) := by decide +kernel
theorem d45 : decode yB 45 = .ok (.invokestatic 47, 3) := by decide +kernel
theorem d48 : decode yB 48 = .ok (.putfield 15, 3) := by decide +kernel
theorem d51 : decode yB 51 = .ok (.aload_n 0, 1) := by decide +kernel
theorem d52 : decode yB 52 = .ok (.aload 5, 2) := by decide +kernel
theorem d54 : decode yB 54 = .ok (.putfield 9, 3) := by decide +kernel
theorem d57 : decode yB 57 = .ok (.return_, 1) := by decide +kernel
def site : List Cond := [.fieldLink "java/lang/String" 38 "java/lang/String" "COMPACT_STRINGS" "Z", Cmp3.tab, CodL.tab, .laysFinal "java/lang/String" "java/lang/String" "value" "[B", .fieldLink "java/lang/String" 9 "java/lang/String" "value" "[B", .laysFinal "java/lang/String" "java/lang/String" "coder" "B", .fieldLink "java/lang/String" 15 "java/lang/String" "coder" "B"] ++ objW "java/lang/String" 1 ++ staticW "java/lang/String" 177 Cmp3.yN ++ staticW "java/lang/String" 47 CodL.yN
def tab : Cond := tabOf yN yB 6 none site
def P (a : Addr) (D : Cell) (fV fC : Field) (b : Addr) (A : Cell) (z : Int32) (o len : Nat) (args : Array Value) (s : State) : Prop := args = #[.ref a, .ref b, .int (Int32.ofNat o), .int (Int32.ofNat len), .null] ∧ Blank "java/lang/String" a D s ∧ Found "java/lang/String" "value" "[B" fV s ∧ Found "java/lang/String" "coder" "B" fC s ∧ Ch b A s ∧ StaticIs s "java/lang/String" "COMPACT_STRINGS" "Z" (.int z) ∧ ¬ z = 0 ∧ 0 < len ∧ o + len ≤ A.slots.size ∧ len ≤ 536870912 ∧ ∀ i, i < len → ¬ 255 < cv A (o + i)
def E (a : Addr) (D : Cell) (fV fC : Field) (A : Cell) (o len : Nat) (r : Option Value) (s u : State) : Prop := Got a D fV fC A o len r s u
/-- len > 0, no char of the range above 255: a Latin-1 String of their low bytes -/
theorem law (l : Launch) (a : Addr) (D : Cell) (fV fC : Field) (b : Addr) (A : Cell) (z : Int32) (o len : Nat) : Law l yN 5 4 2 35 yB 6 none site (P a D fV fC b A z o len) (E a D fV fC A o len) [⟨a, fC.slot⟩, ⟨a, fV.slot⟩] 1 len := by
  refine Law.of_walk (plainFor_of_name (by decide +kernel)) (by decide +kernel) (by decide +kernel) (by decide) (fun _ _ h => by rw [h.1]; rfl) (fun _ U U' hal hh h => ⟨h.1, h.2.1.mv hal hh, h.2.2.1.al hal, h.2.2.2.1.al hal, h.2.2.2.2.1.mv hal hh, h.2.2.2.2.2.1.there hal hh, h.2.2.2.2.2.2⟩) (fun r U U' V V' h1 hal h2 h => Got.mv r U U' V V' h1 hal h2 h) ?_
  intro p e s m args below meth c s₁ X0 hexec hbytes hml hret hlk hnm hown hh0 W hP
  obtain ⟨rfl, hB, f1, f2, hA, s1, hz, l0, l1, l2, hp⟩ := hP
  have a31 := hA.1.2.2.2
  have c1 : Steps p.tables e below (s₁.setTop (entryFrame m #[.ref a, .ref b, .int (Int32.ofNat o), .int (Int32.ofNat len), .null] 6)) (s₁.setTop (mkF m 0 #[.val (.ref a), .val (.ref b), .val (.int (Int32.ofNat o)), .val (.int (Int32.ofNat len)), .val .null, .unset] [])) := entry rfl
  have c2 : Steps p.tables e below (s₁.setTop (entryFrame m #[.ref a, .ref b, .int (Int32.ofNat o), .int (Int32.ofNat len), .null] 6)) (s₁.setTop (mkF m 1 #[.val (.ref a), .val (.ref b), .val (.int (Int32.ofNat o)), .val (.int (Int32.ofNat len)), .val .null, .unset] [.ref a])) := c1.trans (by
    refine XS.aloadN X0.here hexec rfl (hb hbytes d0) rfl rfl ?_
    exact Steps.refl _)
  obtain ⟨T3, X3, q3, st3⟩ := X0.oinit hexec hown (wks W (objW "java/lang/String" 1)) (g := (mkF m 1 #[.val (.ref a), .val (.ref b), .val (.int (Int32.ofNat o)), .val (.int (Int32.ofNat len)), .val .null, .unset] [.ref a])) rfl (by rw [hml]; rfl) (rest := []) rfl (hb hbytes d1) (W := 0) (by show 2 * 0 + 0 ≤ _; decide) (Nat.le_of_ble_eq_true rfl) (Nat.le_of_ble_eq_true rfl)
  have hh3 := q3.trans hh0
  have c4 : Steps p.tables e below (s₁.setTop (entryFrame m #[.ref a, .ref b, .int (Int32.ofNat o), .int (Int32.ofNat len), .null] 6)) (T3.setTop (mkF m 27 #[.val (.ref a), .val (.ref b), .val (.int (Int32.ofNat o)), .val (.int (Int32.ofNat len)), .val .null, .unset] [])) := (c2.trans (st3 _ (Steps.refl _))).trans (by
    refine XS.iloadN X3.here hexec rfl (hb hbytes d4) rfl ?_
    refine XS.ifYes X3.here hexec rfl (pc0 := 5) rfl (hb hbytes d5) rfl (i0_ne_t (nz32 (by omega) l0)) (by decide) rfl ?_
    exact Steps.refl _)
  obtain ⟨T5, X5, q5, st5⟩ := X3.sget hexec hown (wk W (.fieldLink "java/lang/String" 38 "java/lang/String" "COMPACT_STRINGS" "Z")) s1 (fun _ _ h => by rw [hh3]; exact h) (g := (mkF m 27 #[.val (.ref a), .val (.ref b), .val (.int (Int32.ofNat o)), .val (.int (Int32.ofNat len)), .val .null, .unset] [])) rfl (hb hbytes d27)
  have hh5 := q5.trans hh3
  have c6 : Steps p.tables e below (s₁.setTop (entryFrame m #[.ref a, .ref b, .int (Int32.ofNat o), .int (Int32.ofNat len), .null] 6)) (T5.setTop (mkF m 30 #[.val (.ref a), .val (.ref b), .val (.int (Int32.ofNat o)), .val (.int (Int32.ofNat len)), .val .null, .unset] [.int z])) := c4.trans (st5 _ (Steps.refl _))
  have c7 : Steps p.tables e below (s₁.setTop (entryFrame m #[.ref a, .ref b, .int (Int32.ofNat o), .int (Int32.ofNat len), .null] 6)) (T5.setTop (mkF m 36 #[.val (.ref a), .val (.ref b), .val (.int (Int32.ofNat o)), .val (.int (Int32.ofNat len)), .val .null, .unset] [.int (Int32.ofNat len), .int (Int32.ofNat o), .ref b])) := c6.trans (by
    refine XS.ifNo X5.here hexec rfl (hb hbytes d30) rfl (i0_eq_f hz) ?_
    refine XS.aloadN X5.here hexec rfl (hb hbytes d33) rfl rfl ?_
    refine XS.iloadN X5.here hexec rfl (hb hbytes d34) rfl ?_
    refine XS.iloadN X5.here hexec rfl (hb hbytes d35) rfl ?_
    exact Steps.refl _)
  obtain ⟨v8, T8, X8, E8, g8⟩ := X5.callS hexec (Cmp3.law l b A o len) hown (wks W (staticW "java/lang/String" 177 Cmp3.yN)) (wk W Cmp3.tab) (W := 0) (Nat.le_of_ble_eq_true rfl) (Nat.le_of_ble_eq_true rfl) (Nat.le_refl _) (by show 0 + len ≤ len; omega) (g := (mkF m 36 #[.val (.ref a), .val (.ref b), .val (.int (Int32.ofNat o)), .val (.int (Int32.ofNat len)), .val .null, .unset] [.int (Int32.ofNat len), .int (Int32.ofNat o), .ref b])) rfl (by rw [hml]; rfl) c7 (argsL := [.ref b, .int (Int32.ofNat o), .int (Int32.ofNat len)]) (rest := []) rfl rfl (by show 2 * 0 + 0 ≤ _; decide) (hb hbytes d36) (⟨rfl, hA.mv X5.warmed.alike hh5, l1, l2, hp⟩)
  obtain ⟨e8, z8⟩ := E8
  obtain ⟨rfl, N, n1, n2, n3, n4, n5, n6⟩ := NewArr.mv _ T5 s _ _ hh5.symm (Vm.Alike.refl _) rfl e8
  rw [hh5] at z8
  have hB1 := hB.keep X8.warmed.alike (n6 _ _ hB.1)
  have hne : s.heap.size ≠ a := (Nat.ne_of_lt (Array.getElem?_eq_some_iff.mp hB.1).1).symm
  have c9 : Steps p.tables e below (s₁.setTop (entryFrame m #[.ref a, .ref b, .int (Int32.ofNat o), .int (Int32.ofNat len), .null] 6)) (T8.setTop (mkF m 39 #[.val (.ref a), .val (.ref b), .val (.int (Int32.ofNat o)), .val (.int (Int32.ofNat len)), .val .null, .unset] [.ref s.heap.size])) := g8
  have c10 : Steps p.tables e below (s₁.setTop (entryFrame m #[.ref a, .ref b, .int (Int32.ofNat o), .int (Int32.ofNat len), .null] 6)) (T8.setTop (mkF m 45 #[.val (.ref a), .val (.ref b), .val (.int (Int32.ofNat o)), .val (.int (Int32.ofNat len)), .val .null, .val (.ref s.heap.size)] [.int (Int32.ofNat N.slots.size), .ref s.heap.size, .ref a])) := by
    have hc : Steps p.tables e below (s₁.setTop (entryFrame m #[.ref a, .ref b, .int (Int32.ofNat o), .int (Int32.ofNat len), .null] 6)) (T8.setTop (mkF m 45 #[.val (.ref a), .val (.ref b), .val (.int (Int32.ofNat o)), .val (.int (Int32.ofNat len)), .val .null, .val (.ref s.heap.size)] [.int (Int32.ofNat len), .ref s.heap.size, .ref a])) := c9.trans (by
      refine XS.astore X8.here hexec rfl (hb hbytes d39) rfl rfl rfl ?_
      refine XS.aloadN X8.here hexec rfl (hb hbytes d41) rfl rfl ?_
      refine XS.aload X8.here hexec rfl (hb hbytes d42) rfl rfl ?_
      refine XS.iloadN X8.here hexec rfl (hb hbytes d44) rfl ?_
      exact Steps.refl _)
    rw [n4]; exact hc
  obtain ⟨v11, T11, X11, E11, g11⟩ := X8.callS hexec (CodL.law l s.heap.size N) hown (wks W (staticW "java/lang/String" 47 CodL.yN)) (wk W CodL.tab) (W := 1) (Nat.le_of_ble_eq_true rfl) (Nat.le_of_ble_eq_true rfl) (Nat.le_refl _) (by show 0 + len + 0 ≤ len; omega) (g := (mkF m 45 #[.val (.ref a), .val (.ref b), .val (.int (Int32.ofNat o)), .val (.int (Int32.ofNat len)), .val .null, .val (.ref s.heap.size)] [.int (Int32.ofNat N.slots.size), .ref s.heap.size, .ref a])) rfl (by rw [hml]; rfl) c10 (argsL := [.ref s.heap.size, .int (Int32.ofNat N.slots.size)]) (rest := [.ref a]) rfl rfl (by show 2 * 0 + (1 + 0) ≤ _; decide) (hb hbytes d45) (⟨rfl, n1⟩)
  obtain ⟨rfl, q11⟩ := E11
  have hB11 := hB1.mv (X8.warmed.alike.symm.trans X11.warmed.alike) q11
  have c12 : Steps p.tables e below (s₁.setTop (entryFrame m #[.ref a, .ref b, .int (Int32.ofNat o), .int (Int32.ofNat len), .null] 6)) (T11.setTop (mkF m 48 #[.val (.ref a), .val (.ref b), .val (.int (Int32.ofNat o)), .val (.int (Int32.ofNat len)), .val .null, .val (.ref s.heap.size)] [.int 0, .ref a])) := g11
  obtain ⟨T13, X13, p13, bl13, sl13, st13⟩ := X11.finit hexec hown (wk W (.fieldLink "java/lang/String" 15 "java/lang/String" "coder" "B")) (Or.inr ⟨_, (wk W (.laysFinal "java/lang/String" "java/lang/String" "coder" "B"))⟩) (Or.inl ⟨rfl, hnm⟩) f2 (Or.inl rfl) hB11 (t := .byte) (by decide +kernel) rfl (g := (mkF m 48 #[.val (.ref a), .val (.ref b), .val (.int (Int32.ofNat o)), .val (.int (Int32.ofNat len)), .val .null, .val (.ref s.heap.size)] [.int 0, .ref a])) rfl (rest := []) rfl (hb hbytes d48)
  have c14 : Steps p.tables e below (s₁.setTop (entryFrame m #[.ref a, .ref b, .int (Int32.ofNat o), .int (Int32.ofNat len), .null] 6)) (T13.setTop (mkF m 54 #[.val (.ref a), .val (.ref b), .val (.int (Int32.ofNat o)), .val (.int (Int32.ofNat len)), .val .null, .val (.ref s.heap.size)] [.ref s.heap.size, .ref a])) := (c12.trans (st13 _ (Steps.refl _))).trans (by
    refine XS.aloadN X13.here hexec rfl (hb hbytes d51) rfl rfl ?_
    refine XS.aload X13.here hexec rfl (hb hbytes d52) rfl rfl ?_
    exact Steps.refl _)
  obtain ⟨T15, X15, p15, bl15, sl15, st15⟩ := X13.finit hexec hown (wk W (.fieldLink "java/lang/String" 9 "java/lang/String" "value" "[B")) (Or.inr ⟨_, (wk W (.laysFinal "java/lang/String" "java/lang/String" "value" "[B"))⟩) (Or.inl ⟨rfl, hnm⟩) f1 (Or.inl rfl) bl13 (t := (.array .byte)) (by decide +kernel) rfl (g := (mkF m 54 #[.val (.ref a), .val (.ref b), .val (.int (Int32.ofNat o)), .val (.int (Int32.ofNat len)), .val .null, .val (.ref s.heap.size)] [.ref s.heap.size, .ref a])) rfl (rest := []) rfl (hb hbytes d54)
  have c16 : Steps p.tables e below (s₁.setTop (entryFrame m #[.ref a, .ref b, .int (Int32.ofNat o), .int (Int32.ofNat len), .null] 6)) (T15.setTop (mkF m 57 #[.val (.ref a), .val (.ref b), .val (.int (Int32.ofNat o)), .val (.int (Int32.ofNat len)), .val .null, .val (.ref s.heap.size)] [])) := c14.trans (st15 _ (Steps.refl _))
  have ap := apart (Or.inr ⟨_, (wk W (.laysFinal "java/lang/String" "java/lang/String" "value" "[B"))⟩) (Or.inr ⟨_, (wk W (.laysFinal "java/lang/String" "java/lang/String" "coder" "B"))⟩) f1 f2 (t₁ := .array .byte) (t₂ := .byte) (by decide +kernel) (by decide +kernel) (by decide)
  have al := X8.warmed.alike.symm.trans X15.warmed.alike
  have n7 : T11.heap[s.heap.size]? = some N := by rw [q11]; exact n1.1
  exact ⟨T15, none, _, _, _, X15, by simp, rfl, by omega, (fun _ => rfl), ⟨rfl, _, N, bl15, ((Same.refl D _).set _ (by simp)).set _ (by simp), sl15, (Cell.slots_setSlot_ne _ ap).trans sl13, n1.keep al (p15.other hne (p13.other hne n7)), n2, by rw [al.findClass]; exact n3, n4, n5, fun y c h1 h2 => p15.other h1 (p13.other h1 (by rw [q11]; exact n6 y c h2)), by rw [p15.2.2, p13.2.2, q11]; exact z8⟩, fun fs hl => c16.trans (X15.returnOut hexec hret (hb hbytes d57) hl)⟩
end New4
namespace New1
def yN : MethodName := ⟨"java/lang/String", "<init>", "([C)V"⟩
abbrev yB : ByteArray := jdk_42_method_3_code
theorem d0 : decode yB 0 = .ok (.aload_n 0, 1) := by decide +kernel
theorem d1 : decode yB 1 = .ok (.aload_n 1, 1) := by decide +kernel
theorem d2 : decode yB 2 = .ok (.iconst 0, 1) := by decide +kernel
theorem d3 : decode yB 3 = .ok (.aload_n 1, 1) := by decide +kernel
theorem d4 : decode yB 4 = .ok (.arraylength, 1) := by decide +kernel
theorem d5 : decode yB 5 = .ok (.aconst_null, 1) := by decide +kernel
theorem d6 : decode yB 6 = .ok (.invokespecial 27, 3) := by decide +kernel
theorem d9 : decode yB 9 = .ok (.return_, 1) := by decide +kernel
def site : List Cond := [New4.tab] ++ initW "java/lang/String" 27 New4.yN
def tab : Cond := tabOf yN yB 2 none site
def P (a : Addr) (D : Cell) (fV fC : Field) (b : Addr) (A : Cell) (z : Int32) (args : Array Value) (s : State) : Prop := args = #[.ref a, .ref b] ∧ Blank "java/lang/String" a D s ∧ Found "java/lang/String" "value" "[B" fV s ∧ Found "java/lang/String" "coder" "B" fC s ∧ Ch b A s ∧ StaticIs s "java/lang/String" "COMPACT_STRINGS" "Z" (.int z) ∧ ¬ z = 0 ∧ 0 < A.slots.size ∧ A.slots.size ≤ 536870912 ∧ ∀ i, i < A.slots.size → ¬ 255 < cv A i
def E (a : Addr) (D : Cell) (fV fC : Field) (A : Cell) (r : Option Value) (s u : State) : Prop := Got a D fV fC A 0 A.slots.size r s u
/-- new String(chars), not empty, no char above 255: a Latin-1 String of their low bytes -/
theorem law (l : Launch) (a : Addr) (D : Cell) (fV fC : Field) (b : Addr) (A : Cell) (z : Int32) : Law l yN 2 1 3 52 yB 2 none site (P a D fV fC b A z) (E a D fV fC A) [⟨a, fC.slot⟩, ⟨a, fV.slot⟩] 1 A.slots.size := by
  refine Law.of_walk (plainFor_of_name (by decide +kernel)) (by decide +kernel) (by decide +kernel) (by decide) (fun _ _ h => by rw [h.1]; rfl) (fun _ U U' hal hh h => ⟨h.1, h.2.1.mv hal hh, h.2.2.1.al hal, h.2.2.2.1.al hal, h.2.2.2.2.1.mv hal hh, h.2.2.2.2.2.1.there hal hh, h.2.2.2.2.2.2⟩) (fun r U U' V V' h1 hal h2 h => Got.mv r U U' V V' h1 hal h2 h) ?_
  intro p e s m args below meth c s₁ X0 hexec hbytes hml hret hlk hnm hown hh0 W hP
  obtain ⟨rfl, hB, f1, f2, hA, s1, hz, l0, l2, hp⟩ := hP
  have c1 : Steps p.tables e below (s₁.setTop (entryFrame m #[.ref a, .ref b] 2)) (s₁.setTop (mkF m 0 #[.val (.ref a), .val (.ref b)] [])) := entry rfl
  have c2 : Steps p.tables e below (s₁.setTop (entryFrame m #[.ref a, .ref b] 2)) (s₁.setTop (mkF m 6 #[.val (.ref a), .val (.ref b)] [.null, .int (Int32.ofNat A.slots.size), .int 0, .ref b, .ref a])) := c1.trans (by
    refine XS.aloadN X0.here hexec rfl (hb hbytes d0) rfl rfl ?_
    refine XS.aloadN X0.here hexec rfl (hb hbytes d1) rfl rfl ?_
    refine iconstV X0.here hexec rfl 0 (hb hbytes d2) (by decide) ?_
    refine XS.aloadN X0.here hexec rfl (hb hbytes d3) rfl rfl ?_
    refine X0.alen hexec (hA.1.mv X0.warmed.alike hh0) rfl rfl (hb hbytes d4) ?_
    refine XS.aconstNull X0.here hexec rfl (hb hbytes d5) ?_
    exact Steps.refl _)
  obtain ⟨v3, T3, X3, E3, g3⟩ := X0.callN hexec (New4.law l a D fV fC b A z 0 A.slots.size) rfl hown (wks W (initW "java/lang/String" 27 New4.yN)) (W New4.tab (by simp only [site, List.mem_cons, List.mem_append, true_or, or_true])) (W := 0) (Nat.le_of_ble_eq_true rfl) (Nat.le_of_ble_eq_true rfl) (Nat.le_refl _) (by show 0 + A.slots.size ≤ A.slots.size; omega) (g := (mkF m 6 #[.val (.ref a), .val (.ref b)] [.null, .int (Int32.ofNat A.slots.size), .int (Int32.ofNat 0), .ref b, .ref a])) rfl (by rw [hml]; rfl) c2 (argsL := [.ref b, .int (Int32.ofNat 0), .int (Int32.ofNat A.slots.size), .null]) (rest := []) rfl rfl (by show 2 * 0 + 0 ≤ _; decide) (hb hbytes d6) (⟨rfl, hB.mv X0.warmed.alike hh0, f1.al X0.warmed.alike, f2.al X0.warmed.alike, hA.mv X0.warmed.alike hh0, s1.there X0.warmed.alike hh0, hz, l0, by omega, l2, fun i hi => by rw [Nat.zero_add]; exact hp i hi⟩)
  have e0 := Got.mv _ s₁ s _ _ hh0.symm (Vm.Alike.refl _) rfl E3
  obtain rfl := e0.1
  have c4 : Steps p.tables e below (s₁.setTop (entryFrame m #[.ref a, .ref b] 2)) (T3.setTop (mkF m 9 #[.val (.ref a), .val (.ref b)] [])) := g3
  exact ⟨T3, none, _, _, _, X3, by simp, rfl, by omega, (fun _ => rfl), e0, fun fs hl => c4.trans (X3.returnOut hexec hret (hb hbytes d9) hl)⟩
theorem pays {l : Launch} {R : Room} {p : Program} {e : Env} {below : List Frame} {s : State} {sargs : Array Value} {len W : Nat} (a : Addr) (D : Cell) (fV fC : Field) (b : Addr) (A : Cell) (z : Int32) (htab : tab.before sargs s = true) (hfr : 4 ≤ R.frames) (hlo : W + 65 ≤ R.locals) :
    Back l R p e below s sargs yN len W (fun A₁ a₁ => A₁.cells + 1 ≤ R.cells ∧ A₁.slots + A.slots.size ≤ R.slots ∧ P a D fV fC b A z a₁ A₁.U) (fun A₁ _ v₁ B₁ => E a D fV fC A v₁ A₁.U B₁.U ∧ B₁.locs = A₁.locs ++ [⟨a, fC.slot⟩, ⟨a, fV.slot⟩] ∧ B₁.cells = A₁.cells + 1 ∧ B₁.slots = A₁.slots + A.slots.size) :=
  (law l a D fV fC b A z).pays htab hfr (by omega)
end New1
end StrChars
namespace StrChars.Road
open Jvm Sem ClassFile Op Lib Jvm.Stand Jvm.Free Jvm.Free.XT
open Jvm.Lib.Cold (StaticIs)
abbrev ST : String := "java/lang/String"
/-- every table word that New1's law asks, flat -/
abbrev words : List Jvm.Cond := [.code New1.yN New1.yB 2 none, .initialized ST, .methodLink ST 27 New4.yN, .instanceMethod New4.yN,
  .code New4.yN New4.yB 6 none, .fieldLink ST 38 ST "COMPACT_STRINGS" "Z", .laysFinal ST ST "value" "[B", .fieldLink ST 9 ST "value" "[B", .laysFinal ST ST "coder" "B", .fieldLink ST 15 ST "coder" "B",
  .methodLink ST 1 Lib.objectInit, .instanceMethod Lib.objectInit, .code Lib.objectInit ⟨#[0xb1]⟩ 1 none, .methodLink ST 177 Cmp3.yN, .static Cmp3.yN, .methodLink ST 47 CodL.yN, .static CodL.yN,
  .code Cmp3.yN Cmp3.yB 6 (some (.array .byte)), .initialized U16, .arrayClass .byte, .methodLink U16 115 Cmp5.yN, .static Cmp5.yN, .code Cmp5.yN Cmp5.yB 7 (some .int), .code CodL.yN CodL.yB 2 (some .byte)]
theorem tab_of {a : Array Value} {s : State} (h : ∀ w ∈ words, w.before a s = true) : New1.tab.before a s = true := by
  have h5 : Cmp5.tab.before a s = true := unparts (wk h (.code Cmp5.yN Cmp5.yB 7 (some .int))) (wks h (.initialized Cmp5.yN.cls :: Cmp5.site))
  have hc : CodL.tab.before a s = true := unparts (wk h (.code CodL.yN CodL.yB 2 (some .byte))) (wks h (.initialized CodL.yN.cls :: CodL.site))
  have q5 : ∀ w ∈ Cmp5.tab :: words, w.before a s = true := fun w hw => (List.mem_cons.mp hw).elim (fun e => e ▸ h5) (h w)
  have h3 : Cmp3.tab.before a s = true := unparts (wk q5 (.code Cmp3.yN Cmp3.yB 6 (some (.array .byte)))) (wks q5 (.initialized Cmp3.yN.cls :: Cmp3.site))
  have q3 : ∀ w ∈ Cmp3.tab :: CodL.tab :: words, w.before a s = true := fun w hw => (List.mem_cons.mp hw).elim (fun e => e ▸ h3) fun hw => (List.mem_cons.mp hw).elim (fun e => e ▸ hc) (h w)
  have h4 : New4.tab.before a s = true := unparts (wk q3 (.code New4.yN New4.yB 6 none)) (wks q3 (.initialized New4.yN.cls :: New4.site))
  have q4 : ∀ w ∈ New4.tab :: words, w.before a s = true := fun w hw => (List.mem_cons.mp hw).elim (fun e => e ▸ h4) (h w)
  exact unparts (wk q4 (.code New1.yN New1.yB 2 none)) (wks q4 (.initialized New1.yN.cls :: New1.site))
/-- the words ride from the start Z to the walk's own state -/
theorem moved {Z s : State} {a0 args : Array Value} (hZ : Z.Warmed39 s.vm) (hw : ∀ d ∈ words, d.before a0 Z = true) : ∀ d ∈ words, d.before args s = true := fun d hd => by
  have q := hw d hd
  have t : ∀ d ∈ words, d = .arrayClass .byte ∨ (d.onTables && d.keepsFace) = true := by decide +kernel
  rcases t d hd with rfl | t
  · exact RoadKit.mvA hZ q
  · exact RoadKit.mv hZ q t
/-- WHAT COMES BACK, over the tables of the start Z: h the heap at the call, h' behind it -/
def Q (Z : State) (x : Addr) (A : Cell) (h : Heap) (v : Option Value) (h' : Heap) (L : List Loc) : Prop := v = none ∧ (∀ y ∈ L, y.base = x) ∧ RoadKit.Keep h h' [x] ∧ h'.size = h.size + 1 ∧ RoadKit.Exa Z h' x ST ∧ RoadKit.Fld Z h' x ST "value" "[B" (.ref h.size) ∧ RoadKit.Fld Z h' x ST "coder" "B" (.int 0) ∧
  (∃ V : Cell, RoadKit.Arr Z h' h.size V .byte ∧ V.vm = .none ∧ Z.vm.findClass "[B" = some V.cls ∧ V.slots.size = A.slots.size ∧ ∀ j, j < A.slots.size → V.slots[j]? = some (.int (lo8 (cv A j)))) ∧
  ∀ (O n d : String) (w : Value), RoadKit.Fld Z h x O n d w → RoadKit.slotOf Z O n d ≠ RoadKit.slotOf Z ST "value" "[B" → RoadKit.slotOf Z O n d ≠ RoadKit.slotOf Z ST "coder" "B" → RoadKit.Fld Z h' x O n d w
/-- **new String(chars) AT A CALL, IN THE ROAD'S FORM**: for specialBack behind newO: x the fresh String, b the char[] with the cell A -/
theorem back {p : Program} {l : Launch} {e : Env} {R : Room} {s : State} {args : Array Value} {below : List Frame} {len W : Nat} {Z : State} {a0 : Array Value} {h : Heap} (hZ : Z.Warmed39 s.vm) (hw : ∀ d ∈ words, d.before a0 Z = true) {kI : Nat} (wi : (Jvm.Cond.instantiable ST kI).before a0 Z = true)
    {x b : Addr} {A : Cell} {z : Int32} {v0 c0 : Value} (E : RoadKit.Exa Z h x ST) (V : RoadKit.Fld Z h x ST "value" "[B" v0) (C : RoadKit.Fld Z h x ST "coder" "B" c0) (K : RoadKit.Arr Z h b A .char) (hty : Typed .char A) (S : RoadKit.Sta Z h ST "COMPACT_STRINGS" "Z" (.int z)) (hz : ¬ z = 0)
    (l0 : 0 < A.slots.size) (l2 : A.slots.size ≤ 536870912) (hp : ∀ i, i < A.slots.size → ¬ 255 < cv A i) (hfr : 4 ≤ R.frames) (hlo : W + 65 ≤ R.locals) :
    Back l R p e below s args New1.yN len W (fun P a => a = #[.ref x, .ref b] ∧ P.U.heap = h ∧ P.cells + 1 ≤ R.cells ∧ P.slots + A.slots.size ≤ R.slots)
      (fun P _ v B => ∃ L, Q Z x A h v B.U.heap L ∧ B.locs = P.locs ++ L ∧ B.cells = P.cells + 1 ∧ B.slots = P.slots + A.slots.size) := by
  intro m meth c P g ig mk a X hg hsize hdg hW hn hp'
  obtain ⟨rfl, rfl, r1, r2⟩ := hp'
  have al : Z.vm.Alike P.U.vm := hZ.alike.trans X.warmed.alike
  obtain ⟨D, cfV, kV, iV, fV, hD, gV, stV, knV, obV, asV, slV⟩ := id V
  obtain ⟨D', cfC, kC, iC, fC, hD', gC, stC, -, -, asC, slC⟩ := id C
  cases hD.symm.trans hD'
  obtain ⟨D2, kD, e1, e2, e3, e4, e5⟩ := id E
  cases hD.symm.trans e1
  obtain ⟨c2, k2, i1, i2, i3, -⟩ := Cond.instantiable_spec wi
  cases e2.symm.trans i1
  cases e3.symm.trans i2
  obtain ⟨kU, u1, u2⟩ := al.2.2 _ _ e3
  have hB : Blank ST x D P.U := ⟨hD, ⟨knV, fun q hq => by rw [hq] at obV; cases obV⟩, by rw [al.findClass]; exact e2, kU, u1, by rw [u2]; exact i3, by rw [u2]; exact e5 i3⟩
  have F1 : Found ST "value" "[B" fV P.U := ⟨SBG.found_only al ⟨cfV, kV, iV, gV⟩, stV⟩
  have F2 : Found ST "coder" "B" fC P.U := ⟨SBG.found_only al ⟨cfC, kC, iC, gC⟩, stC⟩
  have hA : Ch b A P.U := ⟨⟨K.1, State.isArrayOf_alike al K.2.1, K.2.2, by omega⟩, hty⟩
  have hS : StaticIs P.U ST "COMPACT_STRINGS" "Z" (.int z) := by
    obtain ⟨cfS, iS, kS, fS, st, cS, t1, t2, t3, t4, t5, t6, t7⟩ := S
    exact StaticIs.there (s := { Z with heap := P.U.heap }) ⟨cfS, iS, kS, fS, st, cS, t1, t2, t3, t4, t5, (fun q => by rw [q] at t6; cases t6), t7⟩ al rfl
  obtain ⟨v, B, X', ⟨⟨hv, E', V', q1, q2, q3, q4, q5, q6, q7, q8, q9, q10, q11⟩, hl, hc, hs⟩, st⟩ := New1.pays x D fV fC b A z (tab_of (moved hZ hw)) hfr hlo m meth c P g ig mk _ X hg hsize hdg hW hn ⟨r1, r2, rfl, hB, F1, F2, hA, hS, hz, l0, l2, hp⟩
  have al' : Z.vm.Alike B.U.vm := hZ.alike.trans X'.warmed.alike
  have hsz : E'.slots.size = D.slots.size := by
    obtain ⟨-, -, -, kB, w1, w2, w3⟩ := q1
    obtain ⟨kB', y1, y2⟩ := al'.2.2 _ _ e3
    rw [q2.2.1] at w1
    cases w1.symm.trans y1
    rw [w3, e5 i3, y2]
  refine ⟨v, B, X', ⟨_, ⟨hv, ?_, ⟨by omega, fun y cy hy hn' => q10 y cy (by simpa using hn') hy, fun y cy hy => ?_⟩, q11, ⟨E', _, q1.1, by rw [q2.2.1]; exact e2, by rw [q2.2.1]; exact e3, by rw [q2.1]; exact obV, fun _ => by rw [hsz]; exact e5 i3⟩,
    ⟨E', cfV, kV, iV, fV, q1.1, gV, stV, by rw [q2.1]; exact knV, by rw [q2.1]; exact obV, by rw [q2.2.1]; exact asV, q3⟩, ⟨E', cfC, kC, iC, fC, q1.1, gC, stC, by rw [q2.1]; exact knV, by rw [q2.1]; exact obV, by rw [q2.2.1]; exact asC, q4⟩,
    ⟨V', ⟨q5.1, State.isArrayOf_alike al'.symm q5.2.1, q5.2.2.1⟩, q6, by rw [← al'.findClass]; exact q7, q8, fun j hj => by have := q9 j hj; rwa [Nat.zero_add] at this⟩, fun O n d w F n1 n2 => ?_⟩, hl, hc, hs⟩, st⟩
  · intro y hy
    simp only [List.mem_cons, List.not_mem_nil, or_false] at hy
    rcases hy with rfl | rfl <;> rfl
  · by_cases q : y = x
    · subst q
      cases hD.symm.trans hy
      exact ⟨E', q1.1, q2.2.1, q2.1, hsz⟩
    · exact ⟨cy, q10 y cy q hy, rfl, rfl, rfl⟩
  · obtain ⟨D3, cf, k, i, f, g1, g2, g3, g4, g5, g6, g7⟩ := F
    cases hD.symm.trans g1
    simp only [RoadKit.slotOf, g2, gV, gC, Option.map_some, Option.getD_some] at n1 n2
    exact ⟨E', cf, k, i, f, q1.1, g2, g3, by rw [q2.1]; exact g4, by rw [q2.1]; exact g5, by rw [q2.2.1]; exact g6, by rw [q2.2.2 f.slot (by simp [n1, n2])]; exact g7⟩
end StrChars.Road
namespace StrChars.Road
open Jvm Sem ClassFile Op Lib Jvm.Stand Jvm.Free Jvm.Free.XT
/-- WHAT COMES BACK, the byte[] as a list of values -/
def QA (Z : State) (x : Addr) (zn : Int32) (cs : List Int32) (h : Heap) (v : Option Value) (h' : Heap) (L : List Loc) : Prop := v = none ∧ (∀ y ∈ L, y.base = x) ∧ RoadKit.Keep h h' [x] ∧ h'.size = h.size + 1 ∧ RoadKit.Exa Z h' x ST ∧ RoadKit.Fld Z h' x ST "value" "[B" (.ref h.size) ∧ RoadKit.Fld Z h' x ST "coder" "B" (.int 0) ∧
  (∃ kb, Z.vm.findClass "[B" = some kb ∧ RoadKit.Arv Z h' h.size kb .byte zn (cs.map fun c => .int (lo8 c)) (.int 0)) ∧
  ∀ (O n d : String) (w : Value), RoadKit.Fld Z h x O n d w → RoadKit.slotOf Z O n d ≠ RoadKit.slotOf Z ST "value" "[B" → RoadKit.slotOf Z O n d ≠ RoadKit.slotOf Z ST "coder" "B" → RoadKit.Fld Z h' x O n d w
/-- **new String(chars) AT A CALL, THE ARRAYS AS LISTS**: the char[] at b holds cs, not empty, no char above 255 -/
theorem backArv {p : Program} {l : Launch} {e : Env} {R : Room} {s : State} {args : Array Value} {below : List Frame} {len W : Nat} {Z : State} {a0 : Array Value} {h : Heap} (hZ : Z.Warmed39 s.vm) (hw : ∀ d ∈ words, d.before a0 Z = true) {kI : Nat} (wi : (Jvm.Cond.instantiable ST kI).before a0 Z = true)
    {x b : Addr} {k : ClassId} {zn z : Int32} {cs : List Int32} {dv v0 c0 : Value} (E : RoadKit.Exa Z h x ST) (V : RoadKit.Fld Z h x ST "value" "[B" v0) (C : RoadKit.Fld Z h x ST "coder" "B" c0) (K : RoadKit.Arv Z h b k .char zn (cs.map Value.int) dv) (S : RoadKit.Sta Z h ST "COMPACT_STRINGS" "Z" (.int z)) (hz : ¬ z = 0)
    (hlen : zn.toNatClampNeg = cs.length) (h0 : 0 < cs.length) (hbig : cs.length ≤ 536870912) (hall : ∀ c ∈ cs, ¬ 255 < c) (hfr : 4 ≤ R.frames) (hlo : W + 65 ≤ R.locals) :
    Back l R p e below s args New1.yN len W (fun P a => a = #[.ref x, .ref b] ∧ P.U.heap = h ∧ P.cells + 1 ≤ R.cells ∧ P.slots + cs.length ≤ R.slots)
      (fun P _ v B => ∃ L, QA Z x zn cs h v B.U.heap L ∧ B.locs = P.locs ++ L ∧ B.cells = P.cells + 1 ∧ B.slots = P.slots + cs.length) := by
  obtain ⟨A, K1, K2, K3, K4, K5, K6⟩ := K
  have e : A.slots.size = cs.length := K3.trans hlen
  have hat : ∀ (i : Nat) (hi : i < cs.length), A.slots[i]? = some (.int cs[i]) := fun i hi => by rw [K5 i (by omega)]; simp [List.getD_eq_getElem?_getD, hi]
  have hcv : ∀ (i : Nat) (hi : i < cs.length), cv A i = cs[i] := fun i hi => by unfold cv; rw [hat i hi]
  have hty : Typed .char A := fun i v hv => by
    have hi : i < A.slots.size := (Array.getElem?_eq_some_iff.mp hv).1
    have q := K5 i hi
    rw [hv] at q
    rw [Option.some.inj q]
    exact K6 i hi
  refine Back.mono (back hZ hw wi E V C K1 hty S hz (by omega) (by omega) (fun i hi => by rw [hcv i (by omega)]; exact hall _ (List.getElem_mem _)) hfr hlo) (fun P a hp => ⟨hp.1, hp.2.1, hp.2.2.1, by rw [e]; exact hp.2.2.2⟩) (fun P a v B hp hq => ?_)
  obtain ⟨L, ⟨q1, q2, q3, q4, q5, q6, q7, ⟨V', v1, v2, v3, v4, v5⟩, q9⟩, hl, hc, hs⟩ := hq
  refine ⟨L, ⟨q1, q2, q3, q4, q5, q6, q7, ⟨V'.cls, v3, V', v1, rfl, by rw [v4, e, hlen], K4, fun i hi => ?_, fun i hi => ?_⟩, q9⟩, hl, hc, by rw [hs, e]⟩
  · have hi' : i < cs.length := by omega
    rw [v5 i (by omega), hcv i hi']; simp [List.getD_eq_getElem?_getD, hi']
  · have hi' : i < cs.length := by omega
    simp only [List.getD_eq_getElem?_getD, List.getElem?_map, List.getElem?_eq_getElem hi', Option.map_some, Option.getD_some]
    exact fits_lo8 _
end StrChars.Road
namespace StrChars.Road
open Jvm Sem ClassFile Op Lib Jvm.Stand Jvm.Free Jvm.Free.XT
/-- WHAT COMES BACK, in the writer's own shape -/
def QV (Z : State) (x : Addr) (N : Int32) (bs : List Int32) (h : Heap) (n0 : Nat) (v : Option Value) (h' : Heap) (L : List Loc) : Prop := v = none ∧ RoadKit.Fr n0 L ∧ RoadKit.Keep h h' [x] ∧ RoadKit.Exa Z h' x ST ∧ RoadKit.Fld Z h' x ST "coder" "B" (.int 0) ∧
  ∃ (t : Addr) (kb : ClassId), n0 ≤ t ∧ h.size ≤ t ∧ ¬ t = x ∧ RoadKit.Fld Z h' x ST "value" "[B" (.ref t) ∧ RoadKit.Arv Z h' t kb .byte N (bs.map Value.int) (.int 0)
/-- **new String(chars) AT A CALL, FOR THE WRITER**: a char[] of n known ints, each 0 to 255 -/
theorem backV {p : Program} {l : Launch} {e : Env} {R : Room} {s : State} {args : Array Value} {below : List Frame} {len W : Nat} {Z : State} {a0 : Array Value} {h : Heap} (hZ : Z.Warmed39 s.vm) (hw : ∀ d ∈ words, d.before a0 Z = true) {kI : Nat} (wi : (Jvm.Cond.instantiable ST kI).before a0 Z = true)
    {x b : Addr} {kC : ClassId} {cs bs : List Int32} {d v0 c0 : Value} {z N : Int32} {n n0 : Nat} (hx0 : n0 ≤ x) (hh0 : n0 ≤ h.size) (E : RoadKit.Exa Z h x ST) (V : RoadKit.Fld Z h x ST "value" "[B" v0) (C : RoadKit.Fld Z h x ST "coder" "B" c0) (K : RoadKit.Arv Z h b kC .char N (cs.map Value.int) d) (S : RoadKit.Sta Z h ST "COMPACT_STRINGS" "Z" (.int z)) (hz : ¬ z = 0)
    (hn : cs.length = n) (hN : N = Int32.ofNat n) (l0 : 0 < n) (l2 : n ≤ 4000) (hp : ∀ c ∈ cs, ¬ c < 0 ∧ ¬ (255 : Int32) < c) (hb : bs = cs.map (fun c => c.toInt8.toInt32)) (hfr : 4 ≤ R.frames) (hlo : W + 65 ≤ R.locals) :
    Back l R p e below s args (⟨"java/lang/String", "<init>", "([C)V"⟩ : MethodName) len W (fun P a => a = #[.ref x, .ref b] ∧ P.U.heap = h ∧ P.cells + 1 ≤ R.cells ∧ P.slots + n ≤ R.slots)
      (fun P _ v B => ∃ L, QV Z x N bs h n0 v B.U.heap L ∧ B.locs = P.locs ++ L ∧ B.cells = P.cells + 1 ∧ B.slots = P.slots + n) := by
  subst hn hN hb
  refine Back.mono (backArv hZ hw wi E V C K S hz (n32 (by omega)) l0 (by omega) (fun c hc => (hp c hc).2) hfr hlo) (fun P a hp => hp) (fun P a v B hp hq => ?_)
  obtain ⟨L, ⟨q1, q2, q3, q4, q5, q6, q7, ⟨kb, v1, v2⟩, q9⟩, hl, hc, hs⟩ := hq
  exact ⟨L, ⟨q1, fun y hy => by rw [q2 y hy]; exact hx0, q3, q5, q7, h.size, kb, hh0, Nat.le_refl _, Nat.ne_of_gt E.lt, q6, by rw [List.map_map]; exact v2⟩, hl, hc, hs⟩
end StrChars.Road
namespace StrChars
open Jvm Sem ClassFile Op Lib Jvm.Stand Jvm.Free.XT Jvm.Free.ALB Jvm.Free.JM Jvm.Free
open Jvm.Lib.Cold (StaticIs)
def hi8 (x : Int32) : Int32 := lo8 (x >>> ((8 : Int32) &&& 31))
/-- what StringUTF16.getChar makes of two bytes -/
def pairCh (u v : Int32) : Int32 := (((u &&& 255) <<< ((0 : Int32) &&& 31)) ||| ((v &&& 255) <<< ((8 : Int32) &&& 31))).toUInt32.toUInt16.toUInt32.toInt32
theorem shr0 (c : Int32) : c >>> ((0 : Int32) &&& 31) = c := by
  have e : ((0 : Int32) &&& 31) = 0 := by decide
  rw [e]
  apply Int32.toBitVec_inj.mp
  rw [Int32.toBitVec_shiftRight]
  have e1 : ((0 : Int32).toBitVec.smod 32) = 0#32 := by decide
  rw [e1, BitVec.sshiftRight_eq']
  exact BitVec.sshiftRight_zero
theorem lo8_and (x : Int32) : (lo8 x &&& 255).toBitVec.toNat = x.toBitVec.toNat % 256 := by
  have h : (lo8 x).toBitVec = (x.toBitVec.signExtend 8).signExtend 32 := by rw [lo8, Int8.toBitVec_toInt32, Int32.toBitVec_toInt8]
  rw [Int32.toBitVec_and, BitVec.toNat_and, h]
  have e : ((x.toBitVec.signExtend 8).signExtend 32).toNat % 256 = x.toBitVec.toNat % 256 := by
    rw [BitVec.toNat_signExtend]
    have hlt := x.toBitVec.isLt
    simp only [BitVec.toNat_setWidth, BitVec.toNat_signExtend]
    split <;> split <;> omega
  rw [← e]
  exact Nat.and_two_pow_sub_one_eq_mod _ 8
theorem pair_says {c : Int32} (h0 : ¬ c < 0) (h1 : ¬ 65535 < c) : pairCh (lo8 c) (hi8 c) = c := by
  rw [Int32.lt_iff_toInt_lt] at h0 h1
  have e0 : (0 : Int32).toInt = 0 := rfl
  have e1 : (65535 : Int32).toInt = 65535 := rfl
  have hc : c.toInt = c.toBitVec.toNat := by
    have := c.toBitVec.isLt
    have e : c.toInt = c.toBitVec.toInt := rfl
    rw [e] at h0 h1
    rw [e]
    rw [BitVec.toInt_eq_toNat_cond] at h0 h1 ⊢
    split at h0 <;> split <;> omega
  have hn : c.toBitVec.toNat < 65536 := by omega
  have a1 := lo8_and c
  have a2 : (hi8 c &&& 255).toBitVec.toNat = c.toBitVec.toNat / 256 := by
    rw [hi8, lo8_and]
    have e : ((8 : Int32) &&& 31) = 8 := by decide
    rw [e, Int32.toBitVec_shiftRight]
    have e2 : ((8 : Int32).toBitVec.smod 32) = 8#32 := by decide
    rw [e2, BitVec.sshiftRight_eq', BitVec.toNat_sshiftRight_of_msb_false (by rw [BitVec.msb_eq_false_iff_two_mul_lt]; omega)]
    show c.toBitVec.toNat >>> 8 % 256 = _
    rw [Nat.shiftRight_eq_div_pow]
    omega
  unfold pairCh
  apply Int32.toBitVec_inj.mp
  apply BitVec.eq_of_toNat_eq
  have f0 : ((0 : Int32) &&& 31) = 0 := by decide
  have f8 : ((8 : Int32) &&& 31) = 8 := by decide
  rw [f0, f8]
  have g : (((lo8 c &&& 255) <<< (0 : Int32)) ||| ((hi8 c &&& 255) <<< (8 : Int32))).toBitVec.toNat = c.toBitVec.toNat := by
    rw [Int32.toBitVec_or, Int32.toBitVec_shiftLeft, Int32.toBitVec_shiftLeft]
    have s0 : ((0 : Int32).toBitVec.smod 32) = 0#32 := by decide
    have s8 : ((8 : Int32).toBitVec.smod 32) = 8#32 := by decide
    rw [s0, s8, BitVec.toNat_or]
    simp only [BitVec.shiftLeft_eq', BitVec.toNat_shiftLeft, a1, a2]
    show (c.toBitVec.toNat % 256) <<< 0 % 2 ^ 32 ||| (c.toBitVec.toNat / 256) <<< 8 % 2 ^ 32 = _
    rw [Nat.shiftLeft_zero, Nat.mod_eq_of_lt (show c.toBitVec.toNat % 256 < 2 ^ 32 by omega), Nat.mod_eq_of_lt (show (c.toBitVec.toNat / 256) <<< 8 < 2 ^ 32 by rw [Nat.shiftLeft_eq]; omega), Nat.or_comm, ← Nat.shiftLeft_add_eq_or_of_lt (by omega), Nat.shiftLeft_eq]
    omega
  show BitVec.toNat (((((lo8 c &&& 255) <<< (0 : Int32)) ||| ((hi8 c &&& 255) <<< (8 : Int32))).toBitVec.setWidth 16).setWidth 32) = _
  rw [BitVec.toNat_setWidth, BitVec.toNat_setWidth, g]
  omega
end StrChars
namespace StrChars.Road
open Jvm Sem ClassFile Op Lib Jvm.Stand Jvm.Free Jvm.Free.XT
open Jvm.Lib.Cold (StaticIs)
/-- the bytes of the chars cs, low before high -/
def wideBytes : List Int32 → List Value
  | [] => []
  | c :: cs => .int (lo8 c) :: .int (hi8 c) :: wideBytes cs
/-- an array of N2 bytes vs codes the chars cs by the coder cd -/
def CodA (cs : List Int32) (cd N2 : Int32) (vs : List Value) : Prop := (cd = 0 ∧ N2 = Int32.ofNat cs.length ∧ vs = (cs.map fun c => Value.int (lo8 c)) ∧ ∀ c ∈ cs, ¬ 255 < c) ∨ (cd = 1 ∧ N2 = Int32.ofNat (2 * cs.length) ∧ vs = wideBytes cs ∧ ∃ c ∈ cs, 255 < c)
end StrChars.Road
namespace StrChars.Road
open Jvm Sem ClassFile Op Lib Jvm.Stand Jvm.Free Jvm.Free.XT
open Jvm.Lib.Cold (StaticIs)
/-- what backV says of its String, as the contracts of this text ask it: cs's low bytes, coder 0 -/
theorem codOf {cs : List Int32} {n : Nat} (hn : cs.length = n) (hb : ∀ c ∈ cs, ¬ 255 < c) : CodA cs 0 (Int32.ofNat n) ((cs.map lo8).map Value.int) := Or.inl ⟨rfl, by rw [hn], by simp [List.map_map, Function.comp_def], hb⟩
end StrChars.Road
end Jvm.Pilot.@@N@@

namespace Jvm.Pilot.@@N@@
open Jvm Jvm.ClassFile Sem Op Lib Jvm.Free Jvm.Stand Jvm.LawKit Jvm.RoadKit Jvm.Own Bundle Jvm.Pilot.@@N@@.Jvm.D
theorem own_q0 {Z : State} {a0 : Array Value} (hw : ∀ d ∈ tables_1, d.before a0 Z = true) : (Jvm.Cond.constant "com/example/wirecall/wirecall/FrameWireBytesPinLaw" (57 : Nat) (2147483647 : Int32)).before a0 Z = true := hw _ (List.mem_of_getElem? (i := 0) rfl)
theorem own_q1 {Z : State} {a0 : Array Value} (hw : ∀ d ∈ tables_1, d.before a0 Z = true) : (Jvm.Cond.methodLink "com/example/wirecall/wirecall/FrameWireBytesPinLaw" (58 : Nat) ({ cls := "com/example/wirecall/wirecall/FrameWireBytesPinLaw", name := "type", desc := "(I)Lcom/example/wirecall/wirecall/FrameType;" } : Jvm.MethodName)).before a0 Z = true := hw _ (List.mem_of_getElem? (i := 1) rfl)
theorem own_q2 {Z : State} {a0 : Array Value} (hw : ∀ d ∈ tables_1, d.before a0 Z = true) : (Jvm.Cond.static ({ cls := "com/example/wirecall/wirecall/FrameWireBytesPinLaw", name := "type", desc := "(I)Lcom/example/wirecall/wirecall/FrameType;" } : Jvm.MethodName)).before a0 Z = true := hw _ (List.mem_of_getElem? (i := 2) rfl)
theorem own_q3 {Z : State} {a0 : Array Value} (hw : ∀ d ∈ tables_1, d.before a0 Z = true) : (Jvm.Cond.initialized "com/example/wirecall/wirecall/FrameWireBytesPinLaw").before a0 Z = true := hw _ (List.mem_of_getElem? (i := 3) rfl)
theorem own_q4 {Z : State} {a0 : Array Value} (hw : ∀ d ∈ tables_1, d.before a0 Z = true) : (Jvm.Cond.code ({ cls := "com/example/wirecall/wirecall/FrameWireBytesPinLaw", name := "type", desc := "(I)Lcom/example/wirecall/wirecall/FrameType;" } : Jvm.MethodName) method_5_code (1 : Nat) (Option.some (Jvm.ClassFile.FieldType.object "com/example/wirecall/wirecall/FrameType"))).before a0 Z = true := hw _ (List.mem_of_getElem? (i := 4) rfl)
theorem own_q5 {Z : State} {a0 : Array Value} (hw : ∀ d ∈ tables_1, d.before a0 Z = true) : (Jvm.Cond.fieldLink "com/example/wirecall/wirecall/FrameWireBytesPinLaw" (18 : Nat) "com/example/wirecall/wirecall/FrameType" "CALL" "Lcom/example/wirecall/wirecall/FrameType;").before a0 Z = true := hw _ (List.mem_of_getElem? (i := 5) rfl)
theorem own_q6 {Z : State} {a0 : Array Value} (hw : ∀ d ∈ tables_1, d.before a0 Z = true) : (Jvm.Cond.initialized "com/example/wirecall/wirecall/FrameType").before a0 Z = true := hw _ (List.mem_of_getElem? (i := 6) rfl)
theorem own_q7 {Z : State} {a0 : Array Value} (hw : ∀ d ∈ tables_1, d.before a0 Z = true) : (Jvm.Cond.laysStatic "com/example/wirecall/wirecall/FrameType" "CALL" "Lcom/example/wirecall/wirecall/FrameType;").before a0 Z = true := hw _ (List.mem_of_getElem? (i := 7) rfl)
theorem own_q8 {Z : State} {a0 : Array Value} (hw : ∀ d ∈ tables_1, d.before a0 Z = true) : (Jvm.Cond.constantLong "com/example/wirecall/wirecall/FrameWireBytesPinLaw" (62 : Nat) (32767 : Int64)).before a0 Z = true := hw _ (List.mem_of_getElem? (i := 8) rfl)
theorem own_q9 {Z : State} {a0 : Array Value} (hw : ∀ d ∈ tables_1, d.before a0 Z = true) : (Jvm.Cond.methodLink "com/example/wirecall/wirecall/FrameWireBytesPinLaw" (64 : Nat) ({ cls := "com/example/wirecall/wirecall/FrameWireBytesPinLaw", name := "str", desc := "(ICCC)Ljava/lang/String;" } : Jvm.MethodName)).before a0 Z = true := hw _ (List.mem_of_getElem? (i := 9) rfl)
theorem own_q10 {Z : State} {a0 : Array Value} (hw : ∀ d ∈ tables_1, d.before a0 Z = true) : (Jvm.Cond.static ({ cls := "com/example/wirecall/wirecall/FrameWireBytesPinLaw", name := "str", desc := "(ICCC)Ljava/lang/String;" } : Jvm.MethodName)).before a0 Z = true := hw _ (List.mem_of_getElem? (i := 10) rfl)
theorem own_q11 {Z : State} {a0 : Array Value} (hw : ∀ d ∈ tables_1, d.before a0 Z = true) : (Jvm.Cond.code ({ cls := "com/example/wirecall/wirecall/FrameWireBytesPinLaw", name := "str", desc := "(ICCC)Ljava/lang/String;" } : Jvm.MethodName) method_3_code (5 : Nat) (Option.some (Jvm.ClassFile.FieldType.object "java/lang/String"))).before a0 Z = true := hw _ (List.mem_of_getElem? (i := 11) rfl)
theorem own_q12 {Z : State} {a0 : Array Value} (hw : ∀ d ∈ tables_1, d.before a0 Z = true) : (Jvm.Cond.arrayClass Jvm.ClassFile.FieldType.char).before a0 Z = true := hw _ (List.mem_of_getElem? (i := 12) rfl)
theorem own_q13 {Z : State} {a0 : Array Value} (hw : ∀ d ∈ tables_1, d.before a0 Z = true) : (Jvm.Cond.classLink "com/example/wirecall/wirecall/FrameWireBytesPinLaw" (7 : Nat) "java/lang/String").before a0 Z = true := hw _ (List.mem_of_getElem? (i := 13) rfl)
theorem own_q14 {Z : State} {a0 : Array Value} (hw : ∀ d ∈ tables_1, d.before a0 Z = true) : (Jvm.Cond.instantiable "java/lang/String" (4 : Nat)).before a0 Z = true := hw _ (List.mem_of_getElem? (i := 14) rfl)
theorem own_q15 {Z : State} {a0 : Array Value} (hw : ∀ d ∈ tables_1, d.before a0 Z = true) : (Jvm.Cond.initialized "java/lang/String").before a0 Z = true := hw _ (List.mem_of_getElem? (i := 15) rfl)
theorem own_q16 {Z : State} {a0 : Array Value} (hw : ∀ d ∈ tables_1, d.before a0 Z = true) : (Jvm.Cond.methodLink "com/example/wirecall/wirecall/FrameWireBytesPinLaw" (9 : Nat) ({ cls := "java/lang/String", name := "<init>", desc := "([C)V" } : Jvm.MethodName)).before a0 Z = true := hw _ (List.mem_of_getElem? (i := 16) rfl)
theorem own_q17 {Z : State} {a0 : Array Value} (hw : ∀ d ∈ tables_1, d.before a0 Z = true) : (Jvm.Cond.instanceMethod ({ cls := "java/lang/String", name := "<init>", desc := "([C)V" } : Jvm.MethodName)).before a0 Z = true := hw _ (List.mem_of_getElem? (i := 17) rfl)
theorem own_q18 {Z : State} {a0 : Array Value} (hw : ∀ d ∈ tables_1, d.before a0 Z = true) : (Jvm.Cond.code ({ cls := "java/lang/String", name := "<init>", desc := "([C)V" } : Jvm.MethodName) jdk_42_method_3_code (2 : Nat) (Option.none : Option Jvm.ClassFile.FieldType)).before a0 Z = true := hw _ (List.mem_of_getElem? (i := 18) rfl)
theorem own_q19 {Z : State} {a0 : Array Value} (hw : ∀ d ∈ tables_1, d.before a0 Z = true) : (Jvm.Cond.methodLink "java/lang/String" (27 : Nat) ({ cls := "java/lang/String", name := "<init>", desc := "([CIILjava/lang/Void;)V" } : Jvm.MethodName)).before a0 Z = true := hw _ (List.mem_of_getElem? (i := 19) rfl)
theorem own_q20 {Z : State} {a0 : Array Value} (hw : ∀ d ∈ tables_1, d.before a0 Z = true) : (Jvm.Cond.instanceMethod ({ cls := "java/lang/String", name := "<init>", desc := "([CIILjava/lang/Void;)V" } : Jvm.MethodName)).before a0 Z = true := hw _ (List.mem_of_getElem? (i := 20) rfl)
theorem own_q22 {Z : State} {a0 : Array Value} (hw : ∀ d ∈ tables_1, d.before a0 Z = true) : (Jvm.Cond.code ({ cls := "java/lang/String", name := "<init>", desc := "([CIILjava/lang/Void;)V" } : Jvm.MethodName) jdk_42_method_149_code (6 : Nat) (Option.none : Option Jvm.ClassFile.FieldType)).before a0 Z = true := hw _ (List.mem_of_getElem? (i := 22) rfl)
theorem own_q23 {Z : State} {a0 : Array Value} (hw : ∀ d ∈ tables_1, d.before a0 Z = true) : (Jvm.Cond.methodLink "java/lang/String" (1 : Nat) ({ cls := "java/lang/Object", name := "<init>", desc := "()V" } : Jvm.MethodName)).before a0 Z = true := hw _ (List.mem_of_getElem? (i := 23) rfl)
theorem own_q24 {Z : State} {a0 : Array Value} (hw : ∀ d ∈ tables_1, d.before a0 Z = true) : (Jvm.Cond.instanceMethod ({ cls := "java/lang/Object", name := "<init>", desc := "()V" } : Jvm.MethodName)).before a0 Z = true := hw _ (List.mem_of_getElem? (i := 24) rfl)
theorem own_q25 {Z : State} {a0 : Array Value} (hw : ∀ d ∈ tables_1, d.before a0 Z = true) : (Jvm.Cond.code ({ cls := "java/lang/Object", name := "<init>", desc := "()V" } : Jvm.MethodName) object_method_1_code (1 : Nat) (Option.none : Option Jvm.ClassFile.FieldType)).before a0 Z = true := hw _ (List.mem_of_getElem? (i := 25) rfl)
theorem own_q26 {Z : State} {a0 : Array Value} (hw : ∀ d ∈ tables_1, d.before a0 Z = true) : (Jvm.Cond.fieldLink "java/lang/String" (38 : Nat) "java/lang/String" "COMPACT_STRINGS" "Z").before a0 Z = true := hw _ (List.mem_of_getElem? (i := 26) rfl)
theorem own_q27 {Z : State} {a0 : Array Value} (hw : ∀ d ∈ tables_1, d.before a0 Z = true) : (Jvm.Cond.methodLink "java/lang/String" (177 : Nat) ({ cls := "java/lang/StringUTF16", name := "compress", desc := "([CII)[B" } : Jvm.MethodName)).before a0 Z = true := hw _ (List.mem_of_getElem? (i := 27) rfl)
theorem own_q28 {Z : State} {a0 : Array Value} (hw : ∀ d ∈ tables_1, d.before a0 Z = true) : (Jvm.Cond.static ({ cls := "java/lang/StringUTF16", name := "compress", desc := "([CII)[B" } : Jvm.MethodName)).before a0 Z = true := hw _ (List.mem_of_getElem? (i := 28) rfl)
theorem own_q29 {Z : State} {a0 : Array Value} (hw : ∀ d ∈ tables_1, d.before a0 Z = true) : (Jvm.Cond.initialized "java/lang/StringUTF16").before a0 Z = true := hw _ (List.mem_of_getElem? (i := 29) rfl)
theorem own_q30 {Z : State} {a0 : Array Value} (hw : ∀ d ∈ tables_1, d.before a0 Z = true) : (Jvm.Cond.code ({ cls := "java/lang/StringUTF16", name := "compress", desc := "([CII)[B" } : Jvm.MethodName) jdk_52_method_16_code (6 : Nat) (Option.some (Jvm.ClassFile.FieldType.array Jvm.ClassFile.FieldType.byte))).before a0 Z = true := hw _ (List.mem_of_getElem? (i := 30) rfl)
theorem own_q31 {Z : State} {a0 : Array Value} (hw : ∀ d ∈ tables_1, d.before a0 Z = true) : (Jvm.Cond.arrayClass Jvm.ClassFile.FieldType.byte).before a0 Z = true := hw _ (List.mem_of_getElem? (i := 31) rfl)
theorem own_q32 {Z : State} {a0 : Array Value} (hw : ∀ d ∈ tables_1, d.before a0 Z = true) : (Jvm.Cond.methodLink "java/lang/StringUTF16" (115 : Nat) ({ cls := "java/lang/StringUTF16", name := "compress", desc := "([CI[BII)I" } : Jvm.MethodName)).before a0 Z = true := hw _ (List.mem_of_getElem? (i := 32) rfl)
theorem own_q33 {Z : State} {a0 : Array Value} (hw : ∀ d ∈ tables_1, d.before a0 Z = true) : (Jvm.Cond.static ({ cls := "java/lang/StringUTF16", name := "compress", desc := "([CI[BII)I" } : Jvm.MethodName)).before a0 Z = true := hw _ (List.mem_of_getElem? (i := 33) rfl)
theorem own_q34 {Z : State} {a0 : Array Value} (hw : ∀ d ∈ tables_1, d.before a0 Z = true) : (Jvm.Cond.code ({ cls := "java/lang/StringUTF16", name := "compress", desc := "([CI[BII)I" } : Jvm.MethodName) jdk_52_method_21_code (7 : Nat) (Option.some Jvm.ClassFile.FieldType.int)).before a0 Z = true := hw _ (List.mem_of_getElem? (i := 34) rfl)
theorem own_q35 {Z : State} {a0 : Array Value} (hw : ∀ d ∈ tables_1, d.before a0 Z = true) : (Jvm.Cond.methodLink "java/lang/String" (47 : Nat) ({ cls := "java/lang/StringUTF16", name := "coderFromArrayLen", desc := "([BI)B" } : Jvm.MethodName)).before a0 Z = true := hw _ (List.mem_of_getElem? (i := 35) rfl)
theorem own_q36 {Z : State} {a0 : Array Value} (hw : ∀ d ∈ tables_1, d.before a0 Z = true) : (Jvm.Cond.static ({ cls := "java/lang/StringUTF16", name := "coderFromArrayLen", desc := "([BI)B" } : Jvm.MethodName)).before a0 Z = true := hw _ (List.mem_of_getElem? (i := 36) rfl)
theorem own_q37 {Z : State} {a0 : Array Value} (hw : ∀ d ∈ tables_1, d.before a0 Z = true) : (Jvm.Cond.code ({ cls := "java/lang/StringUTF16", name := "coderFromArrayLen", desc := "([BI)B" } : Jvm.MethodName) jdk_52_method_15_code (2 : Nat) (Option.some Jvm.ClassFile.FieldType.byte)).before a0 Z = true := hw _ (List.mem_of_getElem? (i := 37) rfl)
theorem own_q38 {Z : State} {a0 : Array Value} (hw : ∀ d ∈ tables_1, d.before a0 Z = true) : (Jvm.Cond.fieldLink "java/lang/String" (15 : Nat) "java/lang/String" "coder" "B").before a0 Z = true := hw _ (List.mem_of_getElem? (i := 38) rfl)
theorem own_q39 {Z : State} {a0 : Array Value} (hw : ∀ d ∈ tables_1, d.before a0 Z = true) : (Jvm.Cond.laysFinal "java/lang/String" "java/lang/String" "coder" "B").before a0 Z = true := hw _ (List.mem_of_getElem? (i := 39) rfl)
theorem own_q40 {Z : State} {a0 : Array Value} (hw : ∀ d ∈ tables_1, d.before a0 Z = true) : (Jvm.Cond.fieldLink "java/lang/String" (9 : Nat) "java/lang/String" "value" "[B").before a0 Z = true := hw _ (List.mem_of_getElem? (i := 40) rfl)
theorem own_q41 {Z : State} {a0 : Array Value} (hw : ∀ d ∈ tables_1, d.before a0 Z = true) : (Jvm.Cond.laysFinal "java/lang/String" "java/lang/String" "value" "[B").before a0 Z = true := hw _ (List.mem_of_getElem? (i := 41) rfl)
theorem own_q42 {Z : State} {a0 : Array Value} (hw : ∀ d ∈ tables_1, d.before a0 Z = true) : (Jvm.Cond.stringLink "java/lang/String" (7 : Nat) "").before a0 Z = true := hw _ (List.mem_of_getElem? (i := 42) rfl)
theorem own_q45 {Z : State} {a0 : Array Value} (hw : ∀ d ∈ tables_1, d.before a0 Z = true) : (Jvm.Cond.classLink "com/example/wirecall/wirecall/FrameWireBytesPinLaw" (68 : Nat) "com/example/wirecall/wirecall/Frame").before a0 Z = true := hw _ (List.mem_of_getElem? (i := 45) rfl)
theorem own_q46 {Z : State} {a0 : Array Value} (hw : ∀ d ∈ tables_1, d.before a0 Z = true) : (Jvm.Cond.instantiable "com/example/wirecall/wirecall/Frame" (7 : Nat)).before a0 Z = true := hw _ (List.mem_of_getElem? (i := 46) rfl)
theorem own_q47 {Z : State} {a0 : Array Value} (hw : ∀ d ∈ tables_1, d.before a0 Z = true) : (Jvm.Cond.initialized "com/example/wirecall/wirecall/Frame").before a0 Z = true := hw _ (List.mem_of_getElem? (i := 47) rfl)
theorem own_q48 {Z : State} {a0 : Array Value} (hw : ∀ d ∈ tables_1, d.before a0 Z = true) : (Jvm.Cond.methodLink "com/example/wirecall/wirecall/FrameWireBytesPinLaw" (70 : Nat) ({ cls := "com/example/wirecall/wirecall/Frame", name := "<init>", desc := "(Lcom/example/wirecall/wirecall/FrameType;ILjava/lang/String;Ljava/lang/String;[B)V" } : Jvm.MethodName)).before a0 Z = true := hw _ (List.mem_of_getElem? (i := 48) rfl)
theorem own_q49 {Z : State} {a0 : Array Value} (hw : ∀ d ∈ tables_1, d.before a0 Z = true) : (Jvm.Cond.instanceMethod ({ cls := "com/example/wirecall/wirecall/Frame", name := "<init>", desc := "(Lcom/example/wirecall/wirecall/FrameType;ILjava/lang/String;Ljava/lang/String;[B)V" } : Jvm.MethodName)).before a0 Z = true := hw _ (List.mem_of_getElem? (i := 49) rfl)
theorem own_q50 {Z : State} {a0 : Array Value} (hw : ∀ d ∈ tables_1, d.before a0 Z = true) : (Jvm.Cond.code ({ cls := "com/example/wirecall/wirecall/Frame", name := "<init>", desc := "(Lcom/example/wirecall/wirecall/FrameType;ILjava/lang/String;Ljava/lang/String;[B)V" } : Jvm.MethodName) prog_4_method_1_code (6 : Nat) (Option.none : Option Jvm.ClassFile.FieldType)).before a0 Z = true := hw _ (List.mem_of_getElem? (i := 50) rfl)
theorem own_q51 {Z : State} {a0 : Array Value} (hw : ∀ d ∈ tables_1, d.before a0 Z = true) : (Jvm.Cond.methodLink "com/example/wirecall/wirecall/Frame" (1 : Nat) ({ cls := "java/lang/Object", name := "<init>", desc := "()V" } : Jvm.MethodName)).before a0 Z = true := hw _ (List.mem_of_getElem? (i := 51) rfl)
theorem own_q52 {Z : State} {a0 : Array Value} (hw : ∀ d ∈ tables_1, d.before a0 Z = true) : (Jvm.Cond.fieldLink "com/example/wirecall/wirecall/Frame" (7 : Nat) "com/example/wirecall/wirecall/Frame" "type" "Lcom/example/wirecall/wirecall/FrameType;").before a0 Z = true := hw _ (List.mem_of_getElem? (i := 52) rfl)
theorem own_q53 {Z : State} {a0 : Array Value} (hw : ∀ d ∈ tables_1, d.before a0 Z = true) : (Jvm.Cond.laysFinal "com/example/wirecall/wirecall/Frame" "com/example/wirecall/wirecall/Frame" "type" "Lcom/example/wirecall/wirecall/FrameType;").before a0 Z = true := hw _ (List.mem_of_getElem? (i := 53) rfl)
theorem own_q54 {Z : State} {a0 : Array Value} (hw : ∀ d ∈ tables_1, d.before a0 Z = true) : (Jvm.Cond.fieldLink "com/example/wirecall/wirecall/Frame" (13 : Nat) "com/example/wirecall/wirecall/Frame" "id" "I").before a0 Z = true := hw _ (List.mem_of_getElem? (i := 54) rfl)
theorem own_q55 {Z : State} {a0 : Array Value} (hw : ∀ d ∈ tables_1, d.before a0 Z = true) : (Jvm.Cond.laysFinal "com/example/wirecall/wirecall/Frame" "com/example/wirecall/wirecall/Frame" "id" "I").before a0 Z = true := hw _ (List.mem_of_getElem? (i := 55) rfl)
theorem own_q56 {Z : State} {a0 : Array Value} (hw : ∀ d ∈ tables_1, d.before a0 Z = true) : (Jvm.Cond.fieldLink "com/example/wirecall/wirecall/Frame" (17 : Nat) "com/example/wirecall/wirecall/Frame" "target" "Ljava/lang/String;").before a0 Z = true := hw _ (List.mem_of_getElem? (i := 56) rfl)
theorem own_q57 {Z : State} {a0 : Array Value} (hw : ∀ d ∈ tables_1, d.before a0 Z = true) : (Jvm.Cond.laysFinal "com/example/wirecall/wirecall/Frame" "com/example/wirecall/wirecall/Frame" "target" "Ljava/lang/String;").before a0 Z = true := hw _ (List.mem_of_getElem? (i := 57) rfl)
theorem own_q58 {Z : State} {a0 : Array Value} (hw : ∀ d ∈ tables_1, d.before a0 Z = true) : (Jvm.Cond.fieldLink "com/example/wirecall/wirecall/Frame" (21 : Nat) "com/example/wirecall/wirecall/Frame" "method" "Ljava/lang/String;").before a0 Z = true := hw _ (List.mem_of_getElem? (i := 58) rfl)
theorem own_q59 {Z : State} {a0 : Array Value} (hw : ∀ d ∈ tables_1, d.before a0 Z = true) : (Jvm.Cond.laysFinal "com/example/wirecall/wirecall/Frame" "com/example/wirecall/wirecall/Frame" "method" "Ljava/lang/String;").before a0 Z = true := hw _ (List.mem_of_getElem? (i := 59) rfl)
theorem own_q60 {Z : State} {a0 : Array Value} (hw : ∀ d ∈ tables_1, d.before a0 Z = true) : (Jvm.Cond.stringLink "com/example/wirecall/wirecall/Frame" (24 : Nat) "target").before a0 Z = true := hw _ (List.mem_of_getElem? (i := 60) rfl)
theorem own_q61 {Z : State} {a0 : Array Value} (hw : ∀ d ∈ tables_1, d.before a0 Z = true) : (Jvm.Cond.fieldLink "com/example/wirecall/wirecall/Frame" (25 : Nat) "java/nio/charset/StandardCharsets" "UTF_8" "Ljava/nio/charset/Charset;").before a0 Z = true := hw _ (List.mem_of_getElem? (i := 61) rfl)
theorem own_q63 {Z : State} {a0 : Array Value} (hw : ∀ d ∈ tables_1, d.before a0 Z = true) : (Jvm.Cond.methodLink "com/example/wirecall/wirecall/Frame" (31 : Nat) ({ cls := "java/lang/String", name := "getBytes", desc := "(Ljava/nio/charset/Charset;)[B" } : Jvm.MethodName)).before a0 Z = true := hw _ (List.mem_of_getElem? (i := 63) rfl)
theorem own_q64 {Z : State} {a0 : Array Value} (hw : ∀ d ∈ tables_1, d.before a0 Z = true) : (Jvm.Cond.declares ({ cls := "java/lang/String", name := "getBytes", desc := "(Ljava/nio/charset/Charset;)[B" } : Jvm.MethodName)).before a0 Z = true := hw _ (List.mem_of_getElem? (i := 64) rfl)
theorem own_q65 {Z : State} {a0 : Array Value} (hw : ∀ d ∈ tables_1, d.before a0 Z = true) : (Jvm.Cond.instanceMethod ({ cls := "java/lang/String", name := "getBytes", desc := "(Ljava/nio/charset/Charset;)[B" } : Jvm.MethodName)).before a0 Z = true := hw _ (List.mem_of_getElem? (i := 65) rfl)
theorem own_q66 {Z : State} {a0 : Array Value} (hw : ∀ d ∈ tables_1, d.before a0 Z = true) : (Jvm.Cond.selects "java/lang/String" ({ cls := "java/lang/String", name := "getBytes", desc := "(Ljava/nio/charset/Charset;)[B" } : Jvm.MethodName) ({ cls := "java/lang/String", name := "getBytes", desc := "(Ljava/nio/charset/Charset;)[B" } : Jvm.MethodName)).before a0 Z = true := hw _ (List.mem_of_getElem? (i := 66) rfl)
theorem own_q67 {Z : State} {a0 : Array Value} (hw : ∀ d ∈ tables_1, d.before a0 Z = true) : (Jvm.Cond.code ({ cls := "java/lang/String", name := "getBytes", desc := "(Ljava/nio/charset/Charset;)[B" } : Jvm.MethodName) jdk_42_method_64_code (2 : Nat) (Option.some (Jvm.ClassFile.FieldType.array Jvm.ClassFile.FieldType.byte))).before a0 Z = true := hw _ (List.mem_of_getElem? (i := 67) rfl)
theorem own_q68 {Z : State} {a0 : Array Value} (hw : ∀ d ∈ tables_1, d.before a0 Z = true) : (Jvm.Cond.methodLink "java/lang/String" (335 : Nat) ({ cls := "java/lang/String", name := "coder", desc := "()B" } : Jvm.MethodName)).before a0 Z = true := hw _ (List.mem_of_getElem? (i := 68) rfl)
theorem own_q69 {Z : State} {a0 : Array Value} (hw : ∀ d ∈ tables_1, d.before a0 Z = true) : (Jvm.Cond.declares ({ cls := "java/lang/String", name := "coder", desc := "()B" } : Jvm.MethodName)).before a0 Z = true := hw _ (List.mem_of_getElem? (i := 69) rfl)
theorem own_q70 {Z : State} {a0 : Array Value} (hw : ∀ d ∈ tables_1, d.before a0 Z = true) : (Jvm.Cond.instanceMethod ({ cls := "java/lang/String", name := "coder", desc := "()B" } : Jvm.MethodName)).before a0 Z = true := hw _ (List.mem_of_getElem? (i := 70) rfl)
theorem own_q71 {Z : State} {a0 : Array Value} (hw : ∀ d ∈ tables_1, d.before a0 Z = true) : (Jvm.Cond.selects "java/lang/String" ({ cls := "java/lang/String", name := "coder", desc := "()B" } : Jvm.MethodName) ({ cls := "java/lang/String", name := "coder", desc := "()B" } : Jvm.MethodName)).before a0 Z = true := hw _ (List.mem_of_getElem? (i := 71) rfl)
theorem own_q72 {Z : State} {a0 : Array Value} (hw : ∀ d ∈ tables_1, d.before a0 Z = true) : (Jvm.Cond.code ({ cls := "java/lang/String", name := "coder", desc := "()B" } : Jvm.MethodName) jdk_42_method_152_code (1 : Nat) (Option.some Jvm.ClassFile.FieldType.byte)).before a0 Z = true := hw _ (List.mem_of_getElem? (i := 72) rfl)
theorem own_q73 {Z : State} {a0 : Array Value} (hw : ∀ d ∈ tables_1, d.before a0 Z = true) : (Jvm.Cond.methodLink "java/lang/String" (535 : Nat) ({ cls := "java/lang/String", name := "encode", desc := "(Ljava/nio/charset/Charset;B[B)[B" } : Jvm.MethodName)).before a0 Z = true := hw _ (List.mem_of_getElem? (i := 73) rfl)
theorem own_q74 {Z : State} {a0 : Array Value} (hw : ∀ d ∈ tables_1, d.before a0 Z = true) : (Jvm.Cond.static ({ cls := "java/lang/String", name := "encode", desc := "(Ljava/nio/charset/Charset;B[B)[B" } : Jvm.MethodName)).before a0 Z = true := hw _ (List.mem_of_getElem? (i := 74) rfl)
theorem own_q75 {Z : State} {a0 : Array Value} (hw : ∀ d ∈ tables_1, d.before a0 Z = true) : (Jvm.Cond.code ({ cls := "java/lang/String", name := "encode", desc := "(Ljava/nio/charset/Charset;B[B)[B" } : Jvm.MethodName) jdk_42_method_18_code (3 : Nat) (Option.some (Jvm.ClassFile.FieldType.array Jvm.ClassFile.FieldType.byte))).before a0 Z = true := hw _ (List.mem_of_getElem? (i := 75) rfl)
theorem own_q76 {Z : State} {a0 : Array Value} (hw : ∀ d ∈ tables_1, d.before a0 Z = true) : (Jvm.Cond.fieldLink "java/lang/String" (86 : Nat) "sun/nio/cs/UTF_8" "INSTANCE" "Lsun/nio/cs/UTF_8;").before a0 Z = true := hw _ (List.mem_of_getElem? (i := 76) rfl)
theorem own_q78 {Z : State} {a0 : Array Value} (hw : ∀ d ∈ tables_1, d.before a0 Z = true) : (Jvm.Cond.methodLink "java/lang/String" (252 : Nat) ({ cls := "java/lang/String", name := "encodeUTF8", desc := "(B[BZ)[B" } : Jvm.MethodName)).before a0 Z = true := hw _ (List.mem_of_getElem? (i := 78) rfl)
theorem own_q79 {Z : State} {a0 : Array Value} (hw : ∀ d ∈ tables_1, d.before a0 Z = true) : (Jvm.Cond.static ({ cls := "java/lang/String", name := "encodeUTF8", desc := "(B[BZ)[B" } : Jvm.MethodName)).before a0 Z = true := hw _ (List.mem_of_getElem? (i := 79) rfl)
theorem own_q80 {Z : State} {a0 : Array Value} (hw : ∀ d ∈ tables_1, d.before a0 Z = true) : (Jvm.Cond.code ({ cls := "java/lang/String", name := "encodeUTF8", desc := "(B[BZ)[B" } : Jvm.MethodName) jdk_42_method_46_code (9 : Nat) (Option.some (Jvm.ClassFile.FieldType.array Jvm.ClassFile.FieldType.byte))).before a0 Z = true := hw _ (List.mem_of_getElem? (i := 80) rfl)
theorem own_q81 {Z : State} {a0 : Array Value} (hw : ∀ d ∈ tables_1, d.before a0 Z = true) : (Jvm.Cond.methodLink "java/lang/String" (128 : Nat) ({ cls := "java/lang/StringCoding", name := "hasNegatives", desc := "([BII)Z" } : Jvm.MethodName)).before a0 Z = true := hw _ (List.mem_of_getElem? (i := 81) rfl)
theorem own_q82 {Z : State} {a0 : Array Value} (hw : ∀ d ∈ tables_1, d.before a0 Z = true) : (Jvm.Cond.static ({ cls := "java/lang/StringCoding", name := "hasNegatives", desc := "([BII)Z" } : Jvm.MethodName)).before a0 Z = true := hw _ (List.mem_of_getElem? (i := 82) rfl)
theorem own_q83 {Z : State} {a0 : Array Value} (hw : ∀ d ∈ tables_1, d.before a0 Z = true) : (Jvm.Cond.initialized "java/lang/StringCoding").before a0 Z = true := hw _ (List.mem_of_getElem? (i := 83) rfl)
theorem own_q84 {Z : State} {a0 : Array Value} (hw : ∀ d ∈ tables_1, d.before a0 Z = true) : (Jvm.Cond.code ({ cls := "java/lang/StringCoding", name := "hasNegatives", desc := "([BII)Z" } : Jvm.MethodName) jdk_123_method_2_code (3 : Nat) (Option.some Jvm.ClassFile.FieldType.boolean)).before a0 Z = true := hw _ (List.mem_of_getElem? (i := 84) rfl)
theorem own_q85 {Z : State} {a0 : Array Value} (hw : ∀ d ∈ tables_1, d.before a0 Z = true) : (Jvm.Cond.methodLink "java/lang/StringCoding" (7 : Nat) ({ cls := "java/lang/StringCoding", name := "countPositives", desc := "([BII)I" } : Jvm.MethodName)).before a0 Z = true := hw _ (List.mem_of_getElem? (i := 85) rfl)
theorem own_q86 {Z : State} {a0 : Array Value} (hw : ∀ d ∈ tables_1, d.before a0 Z = true) : (Jvm.Cond.static ({ cls := "java/lang/StringCoding", name := "countPositives", desc := "([BII)I" } : Jvm.MethodName)).before a0 Z = true := hw _ (List.mem_of_getElem? (i := 86) rfl)
theorem own_q87 {Z : State} {a0 : Array Value} (hw : ∀ d ∈ tables_1, d.before a0 Z = true) : (Jvm.Cond.code ({ cls := "java/lang/StringCoding", name := "countPositives", desc := "([BII)I" } : Jvm.MethodName) jdk_123_method_3_code (5 : Nat) (Option.some Jvm.ClassFile.FieldType.int)).before a0 Z = true := hw _ (List.mem_of_getElem? (i := 87) rfl)
theorem own_q88 {Z : State} {a0 : Array Value} (hw : ∀ d ∈ tables_1, d.before a0 Z = true) : (Jvm.Cond.methodLink "java/lang/String" (279 : Nat) ({ cls := "[B", name := "clone", desc := "()Ljava/lang/Object;" } : Jvm.MethodName)).before a0 Z = true := hw _ (List.mem_of_getElem? (i := 88) rfl)
theorem own_q89 {Z : State} {a0 : Array Value} (hw : ∀ d ∈ tables_1, d.before a0 Z = true) : (Jvm.Cond.sameMethod "[B" "java/lang/Object" "clone" "()Ljava/lang/Object;").before a0 Z = true := hw _ (List.mem_of_getElem? (i := 89) rfl)
theorem own_q91 {Z : State} {a0 : Array Value} (hw : ∀ d ∈ tables_1, d.before a0 Z = true) : (Jvm.Cond.instanceMethod ({ cls := "java/lang/Object", name := "clone", desc := "()Ljava/lang/Object;" } : Jvm.MethodName)).before a0 Z = true := hw _ (List.mem_of_getElem? (i := 91) rfl)
theorem own_q92 {Z : State} {a0 : Array Value} (hw : ∀ d ∈ tables_1, d.before a0 Z = true) : (Jvm.Cond.selects "[B" ({ cls := "[B", name := "clone", desc := "()Ljava/lang/Object;" } : Jvm.MethodName) ({ cls := "java/lang/Object", name := "clone", desc := "()Ljava/lang/Object;" } : Jvm.MethodName)).before a0 Z = true := hw _ (List.mem_of_getElem? (i := 92) rfl)
theorem own_q93 {Z : State} {a0 : Array Value} (hw : ∀ d ∈ tables_1, d.before a0 Z = true) : (Jvm.Cond.native ({ cls := "java/lang/Object", name := "clone", desc := "()Ljava/lang/Object;" } : Jvm.MethodName)).before a0 Z = true := hw _ (List.mem_of_getElem? (i := 93) rfl)
theorem own_q94 {Z : State} {a0 : Array Value} (hw : ∀ d ∈ tables_1, d.before a0 Z = true) : (Jvm.Cond.castable "[B" "java/lang/Cloneable").before a0 Z = true := hw _ (List.mem_of_getElem? (i := 94) rfl)
theorem own_q95 {Z : State} {a0 : Array Value} (hw : ∀ d ∈ tables_1, d.before a0 Z = true) : (Jvm.Cond.classLink "java/lang/String" (280 : Nat) "[B").before a0 Z = true := hw _ (List.mem_of_getElem? (i := 95) rfl)
theorem own_q97 {Z : State} {a0 : Array Value} (hw : ∀ d ∈ tables_1, d.before a0 Z = true) : (Jvm.Cond.methodLink "com/example/wirecall/wirecall/Frame" (37 : Nat) ({ cls := "com/example/wirecall/wirecall/Frame", name := "checkLength", desc := "(Ljava/lang/String;[BI)[B" } : Jvm.MethodName)).before a0 Z = true := hw _ (List.mem_of_getElem? (i := 97) rfl)
theorem own_q98 {Z : State} {a0 : Array Value} (hw : ∀ d ∈ tables_1, d.before a0 Z = true) : (Jvm.Cond.static ({ cls := "com/example/wirecall/wirecall/Frame", name := "checkLength", desc := "(Ljava/lang/String;[BI)[B" } : Jvm.MethodName)).before a0 Z = true := hw _ (List.mem_of_getElem? (i := 98) rfl)
theorem own_q99 {Z : State} {a0 : Array Value} (hw : ∀ d ∈ tables_1, d.before a0 Z = true) : (Jvm.Cond.code ({ cls := "com/example/wirecall/wirecall/Frame", name := "checkLength", desc := "(Ljava/lang/String;[BI)[B" } : Jvm.MethodName) prog_4_method_2_code (3 : Nat) (Option.some (Jvm.ClassFile.FieldType.array Jvm.ClassFile.FieldType.byte))).before a0 Z = true := hw _ (List.mem_of_getElem? (i := 99) rfl)
theorem own_q100 {Z : State} {a0 : Array Value} (hw : ∀ d ∈ tables_1, d.before a0 Z = true) : (Jvm.Cond.fieldLink "com/example/wirecall/wirecall/Frame" (41 : Nat) "com/example/wirecall/wirecall/Frame" "targetBytes" "[B").before a0 Z = true := hw _ (List.mem_of_getElem? (i := 100) rfl)
theorem own_q101 {Z : State} {a0 : Array Value} (hw : ∀ d ∈ tables_1, d.before a0 Z = true) : (Jvm.Cond.laysFinal "com/example/wirecall/wirecall/Frame" "com/example/wirecall/wirecall/Frame" "targetBytes" "[B").before a0 Z = true := hw _ (List.mem_of_getElem? (i := 101) rfl)
theorem own_q102 {Z : State} {a0 : Array Value} (hw : ∀ d ∈ tables_1, d.before a0 Z = true) : (Jvm.Cond.stringLink "com/example/wirecall/wirecall/Frame" (45 : Nat) "method").before a0 Z = true := hw _ (List.mem_of_getElem? (i := 102) rfl)
theorem own_q103 {Z : State} {a0 : Array Value} (hw : ∀ d ∈ tables_1, d.before a0 Z = true) : (Jvm.Cond.fieldLink "com/example/wirecall/wirecall/Frame" (46 : Nat) "com/example/wirecall/wirecall/Frame" "methodBytes" "[B").before a0 Z = true := hw _ (List.mem_of_getElem? (i := 103) rfl)
theorem own_q104 {Z : State} {a0 : Array Value} (hw : ∀ d ∈ tables_1, d.before a0 Z = true) : (Jvm.Cond.laysFinal "com/example/wirecall/wirecall/Frame" "com/example/wirecall/wirecall/Frame" "methodBytes" "[B").before a0 Z = true := hw _ (List.mem_of_getElem? (i := 104) rfl)
theorem own_q105 {Z : State} {a0 : Array Value} (hw : ∀ d ∈ tables_1, d.before a0 Z = true) : (Jvm.Cond.stringLink "com/example/wirecall/wirecall/Frame" (49 : Nat) "payload").before a0 Z = true := hw _ (List.mem_of_getElem? (i := 105) rfl)
theorem own_q106 {Z : State} {a0 : Array Value} (hw : ∀ d ∈ tables_1, d.before a0 Z = true) : (Jvm.Cond.constant "com/example/wirecall/wirecall/Frame" (51 : Nat) (16777216 : Int32)).before a0 Z = true := hw _ (List.mem_of_getElem? (i := 106) rfl)
theorem own_q107 {Z : State} {a0 : Array Value} (hw : ∀ d ∈ tables_1, d.before a0 Z = true) : (Jvm.Cond.fieldLink "com/example/wirecall/wirecall/Frame" (52 : Nat) "com/example/wirecall/wirecall/Frame" "payload" "[B").before a0 Z = true := hw _ (List.mem_of_getElem? (i := 107) rfl)
theorem own_q108 {Z : State} {a0 : Array Value} (hw : ∀ d ∈ tables_1, d.before a0 Z = true) : (Jvm.Cond.laysFinal "com/example/wirecall/wirecall/Frame" "com/example/wirecall/wirecall/Frame" "payload" "[B").before a0 Z = true := hw _ (List.mem_of_getElem? (i := 108) rfl)
theorem own_q109 {Z : State} {a0 : Array Value} (hw : ∀ d ∈ tables_1, d.before a0 Z = true) : (Jvm.Cond.methodLink "com/example/wirecall/wirecall/FrameWireBytesPinLaw" (73 : Nat) ({ cls := "com/example/wirecall/wirecall/FrameWireBytesPinLaw", name := "strBytes", desc := "(ICCC)I" } : Jvm.MethodName)).before a0 Z = true := hw _ (List.mem_of_getElem? (i := 109) rfl)
theorem own_q110 {Z : State} {a0 : Array Value} (hw : ∀ d ∈ tables_1, d.before a0 Z = true) : (Jvm.Cond.static ({ cls := "com/example/wirecall/wirecall/FrameWireBytesPinLaw", name := "strBytes", desc := "(ICCC)I" } : Jvm.MethodName)).before a0 Z = true := hw _ (List.mem_of_getElem? (i := 110) rfl)
theorem own_q111 {Z : State} {a0 : Array Value} (hw : ∀ d ∈ tables_1, d.before a0 Z = true) : (Jvm.Cond.code ({ cls := "com/example/wirecall/wirecall/FrameWireBytesPinLaw", name := "strBytes", desc := "(ICCC)I" } : Jvm.MethodName) method_4_code (5 : Nat) (Option.some Jvm.ClassFile.FieldType.int)).before a0 Z = true := hw _ (List.mem_of_getElem? (i := 111) rfl)
theorem own_q112 {Z : State} {a0 : Array Value} (hw : ∀ d ∈ tables_1, d.before a0 Z = true) : (Jvm.Cond.methodLink "com/example/wirecall/wirecall/FrameWireBytesPinLaw" (12 : Nat) ({ cls := "com/example/wirecall/wirecall/FrameWireBytesPinLaw", name := "utf8Len", desc := "(C)I" } : Jvm.MethodName)).before a0 Z = true := hw _ (List.mem_of_getElem? (i := 112) rfl)
theorem own_q113 {Z : State} {a0 : Array Value} (hw : ∀ d ∈ tables_1, d.before a0 Z = true) : (Jvm.Cond.static ({ cls := "com/example/wirecall/wirecall/FrameWireBytesPinLaw", name := "utf8Len", desc := "(C)I" } : Jvm.MethodName)).before a0 Z = true := hw _ (List.mem_of_getElem? (i := 113) rfl)
theorem own_q114 {Z : State} {a0 : Array Value} (hw : ∀ d ∈ tables_1, d.before a0 Z = true) : (Jvm.Cond.code ({ cls := "com/example/wirecall/wirecall/FrameWireBytesPinLaw", name := "utf8Len", desc := "(C)I" } : Jvm.MethodName) method_2_code (1 : Nat) (Option.some Jvm.ClassFile.FieldType.int)).before a0 Z = true := hw _ (List.mem_of_getElem? (i := 114) rfl)
theorem own_q115 {Z : State} {a0 : Array Value} (hw : ∀ d ∈ tables_1, d.before a0 Z = true) : (Jvm.Cond.methodLink "com/example/wirecall/wirecall/FrameWireBytesPinLaw" (77 : Nat) ({ cls := "com/example/wirecall/wirecall/Frame", name := "wireBytes", desc := "()I" } : Jvm.MethodName)).before a0 Z = true := hw _ (List.mem_of_getElem? (i := 115) rfl)
theorem own_q116 {Z : State} {a0 : Array Value} (hw : ∀ d ∈ tables_1, d.before a0 Z = true) : (Jvm.Cond.declares ({ cls := "com/example/wirecall/wirecall/Frame", name := "wireBytes", desc := "()I" } : Jvm.MethodName)).before a0 Z = true := hw _ (List.mem_of_getElem? (i := 116) rfl)
theorem own_q117 {Z : State} {a0 : Array Value} (hw : ∀ d ∈ tables_1, d.before a0 Z = true) : (Jvm.Cond.instanceMethod ({ cls := "com/example/wirecall/wirecall/Frame", name := "wireBytes", desc := "()I" } : Jvm.MethodName)).before a0 Z = true := hw _ (List.mem_of_getElem? (i := 117) rfl)
theorem own_q118 {Z : State} {a0 : Array Value} (hw : ∀ d ∈ tables_1, d.before a0 Z = true) : (Jvm.Cond.selects "com/example/wirecall/wirecall/Frame" ({ cls := "com/example/wirecall/wirecall/Frame", name := "wireBytes", desc := "()I" } : Jvm.MethodName) ({ cls := "com/example/wirecall/wirecall/Frame", name := "wireBytes", desc := "()I" } : Jvm.MethodName)).before a0 Z = true := hw _ (List.mem_of_getElem? (i := 118) rfl)
theorem own_q119 {Z : State} {a0 : Array Value} (hw : ∀ d ∈ tables_1, d.before a0 Z = true) : (Jvm.Cond.code ({ cls := "com/example/wirecall/wirecall/Frame", name := "wireBytes", desc := "()I" } : Jvm.MethodName) prog_4_method_11_code (1 : Nat) (Option.some Jvm.ClassFile.FieldType.int)).before a0 Z = true := hw _ (List.mem_of_getElem? (i := 119) rfl)
theorem own_q120 {Z : State} {a0 : Array Value} (hw : ∀ d ∈ tables_1, d.before a0 Z = true) : (Jvm.Cond.fieldLink "com/example/wirecall/wirecall/FrameWireBytesPinLaw" (42 : Nat) "com/example/wirecall/wirecall/FrameType" "PUBLISH" "Lcom/example/wirecall/wirecall/FrameType;").before a0 Z = true := hw _ (List.mem_of_getElem? (i := 120) rfl)
theorem own_q121 {Z : State} {a0 : Array Value} (hw : ∀ d ∈ tables_1, d.before a0 Z = true) : (Jvm.Cond.laysStatic "com/example/wirecall/wirecall/FrameType" "PUBLISH" "Lcom/example/wirecall/wirecall/FrameType;").before a0 Z = true := hw _ (List.mem_of_getElem? (i := 121) rfl)
theorem own_q122 {Z : State} {a0 : Array Value} (hw : ∀ d ∈ tables_1, d.before a0 Z = true) : (Jvm.Cond.methodLink "java/lang/StringUTF16" (119 : Nat) ({ cls := "java/lang/StringUTF16", name := "toBytes", desc := "([CII)[B" } : Jvm.MethodName)).before a0 Z = true := hw _ (List.mem_of_getElem? (i := 122) rfl)
theorem own_q123 {Z : State} {a0 : Array Value} (hw : ∀ d ∈ tables_1, d.before a0 Z = true) : (Jvm.Cond.static ({ cls := "java/lang/StringUTF16", name := "toBytes", desc := "([CII)[B" } : Jvm.MethodName)).before a0 Z = true := hw _ (List.mem_of_getElem? (i := 123) rfl)
theorem own_q124 {Z : State} {a0 : Array Value} (hw : ∀ d ∈ tables_1, d.before a0 Z = true) : (Jvm.Cond.code ({ cls := "java/lang/StringUTF16", name := "toBytes", desc := "([CII)[B" } : Jvm.MethodName) jdk_52_method_14_code (5 : Nat) (Option.some (Jvm.ClassFile.FieldType.array Jvm.ClassFile.FieldType.byte))).before a0 Z = true := hw _ (List.mem_of_getElem? (i := 124) rfl)
theorem own_q125 {Z : State} {a0 : Array Value} (hw : ∀ d ∈ tables_1, d.before a0 Z = true) : (Jvm.Cond.methodLink "java/lang/StringUTF16" (107 : Nat) ({ cls := "java/lang/StringUTF16", name := "newBytesFor", desc := "(I)[B" } : Jvm.MethodName)).before a0 Z = true := hw _ (List.mem_of_getElem? (i := 125) rfl)
theorem own_q126 {Z : State} {a0 : Array Value} (hw : ∀ d ∈ tables_1, d.before a0 Z = true) : (Jvm.Cond.static ({ cls := "java/lang/StringUTF16", name := "newBytesFor", desc := "(I)[B" } : Jvm.MethodName)).before a0 Z = true := hw _ (List.mem_of_getElem? (i := 126) rfl)
theorem own_q127 {Z : State} {a0 : Array Value} (hw : ∀ d ∈ tables_1, d.before a0 Z = true) : (Jvm.Cond.code ({ cls := "java/lang/StringUTF16", name := "newBytesFor", desc := "(I)[B" } : Jvm.MethodName) jdk_52_method_2_code (1 : Nat) (Option.some (Jvm.ClassFile.FieldType.array Jvm.ClassFile.FieldType.byte))).before a0 Z = true := hw _ (List.mem_of_getElem? (i := 127) rfl)
theorem own_q128 {Z : State} {a0 : Array Value} (hw : ∀ d ∈ tables_1, d.before a0 Z = true) : (Jvm.Cond.methodLink "java/lang/StringUTF16" (11 : Nat) ({ cls := "java/lang/StringUTF16", name := "newBytesLength", desc := "(I)I" } : Jvm.MethodName)).before a0 Z = true := hw _ (List.mem_of_getElem? (i := 128) rfl)
theorem own_q129 {Z : State} {a0 : Array Value} (hw : ∀ d ∈ tables_1, d.before a0 Z = true) : (Jvm.Cond.static ({ cls := "java/lang/StringUTF16", name := "newBytesLength", desc := "(I)I" } : Jvm.MethodName)).before a0 Z = true := hw _ (List.mem_of_getElem? (i := 129) rfl)
theorem own_q130 {Z : State} {a0 : Array Value} (hw : ∀ d ∈ tables_1, d.before a0 Z = true) : (Jvm.Cond.code ({ cls := "java/lang/StringUTF16", name := "newBytesLength", desc := "(I)I" } : Jvm.MethodName) jdk_52_method_3_code (1 : Nat) (Option.some Jvm.ClassFile.FieldType.int)).before a0 Z = true := hw _ (List.mem_of_getElem? (i := 130) rfl)
theorem own_q131 {Z : State} {a0 : Array Value} (hw : ∀ d ∈ tables_1, d.before a0 Z = true) : (Jvm.Cond.constant "java/lang/StringUTF16" (20 : Nat) (1073741823 : Int32)).before a0 Z = true := hw _ (List.mem_of_getElem? (i := 131) rfl)
theorem own_q132 {Z : State} {a0 : Array Value} (hw : ∀ d ∈ tables_1, d.before a0 Z = true) : (Jvm.Cond.methodLink "java/lang/StringUTF16" (111 : Nat) ({ cls := "java/lang/StringUTF16", name := "putChar", desc := "([BII)V" } : Jvm.MethodName)).before a0 Z = true := hw _ (List.mem_of_getElem? (i := 132) rfl)
theorem own_q133 {Z : State} {a0 : Array Value} (hw : ∀ d ∈ tables_1, d.before a0 Z = true) : (Jvm.Cond.static ({ cls := "java/lang/StringUTF16", name := "putChar", desc := "([BII)V" } : Jvm.MethodName)).before a0 Z = true := hw _ (List.mem_of_getElem? (i := 133) rfl)
theorem own_q134 {Z : State} {a0 : Array Value} (hw : ∀ d ∈ tables_1, d.before a0 Z = true) : (Jvm.Cond.code ({ cls := "java/lang/StringUTF16", name := "putChar", desc := "([BII)V" } : Jvm.MethodName) jdk_52_method_4_code (3 : Nat) (Option.none : Option Jvm.ClassFile.FieldType)).before a0 Z = true := hw _ (List.mem_of_getElem? (i := 134) rfl)
theorem own_q135 {Z : State} {a0 : Array Value} (hw : ∀ d ∈ tables_1, d.before a0 Z = true) : (Jvm.Cond.fieldLink "java/lang/StringUTF16" (44 : Nat) "java/lang/StringUTF16" "$assertionsDisabled" "Z").before a0 Z = true := hw _ (List.mem_of_getElem? (i := 135) rfl)
theorem own_q136 {Z : State} {a0 : Array Value} (hw : ∀ d ∈ tables_1, d.before a0 Z = true) : (Jvm.Cond.fieldLink "java/lang/StringUTF16" (59 : Nat) "java/lang/StringUTF16" "HI_BYTE_SHIFT" "I").before a0 Z = true := hw _ (List.mem_of_getElem? (i := 136) rfl)
theorem own_q137 {Z : State} {a0 : Array Value} (hw : ∀ d ∈ tables_1, d.before a0 Z = true) : (Jvm.Cond.fieldLink "java/lang/StringUTF16" (63 : Nat) "java/lang/StringUTF16" "LO_BYTE_SHIFT" "I").before a0 Z = true := hw _ (List.mem_of_getElem? (i := 137) rfl)
theorem own_q138 {Z : State} {a0 : Array Value} (hw : ∀ d ∈ tables_1, d.before a0 Z = true) : (Jvm.Cond.methodLink "java/lang/StringUTF16" (71 : Nat) ({ cls := "java/lang/StringUTF16", name := "getChar", desc := "([BI)C" } : Jvm.MethodName)).before a0 Z = true := hw _ (List.mem_of_getElem? (i := 138) rfl)
theorem own_q139 {Z : State} {a0 : Array Value} (hw : ∀ d ∈ tables_1, d.before a0 Z = true) : (Jvm.Cond.static ({ cls := "java/lang/StringUTF16", name := "getChar", desc := "([BI)C" } : Jvm.MethodName)).before a0 Z = true := hw _ (List.mem_of_getElem? (i := 139) rfl)
theorem own_q140 {Z : State} {a0 : Array Value} (hw : ∀ d ∈ tables_1, d.before a0 Z = true) : (Jvm.Cond.code ({ cls := "java/lang/StringUTF16", name := "getChar", desc := "([BI)C" } : Jvm.MethodName) jdk_52_method_5_code (2 : Nat) (Option.some Jvm.ClassFile.FieldType.char)).before a0 Z = true := hw _ (List.mem_of_getElem? (i := 140) rfl)
theorem own_q141 {Z : State} {a0 : Array Value} (hw : ∀ d ∈ tables_1, d.before a0 Z = true) : (Jvm.Cond.methodLink "java/lang/String" (473 : Nat) ({ cls := "java/lang/String", name := "encodeUTF8_UTF16", desc := "([BZ)[B" } : Jvm.MethodName)).before a0 Z = true := hw _ (List.mem_of_getElem? (i := 141) rfl)
theorem own_q142 {Z : State} {a0 : Array Value} (hw : ∀ d ∈ tables_1, d.before a0 Z = true) : (Jvm.Cond.static ({ cls := "java/lang/String", name := "encodeUTF8_UTF16", desc := "([BZ)[B" } : Jvm.MethodName)).before a0 Z = true := hw _ (List.mem_of_getElem? (i := 142) rfl)
theorem own_q143 {Z : State} {a0 : Array Value} (hw : ∀ d ∈ tables_1, d.before a0 Z = true) : (Jvm.Cond.code ({ cls := "java/lang/String", name := "encodeUTF8_UTF16", desc := "([BZ)[B" } : Jvm.MethodName) jdk_42_method_47_code (9 : Nat) (Option.some (Jvm.ClassFile.FieldType.array Jvm.ClassFile.FieldType.byte))).before a0 Z = true := hw _ (List.mem_of_getElem? (i := 143) rfl)
theorem own_q144 {Z : State} {a0 : Array Value} (hw : ∀ d ∈ tables_1, d.before a0 Z = true) : (Jvm.Cond.methodLink "java/lang/String" (360 : Nat) ({ cls := "java/lang/StringUTF16", name := "getChar", desc := "([BI)C" } : Jvm.MethodName)).before a0 Z = true := hw _ (List.mem_of_getElem? (i := 144) rfl)
theorem own_q145 {Z : State} {a0 : Array Value} (hw : ∀ d ∈ tables_1, d.before a0 Z = true) : (Jvm.Cond.methodLink "java/lang/String" (404 : Nat) ({ cls := "java/lang/Character", name := "isSurrogate", desc := "(C)Z" } : Jvm.MethodName)).before a0 Z = true := hw _ (List.mem_of_getElem? (i := 145) rfl)
theorem own_q146 {Z : State} {a0 : Array Value} (hw : ∀ d ∈ tables_1, d.before a0 Z = true) : (Jvm.Cond.static ({ cls := "java/lang/Character", name := "isSurrogate", desc := "(C)Z" } : Jvm.MethodName)).before a0 Z = true := hw _ (List.mem_of_getElem? (i := 146) rfl)
theorem own_q147 {Z : State} {a0 : Array Value} (hw : ∀ d ∈ tables_1, d.before a0 Z = true) : (Jvm.Cond.initialized "java/lang/Character").before a0 Z = true := hw _ (List.mem_of_getElem? (i := 147) rfl)
theorem own_q148 {Z : State} {a0 : Array Value} (hw : ∀ d ∈ tables_1, d.before a0 Z = true) : (Jvm.Cond.code ({ cls := "java/lang/Character", name := "isSurrogate", desc := "(C)Z" } : Jvm.MethodName) jdk_89_method_16_code (1 : Nat) (Option.some Jvm.ClassFile.FieldType.boolean)).before a0 Z = true := hw _ (List.mem_of_getElem? (i := 148) rfl)
theorem own_q149 {Z : State} {a0 : Array Value} (hw : ∀ d ∈ tables_1, d.before a0 Z = true) : (Jvm.Cond.constant "java/lang/Character" (75 : Nat) (55296 : Int32)).before a0 Z = true := hw _ (List.mem_of_getElem? (i := 149) rfl)
theorem own_q150 {Z : State} {a0 : Array Value} (hw : ∀ d ∈ tables_1, d.before a0 Z = true) : (Jvm.Cond.fieldLink "com/example/wirecall/wirecall/FrameWireBytesPinLaw" (24 : Nat) "com/example/wirecall/wirecall/FrameType" "CAST" "Lcom/example/wirecall/wirecall/FrameType;").before a0 Z = true := hw _ (List.mem_of_getElem? (i := 150) rfl)
theorem own_q151 {Z : State} {a0 : Array Value} (hw : ∀ d ∈ tables_1, d.before a0 Z = true) : (Jvm.Cond.laysStatic "com/example/wirecall/wirecall/FrameType" "CAST" "Lcom/example/wirecall/wirecall/FrameType;").before a0 Z = true := hw _ (List.mem_of_getElem? (i := 151) rfl)
theorem own_q152 {Z : State} {a0 : Array Value} (hw : ∀ d ∈ tables_1, d.before a0 Z = true) : (Jvm.Cond.fieldLink "com/example/wirecall/wirecall/FrameWireBytesPinLaw" (33 : Nat) "com/example/wirecall/wirecall/FrameType" "HANDSHAKE" "Lcom/example/wirecall/wirecall/FrameType;").before a0 Z = true := hw _ (List.mem_of_getElem? (i := 152) rfl)
theorem own_q153 {Z : State} {a0 : Array Value} (hw : ∀ d ∈ tables_1, d.before a0 Z = true) : (Jvm.Cond.laysStatic "com/example/wirecall/wirecall/FrameType" "HANDSHAKE" "Lcom/example/wirecall/wirecall/FrameType;").before a0 Z = true := hw _ (List.mem_of_getElem? (i := 153) rfl)
theorem own_q154 {Z : State} {a0 : Array Value} (hw : ∀ d ∈ tables_1, d.before a0 Z = true) : (Jvm.Cond.fieldLink "com/example/wirecall/wirecall/FrameWireBytesPinLaw" (51 : Nat) "com/example/wirecall/wirecall/FrameType" "STREAM_END" "Lcom/example/wirecall/wirecall/FrameType;").before a0 Z = true := hw _ (List.mem_of_getElem? (i := 154) rfl)
theorem own_q155 {Z : State} {a0 : Array Value} (hw : ∀ d ∈ tables_1, d.before a0 Z = true) : (Jvm.Cond.laysStatic "com/example/wirecall/wirecall/FrameType" "STREAM_END" "Lcom/example/wirecall/wirecall/FrameType;").before a0 Z = true := hw _ (List.mem_of_getElem? (i := 155) rfl)
theorem own_q156 {Z : State} {a0 : Array Value} (hw : ∀ d ∈ tables_1, d.before a0 Z = true) : (Jvm.Cond.fieldLink "com/example/wirecall/wirecall/FrameWireBytesPinLaw" (27 : Nat) "com/example/wirecall/wirecall/FrameType" "REPLY" "Lcom/example/wirecall/wirecall/FrameType;").before a0 Z = true := hw _ (List.mem_of_getElem? (i := 156) rfl)
theorem own_q157 {Z : State} {a0 : Array Value} (hw : ∀ d ∈ tables_1, d.before a0 Z = true) : (Jvm.Cond.laysStatic "com/example/wirecall/wirecall/FrameType" "REPLY" "Lcom/example/wirecall/wirecall/FrameType;").before a0 Z = true := hw _ (List.mem_of_getElem? (i := 157) rfl)
theorem own_q158 {Z : State} {a0 : Array Value} (hw : ∀ d ∈ tables_1, d.before a0 Z = true) : (Jvm.Cond.methodLink "java/lang/String" (102 : Nat) ({ cls := "java/util/Arrays", name := "copyOf", desc := "([BI)[B" } : Jvm.MethodName)).before a0 Z = true := hw _ (List.mem_of_getElem? (i := 158) rfl)
theorem own_q159 {Z : State} {a0 : Array Value} (hw : ∀ d ∈ tables_1, d.before a0 Z = true) : (Jvm.Cond.static ({ cls := "java/util/Arrays", name := "copyOf", desc := "([BI)[B" } : Jvm.MethodName)).before a0 Z = true := hw _ (List.mem_of_getElem? (i := 159) rfl)
theorem own_q160 {Z : State} {a0 : Array Value} (hw : ∀ d ∈ tables_1, d.before a0 Z = true) : (Jvm.Cond.initialized "java/util/Arrays").before a0 Z = true := hw _ (List.mem_of_getElem? (i := 160) rfl)
theorem own_q161 {Z : State} {a0 : Array Value} (hw : ∀ d ∈ tables_1, d.before a0 Z = true) : (Jvm.Cond.code ({ cls := "java/util/Arrays", name := "copyOf", desc := "([BI)[B" } : Jvm.MethodName) jdk_65_method_121_code (3 : Nat) (Option.some (Jvm.ClassFile.FieldType.array Jvm.ClassFile.FieldType.byte))).before a0 Z = true := hw _ (List.mem_of_getElem? (i := 161) rfl)
theorem own_q162 {Z : State} {a0 : Array Value} (hw : ∀ d ∈ tables_1, d.before a0 Z = true) : (Jvm.Cond.methodLink "java/util/Arrays" (304 : Nat) ({ cls := "java/lang/Math", name := "min", desc := "(II)I" } : Jvm.MethodName)).before a0 Z = true := hw _ (List.mem_of_getElem? (i := 162) rfl)
theorem own_q163 {Z : State} {a0 : Array Value} (hw : ∀ d ∈ tables_1, d.before a0 Z = true) : (Jvm.Cond.static ({ cls := "java/lang/Math", name := "min", desc := "(II)I" } : Jvm.MethodName)).before a0 Z = true := hw _ (List.mem_of_getElem? (i := 163) rfl)
theorem own_q164 {Z : State} {a0 : Array Value} (hw : ∀ d ∈ tables_1, d.before a0 Z = true) : (Jvm.Cond.initialized "java/lang/Math").before a0 Z = true := hw _ (List.mem_of_getElem? (i := 164) rfl)
theorem own_q165 {Z : State} {a0 : Array Value} (hw : ∀ d ∈ tables_1, d.before a0 Z = true) : (Jvm.Cond.code ({ cls := "java/lang/Math", name := "min", desc := "(II)I" } : Jvm.MethodName) jdk_29_method_69_code (2 : Nat) (Option.some Jvm.ClassFile.FieldType.int)).before a0 Z = true := hw _ (List.mem_of_getElem? (i := 165) rfl)
theorem own_q166 {Z : State} {a0 : Array Value} (hw : ∀ d ∈ tables_1, d.before a0 Z = true) : (Jvm.Cond.methodLink "java/util/Arrays" (150 : Nat) ({ cls := "java/lang/System", name := "arraycopy", desc := "(Ljava/lang/Object;ILjava/lang/Object;II)V" } : Jvm.MethodName)).before a0 Z = true := hw _ (List.mem_of_getElem? (i := 166) rfl)
theorem own_q167 {Z : State} {a0 : Array Value} (hw : ∀ d ∈ tables_1, d.before a0 Z = true) : (Jvm.Cond.static ({ cls := "java/lang/System", name := "arraycopy", desc := "(Ljava/lang/Object;ILjava/lang/Object;II)V" } : Jvm.MethodName)).before a0 Z = true := hw _ (List.mem_of_getElem? (i := 167) rfl)
theorem own_q168 {Z : State} {a0 : Array Value} (hw : ∀ d ∈ tables_1, d.before a0 Z = true) : (Jvm.Cond.initialized "java/lang/System").before a0 Z = true := hw _ (List.mem_of_getElem? (i := 168) rfl)
theorem own_q169 {Z : State} {a0 : Array Value} (hw : ∀ d ∈ tables_1, d.before a0 Z = true) : (Jvm.Cond.native ({ cls := "java/lang/System", name := "arraycopy", desc := "(Ljava/lang/Object;ILjava/lang/Object;II)V" } : Jvm.MethodName)).before a0 Z = true := hw _ (List.mem_of_getElem? (i := 169) rfl)
theorem own_q170 {Z : State} {a0 : Array Value} (hw : ∀ d ∈ tables_1, d.before a0 Z = true) : (Jvm.Cond.fieldLink "com/example/wirecall/wirecall/FrameWireBytesPinLaw" (30 : Nat) "com/example/wirecall/wirecall/FrameType" "ERROR" "Lcom/example/wirecall/wirecall/FrameType;").before a0 Z = true := hw _ (List.mem_of_getElem? (i := 170) rfl)
theorem own_q171 {Z : State} {a0 : Array Value} (hw : ∀ d ∈ tables_1, d.before a0 Z = true) : (Jvm.Cond.laysStatic "com/example/wirecall/wirecall/FrameType" "ERROR" "Lcom/example/wirecall/wirecall/FrameType;").before a0 Z = true := hw _ (List.mem_of_getElem? (i := 171) rfl)
theorem own_q172 {Z : State} {a0 : Array Value} (hw : ∀ d ∈ tables_1, d.before a0 Z = true) : (Jvm.Cond.methodLink "java/lang/String" (60 : Nat) ({ cls := "java/lang/StringUTF16", name := "newBytesFor", desc := "(I)[B" } : Jvm.MethodName)).before a0 Z = true := hw _ (List.mem_of_getElem? (i := 172) rfl)
theorem own_q173 {Z : State} {a0 : Array Value} (hw : ∀ d ∈ tables_1, d.before a0 Z = true) : (Jvm.Cond.fieldLink "com/example/wirecall/wirecall/FrameWireBytesPinLaw" (39 : Nat) "com/example/wirecall/wirecall/FrameType" "UNSUBSCRIBE" "Lcom/example/wirecall/wirecall/FrameType;").before a0 Z = true := hw _ (List.mem_of_getElem? (i := 173) rfl)
theorem own_q174 {Z : State} {a0 : Array Value} (hw : ∀ d ∈ tables_1, d.before a0 Z = true) : (Jvm.Cond.laysStatic "com/example/wirecall/wirecall/FrameType" "UNSUBSCRIBE" "Lcom/example/wirecall/wirecall/FrameType;").before a0 Z = true := hw _ (List.mem_of_getElem? (i := 174) rfl)
theorem own_q175 {Z : State} {a0 : Array Value} (hw : ∀ d ∈ tables_1, d.before a0 Z = true) : (Jvm.Cond.fieldLink "com/example/wirecall/wirecall/FrameWireBytesPinLaw" (45 : Nat) "com/example/wirecall/wirecall/FrameType" "STREAM_START" "Lcom/example/wirecall/wirecall/FrameType;").before a0 Z = true := hw _ (List.mem_of_getElem? (i := 175) rfl)
theorem own_q176 {Z : State} {a0 : Array Value} (hw : ∀ d ∈ tables_1, d.before a0 Z = true) : (Jvm.Cond.laysStatic "com/example/wirecall/wirecall/FrameType" "STREAM_START" "Lcom/example/wirecall/wirecall/FrameType;").before a0 Z = true := hw _ (List.mem_of_getElem? (i := 176) rfl)
theorem own_q177 {Z : State} {a0 : Array Value} (hw : ∀ d ∈ tables_1, d.before a0 Z = true) : (Jvm.Cond.fieldLink "com/example/wirecall/wirecall/FrameWireBytesPinLaw" (48 : Nat) "com/example/wirecall/wirecall/FrameType" "STREAM_DATA" "Lcom/example/wirecall/wirecall/FrameType;").before a0 Z = true := hw _ (List.mem_of_getElem? (i := 177) rfl)
theorem own_q178 {Z : State} {a0 : Array Value} (hw : ∀ d ∈ tables_1, d.before a0 Z = true) : (Jvm.Cond.laysStatic "com/example/wirecall/wirecall/FrameType" "STREAM_DATA" "Lcom/example/wirecall/wirecall/FrameType;").before a0 Z = true := hw _ (List.mem_of_getElem? (i := 178) rfl)
theorem own_q179 {Z : State} {a0 : Array Value} (hw : ∀ d ∈ tables_1, d.before a0 Z = true) : (Jvm.Cond.fieldLink "com/example/wirecall/wirecall/FrameWireBytesPinLaw" (36 : Nat) "com/example/wirecall/wirecall/FrameType" "SUBSCRIBE" "Lcom/example/wirecall/wirecall/FrameType;").before a0 Z = true := hw _ (List.mem_of_getElem? (i := 179) rfl)
theorem own_q180 {Z : State} {a0 : Array Value} (hw : ∀ d ∈ tables_1, d.before a0 Z = true) : (Jvm.Cond.laysStatic "com/example/wirecall/wirecall/FrameType" "SUBSCRIBE" "Lcom/example/wirecall/wirecall/FrameType;").before a0 Z = true := hw _ (List.mem_of_getElem? (i := 180) rfl)
theorem own_q181 {Z : State} {a0 : Array Value} (hw : ∀ d ∈ tables_1, d.before a0 Z = true) : (Jvm.Cond.fieldLink "com/example/wirecall/wirecall/FrameWireBytesPinLaw" (54 : Nat) "com/example/wirecall/wirecall/FrameType" "STREAM_CANCEL" "Lcom/example/wirecall/wirecall/FrameType;").before a0 Z = true := hw _ (List.mem_of_getElem? (i := 181) rfl)
theorem own_q182 {Z : State} {a0 : Array Value} (hw : ∀ d ∈ tables_1, d.before a0 Z = true) : (Jvm.Cond.laysStatic "com/example/wirecall/wirecall/FrameType" "STREAM_CANCEL" "Lcom/example/wirecall/wirecall/FrameType;").before a0 Z = true := hw _ (List.mem_of_getElem? (i := 182) rfl)

section Strs
variable {md : Nat} {p : Program} {l : Launch} {e : Env} {R : Room} {s : State} {m : MethodId} {args : Array Value} {below : List Frame} {meth : Method} {c : Code} {own : String} {Z : State} {EL : List (String × Nat)} {vm : Vm} {T : State} {h h' h0 : Heap} {cells slots : Nat} {P : Outcome → State → Prop} {pc : Nat} {L : Array Slot} {a0 : Array Value} {a b : Addr} {cs ds : List Int32} {W : Nat}
def own_lat (cs : List Int32) : Prop := ∀ c ∈ cs, ¬ c < 0 ∧ ¬ (255 : Int32) < c
def own_str (Z : State) (h : Heap) (a : Addr) (cs : List Int32) : Prop := own_lat cs ∧ cs.length ≤ 4000 ∧ ∃ b k, Exa Z h a "java/lang/String" ∧ Fld Z h a "java/lang/String" "coder" "B" (.int 0) ∧ Fld Z h a "java/lang/String" "value" "[B" (.ref b) ∧ Arv Z h b k .byte (Int32.ofNat cs.length) ((cs.map fun c => c.toInt8.toInt32).map Value.int) (.int 0)
theorem own_str.ext (F : own_str Z h a cs) (E : Ext h h') : own_str Z h' a cs := by
  obtain ⟨f1, f2, b, k, f3, f4, f5, f6⟩ := F; exact ⟨f1, f2, b, k, f3.ext E, f4.ext E, f5.ext E, f6.ext E⟩
theorem own_str.exa (F : own_str Z h a cs) : Exa Z h a "java/lang/String" := by obtain ⟨-, -, _, _, f3, -⟩ := F; exact f3
theorem own_str.lat (F : own_str Z h a cs) : own_lat cs := F.1
theorem own_str.lt (F : own_str Z h a cs) : a < h.size := F.exa.lt
/-- over a step that writes new cells alone -/
theorem own_str.keep {ws : List Addr} (F : own_str Z h a cs) (K : Keep h h' ws) (q : ∀ x ∈ ws, h.size ≤ x) : own_str Z h' a cs := by
  obtain ⟨f1, f2, b, k, f3, f4, f5, f6⟩ := F
  have na : a ∉ ws := fun z => absurd (q a z) (Nat.not_le.mpr f3.lt)
  have nb : b ∉ ws := fun z => absurd (q b z) (Nat.not_le.mpr f6.lt)
  exact ⟨f1, f2, b, k, f3.keep K, f4.keep K na, f5.keep K na, f6.keep K nb⟩
theorem own_up (H : own_lat cs) : ∀ c ∈ cs, ¬ c < 0 ∧ ¬ (65535 : Int32) < c := fun c hc => ⟨(H c hc).1, fun q => (H c hc).2 (by
  rw [Int32.lt_iff_toInt_lt] at q ⊢
  have e1 : (65535 : Int32).toInt = 65535 := by decide
  have e2 : (255 : Int32).toInt = 255 := by decide
  omega)⟩
theorem own_lat_nil : own_lat [] := fun c hc => by cases hc
theorem own_lat_cons {x : Int32} (hx : 0 ≤ x.toInt ∧ x.toInt ≤ 255) (H : own_lat cs) : own_lat (x :: cs) := fun c hc => by
  rcases List.mem_cons.mp hc with rfl | hc
  · have e1 : (0 : Int32).toInt = 0 := by decide
    have e2 : (255 : Int32).toInt = 255 := by decide
    rw [Int32.lt_iff_toInt_lt, Int32.lt_iff_toInt_lt]; omega
  · exact H c hc
theorem own_b16 {x : Int32} (hx : 0 ≤ x.toInt ∧ x.toInt ≤ 255) : 0 ≤ x.toInt ∧ x.toInt ≤ 65535 := ⟨hx.1, by omega⟩
theorem own_cod (H : own_lat cs) : StrChars.Road.CodA cs 0 (Int32.ofNat cs.length) ((cs.map fun c => c.toInt8.toInt32).map Value.int) := StrChars.Road.codOf (cs := cs) rfl fun c hc => (H c hc).2
def own_cs (Z : State) : Prop := ∃ z : Int32, Sta Z Z.heap "java/lang/String" "COMPACT_STRINGS" "Z" (.int z) ∧ ¬ z = 0
def own_sf (Z : State) : Prop := ∃ fm : Value, Sta Z Z.heap "jdk/internal/util/Preconditions" "SIOOBE_FORMATTER" "Ljava/util/function/BiFunction;" fm ∧ fm.isRef = true
theorem own_ext_wr {sl : Nat} {v : Value} (E : Ext h0 h) (W : Wr h h' a sl v) (q : h0.size ≤ a) : Ext h0 h' := by
  obtain ⟨cell, h1, h2, h3, rfl⟩ := W
  refine ⟨by simpa using E.1, fun x c hx => ?_⟩
  have := (Array.getElem?_eq_some_iff.mp hx).1
  rw [Array.getElem?_setIfInBounds_ne (by omega)]; exact E.2 x c hx
theorem own_ext_keep {ws : List Addr} (E : Ext h0 h) (K : Keep h h' ws) (q : ∀ x ∈ ws, h0.size ≤ x) : Ext h0 h' :=
  ⟨Nat.le_trans E.1 K.1, fun x c hx => K.2.1 x c (E.2 x c hx) fun z => absurd (q x z) (Nat.not_le.mpr (Array.getElem?_eq_some_iff.mp hx).1)⟩
theorem own_ext_trans {h1 h2 : Heap} (E : Ext h0 h1) (E' : Ext h1 h2) : Ext h0 h2 := ⟨Nat.le_trans E.1 E'.1, fun x c hx => E'.2 x c (E.2 x c hx)⟩
theorem own_ext_refl : Ext h h := ⟨Nat.le_refl _, fun _ _ q => q⟩
theorem own_nar {x : Int32} (hx : 0 ≤ x.toInt ∧ x.toInt ≤ 65535) : nar .char x = x := by
  have := c_i2c x
  refine Int32.toInt_inj.mp ?_
  show x.toUInt32.toUInt16.toUInt32.toInt32.toInt = x.toInt
  omega
/-- a String as 'new' leaves it -/
def own_raw (Z : State) (h : Heap) (a : Addr) : Prop := Exa Z h a "java/lang/String" ∧ (∃ v0, Fld Z h a "java/lang/String" "value" "[B" v0) ∧ ∃ c0, Fld Z h a "java/lang/String" "coder" "B" c0
theorem own_raw.ext (F : own_raw Z h a) (E : Ext h h') : own_raw Z h' a := by obtain ⟨f1, ⟨v, f2⟩, d, f3⟩ := F; exact ⟨f1.ext E, ⟨v, f2.ext E⟩, d, f3.ext E⟩
theorem own_raw.wr {sl : Nat} {v : Value} (F : own_raw Z h a) (W : Wr h h' b sl v) (q : a ≠ b) : own_raw Z h' a := by obtain ⟨f1, ⟨v, f2⟩, d, f3⟩ := F; exact ⟨f1.wr W, ⟨v, f2.other W (Or.inl q)⟩, d, f3.other W (Or.inl q)⟩
end Strs
theorem own_wS {Z : State} {a0 : Array Value} (hw : ∀ d ∈ tables_1, d.before a0 Z = true) : ∀ a ∈ Bundle.stringAtoms, a.before a0 Z = true := fun d hd => hw d ((by decide +kernel : ∀ d ∈ Bundle.stringAtoms, d ∈ tables_1) d hd)
theorem own_ew {Z : State} {a0 : Array Value} (hw : ∀ d ∈ tables_1, d.before a0 Z = true) : EW Z a0 consts_1 :=
  (EW.cons (own_q60 hw) (by decide +kernel) (EW.cons (own_q102 hw) (by decide +kernel) (EW.cons (own_q105 hw) (by decide +kernel) (EW.cons (own_q42 hw) (by decide +kernel) EW.nil))))
theorem own_nat {n : Nat} (h : n ≤ 4000) : (Int32.ofNat n).toInt = n := toInt_of rfl (by omega)
theorem own_nz {z : Int32} (h : ¬ z = 0) : ¬ z.toInt = 0 := fun q => h (Int32.toInt_inj.mp (q.trans (by decide)))
def own_bs (ds : List Int32) : List Value := (ds.map fun c => c.toInt8.toInt32).map Value.int
def own_pr : List Int32 → List Value
  | [] => []
  | c :: r => .int (StrChars.lo8 c) :: .int (StrChars.hi8 c) :: own_pr r
def own_u (c : Int32) : Int := if c.toInt < 128 then 1 else if c.toInt < 2048 then 2 else 3
theorem own_u1 {c : Int32} (h : c.toInt < 128) : own_u c = 1 := if_pos h
theorem own_u2 {c : Int32} (h : ¬ c.toInt < 128) (h2 : c.toInt < 2048) : own_u c = 2 := by unfold own_u; rw [if_neg h, if_pos h2]
theorem own_u3 {c : Int32} (h2 : ¬ c.toInt < 2048) : own_u c = 3 := by unfold own_u; rw [if_neg (by omega), if_neg h2]
theorem own_ub (c : Int32) : 1 ≤ own_u c ∧ own_u c ≤ 3 := by unfold own_u; (repeat' split) <;> omega
def own_us : List Int32 → Int
  | [] => 0
  | c :: r => own_u c + own_us r
/-- a String that codes the chars cs, Latin-1 or UTF-16 -/
def own_txt (Z : State) (h : Heap) (x : Addr) (cs : List Int32) : Prop := Exa Z h x "java/lang/String" ∧ ∃ t k, Fld Z h x "java/lang/String" "value" "[B" (.ref t) ∧ ((Fld Z h x "java/lang/String" "coder" "B" (.int 0) ∧ own_lat cs ∧ Exa Z h t "[B" ∧ Arv Z h t k .byte (Int32.ofNat cs.length) (own_bs cs) (.int 0)) ∨ (Fld Z h x "java/lang/String" "coder" "B" (.int 1) ∧ ¬ cs = [] ∧ Arv Z h t k .byte (Int32.ofNat (2 * cs.length)) (own_pr cs) (.int 0)))
theorem own_txt.ext {Z : State} {h h' : Heap} {x : Addr} {cs : List Int32} (F : own_txt Z h x cs) (E : Ext h h') : own_txt Z h' x cs := by
  obtain ⟨f1, t, k, f2, f3⟩ := F
  refine ⟨f1.ext E, t, k, f2.ext E, ?_⟩
  rcases f3 with ⟨f3, f4, f6, f5⟩ | ⟨f3, f4, f5⟩
  · exact Or.inl ⟨f3.ext E, f4, f6.ext E, f5.ext E⟩
  · exact Or.inr ⟨f3.ext E, f4, f5.ext E⟩
theorem own_at {vs : List Value} {dv v : Value} {j : Int32} {i : Nat} (hj : j.toNatClampNeg = i) (h : vs.getD i dv = v) : vs.getD j.toNatClampNeg dv = v := by rw [hj]; exact h
theorem own_lo8 (x : Int32) : x.toInt8.toInt32.toInt8.toInt32 = x.toInt8.toInt32 := by simp
theorem own_st0 (c : Int32) : (c >>> ((0 : Int32) &&& 31)).toInt8.toInt32.toInt8.toInt32 = StrChars.lo8 c := by rw [StrChars.shr0, own_lo8]; rfl
theorem own_st8 (c : Int32) : (c >>> ((8 : Int32) &&& 31)).toInt8.toInt32.toInt8.toInt32 = StrChars.hi8 c := by rw [own_lo8]; rfl
theorem own_b15 {c : Int32} (k : 0 ≤ c.toInt ∧ c.toInt ≤ 32767) : 0 ≤ c.toInt ∧ c.toInt ≤ 65535 := ⟨k.1, by omega⟩
theorem own_pair {c : Int32} (k : 0 ≤ c.toInt ∧ c.toInt ≤ 32767) : (((StrChars.lo8 c) &&& (255 : Int32)) <<< ((0 : Int32) &&& 31) ||| ((StrChars.hi8 c) &&& (255 : Int32)) <<< ((8 : Int32) &&& 31)).toUInt32.toUInt16.toUInt32.toInt32 = c := by
  have e0 : (0 : Int32).toInt = 0 := by decide
  have e1 : (65535 : Int32).toInt = 65535 := by decide
  exact StrChars.pair_says (by rw [Int32.lt_iff_toInt_lt]; omega) (by rw [Int32.lt_iff_toInt_lt]; omega)
theorem own_narrow {c : Int32} (k : 0 ≤ c.toInt ∧ c.toInt ≤ 32767) : narrow .char (.int c) = .int c := congrArg Value.int (own_nar (own_b15 k))
theorem own_i8 (c : Int32) (k : 0 ≤ c.toInt ∧ c.toInt ≤ 255) : (c.toInt < 128 ∧ c.toInt8.toInt32.toInt = c.toInt) ∨ (128 ≤ c.toInt ∧ c.toInt8.toInt32.toInt = c.toInt - 256) := by
  have := c_i2b c
  omega
theorem own_clamp {j : Int32} (h : 0 ≤ j.toInt) : (j.toNatClampNeg : Int) = j.toInt := by simp only [Int32.toNatClampNeg]; omega
theorem own_add1 {j : Int32} (h : 0 ≤ j.toInt ∧ j.toInt ≤ 100) : (j + (1 : Int32)).toInt = j.toInt + 1 := by
  have h2 := c_iadd j 1
  have h3 := rng32 (j + 1)
  have e : (1 : Int32).toInt = 1 := by decide
  omega
theorem own_lt {x y : Int32} (h : x.toInt < y.toInt) : x < y := Int32.lt_iff_toInt_lt.mpr h
theorem own_nn {x : Int32} (h : 0 ≤ x.toInt) : ¬ x < 0 := by
  have e : (0 : Int32).toInt = 0 := by decide
  rw [Int32.lt_iff_toInt_lt]; omega
def own_h16 (Z : State) : Prop := Sta Z Z.heap "java/lang/StringUTF16" "$assertionsDisabled" "Z" (.int 1) ∧ Sta Z Z.heap "java/lang/StringUTF16" "HI_BYTE_SHIFT" "I" (.int 0) ∧ Sta Z Z.heap "java/lang/StringUTF16" "LO_BYTE_SHIFT" "I" (.int 8)
/-- the array that an encoder gives back: its length -/
def own_enc (Z : State) (h : Heap) (t : Addr) (u : Int) : Prop := ∃ k z us, Arv Z h t k .byte z us (.int 0) ∧ z.toInt = u
theorem own_enc.ext {Z : State} {h h' : Heap} {t : Addr} {u : Int} (F : own_enc Z h t u) (E : Ext h h') : own_enc Z h' t u := by obtain ⟨k, z, us, f, e⟩ := F; exact ⟨k, z, us, f.ext E, e⟩
theorem own_enc.other {Z : State} {h h' : Heap} {t b : Addr} {u : Int} {sl : Nat} {v : Value} (F : own_enc Z h t u) (W : Wr h h' b sl v) (q : t ≠ b) : own_enc Z h' t u := by obtain ⟨k, z, us, f, e⟩ := F; exact ⟨k, z, us, f.other W q, e⟩
theorem own_keep_ext {h h1 h2 : Heap} {ws : List Addr} (E : Ext h h1) (K : Keep h1 h2 ws) : Keep h h2 ws := ((Keep.refl h ws).ext E).trans K (fun x hx => Or.inl hx)
theorem own_ef0 (m : MethodId) (x0 : Addr) (x1 : Int32) (x2 : Addr) (x3 : Int32) (x4 : Int32) : entryFrame m #[(.ref x0), (.int x1), (.ref x2), (.int x3), (.int x4)] 7 = mkF m 0 #[.val (.ref x0), .val (.int x1), .val (.ref x2), .val (.int x3), .val (.int x4), .unset, .unset] [] := by first | (simp [entryFrame, mkF, argsToLocals, Value.category]; done) | rfl
theorem own_d1 : decode jdk_52_method_21_code 0 = .ok (.iconst 0, 1) := by decide +kernel
theorem own_d2 : decode jdk_52_method_21_code 1 = .ok (.istore 5, 2) := by decide +kernel
theorem own_d3 : decode jdk_52_method_21_code 3 = .ok (.iload 5, 2) := by decide +kernel
theorem own_d4 : decode jdk_52_method_21_code 5 = .ok (.iload 4, 2) := by decide +kernel
theorem own_d5 : decode jdk_52_method_21_code 7 = .ok (.if_icmp .ge 37, 3) := by decide +kernel
theorem own_d6 : decode jdk_52_method_21_code 10 = .ok (.aload_n 0, 1) := by decide +kernel
theorem own_d7 : decode jdk_52_method_21_code 11 = .ok (.iload_n 1, 1) := by decide +kernel
theorem own_d8 : decode jdk_52_method_21_code 12 = .ok (.caload, 1) := by decide +kernel
theorem own_d9 : decode jdk_52_method_21_code 13 = .ok (.istore 6, 2) := by decide +kernel
theorem own_d10 : decode jdk_52_method_21_code 15 = .ok (.iload 6, 2) := by decide +kernel
theorem own_d11 : decode jdk_52_method_21_code 17 = .ok (.sipush 255, 3) := by decide +kernel
theorem own_d12 : decode jdk_52_method_21_code 20 = .ok (.if_icmp .le 6, 3) := by decide +kernel
theorem own_d13 : decode jdk_52_method_21_code 26 = .ok (.aload_n 2, 1) := by decide +kernel
theorem own_d14 : decode jdk_52_method_21_code 27 = .ok (.iload_n 3, 1) := by decide +kernel
theorem own_d15 : decode jdk_52_method_21_code 28 = .ok (.iload 6, 2) := by decide +kernel
theorem own_d16 : decode jdk_52_method_21_code 30 = .ok (.i2b, 1) := by decide +kernel
theorem own_d17 : decode jdk_52_method_21_code 31 = .ok (.bastore, 1) := by decide +kernel
theorem own_d18 : decode jdk_52_method_21_code 32 = .ok (.iinc 1 1, 3) := by decide +kernel
theorem own_d19 : decode jdk_52_method_21_code 35 = .ok (.iinc 3 1, 3) := by decide +kernel
theorem own_d20 : decode jdk_52_method_21_code 38 = .ok (.iinc 5 1, 3) := by decide +kernel
theorem own_d21 : decode jdk_52_method_21_code 41 = .ok (.goto (-38), 3) := by decide +kernel
theorem own_d22 : decode jdk_52_method_21_code 44 = .ok (.iload 4, 2) := by decide +kernel
theorem own_d23 : decode jdk_52_method_21_code 46 = .ok (.ireturn, 1) := by decide +kernel
theorem own_d24 : decode jdk_52_method_21_code 23 = .ok (.iload 5, 2) := by decide +kernel
theorem own_d25 : decode jdk_52_method_21_code 25 = .ok (.ireturn, 1) := by decide +kernel
theorem own_pn26 : plainName "java/lang/StringUTF16" = true := by first | (simp [plainName, overriddenIn]; done) | decide +kernel
set_option maxRecDepth 65536 in
set_option maxHeartbeats 40000000 in
theorem ctC51 (l : Launch) (Z : State) (a0 : Array Value) (hw : ∀ d ∈ tables_1, d.before a0 Z = true) (a b : Addr) (ka kb : ClassId) (c1 : Int32) (h : Heap) (O : Old Z Z.heap.size h) (k1 : 0 ≤ c1.toInt ∧ c1.toInt ≤ 32767) (A : Arv Z h a ka .char (1 : Int32) [(.int c1)] (.int 0)) (B : Arv Z h b kb .byte (1 : Int32) [.int 0] (.int 0)) (gb : Z.heap.size ≤ b) (nab : a ≠ b) :
    Ct 0 l Z [] [] (⟨"java/lang/StringUTF16", "compress", "([CI[BII)I"⟩ : MethodName) jdk_52_method_21_code 7 (some .int) ({ frames := 0, cells := 0, slots := 0, locals := 0 } : Room) #[(.ref a), (.int (0 : Int32)), (.ref b), (.int (0 : Int32)), (.int (1 : Int32))] h (fun v h' => Keep h h' [b] ∧ ((v = some (.int (1 : Int32)) ∧ own_lat [c1] ∧ Arv Z h' b kb .byte (1 : Int32) (own_bs [c1]) (.int 0)) ∨ (v = some (.int (0 : Int32)) ∧ 255 < c1.toInt))) := by
  refine Ct.intro (plainFor_of_name own_pn26) O (fun _ => rfl) ⟨a0, EW.nil⟩ ?_
  intro p e s m below meth c T0 hx hby hml hret hnm hlk hsf S0
  refine Goes.cast (own_ef0 m a (0 : Int32) b (0 : Int32) (1 : Int32)) ?_
  have K := Keep.refl h [b]
  refine g_iconst S0.here hx (hb hby own_d1) (0 : Int32) (by decide) 1 rfl ?_
  refine g_istore S0.here hx (hb hby own_d2) #[.val (.ref a), .val (.int (0 : Int32)), .val (.ref b), .val (.int (0 : Int32)), .val (.int (1 : Int32)), .val (.int (0 : Int32)), .unset] rfl 3 rfl ?_
  refine g_iload S0.here hx (hb hby own_d3) rfl 5 rfl ?_
  refine g_iload S0.here hx (hb hby own_d4) rfl 7 rfl ?_
  refine g_icmpF S0.here hx (hb hby own_d5) 0 1 (by decide) (by decide) (by show ¬ (1 ≤ 0); decide) 10 rfl ?_
  refine g_aloadN S0.here hx (hb hby own_d6) rfl rfl 11 rfl ?_
  refine g_iloadN S0.here hx (hb hby own_d7) rfl 12 rfl ?_
  refine S0.cald hx A ⟨by decide, by decide⟩ (own_at (i := 0) (by decide) rfl) (hb hby own_d8) 13 rfl ?_
  refine g_istore S0.here hx (hb hby own_d9) #[.val (.ref a), .val (.int (0 : Int32)), .val (.ref b), .val (.int (0 : Int32)), .val (.int (1 : Int32)), .val (.int (0 : Int32)), .val (.int c1)] rfl 15 rfl ?_
  refine g_iload S0.here hx (hb hby own_d10) rfl 17 rfl ?_
  refine g_sipush S0.here hx (hb hby own_d11) (255 : Int32) (by decide) 20 rfl ?_
  refine g_icmp S0.here hx (hb hby own_d12) c1.toInt 255 rfl (by decide) 26 23 (by decide) (by decide) rfl (fun (hc20 : c1.toInt ≤ 255) => ?_) (fun (hc20 : ¬ (c1.toInt ≤ 255)) => ?_)
  · refine g_aloadN S0.here hx (hb hby own_d13) rfl rfl 27 rfl ?_
    refine g_iloadN S0.here hx (hb hby own_d14) rfl 28 rfl ?_
    refine g_iload S0.here hx (hb hby own_d15) rfl 30 rfl ?_
    refine g_i2b S0.here hx (hb hby own_d16) 31 rfl ?_
    refine S0.stB hx B 0 ⟨by decide, by decide⟩ (by decide) (by simp) gb safe_nil (hb hby own_d17) 32 rfl (fun T1 h1 S1 W1 V1 R1 => ?_)
    rw [own_lo8] at V1
    have B : Arv Z h1 b kb .byte (1 : Int32) [.int c1.toInt8.toInt32] (.int 0) := V1
    have A := A.other W1 nab
    have K := K.wr W1 (Or.inl (List.mem_singleton.mpr rfl))
    refine g_iinc S1.here hx (hb hby own_d18) rfl #[.val (.ref a), .val (.int (1 : Int32)), .val (.ref b), .val (.int (0 : Int32)), .val (.int (1 : Int32)), .val (.int (0 : Int32)), .val (.int c1)] (by rw [show (0 : Int32) + Int32.ofInt 1 = (1 : Int32) from by decide]; rfl) 35 rfl ?_
    refine g_iinc S1.here hx (hb hby own_d19) rfl #[.val (.ref a), .val (.int (1 : Int32)), .val (.ref b), .val (.int (1 : Int32)), .val (.int (1 : Int32)), .val (.int (0 : Int32)), .val (.int c1)] (by rw [show (0 : Int32) + Int32.ofInt 1 = (1 : Int32) from by decide]; rfl) 38 rfl ?_
    refine g_iinc S1.here hx (hb hby own_d20) rfl #[.val (.ref a), .val (.int (1 : Int32)), .val (.ref b), .val (.int (1 : Int32)), .val (.int (1 : Int32)), .val (.int (1 : Int32)), .val (.int c1)] (by rw [show (0 : Int32) + Int32.ofInt 1 = (1 : Int32) from by decide]; rfl) 41 rfl ?_
    refine g_goto S1.here hx (hb hby own_d21) 3 (by decide) (by decide) ?_
    refine g_iload S1.here hx (hb hby own_d3) rfl 5 rfl ?_
    refine g_iload S1.here hx (hb hby own_d4) rfl 7 rfl ?_
    refine g_icmpT S1.here hx (hb hby own_d5) 1 1 (by decide) (by decide) (by show 1 ≤ 1; decide) 44 (by decide) (by decide) ?_
    refine g_iload S1.here hx (hb hby own_d22) rfl 46 rfl ?_
    exact S1.iret hx hlk hret (Or.inl rfl) rfl (hb hby own_d23) ⟨K, Or.inl ⟨rfl, (own_lat_cons ⟨k1.1, by omega⟩ own_lat_nil), B⟩⟩ (by decide) (by decide)
  · refine g_iload S0.here hx (hb hby own_d24) rfl 25 rfl ?_
    exact S0.iret hx hlk hret (Or.inl rfl) rfl (hb hby own_d25) ⟨K, Or.inr (⟨rfl, by omega⟩)⟩ (by decide) (by decide)
theorem own_ef27 (m : MethodId) (x0 : Int32) : entryFrame m #[(.int x0)] 1 = mkF m 0 #[.val (.int x0)] [] := by first | (simp [entryFrame, mkF, argsToLocals, Value.category]; done) | rfl
theorem own_d28 : decode jdk_52_method_3_code 0 = .ok (.iload_n 0, 1) := by decide +kernel
theorem own_d29 : decode jdk_52_method_3_code 1 = .ok (.ifCond .ge 11, 3) := by decide +kernel
theorem own_d30 : decode jdk_52_method_3_code 12 = .ok (.iload_n 0, 1) := by decide +kernel
theorem own_d31 : decode jdk_52_method_3_code 13 = .ok (.ldc 20, 2) := by decide +kernel
theorem own_d32 : decode jdk_52_method_3_code 15 = .ok (.if_icmp .lt 40, 3) := by decide +kernel
theorem own_d33 : decode jdk_52_method_3_code 55 = .ok (.iload_n 0, 1) := by decide +kernel
theorem own_d34 : decode jdk_52_method_3_code 56 = .ok (.iconst 1, 1) := by decide +kernel
theorem own_d35 : decode jdk_52_method_3_code 57 = .ok (.ishl, 1) := by decide +kernel
theorem own_d36 : decode jdk_52_method_3_code 58 = .ok (.ireturn, 1) := by decide +kernel
set_option maxRecDepth 65536 in
set_option maxHeartbeats 40000000 in
theorem ctNL1 (l : Launch) (Z : State) (a0 : Array Value) (hw : ∀ d ∈ tables_1, d.before a0 Z = true)  (h : Heap) (O : Old Z Z.heap.size h) :
    Ct 0 l Z [] [] (⟨"java/lang/StringUTF16", "newBytesLength", "(I)I"⟩ : MethodName) jdk_52_method_3_code 1 (some .int) ({ frames := 0, cells := 0, slots := 0, locals := 0 } : Room) #[(.int (1 : Int32))] h (fun v h' => v = some (.int (2 : Int32)) ∧ h = h') := by
  refine Ct.intro (plainFor_of_name own_pn26) O (fun _ => rfl) ⟨a0, EW.nil⟩ ?_
  intro p e s m below meth c T0 hx hby hml hret hnm hlk hsf S0
  refine Goes.cast (own_ef27 m (1 : Int32)) ?_
  refine g_iloadN S0.here hx (hb hby own_d28) rfl 1 rfl ?_
  refine g_ifT S0.here hx (hb hby own_d29) 1 (by decide) (by show 0 ≤ 1; decide) 12 (by decide) (by decide) ?_
  refine g_iloadN S0.here hx (hb hby own_d30) rfl 13 rfl ?_
  refine S0.ldcI hx (own_q131 hw) (hb hby own_d31) 15 rfl ?_
  refine g_icmpT S0.here hx (hb hby own_d32) 1 1073741823 (by decide) (by decide) (by show 1 < 1073741823; decide) 55 (by decide) (by decide) ?_
  refine g_iloadN S0.here hx (hb hby own_d33) rfl 56 rfl ?_
  refine g_iconst S0.here hx (hb hby own_d34) (1 : Int32) (by decide) 57 rfl ?_
  refine g_ishl S0.here hx (hb hby own_d35) 58 rfl ?_
  rw [show ((1 : Int32) <<< ((1 : Int32) &&& 31)) = (2 : Int32) from by decide]
  exact S0.iret hx hlk hret (Or.inl rfl) rfl (hb hby own_d36) ⟨rfl, rfl⟩ (by decide) (by decide)
theorem own_d37 : decode jdk_52_method_2_code 0 = .ok (.iload_n 0, 1) := by decide +kernel
theorem own_d38 : decode jdk_52_method_2_code 1 = .ok (.invokestatic 11, 3) := by decide +kernel
theorem own_pd39 : parseMethodDescriptor "(I)I" = some ⟨[.int], some .int⟩ := by decide +kernel
theorem own_d40 : decode jdk_52_method_2_code 4 = .ok (.newarray .byte, 2) := by decide +kernel
theorem own_d41 : decode jdk_52_method_2_code 6 = .ok (.areturn, 1) := by decide +kernel
set_option maxRecDepth 65536 in
set_option maxHeartbeats 40000000 in
theorem ctNF1 (l : Launch) (Z : State) (a0 : Array Value) (hw : ∀ d ∈ tables_1, d.before a0 Z = true)  (h : Heap) (O : Old Z Z.heap.size h) :
    Ct 0 l Z [] [] (⟨"java/lang/StringUTF16", "newBytesFor", "(I)[B"⟩ : MethodName) jdk_52_method_2_code 1 (some (.array .byte)) ({ frames := 1, cells := 1, slots := 6, locals := 12 } : Room) #[(.int (1 : Int32))] h (fun v h' => ∃ (b : Addr) (k : ClassId), v = some (.ref b) ∧ h.size ≤ b ∧ Ext h h' ∧ Arv Z h' b k .byte (2 : Int32) [.int 0, .int 0] (.int 0)) := by
  refine Ct.intro (plainFor_of_name own_pn26) O (fun _ => rfl) ⟨a0, EW.nil⟩ ?_
  intro p e s m below meth c T0 hx hby hml hret hnm hlk hsf S0
  refine Goes.cast (own_ef27 m (1 : Int32)) ?_
  refine g_iloadN S0.here hx (hb hby own_d37) rfl 1 rfl ?_
  refine S0.callS hx (W := 0) (own_q128 hw) (own_q129 hw) (own_q29 hw) (own_q130 hw) (by decide) (ctNL1 l Z a0 hw h O) nosf (by decide) (by decide) (by rw [hml]; rfl) [(.int (1 : Int32))] [] (lenOf own_pd39 rfl) rfl rfl (Nat.le_refl _) (hb hby own_d38) (by decide) (by decide) 4 rfl (fun v2 vm2 T2 h2 S2 Q2 R2 => ?_)
  obtain ⟨rfl, rfl⟩ := Q2
  show Goes _ _ _ _ T2 (mkF m 4 #[.val (.int (1 : Int32))] [(.int (2 : Int32))])
  refine S2.newAE (aty := .byte) hx (own_q31 hw) (n := (2 : Int32)) (by decide) (cap := 2) (by decide) (by decide) (hb hby own_d40) (by decide) (by decide) (ad := "[B") (by decide) 6 rfl (fun T3 h3 B_b k3 S3 g3 E3 V3 B_x F3 R3 => ?_)
  have B : Arv Z h3 B_b k3 .byte (2 : Int32) [.int 0, .int 0] (.int 0) := V3
  have B_z : Z.heap.size ≤ B_b := by rw [g3]; exact S2.size
  have B_g : h.size ≤ B_b := Nat.le_of_eq g3.symm
  exact S3.aret hx hlk hret rfl rfl rfl (hb hby own_d41) ⟨_, _, rfl, B_g, E3, B⟩ (by decide) (by decide)
theorem own_ef42 (m : MethodId) (x0 : Addr) (x1 : Int32) (x2 : Int32) : entryFrame m #[(.ref x0), (.int x1), (.int x2)] 3 = mkF m 0 #[.val (.ref x0), .val (.int x1), .val (.int x2)] [] := by first | (simp [entryFrame, mkF, argsToLocals, Value.category]; done) | rfl
theorem own_d43 : decode jdk_52_method_4_code 0 = .ok (.getstatic 44, 3) := by decide +kernel
theorem own_d44 : decode jdk_52_method_4_code 3 = .ok (.ifCond .ne 25, 3) := by decide +kernel
theorem own_d45 : decode jdk_52_method_4_code 28 = .ok (.iload_n 1, 1) := by decide +kernel
theorem own_d46 : decode jdk_52_method_4_code 29 = .ok (.iconst 1, 1) := by decide +kernel
theorem own_d47 : decode jdk_52_method_4_code 30 = .ok (.ishl, 1) := by decide +kernel
theorem own_d48 : decode jdk_52_method_4_code 31 = .ok (.istore_n 1, 1) := by decide +kernel
theorem own_d49 : decode jdk_52_method_4_code 32 = .ok (.aload_n 0, 1) := by decide +kernel
theorem own_d50 : decode jdk_52_method_4_code 33 = .ok (.iload_n 1, 1) := by decide +kernel
theorem own_d51 : decode jdk_52_method_4_code 34 = .ok (.iinc 1 1, 3) := by decide +kernel
theorem own_d52 : decode jdk_52_method_4_code 37 = .ok (.iload_n 2, 1) := by decide +kernel
theorem own_d53 : decode jdk_52_method_4_code 38 = .ok (.getstatic 59, 3) := by decide +kernel
theorem own_d54 : decode jdk_52_method_4_code 41 = .ok (.ishr, 1) := by decide +kernel
theorem own_d55 : decode jdk_52_method_4_code 42 = .ok (.i2b, 1) := by decide +kernel
theorem own_d56 : decode jdk_52_method_4_code 43 = .ok (.bastore, 1) := by decide +kernel
theorem own_d57 : decode jdk_52_method_4_code 44 = .ok (.aload_n 0, 1) := by decide +kernel
theorem own_d58 : decode jdk_52_method_4_code 45 = .ok (.iload_n 1, 1) := by decide +kernel
theorem own_d59 : decode jdk_52_method_4_code 46 = .ok (.iload_n 2, 1) := by decide +kernel
theorem own_d60 : decode jdk_52_method_4_code 47 = .ok (.getstatic 63, 3) := by decide +kernel
theorem own_d61 : decode jdk_52_method_4_code 50 = .ok (.ishr, 1) := by decide +kernel
theorem own_d62 : decode jdk_52_method_4_code 51 = .ok (.i2b, 1) := by decide +kernel
theorem own_d63 : decode jdk_52_method_4_code 52 = .ok (.bastore, 1) := by decide +kernel
theorem own_d64 : decode jdk_52_method_4_code 53 = .ok (.return_, 1) := by decide +kernel
set_option maxRecDepth 65536 in
set_option maxHeartbeats 40000000 in
theorem ctPC10 (l : Launch) (Z : State) (a0 : Array Value) (hw : ∀ d ∈ tables_1, d.before a0 Z = true) (b : Addr) (kb : ClassId) (ch : Int32) (vs : List Value) (h : Heap) (O : Old Z Z.heap.size h) (H : own_h16 Z) (B : Arv Z h b kb .byte (2 : Int32) vs (.int 0)) (hl : vs.length = 2) (gb : Z.heap.size ≤ b) :
    Ct 0 l Z [] [] (⟨"java/lang/StringUTF16", "putChar", "([BII)V"⟩ : MethodName) jdk_52_method_4_code 3 none ({ frames := 0, cells := 0, slots := 0, locals := 0 } : Room) #[(.ref b), (.int (0 : Int32)), (.int ch)] h (fun v h' => v = none ∧ Keep h h' [b] ∧ Arv Z h' b kb .byte (2 : Int32) ((vs.set 0 (.int (StrChars.lo8 ch))).set 1 (.int (StrChars.hi8 ch))) (.int 0)) := by
  refine Ct.intro (plainFor_of_name own_pn26) O (fun _ => rfl) ⟨a0, EW.nil⟩ ?_
  intro p e s m below meth c T0 hx hby hml hret hnm hlk hsf S0
  refine Goes.cast (own_ef42 m b (0 : Int32) ch) ?_
  obtain ⟨g1, g2, g3⟩ := H
  have K := Keep.refl h [b]
  refine S0.getS hx (host := "") (Or.inl (own_q135 hw)) Via.refl (g1.ext O.2) (hb hby own_d43) 3 rfl (fun T4 S4 => ?_)
  refine g_ifT S4.here hx (hb hby own_d44) 1 (by decide) (by show ¬ 1 = 0; decide) 28 (by decide) (by decide) ?_
  refine g_iloadN S4.here hx (hb hby own_d45) rfl 29 rfl ?_
  refine g_iconst S4.here hx (hb hby own_d46) (1 : Int32) (by decide) 30 rfl ?_
  refine g_ishl S4.here hx (hb hby own_d47) 31 rfl ?_
  rw [show ((0 : Int32) <<< ((1 : Int32) &&& 31)) = (0 : Int32) from by decide]
  refine g_istoreN S4.here hx (hb hby own_d48) #[.val (.ref b), .val (.int (0 : Int32)), .val (.int ch)] rfl 32 rfl ?_
  refine g_aloadN S4.here hx (hb hby own_d49) rfl rfl 33 rfl ?_
  refine g_iloadN S4.here hx (hb hby own_d50) rfl 34 rfl ?_
  refine g_iinc S4.here hx (hb hby own_d51) rfl #[.val (.ref b), .val (.int (1 : Int32)), .val (.int ch)] (by rw [show (0 : Int32) + Int32.ofInt 1 = (1 : Int32) from by decide]; rfl) 37 rfl ?_
  refine g_iloadN S4.here hx (hb hby own_d52) rfl 38 rfl ?_
  refine S4.getS hx (host := "") (Or.inl (own_q136 hw)) Via.refl (g2.ext S4.old.2) (hb hby own_d53) 41 rfl (fun T5 S5 => ?_)
  refine g_ishr S5.here hx (hb hby own_d54) 42 rfl ?_
  refine g_i2b S5.here hx (hb hby own_d55) 43 rfl ?_
  refine S5.stB hx B 0 ⟨by decide, by decide⟩ (by decide) (by rw [hl]; decide) gb safe_nil (hb hby own_d56) 44 rfl (fun T6 h6 S6 W6 V6 R6 => ?_)
  rw [own_st0] at V6
  have B := V6
  have K := K.wr W6 (Or.inl (List.mem_singleton.mpr rfl))
  refine g_aloadN S6.here hx (hb hby own_d57) rfl rfl 45 rfl ?_
  refine g_iloadN S6.here hx (hb hby own_d58) rfl 46 rfl ?_
  refine g_iloadN S6.here hx (hb hby own_d59) rfl 47 rfl ?_
  refine S6.getS hx (host := "") (Or.inl (own_q137 hw)) Via.refl (g3.ext S6.old.2) (hb hby own_d60) 50 rfl (fun T7 S7 => ?_)
  refine g_ishr S7.here hx (hb hby own_d61) 51 rfl ?_
  refine g_i2b S7.here hx (hb hby own_d62) 52 rfl ?_
  refine S7.stB hx B 1 ⟨by decide, by decide⟩ (by decide) (by rw [List.length_set]; rw [hl]; decide) gb safe_nil (hb hby own_d63) 53 rfl (fun T8 h8 S8 W8 V8 R8 => ?_)
  rw [own_st8] at V8
  have B := V8
  have K := K.wr W8 (Or.inl (List.mem_singleton.mpr rfl))
  exact S8.vret hx hlk hret (hb hby own_d64) ⟨rfl, K, B⟩ (by decide) (by decide)
theorem own_ef65 (m : MethodId) (x0 : Addr) (x1 : Int32) : entryFrame m #[(.ref x0), (.int x1)] 2 = mkF m 0 #[.val (.ref x0), .val (.int x1)] [] := by first | (simp [entryFrame, mkF, argsToLocals, Value.category]; done) | rfl
theorem own_d66 : decode jdk_52_method_5_code 0 = .ok (.getstatic 44, 3) := by decide +kernel
theorem own_d67 : decode jdk_52_method_5_code 3 = .ok (.ifCond .ne 25, 3) := by decide +kernel
theorem own_d68 : decode jdk_52_method_5_code 28 = .ok (.iload_n 1, 1) := by decide +kernel
theorem own_d69 : decode jdk_52_method_5_code 29 = .ok (.iconst 1, 1) := by decide +kernel
theorem own_d70 : decode jdk_52_method_5_code 30 = .ok (.ishl, 1) := by decide +kernel
theorem own_d71 : decode jdk_52_method_5_code 31 = .ok (.istore_n 1, 1) := by decide +kernel
theorem own_d72 : decode jdk_52_method_5_code 32 = .ok (.aload_n 0, 1) := by decide +kernel
theorem own_d73 : decode jdk_52_method_5_code 33 = .ok (.iload_n 1, 1) := by decide +kernel
theorem own_d74 : decode jdk_52_method_5_code 34 = .ok (.iinc 1 1, 3) := by decide +kernel
theorem own_d75 : decode jdk_52_method_5_code 37 = .ok (.baload, 1) := by decide +kernel
theorem own_d76 : decode jdk_52_method_5_code 38 = .ok (.sipush 255, 3) := by decide +kernel
theorem own_d77 : decode jdk_52_method_5_code 41 = .ok (.iand, 1) := by decide +kernel
theorem own_d78 : decode jdk_52_method_5_code 42 = .ok (.getstatic 59, 3) := by decide +kernel
theorem own_d79 : decode jdk_52_method_5_code 45 = .ok (.ishl, 1) := by decide +kernel
theorem own_d80 : decode jdk_52_method_5_code 46 = .ok (.aload_n 0, 1) := by decide +kernel
theorem own_d81 : decode jdk_52_method_5_code 47 = .ok (.iload_n 1, 1) := by decide +kernel
theorem own_d82 : decode jdk_52_method_5_code 48 = .ok (.baload, 1) := by decide +kernel
theorem own_d83 : decode jdk_52_method_5_code 49 = .ok (.sipush 255, 3) := by decide +kernel
theorem own_d84 : decode jdk_52_method_5_code 52 = .ok (.iand, 1) := by decide +kernel
theorem own_d85 : decode jdk_52_method_5_code 53 = .ok (.getstatic 63, 3) := by decide +kernel
theorem own_d86 : decode jdk_52_method_5_code 56 = .ok (.ishl, 1) := by decide +kernel
theorem own_d87 : decode jdk_52_method_5_code 57 = .ok (.ior, 1) := by decide +kernel
theorem own_d88 : decode jdk_52_method_5_code 58 = .ok (.i2c, 1) := by decide +kernel
theorem own_d89 : decode jdk_52_method_5_code 59 = .ok (.ireturn, 1) := by decide +kernel
set_option maxRecDepth 65536 in
set_option maxHeartbeats 40000000 in
theorem ctGC10 (l : Launch) (Z : State) (a0 : Array Value) (hw : ∀ d ∈ tables_1, d.before a0 Z = true) (b : Addr) (kb : ClassId) (ch : Int32) (vs : List Value) (h : Heap) (O : Old Z Z.heap.size h) (H : own_h16 Z) (kc : 0 ≤ ch.toInt ∧ ch.toInt ≤ 32767) (B : Arv Z h b kb .byte (2 : Int32) vs (.int 0)) (e0 : vs.getD 0 (.int 0) = .int (StrChars.lo8 ch)) (e1 : vs.getD 1 (.int 0) = .int (StrChars.hi8 ch)) :
    Ct 0 l Z [] [] (⟨"java/lang/StringUTF16", "getChar", "([BI)C"⟩ : MethodName) jdk_52_method_5_code 2 (some .char) ({ frames := 0, cells := 0, slots := 0, locals := 0 } : Room) #[(.ref b), (.int (0 : Int32))] h (fun v h' => v = some (.int ch) ∧ h = h') := by
  refine Ct.intro (plainFor_of_name own_pn26) O (fun _ => rfl) ⟨a0, EW.nil⟩ ?_
  intro p e s m below meth c T0 hx hby hml hret hnm hlk hsf S0
  refine Goes.cast (own_ef65 m b (0 : Int32)) ?_
  obtain ⟨g1, g2, g3⟩ := H
  refine S0.getS hx (host := "") (Or.inl (own_q135 hw)) Via.refl (g1.ext O.2) (hb hby own_d66) 3 rfl (fun T9 S9 => ?_)
  refine g_ifT S9.here hx (hb hby own_d67) 1 (by decide) (by show ¬ 1 = 0; decide) 28 (by decide) (by decide) ?_
  refine g_iloadN S9.here hx (hb hby own_d68) rfl 29 rfl ?_
  refine g_iconst S9.here hx (hb hby own_d69) (1 : Int32) (by decide) 30 rfl ?_
  refine g_ishl S9.here hx (hb hby own_d70) 31 rfl ?_
  rw [show ((0 : Int32) <<< ((1 : Int32) &&& 31)) = (0 : Int32) from by decide]
  refine g_istoreN S9.here hx (hb hby own_d71) #[.val (.ref b), .val (.int (0 : Int32))] rfl 32 rfl ?_
  refine g_aloadN S9.here hx (hb hby own_d72) rfl rfl 33 rfl ?_
  refine g_iloadN S9.here hx (hb hby own_d73) rfl 34 rfl ?_
  refine g_iinc S9.here hx (hb hby own_d74) rfl #[.val (.ref b), .val (.int (1 : Int32))] (by rw [show (0 : Int32) + Int32.ofInt 1 = (1 : Int32) from by decide]; rfl) 37 rfl ?_
  refine S9.bald hx B ⟨by decide, by decide⟩ (own_at (i := 0) (by decide) e0) (hb hby own_d75) 38 rfl ?_
  refine g_sipush S9.here hx (hb hby own_d76) (255 : Int32) (by decide) 41 rfl ?_
  refine g_iand S9.here hx (hb hby own_d77) 42 rfl ?_
  refine S9.getS hx (host := "") (Or.inl (own_q136 hw)) Via.refl (g2.ext O.2) (hb hby own_d78) 45 rfl (fun T10 S10 => ?_)
  refine g_ishl S10.here hx (hb hby own_d79) 46 rfl ?_
  refine g_aloadN S10.here hx (hb hby own_d80) rfl rfl 47 rfl ?_
  refine g_iloadN S10.here hx (hb hby own_d81) rfl 48 rfl ?_
  refine S10.bald hx B ⟨by decide, by decide⟩ (own_at (i := 1) (by decide) e1) (hb hby own_d82) 49 rfl ?_
  refine g_sipush S10.here hx (hb hby own_d83) (255 : Int32) (by decide) 52 rfl ?_
  refine g_iand S10.here hx (hb hby own_d84) 53 rfl ?_
  refine S10.getS hx (host := "") (Or.inl (own_q137 hw)) Via.refl (g3.ext O.2) (hb hby own_d85) 56 rfl (fun T11 S11 => ?_)
  refine g_ishl S11.here hx (hb hby own_d86) 57 rfl ?_
  refine g_ior S11.here hx (hb hby own_d87) 58 rfl ?_
  refine g_i2c S11.here hx (hb hby own_d88) 59 rfl ?_
  rw [own_pair kc]
  exact S11.iret hx hlk hret (Or.inr (Or.inr (Or.inr (Or.inl rfl)))) (own_narrow kc) (hb hby own_d89) ⟨rfl, rfl⟩ (by decide) (by decide)
theorem own_ef90 (m : MethodId) (x0 : Addr) (x1 : Int32) (x2 : Int32) : entryFrame m #[(.ref x0), (.int x1), (.int x2)] 5 = mkF m 0 #[.val (.ref x0), .val (.int x1), .val (.int x2), .unset, .unset] [] := by first | (simp [entryFrame, mkF, argsToLocals, Value.category]; done) | rfl
theorem own_d91 : decode jdk_52_method_14_code 0 = .ok (.iload_n 2, 1) := by decide +kernel
theorem own_d92 : decode jdk_52_method_14_code 1 = .ok (.invokestatic 107, 3) := by decide +kernel
theorem own_pd93 : parseMethodDescriptor "(I)[B" = some ⟨[.int], some (.array .byte)⟩ := by decide +kernel
theorem own_d94 : decode jdk_52_method_14_code 4 = .ok (.astore_n 3, 1) := by decide +kernel
theorem own_d95 : decode jdk_52_method_14_code 5 = .ok (.iconst 0, 1) := by decide +kernel
theorem own_d96 : decode jdk_52_method_14_code 6 = .ok (.istore 4, 2) := by decide +kernel
theorem own_d97 : decode jdk_52_method_14_code 8 = .ok (.iload 4, 2) := by decide +kernel
theorem own_d98 : decode jdk_52_method_14_code 10 = .ok (.iload_n 2, 1) := by decide +kernel
theorem own_d99 : decode jdk_52_method_14_code 11 = .ok (.if_icmp .ge 21, 3) := by decide +kernel
theorem own_d100 : decode jdk_52_method_14_code 14 = .ok (.aload_n 3, 1) := by decide +kernel
theorem own_d101 : decode jdk_52_method_14_code 15 = .ok (.iload 4, 2) := by decide +kernel
theorem own_d102 : decode jdk_52_method_14_code 17 = .ok (.aload_n 0, 1) := by decide +kernel
theorem own_d103 : decode jdk_52_method_14_code 18 = .ok (.iload_n 1, 1) := by decide +kernel
theorem own_d104 : decode jdk_52_method_14_code 19 = .ok (.caload, 1) := by decide +kernel
theorem own_d105 : decode jdk_52_method_14_code 20 = .ok (.invokestatic 111, 3) := by decide +kernel
theorem own_pd106 : parseMethodDescriptor "([BII)V" = some ⟨[(.array .byte), .int, .int], none⟩ := by decide +kernel
theorem own_d107 : decode jdk_52_method_14_code 23 = .ok (.iinc 1 1, 3) := by decide +kernel
theorem own_d108 : decode jdk_52_method_14_code 26 = .ok (.iinc 4 1, 3) := by decide +kernel
theorem own_d109 : decode jdk_52_method_14_code 29 = .ok (.goto (-21), 3) := by decide +kernel
theorem own_d110 : decode jdk_52_method_14_code 32 = .ok (.aload_n 3, 1) := by decide +kernel
theorem own_d111 : decode jdk_52_method_14_code 33 = .ok (.areturn, 1) := by decide +kernel
set_option maxRecDepth 65536 in
set_option maxHeartbeats 40000000 in
theorem ctTB1 (l : Launch) (Z : State) (a0 : Array Value) (hw : ∀ d ∈ tables_1, d.before a0 Z = true) (a : Addr) (ka : ClassId) (c1 : Int32) (h : Heap) (O : Old Z Z.heap.size h) (H : own_h16 Z) (k1 : 0 ≤ c1.toInt ∧ c1.toInt ≤ 32767) (A : Arv Z h a ka .char (1 : Int32) [(.int c1)] (.int 0)) :
    Ct 0 l Z [] [] (⟨"java/lang/StringUTF16", "toBytes", "([CII)[B"⟩ : MethodName) jdk_52_method_14_code 5 (some (.array .byte)) ({ frames := 2, cells := 1, slots := 6, locals := 30 } : Room) #[(.ref a), (.int (0 : Int32)), (.int (1 : Int32))] h (fun v h' => ∃ (b : Addr) (k : ClassId), v = some (.ref b) ∧ h.size ≤ b ∧ Ext h h' ∧ Arv Z h' b k .byte (2 : Int32) (own_pr [c1]) (.int 0)) := by
  refine Ct.intro (plainFor_of_name own_pn26) O (fun _ => rfl) ⟨a0, EW.nil⟩ ?_
  intro p e s m below meth c T0 hx hby hml hret hnm hlk hsf S0
  refine Goes.cast (own_ef90 m a (0 : Int32) (1 : Int32)) ?_
  refine g_iloadN S0.here hx (hb hby own_d91) rfl 1 rfl ?_
  refine S0.callS hx (W := 0) (own_q125 hw) (own_q126 hw) (own_q29 hw) (own_q127 hw) (by decide) (ctNF1 l Z a0 hw h O) nosf (by decide) (by decide) (by rw [hml]; rfl) [(.int (1 : Int32))] [] (lenOf own_pd93 rfl) rfl rfl (Nat.le_refl _) (hb hby own_d92) (by decide) (by decide) 4 rfl (fun v12 vm12 T12 h12 S12 Q12 R12 => ?_)
  obtain ⟨b, kb, rfl, gb, E, B⟩ := Q12
  show Goes _ _ _ _ T12 (mkF m 4 #[.val (.ref a), .val (.int (0 : Int32)), .val (.int (1 : Int32)), .unset, .unset] [(.ref b)])
  have nab : a ∉ [b] := fun q => by cases List.mem_singleton.mp q; exact absurd A.lt (Nat.not_lt.mpr gb)
  have A := A.ext E
  have gz : Z.heap.size ≤ b := Nat.le_trans O.2.1 gb
  refine g_astoreN S12.here hx (hb hby own_d94) rfl #[.val (.ref a), .val (.int (0 : Int32)), .val (.int (1 : Int32)), .val (.ref b), .unset] rfl 5 rfl ?_
  refine g_iconst S12.here hx (hb hby own_d95) (0 : Int32) (by decide) 6 rfl ?_
  refine g_istore S12.here hx (hb hby own_d96) #[.val (.ref a), .val (.int (0 : Int32)), .val (.int (1 : Int32)), .val (.ref b), .val (.int (0 : Int32))] rfl 8 rfl ?_
  refine g_iload S12.here hx (hb hby own_d97) rfl 10 rfl ?_
  refine g_iloadN S12.here hx (hb hby own_d98) rfl 11 rfl ?_
  refine g_icmpF S12.here hx (hb hby own_d99) 0 1 (by decide) (by decide) (by show ¬ (1 ≤ 0); decide) 14 rfl ?_
  refine g_aloadN S12.here hx (hb hby own_d100) rfl rfl 15 rfl ?_
  refine g_iload S12.here hx (hb hby own_d101) rfl 17 rfl ?_
  refine g_aloadN S12.here hx (hb hby own_d102) rfl rfl 18 rfl ?_
  refine g_iloadN S12.here hx (hb hby own_d103) rfl 19 rfl ?_
  refine S12.cald hx A ⟨by decide, by decide⟩ (own_at (i := 0) (by decide) rfl) (hb hby own_d104) 20 rfl ?_
  refine S12.callS hx (W := 0) (own_q132 hw) (own_q133 hw) (own_q29 hw) (own_q134 hw) (by decide) (ctPC10 l Z a0 hw b kb c1 [.int 0, .int 0] h12 S12.old H B rfl gz) nosf (by decide) (by decide) (by rw [hml]; rfl) [(.ref b), (.int (0 : Int32)), (.int c1)] [] (lenOf own_pd106 rfl) rfl rfl (Nat.le_refl _) (hb hby own_d105) (by decide) (by decide) 23 rfl (fun v13 vm13 T13 h13 S13 Q13 R13 => ?_)
  obtain ⟨rfl, K13, B13⟩ := Q13
  show Goes _ _ _ _ T13 (mkF m 23 #[.val (.ref a), .val (.int (0 : Int32)), .val (.int (1 : Int32)), .val (.ref b), .val (.int (0 : Int32))] [])
  have B : Arv Z h13 b kb .byte (2 : Int32) [.int (StrChars.lo8 c1), .int (StrChars.hi8 c1)] (.int 0) := B13
  have A := A.keep K13 nab
  have E := own_ext_keep E K13 (fun x hx => by cases List.mem_singleton.mp hx; exact gb)
  refine g_iinc S13.here hx (hb hby own_d107) rfl #[.val (.ref a), .val (.int (1 : Int32)), .val (.int (1 : Int32)), .val (.ref b), .val (.int (0 : Int32))] (by rw [show (0 : Int32) + Int32.ofInt 1 = (1 : Int32) from by decide]; rfl) 26 rfl ?_
  refine g_iinc S13.here hx (hb hby own_d108) rfl #[.val (.ref a), .val (.int (1 : Int32)), .val (.int (1 : Int32)), .val (.ref b), .val (.int (1 : Int32))] (by rw [show (0 : Int32) + Int32.ofInt 1 = (1 : Int32) from by decide]; rfl) 29 rfl ?_
  refine g_goto S13.here hx (hb hby own_d109) 8 (by decide) (by decide) ?_
  refine g_iload S13.here hx (hb hby own_d97) rfl 10 rfl ?_
  refine g_iloadN S13.here hx (hb hby own_d98) rfl 11 rfl ?_
  refine g_icmpT S13.here hx (hb hby own_d99) 1 1 (by decide) (by decide) (by show 1 ≤ 1; decide) 32 (by decide) (by decide) ?_
  refine g_aloadN S13.here hx (hb hby own_d110) rfl rfl 33 rfl ?_
  exact S13.aret hx hlk hret rfl rfl rfl (hb hby own_d111) ⟨b, kb, rfl, gb, E, B⟩ (by decide) (by decide)
theorem own_ef112 (m : MethodId) (x0 : Addr) (x1 : Int32) (x2 : Int32) : entryFrame m #[(.ref x0), (.int x1), (.int x2)] 6 = mkF m 0 #[.val (.ref x0), .val (.int x1), .val (.int x2), .unset, .unset, .unset] [] := by first | (simp [entryFrame, mkF, argsToLocals, Value.category]; done) | rfl
theorem own_d113 : decode jdk_52_method_16_code 0 = .ok (.iload_n 2, 1) := by decide +kernel
theorem own_d114 : decode jdk_52_method_16_code 1 = .ok (.newarray .byte, 2) := by decide +kernel
theorem own_d115 : decode jdk_52_method_16_code 3 = .ok (.astore_n 3, 1) := by decide +kernel
theorem own_d116 : decode jdk_52_method_16_code 4 = .ok (.aload_n 0, 1) := by decide +kernel
theorem own_d117 : decode jdk_52_method_16_code 5 = .ok (.iload_n 1, 1) := by decide +kernel
theorem own_d118 : decode jdk_52_method_16_code 6 = .ok (.aload_n 3, 1) := by decide +kernel
theorem own_d119 : decode jdk_52_method_16_code 7 = .ok (.iconst 0, 1) := by decide +kernel
theorem own_d120 : decode jdk_52_method_16_code 8 = .ok (.iload_n 2, 1) := by decide +kernel
theorem own_d121 : decode jdk_52_method_16_code 9 = .ok (.invokestatic 115, 3) := by decide +kernel
theorem own_pd122 : parseMethodDescriptor "([CI[BII)I" = some ⟨[(.array .char), .int, (.array .byte), .int, .int], some .int⟩ := by decide +kernel
theorem own_d123 : decode jdk_52_method_16_code 12 = .ok (.istore 4, 2) := by decide +kernel
theorem own_d124 : decode jdk_52_method_16_code 14 = .ok (.iload 4, 2) := by decide +kernel
theorem own_d125 : decode jdk_52_method_16_code 16 = .ok (.iload_n 2, 1) := by decide +kernel
theorem own_d126 : decode jdk_52_method_16_code 17 = .ok (.if_icmp .eq 40, 3) := by decide +kernel
theorem own_d127 : decode jdk_52_method_16_code 57 = .ok (.aload_n 3, 1) := by decide +kernel
theorem own_d128 : decode jdk_52_method_16_code 58 = .ok (.areturn, 1) := by decide +kernel
theorem own_d129 : decode jdk_52_method_16_code 20 = .ok (.aload_n 0, 1) := by decide +kernel
theorem own_d130 : decode jdk_52_method_16_code 21 = .ok (.iload_n 1, 1) := by decide +kernel
theorem own_d131 : decode jdk_52_method_16_code 22 = .ok (.iload_n 2, 1) := by decide +kernel
theorem own_d132 : decode jdk_52_method_16_code 23 = .ok (.invokestatic 119, 3) := by decide +kernel
theorem own_pd133 : parseMethodDescriptor "([CII)[B" = some ⟨[(.array .char), .int, .int], some (.array .byte)⟩ := by decide +kernel
theorem own_d134 : decode jdk_52_method_16_code 26 = .ok (.astore 5, 2) := by decide +kernel
theorem own_d135 : decode jdk_52_method_16_code 28 = .ok (.aload 5, 2) := by decide +kernel
theorem own_d136 : decode jdk_52_method_16_code 30 = .ok (.iload 4, 2) := by decide +kernel
theorem own_d137 : decode jdk_52_method_16_code 32 = .ok (.invokestatic 71, 3) := by decide +kernel
theorem own_pd138 : parseMethodDescriptor "([BI)C" = some ⟨[(.array .byte), .int], some .char⟩ := by decide +kernel
theorem own_d139 : decode jdk_52_method_16_code 35 = .ok (.sipush 255, 3) := by decide +kernel
theorem own_d140 : decode jdk_52_method_16_code 38 = .ok (.if_icmp .gt 16, 3) := by decide +kernel
theorem own_d141 : decode jdk_52_method_16_code 54 = .ok (.aload 5, 2) := by decide +kernel
theorem own_d142 : decode jdk_52_method_16_code 56 = .ok (.areturn, 1) := by decide +kernel
set_option maxRecDepth 65536 in
set_option maxHeartbeats 40000000 in
theorem ctC31 (l : Launch) (Z : State) (a0 : Array Value) (hw : ∀ d ∈ tables_1, d.before a0 Z = true) (a : Addr) (ka : ClassId) (c1 : Int32) (h : Heap) (O : Old Z Z.heap.size h) (H : own_h16 Z) (k1 : 0 ≤ c1.toInt ∧ c1.toInt ≤ 32767) (A : Arv Z h a ka .char (1 : Int32) [(.int c1)] (.int 0)) :
    Ct 0 l Z [] [] (⟨"java/lang/StringUTF16", "compress", "([CII)[B"⟩ : MethodName) jdk_52_method_16_code 6 (some (.array .byte)) ({ frames := 3, cells := 2, slots := 9, locals := 50 } : Room) #[(.ref a), (.int (0 : Int32)), (.int (1 : Int32))] h (fun v h' => ∃ (t : Addr) (k : ClassId), v = some (.ref t) ∧ h.size ≤ t ∧ Ext h h' ∧ ((own_lat [c1] ∧ Exa Z h' t "[B" ∧ Arv Z h' t k .byte (1 : Int32) (own_bs [c1]) (.int 0)) ∨ Arv Z h' t k .byte (2 : Int32) (own_pr [c1]) (.int 0))) := by
  refine Ct.intro (plainFor_of_name own_pn26) O (fun _ => rfl) ⟨a0, EW.nil⟩ ?_
  intro p e s m below meth c T0 hx hby hml hret hnm hlk hsf S0
  refine Goes.cast (own_ef112 m a (0 : Int32) (1 : Int32)) ?_
  have A0 := A
  refine g_iloadN S0.here hx (hb hby own_d113) rfl 1 rfl ?_
  refine S0.newAE (aty := .byte) hx (own_q31 hw) (n := (1 : Int32)) (by decide) (cap := 1) (by decide) (by decide) (hb hby own_d114) (by decide) (by decide) (ad := "[B") (by decide) 3 rfl (fun T14 h14 B_b k14 S14 g14 E14 V14 B_x F14 R14 => ?_)
  have B : Arv Z h14 B_b k14 .byte (1 : Int32) [.int 0] (.int 0) := V14
  have B_z : Z.heap.size ≤ B_b := by rw [g14]; exact S0.size
  have B_g : h.size ≤ B_b := Nat.le_of_eq g14.symm
  have A := A.ext E14
  refine g_astoreN S14.here hx (hb hby own_d115) rfl #[.val (.ref a), .val (.int (0 : Int32)), .val (.int (1 : Int32)), .val (.ref B_b), .unset, .unset] rfl 4 rfl ?_
  refine g_aloadN S14.here hx (hb hby own_d116) rfl rfl 5 rfl ?_
  refine g_iloadN S14.here hx (hb hby own_d117) rfl 6 rfl ?_
  refine g_aloadN S14.here hx (hb hby own_d118) rfl rfl 7 rfl ?_
  refine g_iconst S14.here hx (hb hby own_d119) (0 : Int32) (by decide) 8 rfl ?_
  refine g_iloadN S14.here hx (hb hby own_d120) rfl 9 rfl ?_
  have nab : a ≠ B_b := fun q => by rw [← q] at B_g; exact absurd A0.lt (Nat.not_lt.mpr B_g)
  refine S14.callS hx (W := 0) (own_q32 hw) (own_q33 hw) (own_q29 hw) (own_q34 hw) (by decide) (ctC51 l Z a0 hw a B_b ka _ c1 h14 S14.old k1 A B B_z nab) nosf (by decide) (by decide) (by rw [hml]; rfl) [(.ref a), (.int (0 : Int32)), (.ref B_b), (.int (0 : Int32)), (.int (1 : Int32))] [] (lenOf own_pd122 rfl) rfl rfl (Nat.le_refl _) (hb hby own_d121) (by decide) (by decide) 12 rfl (fun v15 vm15 T15 h15 S15 Q15 R15 => ?_)
  obtain ⟨K15, Q15⟩ := Q15
  have B_x := B_x.keep K15
  have A := A.keep K15 (fun q => nab (List.mem_singleton.mp q))
  have E := own_ext_keep E14 K15 (fun x hx => by cases List.mem_singleton.mp hx; exact B_g)
  rcases Q15 with ⟨rfl, la, B⟩ | ⟨rfl, gt⟩
  · show Goes _ _ _ _ T15 (mkF m 12 #[.val (.ref a), .val (.int (0 : Int32)), .val (.int (1 : Int32)), .val (.ref B_b), .unset, .unset] [(.int (1 : Int32))])
    refine g_istore S15.here hx (hb hby own_d123) #[.val (.ref a), .val (.int (0 : Int32)), .val (.int (1 : Int32)), .val (.ref B_b), .val (.int (1 : Int32)), .unset] rfl 14 rfl ?_
    refine g_iload S15.here hx (hb hby own_d124) rfl 16 rfl ?_
    refine g_iloadN S15.here hx (hb hby own_d125) rfl 17 rfl ?_
    refine g_icmpT S15.here hx (hb hby own_d126) 1 1 (by decide) (by decide) (by show 1 = 1; decide) 57 (by decide) (by decide) ?_
    refine g_aloadN S15.here hx (hb hby own_d127) rfl rfl 58 rfl ?_
    exact S15.aret hx hlk hret rfl rfl rfl (hb hby own_d128) ⟨_, _, rfl, B_g, E, Or.inl ⟨la, B_x, B⟩⟩ (by decide) (by decide)
  · show Goes _ _ _ _ T15 (mkF m 12 #[.val (.ref a), .val (.int (0 : Int32)), .val (.int (1 : Int32)), .val (.ref B_b), .unset, .unset] [(.int (0 : Int32))])
    refine g_istore S15.here hx (hb hby own_d123) #[.val (.ref a), .val (.int (0 : Int32)), .val (.int (1 : Int32)), .val (.ref B_b), .val (.int (0 : Int32)), .unset] rfl 14 rfl ?_
    refine g_iload S15.here hx (hb hby own_d124) rfl 16 rfl ?_
    refine g_iloadN S15.here hx (hb hby own_d125) rfl 17 rfl ?_
    refine g_icmpF S15.here hx (hb hby own_d126) 0 1 (by decide) (by decide) (by show ¬ (0 = 1); decide) 20 rfl ?_
    have E0 := E
    refine g_aloadN S15.here hx (hb hby own_d129) rfl rfl 21 rfl ?_
    refine g_iloadN S15.here hx (hb hby own_d130) rfl 22 rfl ?_
    refine g_iloadN S15.here hx (hb hby own_d131) rfl 23 rfl ?_
    refine S15.callS hx (W := 0) (own_q122 hw) (own_q123 hw) (own_q29 hw) (own_q124 hw) (by decide) (ctTB1 l Z a0 hw a ka c1 h15 S15.old H k1 A) nosf (by decide) (by decide) (by rw [hml]; rfl) [(.ref a), (.int (0 : Int32)), (.int (1 : Int32))] [] (lenOf own_pd133 rfl) rfl rfl (Nat.le_refl _) (hb hby own_d132) (by decide) (by decide) 26 rfl (fun v16 vm16 T16 h16 S16 Q16 R16 => ?_)
    obtain ⟨b2, kk2, rfl, g2, E2, B2⟩ := Q16
    show Goes _ _ _ _ T16 (mkF m 26 #[.val (.ref a), .val (.int (0 : Int32)), .val (.int (1 : Int32)), .val (.ref B_b), .val (.int (0 : Int32)), .unset] [(.ref b2)])
    have E := own_ext_trans E E2
    refine g_astore S16.here hx (hb hby own_d134) rfl #[.val (.ref a), .val (.int (0 : Int32)), .val (.int (1 : Int32)), .val (.ref B_b), .val (.int (0 : Int32)), .val (.ref b2)] rfl 28 rfl ?_
    refine g_aload S16.here hx (hb hby own_d135) rfl rfl 30 rfl ?_
    refine g_iload S16.here hx (hb hby own_d136) rfl 32 rfl ?_
    refine S16.callS hx (W := 0) (own_q138 hw) (own_q139 hw) (own_q29 hw) (own_q140 hw) (by decide) (ctGC10 l Z a0 hw b2 kk2 c1 _ h16 S16.old H k1 B2 rfl rfl) nosf (by decide) (by decide) (by rw [hml]; rfl) [(.ref b2), (.int (0 : Int32))] [] (lenOf own_pd138 rfl) rfl rfl (Nat.le_refl _) (hb hby own_d137) (by decide) (by decide) 35 rfl (fun v17 vm17 T17 h17 S17 Q17 R17 => ?_)
    obtain ⟨rfl, rfl⟩ := Q17
    show Goes _ _ _ _ T17 (mkF m 35 #[.val (.ref a), .val (.int (0 : Int32)), .val (.int (1 : Int32)), .val (.ref B_b), .val (.int (0 : Int32)), .val (.ref b2)] [(.int c1)])
    refine g_sipush S17.here hx (hb hby own_d139) (255 : Int32) (by decide) 38 rfl ?_
    refine g_icmpT S17.here hx (hb hby own_d140) c1.toInt 255 rfl (by decide) (show 255 < c1.toInt from gt) 54 (by decide) (by decide) ?_
    refine g_aload S17.here hx (hb hby own_d141) rfl rfl 56 rfl ?_
    exact S17.aret hx hlk hret rfl rfl rfl (hb hby own_d142) ⟨b2, kk2, rfl, Nat.le_trans E0.1 g2, E, Or.inr B2⟩ (by decide) (by decide)
theorem own_d143 : decode jdk_52_method_15_code 0 = .ok (.iload_n 1, 1) := by decide +kernel
theorem own_d144 : decode jdk_52_method_15_code 1 = .ok (.aload_n 0, 1) := by decide +kernel
theorem own_d145 : decode jdk_52_method_15_code 2 = .ok (.arraylength, 1) := by decide +kernel
theorem own_d146 : decode jdk_52_method_15_code 3 = .ok (.isub, 1) := by decide +kernel
theorem own_d147 : decode jdk_52_method_15_code 4 = .ok (.bipush 31, 2) := by decide +kernel
theorem own_d148 : decode jdk_52_method_15_code 6 = .ok (.iushr, 1) := by decide +kernel
theorem own_d149 : decode jdk_52_method_15_code 7 = .ok (.i2b, 1) := by decide +kernel
theorem own_d150 : decode jdk_52_method_15_code 8 = .ok (.ireturn, 1) := by decide +kernel
set_option maxRecDepth 65536 in
set_option maxHeartbeats 40000000 in
theorem ctCF10 (l : Launch) (Z : State) (a0 : Array Value) (hw : ∀ d ∈ tables_1, d.before a0 Z = true) (t : Addr) (kt : ClassId) (vs : List Value) (h : Heap) (O : Old Z Z.heap.size h) (B : Arv Z h t kt .byte (1 : Int32) vs (.int 0)) :
    Ct 0 l Z [] [] (⟨"java/lang/StringUTF16", "coderFromArrayLen", "([BI)B"⟩ : MethodName) jdk_52_method_15_code 2 (some .byte) ({ frames := 0, cells := 0, slots := 0, locals := 0 } : Room) #[(.ref t), (.int (1 : Int32))] h (fun v h' => v = some (.int (0 : Int32)) ∧ h = h') := by
  refine Ct.intro (plainFor_of_name own_pn26) O (fun _ => rfl) ⟨a0, EW.nil⟩ ?_
  intro p e s m below meth c T0 hx hby hml hret hnm hlk hsf S0
  refine Goes.cast (own_ef65 m t (1 : Int32)) ?_
  refine g_iloadN S0.here hx (hb hby own_d143) rfl 1 rfl ?_
  refine g_aloadN S0.here hx (hb hby own_d144) rfl rfl 2 rfl ?_
  refine S0.len hx B (hb hby own_d145) 3 rfl ?_
  refine g_isub S0.here hx (hb hby own_d146) 4 rfl ?_
  rw [show ((1 : Int32) - (1 : Int32)) = (0 : Int32) from by decide]
  refine g_bipush S0.here hx (hb hby own_d147) (31 : Int32) (by decide) 6 rfl ?_
  refine g_iushr S0.here hx (hb hby own_d148) 7 rfl ?_
  rw [show (((0 : Int32).toUInt32 >>> ((31 : Int32) &&& 31).toUInt32).toInt32) = (0 : Int32) from by decide]
  refine g_i2b S0.here hx (hb hby own_d149) 8 rfl ?_
  rw [show ((0 : Int32).toInt8.toInt32) = (0 : Int32) from by decide]
  exact S0.iret hx hlk hret (Or.inr (Or.inr (Or.inl rfl))) rfl (hb hby own_d150) ⟨rfl, rfl⟩ (by decide) (by decide)
set_option maxRecDepth 65536 in
set_option maxHeartbeats 40000000 in
theorem ctCF11 (l : Launch) (Z : State) (a0 : Array Value) (hw : ∀ d ∈ tables_1, d.before a0 Z = true) (t : Addr) (kt : ClassId) (vs : List Value) (h : Heap) (O : Old Z Z.heap.size h) (B : Arv Z h t kt .byte (2 : Int32) vs (.int 0)) :
    Ct 0 l Z [] [] (⟨"java/lang/StringUTF16", "coderFromArrayLen", "([BI)B"⟩ : MethodName) jdk_52_method_15_code 2 (some .byte) ({ frames := 0, cells := 0, slots := 0, locals := 0 } : Room) #[(.ref t), (.int (1 : Int32))] h (fun v h' => v = some (.int (1 : Int32)) ∧ h = h') := by
  refine Ct.intro (plainFor_of_name own_pn26) O (fun _ => rfl) ⟨a0, EW.nil⟩ ?_
  intro p e s m below meth c T0 hx hby hml hret hnm hlk hsf S0
  refine Goes.cast (own_ef65 m t (1 : Int32)) ?_
  refine g_iloadN S0.here hx (hb hby own_d143) rfl 1 rfl ?_
  refine g_aloadN S0.here hx (hb hby own_d144) rfl rfl 2 rfl ?_
  refine S0.len hx B (hb hby own_d145) 3 rfl ?_
  refine g_isub S0.here hx (hb hby own_d146) 4 rfl ?_
  rw [show ((1 : Int32) - (2 : Int32)) = (-1 : Int32) from by decide]
  refine g_bipush S0.here hx (hb hby own_d147) (31 : Int32) (by decide) 6 rfl ?_
  refine g_iushr S0.here hx (hb hby own_d148) 7 rfl ?_
  rw [show (((-1 : Int32).toUInt32 >>> ((31 : Int32) &&& 31).toUInt32).toInt32) = (1 : Int32) from by decide]
  refine g_i2b S0.here hx (hb hby own_d149) 8 rfl ?_
  rw [show ((1 : Int32).toInt8.toInt32) = (1 : Int32) from by decide]
  exact S0.iret hx hlk hret (Or.inr (Or.inr (Or.inl rfl))) rfl (hb hby own_d150) ⟨rfl, rfl⟩ (by decide) (by decide)
theorem own_ef151 (m : MethodId) (x0 : Addr) (x1 : Addr) (x2 : Int32) (x3 : Int32) : entryFrame m #[(.ref x0), (.ref x1), (.int x2), (.int x3), .null] 6 = mkF m 0 #[.val (.ref x0), .val (.ref x1), .val (.int x2), .val (.int x3), .val .null, .unset] [] := by first | (simp [entryFrame, mkF, argsToLocals, Value.category]; done) | rfl
theorem own_d152 : decode jdk_42_method_149_code 0 = .ok (.aload_n 0, 1) := by decide +kernel
theorem own_d153 : decode jdk_42_method_149_code 1 = .ok (.invokespecial 1, 3) := by decide +kernel
theorem own_d154 : decode jdk_42_method_149_code 4 = .ok (.iload_n 3, 1) := by decide +kernel
theorem own_d155 : decode jdk_42_method_149_code 5 = .ok (.ifCond .ne 22, 3) := by decide +kernel
theorem own_d156 : decode jdk_42_method_149_code 27 = .ok (.getstatic 38, 3) := by decide +kernel
theorem own_d157 : decode jdk_42_method_149_code 30 = .ok (.ifCond .eq 28, 3) := by decide +kernel
theorem own_d158 : decode jdk_42_method_149_code 33 = .ok (.aload_n 1, 1) := by decide +kernel
theorem own_d159 : decode jdk_42_method_149_code 34 = .ok (.iload_n 2, 1) := by decide +kernel
theorem own_d160 : decode jdk_42_method_149_code 35 = .ok (.iload_n 3, 1) := by decide +kernel
theorem own_d161 : decode jdk_42_method_149_code 36 = .ok (.invokestatic 177, 3) := by decide +kernel
theorem own_d162 : decode jdk_42_method_149_code 39 = .ok (.astore 5, 2) := by decide +kernel
theorem own_d163 : decode jdk_42_method_149_code 41 = .ok (.aload_n 0, 1) := by decide +kernel
theorem own_d164 : decode jdk_42_method_149_code 42 = .ok (.aload 5, 2) := by decide +kernel
theorem own_d165 : decode jdk_42_method_149_code 44 = .ok (.iload_n 3, 1) := by decide +kernel
theorem own_d166 : decode jdk_42_method_149_code 45 = .ok (.invokestatic 47, 3) := by decide +kernel
theorem own_pd167 : parseMethodDescriptor "([BI)B" = some ⟨[(.array .byte), .int], some .byte⟩ := by decide +kernel
theorem own_d168 : decode jdk_42_method_149_code 48 = .ok (.putfield 15, 3) := by decide +kernel
theorem own_d169 : decode jdk_42_method_149_code 51 = .ok (.aload_n 0, 1) := by decide +kernel
theorem own_d170 : decode jdk_42_method_149_code 52 = .ok (.aload 5, 2) := by decide +kernel
theorem own_d171 : decode jdk_42_method_149_code 54 = .ok (.putfield 9, 3) := by decide +kernel
theorem own_d172 : decode jdk_42_method_149_code 57 = .ok (.return_, 1) := by decide +kernel
theorem own_pn173 : plainName "java/lang/String" = true := by first | (simp [plainName, overriddenIn]; done) | decide +kernel
set_option maxRecDepth 65536 in
set_option maxHeartbeats 40000000 in
theorem ctN41 (l : Launch) (Z : State) (a0 : Array Value) (hw : ∀ d ∈ tables_1, d.before a0 Z = true) (x a : Addr) (ka : ClassId) (c1 : Int32) (h : Heap) (O : Old Z Z.heap.size h) (G : own_cs Z) (H : own_h16 Z) (k1 : 0 ≤ c1.toInt ∧ c1.toInt ≤ 32767) (A : Arv Z h a ka .char (1 : Int32) [(.int c1)] (.int 0)) (F : own_raw Z h x) (gx : Z.heap.size ≤ x) :
    Ct 0 l Z [] [] (⟨"java/lang/String", "<init>", "([CIILjava/lang/Void;)V"⟩ : MethodName) jdk_42_method_149_code 6 none ({ frames := 4, cells := 2, slots := 9, locals := 70 } : Room) #[(.ref x), (.ref a), (.int (0 : Int32)), (.int (1 : Int32)), .null] h (fun v h' => v = none ∧ own_txt Z h' x [c1] ∧ Keep h h' [x]) := by
  refine Ct.intro (plainFor_of_name own_pn173) O (fun _ => rfl) ⟨a0, EW.nil⟩ ?_
  intro p e s m below meth c T0 hx hby hml hret hnm hlk hsf S0
  refine Goes.cast (own_ef151 m x a (0 : Int32) (1 : Int32)) ?_
  obtain ⟨f1, ⟨v0, f2⟩, w0, f3⟩ := F
  refine g_aloadN S0.here hx (hb hby own_d152) rfl rfl 1 rfl ?_
  refine S0.initO hx (own_q23 hw) (own_q24 hw) (own_q25 hw) (by rw [hml]; rfl) (W := 0) (by decide) (Nat.le_refl _) (by decide) (hb hby own_d153) 4 rfl (fun T18 S18 => ?_)
  refine g_iloadN S18.here hx (hb hby own_d154) rfl 5 rfl ?_
  refine g_ifT S18.here hx (hb hby own_d155) 1 (by decide) (by show ¬ 1 = 0; decide) 27 (by decide) (by decide) ?_
  obtain ⟨z, g1, g2⟩ := G
  refine S18.getS hx (host := "") (Or.inl (own_q26 hw)) Via.refl (g1.ext O.2) (hb hby own_d156) 30 rfl (fun T19 S19 => ?_)
  refine g_ifF S19.here hx (hb hby own_d157) z.toInt rfl (show ¬ (z.toInt = 0) from own_nz g2) 33 rfl ?_
  refine g_aloadN S19.here hx (hb hby own_d158) rfl rfl 34 rfl ?_
  refine g_iloadN S19.here hx (hb hby own_d159) rfl 35 rfl ?_
  refine g_iloadN S19.here hx (hb hby own_d160) rfl 36 rfl ?_
  refine S19.callS hx (W := 0) (own_q27 hw) (own_q28 hw) (own_q29 hw) (own_q30 hw) (by decide) (ctC31 l Z a0 hw a ka c1 h S19.old H k1 A) nosf (by decide) (by decide) (by rw [hml]; rfl) [(.ref a), (.int (0 : Int32)), (.int (1 : Int32))] [] (lenOf own_pd133 rfl) rfl rfl (Nat.le_refl _) (hb hby own_d161) (by decide) (by decide) 39 rfl (fun v20 vm20 T20 h20 S20 Q20 R20 => ?_)
  obtain ⟨t, kt, rfl, gt, E, B⟩ := Q20
  show Goes _ _ _ _ T20 (mkF m 39 #[.val (.ref x), .val (.ref a), .val (.int (0 : Int32)), .val (.int (1 : Int32)), .val .null, .unset] [(.ref t)])
  have nt : t ≠ x := fun q => by rw [q] at gt; exact absurd f1.lt (Nat.not_lt.mpr gt)
  have f1 := f1.ext E
  have f2 := f2.ext E
  have f3 := f3.ext E
  have K := (Keep.refl h [x]).ext E
  rcases B with ⟨la, XB, B⟩ | B
  · refine g_astore S20.here hx (hb hby own_d162) rfl #[.val (.ref x), .val (.ref a), .val (.int (0 : Int32)), .val (.int (1 : Int32)), .val .null, .val (.ref t)] rfl 41 rfl ?_
    refine g_aloadN S20.here hx (hb hby own_d163) rfl rfl 42 rfl ?_
    refine g_aload S20.here hx (hb hby own_d164) rfl rfl 44 rfl ?_
    refine g_iloadN S20.here hx (hb hby own_d165) rfl 45 rfl ?_
    refine S20.callS hx (W := 1) (own_q35 hw) (own_q36 hw) (own_q29 hw) (own_q37 hw) (by decide) (ctCF10 l Z a0 hw t kt _ h20 S20.old B) nosf (by decide) (by decide) (by rw [hml]; rfl) [(.ref t), (.int (1 : Int32))] [(.ref x)] (lenOf own_pd167 rfl) rfl rfl (Nat.le_refl _) (hb hby own_d166) (by decide) (by decide) 48 rfl (fun v21 vm21 T21 h21 S21 Q21 R21 => ?_)
    obtain ⟨rfl, rfl⟩ := Q21
    show Goes _ _ _ _ T21 (mkF m 48 #[.val (.ref x), .val (.ref a), .val (.int (0 : Int32)), .val (.int (1 : Int32)), .val .null, .val (.ref t)] [(.int (0 : Int32)), (.ref x)])
    refine S21.putF hx (host := "") (Or.inl (own_q38 hw)) Via.refl f3 f1 (Or.inr ⟨(own_q39 hw), rfl, hnm⟩) (own_q14 hw) (ty := .byte) (by decide) rfl rfl safe_nil gx (hb hby own_d168) 51 rfl (fun T22 h22 S22 W22 R22 => ?_)
    have f1 := f1.wr W22
    have f3 := f3.same W22
    have f2 := f2.other W22 (Or.inr (slot_ne (Or.inr (own_q41 hw)) (Or.inr (own_q39 hw)) (by decide) (t := .array .byte) (t' := .byte) (by decide) (by decide)))
    have B := B.other W22 nt
    have K := K.wr W22 (Or.inl (List.mem_singleton.mpr rfl))
    have XB := XB.wr W22
    refine g_aloadN S22.here hx (hb hby own_d169) rfl rfl 52 rfl ?_
    refine g_aload S22.here hx (hb hby own_d170) rfl rfl 54 rfl ?_
    refine S22.putF hx (host := "") (Or.inl (own_q40 hw)) Via.refl f2 f1 (Or.inr ⟨(own_q41 hw), rfl, hnm⟩) (own_q14 hw) (ty := (.array .byte)) (by decide) rfl rfl safe_nil gx (hb hby own_d171) 57 rfl (fun T23 h23 S23 W23 R23 => ?_)
    have f1 := f1.wr W23
    have f2 := f2.same W23
    have f3 := f3.other W23 (Or.inr (slot_ne (Or.inr (own_q39 hw)) (Or.inr (own_q41 hw)) (by decide) (t := .byte) (t' := .array .byte) (by decide) (by decide)))
    have B := B.other W23 nt
    have K := K.wr W23 (Or.inl (List.mem_singleton.mpr rfl))
    have XB := XB.wr W23
    exact S23.vret hx hlk hret (hb hby own_d172) ⟨rfl, ⟨f1, t, kt, f2, Or.inl ⟨f3, la, XB, B⟩⟩, K⟩ (by decide) (by decide)
  · refine g_astore S20.here hx (hb hby own_d162) rfl #[.val (.ref x), .val (.ref a), .val (.int (0 : Int32)), .val (.int (1 : Int32)), .val .null, .val (.ref t)] rfl 41 rfl ?_
    refine g_aloadN S20.here hx (hb hby own_d163) rfl rfl 42 rfl ?_
    refine g_aload S20.here hx (hb hby own_d164) rfl rfl 44 rfl ?_
    refine g_iloadN S20.here hx (hb hby own_d165) rfl 45 rfl ?_
    refine S20.callS hx (W := 1) (own_q35 hw) (own_q36 hw) (own_q29 hw) (own_q37 hw) (by decide) (ctCF11 l Z a0 hw t kt _ h20 S20.old B) nosf (by decide) (by decide) (by rw [hml]; rfl) [(.ref t), (.int (1 : Int32))] [(.ref x)] (lenOf own_pd167 rfl) rfl rfl (Nat.le_refl _) (hb hby own_d166) (by decide) (by decide) 48 rfl (fun v24 vm24 T24 h24 S24 Q24 R24 => ?_)
    obtain ⟨rfl, rfl⟩ := Q24
    show Goes _ _ _ _ T24 (mkF m 48 #[.val (.ref x), .val (.ref a), .val (.int (0 : Int32)), .val (.int (1 : Int32)), .val .null, .val (.ref t)] [(.int (1 : Int32)), (.ref x)])
    refine S24.putF hx (host := "") (Or.inl (own_q38 hw)) Via.refl f3 f1 (Or.inr ⟨(own_q39 hw), rfl, hnm⟩) (own_q14 hw) (ty := .byte) (by decide) rfl rfl safe_nil gx (hb hby own_d168) 51 rfl (fun T25 h25 S25 W25 R25 => ?_)
    have f1 := f1.wr W25
    have f3 := f3.same W25
    have f2 := f2.other W25 (Or.inr (slot_ne (Or.inr (own_q41 hw)) (Or.inr (own_q39 hw)) (by decide) (t := .array .byte) (t' := .byte) (by decide) (by decide)))
    have B := B.other W25 nt
    have K := K.wr W25 (Or.inl (List.mem_singleton.mpr rfl))
    refine g_aloadN S25.here hx (hb hby own_d169) rfl rfl 52 rfl ?_
    refine g_aload S25.here hx (hb hby own_d170) rfl rfl 54 rfl ?_
    refine S25.putF hx (host := "") (Or.inl (own_q40 hw)) Via.refl f2 f1 (Or.inr ⟨(own_q41 hw), rfl, hnm⟩) (own_q14 hw) (ty := (.array .byte)) (by decide) rfl rfl safe_nil gx (hb hby own_d171) 57 rfl (fun T26 h26 S26 W26 R26 => ?_)
    have f1 := f1.wr W26
    have f2 := f2.same W26
    have f3 := f3.other W26 (Or.inr (slot_ne (Or.inr (own_q39 hw)) (Or.inr (own_q41 hw)) (by decide) (t := .byte) (t' := .array .byte) (by decide) (by decide)))
    have B := B.other W26 nt
    have K := K.wr W26 (Or.inl (List.mem_singleton.mpr rfl))
    exact S26.vret hx hlk hret (hb hby own_d172) ⟨rfl, ⟨f1, t, kt, f2, Or.inr ⟨f3, nofun, B⟩⟩, K⟩ (by decide) (by decide)
theorem own_ef174 (m : MethodId) (x0 : Addr) (x1 : Addr) : entryFrame m #[(.ref x0), (.ref x1)] 2 = mkF m 0 #[.val (.ref x0), .val (.ref x1)] [] := by first | (simp [entryFrame, mkF, argsToLocals, Value.category]; done) | rfl
theorem own_d175 : decode jdk_42_method_3_code 0 = .ok (.aload_n 0, 1) := by decide +kernel
theorem own_d176 : decode jdk_42_method_3_code 1 = .ok (.aload_n 1, 1) := by decide +kernel
theorem own_d177 : decode jdk_42_method_3_code 2 = .ok (.iconst 0, 1) := by decide +kernel
theorem own_d178 : decode jdk_42_method_3_code 3 = .ok (.aload_n 1, 1) := by decide +kernel
theorem own_d179 : decode jdk_42_method_3_code 4 = .ok (.arraylength, 1) := by decide +kernel
theorem own_d180 : decode jdk_42_method_3_code 5 = .ok (.aconst_null, 1) := by decide +kernel
theorem own_d181 : decode jdk_42_method_3_code 6 = .ok (.invokespecial 27, 3) := by decide +kernel
theorem own_pd182 : parseMethodDescriptor "([CIILjava/lang/Void;)V" = some ⟨[(.array .char), .int, .int, (.object "java/lang/Void")], none⟩ := by decide +kernel
theorem own_d183 : decode jdk_42_method_3_code 9 = .ok (.return_, 1) := by decide +kernel
set_option maxRecDepth 65536 in
set_option maxHeartbeats 40000000 in
theorem ctN11 (l : Launch) (Z : State) (a0 : Array Value) (hw : ∀ d ∈ tables_1, d.before a0 Z = true) (x a : Addr) (ka : ClassId) (c1 : Int32) (h : Heap) (O : Old Z Z.heap.size h) (G : own_cs Z) (H : own_h16 Z) (k1 : 0 ≤ c1.toInt ∧ c1.toInt ≤ 32767) (A : Arv Z h a ka .char (1 : Int32) [(.int c1)] (.int 0)) (F : own_raw Z h x) (gx : Z.heap.size ≤ x) :
    Ct 0 l Z [] [] (⟨"java/lang/String", "<init>", "([C)V"⟩ : MethodName) jdk_42_method_3_code 2 none ({ frames := 5, cells := 2, slots := 9, locals := 90 } : Room) #[(.ref x), (.ref a)] h (fun v h' => v = none ∧ own_txt Z h' x [c1] ∧ Keep h h' [x]) := by
  refine Ct.intro (plainFor_of_name own_pn173) O (fun _ => rfl) ⟨a0, EW.nil⟩ ?_
  intro p e s m below meth c T0 hx hby hml hret hnm hlk hsf S0
  refine Goes.cast (own_ef174 m x a) ?_
  refine g_aloadN S0.here hx (hb hby own_d175) rfl rfl 1 rfl ?_
  refine g_aloadN S0.here hx (hb hby own_d176) rfl rfl 2 rfl ?_
  refine g_iconst S0.here hx (hb hby own_d177) (0 : Int32) (by decide) 3 rfl ?_
  refine g_aloadN S0.here hx (hb hby own_d178) rfl rfl 4 rfl ?_
  refine S0.len hx A (hb hby own_d179) 5 rfl ?_
  refine g_aconst_null S0.here hx (hb hby own_d180) 6 rfl ?_
  refine S0.callI hx (W := 0) (a := x) rfl (own_q19 hw) (own_q20 hw) (own_q22 hw) (by decide) (own_q15 hw) (ctN41 l Z a0 hw x a ka c1 h O G H k1 A F gx) nosf (by decide) (by decide) (by rw [hml]; rfl) [(.ref a), (.int (0 : Int32)), (.int (1 : Int32)), .null] [] (lenOf own_pd182 rfl) rfl rfl (Nat.le_refl _) (hb hby own_d181) (by decide) (by decide) 9 rfl (fun v27 vm27 T27 h27 S27 Q27 R27 => ?_)
  obtain ⟨rfl, B, KK⟩ := Q27
  show Goes _ _ _ _ T27 (mkF m 9 #[.val (.ref x), .val (.ref a)] [])
  exact S27.vret hx hlk hret (hb hby own_d183) ⟨rfl, B, KK⟩ (by decide) (by decide)
set_option maxRecDepth 65536 in
set_option maxHeartbeats 40000000 in
theorem ctC52 (l : Launch) (Z : State) (a0 : Array Value) (hw : ∀ d ∈ tables_1, d.before a0 Z = true) (a b : Addr) (ka kb : ClassId) (c1 c2 : Int32) (h : Heap) (O : Old Z Z.heap.size h) (k1 : 0 ≤ c1.toInt ∧ c1.toInt ≤ 32767) (k2 : 0 ≤ c2.toInt ∧ c2.toInt ≤ 32767) (A : Arv Z h a ka .char (2 : Int32) [(.int c1), (.int c2)] (.int 0)) (B : Arv Z h b kb .byte (2 : Int32) [.int 0, .int 0] (.int 0)) (gb : Z.heap.size ≤ b) (nab : a ≠ b) :
    Ct 0 l Z [] [] (⟨"java/lang/StringUTF16", "compress", "([CI[BII)I"⟩ : MethodName) jdk_52_method_21_code 7 (some .int) ({ frames := 0, cells := 0, slots := 0, locals := 0 } : Room) #[(.ref a), (.int (0 : Int32)), (.ref b), (.int (0 : Int32)), (.int (2 : Int32))] h (fun v h' => Keep h h' [b] ∧ ((v = some (.int (2 : Int32)) ∧ own_lat [c1, c2] ∧ Arv Z h' b kb .byte (2 : Int32) (own_bs [c1, c2]) (.int 0)) ∨ (v = some (.int (0 : Int32)) ∧ 255 < c1.toInt) ∨ (v = some (.int (1 : Int32)) ∧ 255 < c2.toInt))) := by
  refine Ct.intro (plainFor_of_name own_pn26) O (fun _ => rfl) ⟨a0, EW.nil⟩ ?_
  intro p e s m below meth c T0 hx hby hml hret hnm hlk hsf S0
  refine Goes.cast (own_ef0 m a (0 : Int32) b (0 : Int32) (2 : Int32)) ?_
  have K := Keep.refl h [b]
  refine g_iconst S0.here hx (hb hby own_d1) (0 : Int32) (by decide) 1 rfl ?_
  refine g_istore S0.here hx (hb hby own_d2) #[.val (.ref a), .val (.int (0 : Int32)), .val (.ref b), .val (.int (0 : Int32)), .val (.int (2 : Int32)), .val (.int (0 : Int32)), .unset] rfl 3 rfl ?_
  refine g_iload S0.here hx (hb hby own_d3) rfl 5 rfl ?_
  refine g_iload S0.here hx (hb hby own_d4) rfl 7 rfl ?_
  refine g_icmpF S0.here hx (hb hby own_d5) 0 2 (by decide) (by decide) (by show ¬ (2 ≤ 0); decide) 10 rfl ?_
  refine g_aloadN S0.here hx (hb hby own_d6) rfl rfl 11 rfl ?_
  refine g_iloadN S0.here hx (hb hby own_d7) rfl 12 rfl ?_
  refine S0.cald hx A ⟨by decide, by decide⟩ (own_at (i := 0) (by decide) rfl) (hb hby own_d8) 13 rfl ?_
  refine g_istore S0.here hx (hb hby own_d9) #[.val (.ref a), .val (.int (0 : Int32)), .val (.ref b), .val (.int (0 : Int32)), .val (.int (2 : Int32)), .val (.int (0 : Int32)), .val (.int c1)] rfl 15 rfl ?_
  refine g_iload S0.here hx (hb hby own_d10) rfl 17 rfl ?_
  refine g_sipush S0.here hx (hb hby own_d11) (255 : Int32) (by decide) 20 rfl ?_
  refine g_icmp S0.here hx (hb hby own_d12) c1.toInt 255 rfl (by decide) 26 23 (by decide) (by decide) rfl (fun (hc20 : c1.toInt ≤ 255) => ?_) (fun (hc20 : ¬ (c1.toInt ≤ 255)) => ?_)
  · refine g_aloadN S0.here hx (hb hby own_d13) rfl rfl 27 rfl ?_
    refine g_iloadN S0.here hx (hb hby own_d14) rfl 28 rfl ?_
    refine g_iload S0.here hx (hb hby own_d15) rfl 30 rfl ?_
    refine g_i2b S0.here hx (hb hby own_d16) 31 rfl ?_
    refine S0.stB hx B 0 ⟨by decide, by decide⟩ (by decide) (by simp) gb safe_nil (hb hby own_d17) 32 rfl (fun T28 h28 S28 W28 V28 R28 => ?_)
    rw [own_lo8] at V28
    have B : Arv Z h28 b kb .byte (2 : Int32) [.int c1.toInt8.toInt32, .int 0] (.int 0) := V28
    have A := A.other W28 nab
    have K := K.wr W28 (Or.inl (List.mem_singleton.mpr rfl))
    refine g_iinc S28.here hx (hb hby own_d18) rfl #[.val (.ref a), .val (.int (1 : Int32)), .val (.ref b), .val (.int (0 : Int32)), .val (.int (2 : Int32)), .val (.int (0 : Int32)), .val (.int c1)] (by rw [show (0 : Int32) + Int32.ofInt 1 = (1 : Int32) from by decide]; rfl) 35 rfl ?_
    refine g_iinc S28.here hx (hb hby own_d19) rfl #[.val (.ref a), .val (.int (1 : Int32)), .val (.ref b), .val (.int (1 : Int32)), .val (.int (2 : Int32)), .val (.int (0 : Int32)), .val (.int c1)] (by rw [show (0 : Int32) + Int32.ofInt 1 = (1 : Int32) from by decide]; rfl) 38 rfl ?_
    refine g_iinc S28.here hx (hb hby own_d20) rfl #[.val (.ref a), .val (.int (1 : Int32)), .val (.ref b), .val (.int (1 : Int32)), .val (.int (2 : Int32)), .val (.int (1 : Int32)), .val (.int c1)] (by rw [show (0 : Int32) + Int32.ofInt 1 = (1 : Int32) from by decide]; rfl) 41 rfl ?_
    refine g_goto S28.here hx (hb hby own_d21) 3 (by decide) (by decide) ?_
    refine g_iload S28.here hx (hb hby own_d3) rfl 5 rfl ?_
    refine g_iload S28.here hx (hb hby own_d4) rfl 7 rfl ?_
    refine g_icmpF S28.here hx (hb hby own_d5) 1 2 (by decide) (by decide) (by show ¬ (2 ≤ 1); decide) 10 rfl ?_
    refine g_aloadN S28.here hx (hb hby own_d6) rfl rfl 11 rfl ?_
    refine g_iloadN S28.here hx (hb hby own_d7) rfl 12 rfl ?_
    refine S28.cald hx A ⟨by decide, by decide⟩ (own_at (i := 1) (by decide) rfl) (hb hby own_d8) 13 rfl ?_
    refine g_istore S28.here hx (hb hby own_d9) #[.val (.ref a), .val (.int (1 : Int32)), .val (.ref b), .val (.int (1 : Int32)), .val (.int (2 : Int32)), .val (.int (1 : Int32)), .val (.int c2)] rfl 15 rfl ?_
    refine g_iload S28.here hx (hb hby own_d10) rfl 17 rfl ?_
    refine g_sipush S28.here hx (hb hby own_d11) (255 : Int32) (by decide) 20 rfl ?_
    refine g_icmp S28.here hx (hb hby own_d12) c2.toInt 255 rfl (by decide) 26 23 (by decide) (by decide) rfl (fun (hc20 : c2.toInt ≤ 255) => ?_) (fun (hc20 : ¬ (c2.toInt ≤ 255)) => ?_)
    · refine g_aloadN S28.here hx (hb hby own_d13) rfl rfl 27 rfl ?_
      refine g_iloadN S28.here hx (hb hby own_d14) rfl 28 rfl ?_
      refine g_iload S28.here hx (hb hby own_d15) rfl 30 rfl ?_
      refine g_i2b S28.here hx (hb hby own_d16) 31 rfl ?_
      refine S28.stB hx B 1 ⟨by decide, by decide⟩ (by decide) (by simp) gb safe_nil (hb hby own_d17) 32 rfl (fun T29 h29 S29 W29 V29 R29 => ?_)
      rw [own_lo8] at V29
      have B : Arv Z h29 b kb .byte (2 : Int32) [.int c1.toInt8.toInt32, .int c2.toInt8.toInt32] (.int 0) := V29
      have A := A.other W29 nab
      have K := K.wr W29 (Or.inl (List.mem_singleton.mpr rfl))
      refine g_iinc S29.here hx (hb hby own_d18) rfl #[.val (.ref a), .val (.int (2 : Int32)), .val (.ref b), .val (.int (1 : Int32)), .val (.int (2 : Int32)), .val (.int (1 : Int32)), .val (.int c2)] (by rw [show (1 : Int32) + Int32.ofInt 1 = (2 : Int32) from by decide]; rfl) 35 rfl ?_
      refine g_iinc S29.here hx (hb hby own_d19) rfl #[.val (.ref a), .val (.int (2 : Int32)), .val (.ref b), .val (.int (2 : Int32)), .val (.int (2 : Int32)), .val (.int (1 : Int32)), .val (.int c2)] (by rw [show (1 : Int32) + Int32.ofInt 1 = (2 : Int32) from by decide]; rfl) 38 rfl ?_
      refine g_iinc S29.here hx (hb hby own_d20) rfl #[.val (.ref a), .val (.int (2 : Int32)), .val (.ref b), .val (.int (2 : Int32)), .val (.int (2 : Int32)), .val (.int (2 : Int32)), .val (.int c2)] (by rw [show (1 : Int32) + Int32.ofInt 1 = (2 : Int32) from by decide]; rfl) 41 rfl ?_
      refine g_goto S29.here hx (hb hby own_d21) 3 (by decide) (by decide) ?_
      refine g_iload S29.here hx (hb hby own_d3) rfl 5 rfl ?_
      refine g_iload S29.here hx (hb hby own_d4) rfl 7 rfl ?_
      refine g_icmpT S29.here hx (hb hby own_d5) 2 2 (by decide) (by decide) (by show 2 ≤ 2; decide) 44 (by decide) (by decide) ?_
      refine g_iload S29.here hx (hb hby own_d22) rfl 46 rfl ?_
      exact S29.iret hx hlk hret (Or.inl rfl) rfl (hb hby own_d23) ⟨K, Or.inl ⟨rfl, (own_lat_cons ⟨k1.1, by omega⟩ (own_lat_cons ⟨k2.1, by omega⟩ own_lat_nil)), B⟩⟩ (by decide) (by decide)
    · refine g_iload S28.here hx (hb hby own_d24) rfl 25 rfl ?_
      exact S28.iret hx hlk hret (Or.inl rfl) rfl (hb hby own_d25) ⟨K, Or.inr (Or.inr (⟨rfl, by omega⟩))⟩ (by decide) (by decide)
  · refine g_iload S0.here hx (hb hby own_d24) rfl 25 rfl ?_
    exact S0.iret hx hlk hret (Or.inl rfl) rfl (hb hby own_d25) ⟨K, Or.inr (Or.inl ⟨rfl, by omega⟩)⟩ (by decide) (by decide)
set_option maxRecDepth 65536 in
set_option maxHeartbeats 40000000 in
theorem ctNL2 (l : Launch) (Z : State) (a0 : Array Value) (hw : ∀ d ∈ tables_1, d.before a0 Z = true)  (h : Heap) (O : Old Z Z.heap.size h) :
    Ct 0 l Z [] [] (⟨"java/lang/StringUTF16", "newBytesLength", "(I)I"⟩ : MethodName) jdk_52_method_3_code 1 (some .int) ({ frames := 0, cells := 0, slots := 0, locals := 0 } : Room) #[(.int (2 : Int32))] h (fun v h' => v = some (.int (4 : Int32)) ∧ h = h') := by
  refine Ct.intro (plainFor_of_name own_pn26) O (fun _ => rfl) ⟨a0, EW.nil⟩ ?_
  intro p e s m below meth c T0 hx hby hml hret hnm hlk hsf S0
  refine Goes.cast (own_ef27 m (2 : Int32)) ?_
  refine g_iloadN S0.here hx (hb hby own_d28) rfl 1 rfl ?_
  refine g_ifT S0.here hx (hb hby own_d29) 2 (by decide) (by show 0 ≤ 2; decide) 12 (by decide) (by decide) ?_
  refine g_iloadN S0.here hx (hb hby own_d30) rfl 13 rfl ?_
  refine S0.ldcI hx (own_q131 hw) (hb hby own_d31) 15 rfl ?_
  refine g_icmpT S0.here hx (hb hby own_d32) 2 1073741823 (by decide) (by decide) (by show 2 < 1073741823; decide) 55 (by decide) (by decide) ?_
  refine g_iloadN S0.here hx (hb hby own_d33) rfl 56 rfl ?_
  refine g_iconst S0.here hx (hb hby own_d34) (1 : Int32) (by decide) 57 rfl ?_
  refine g_ishl S0.here hx (hb hby own_d35) 58 rfl ?_
  rw [show ((2 : Int32) <<< ((1 : Int32) &&& 31)) = (4 : Int32) from by decide]
  exact S0.iret hx hlk hret (Or.inl rfl) rfl (hb hby own_d36) ⟨rfl, rfl⟩ (by decide) (by decide)
set_option maxRecDepth 65536 in
set_option maxHeartbeats 40000000 in
theorem ctNF2 (l : Launch) (Z : State) (a0 : Array Value) (hw : ∀ d ∈ tables_1, d.before a0 Z = true)  (h : Heap) (O : Old Z Z.heap.size h) :
    Ct 0 l Z [] [] (⟨"java/lang/StringUTF16", "newBytesFor", "(I)[B"⟩ : MethodName) jdk_52_method_2_code 1 (some (.array .byte)) ({ frames := 1, cells := 1, slots := 6, locals := 12 } : Room) #[(.int (2 : Int32))] h (fun v h' => ∃ (b : Addr) (k : ClassId), v = some (.ref b) ∧ h.size ≤ b ∧ Ext h h' ∧ Arv Z h' b k .byte (4 : Int32) [.int 0, .int 0, .int 0, .int 0] (.int 0)) := by
  refine Ct.intro (plainFor_of_name own_pn26) O (fun _ => rfl) ⟨a0, EW.nil⟩ ?_
  intro p e s m below meth c T0 hx hby hml hret hnm hlk hsf S0
  refine Goes.cast (own_ef27 m (2 : Int32)) ?_
  refine g_iloadN S0.here hx (hb hby own_d37) rfl 1 rfl ?_
  refine S0.callS hx (W := 0) (own_q128 hw) (own_q129 hw) (own_q29 hw) (own_q130 hw) (by decide) (ctNL2 l Z a0 hw h O) nosf (by decide) (by decide) (by rw [hml]; rfl) [(.int (2 : Int32))] [] (lenOf own_pd39 rfl) rfl rfl (Nat.le_refl _) (hb hby own_d38) (by decide) (by decide) 4 rfl (fun v30 vm30 T30 h30 S30 Q30 R30 => ?_)
  obtain ⟨rfl, rfl⟩ := Q30
  show Goes _ _ _ _ T30 (mkF m 4 #[.val (.int (2 : Int32))] [(.int (4 : Int32))])
  refine S30.newAE (aty := .byte) hx (own_q31 hw) (n := (4 : Int32)) (by decide) (cap := 4) (by decide) (by decide) (hb hby own_d40) (by decide) (by decide) (ad := "[B") (by decide) 6 rfl (fun T31 h31 B_b k31 S31 g31 E31 V31 B_x F31 R31 => ?_)
  have B : Arv Z h31 B_b k31 .byte (4 : Int32) [.int 0, .int 0, .int 0, .int 0] (.int 0) := V31
  have B_z : Z.heap.size ≤ B_b := by rw [g31]; exact S30.size
  have B_g : h.size ≤ B_b := Nat.le_of_eq g31.symm
  exact S31.aret hx hlk hret rfl rfl rfl (hb hby own_d41) ⟨_, _, rfl, B_g, E31, B⟩ (by decide) (by decide)
set_option maxRecDepth 65536 in
set_option maxHeartbeats 40000000 in
theorem ctPC20 (l : Launch) (Z : State) (a0 : Array Value) (hw : ∀ d ∈ tables_1, d.before a0 Z = true) (b : Addr) (kb : ClassId) (ch : Int32) (vs : List Value) (h : Heap) (O : Old Z Z.heap.size h) (H : own_h16 Z) (B : Arv Z h b kb .byte (4 : Int32) vs (.int 0)) (hl : vs.length = 4) (gb : Z.heap.size ≤ b) :
    Ct 0 l Z [] [] (⟨"java/lang/StringUTF16", "putChar", "([BII)V"⟩ : MethodName) jdk_52_method_4_code 3 none ({ frames := 0, cells := 0, slots := 0, locals := 0 } : Room) #[(.ref b), (.int (0 : Int32)), (.int ch)] h (fun v h' => v = none ∧ Keep h h' [b] ∧ Arv Z h' b kb .byte (4 : Int32) ((vs.set 0 (.int (StrChars.lo8 ch))).set 1 (.int (StrChars.hi8 ch))) (.int 0)) := by
  refine Ct.intro (plainFor_of_name own_pn26) O (fun _ => rfl) ⟨a0, EW.nil⟩ ?_
  intro p e s m below meth c T0 hx hby hml hret hnm hlk hsf S0
  refine Goes.cast (own_ef42 m b (0 : Int32) ch) ?_
  obtain ⟨g1, g2, g3⟩ := H
  have K := Keep.refl h [b]
  refine S0.getS hx (host := "") (Or.inl (own_q135 hw)) Via.refl (g1.ext O.2) (hb hby own_d43) 3 rfl (fun T32 S32 => ?_)
  refine g_ifT S32.here hx (hb hby own_d44) 1 (by decide) (by show ¬ 1 = 0; decide) 28 (by decide) (by decide) ?_
  refine g_iloadN S32.here hx (hb hby own_d45) rfl 29 rfl ?_
  refine g_iconst S32.here hx (hb hby own_d46) (1 : Int32) (by decide) 30 rfl ?_
  refine g_ishl S32.here hx (hb hby own_d47) 31 rfl ?_
  rw [show ((0 : Int32) <<< ((1 : Int32) &&& 31)) = (0 : Int32) from by decide]
  refine g_istoreN S32.here hx (hb hby own_d48) #[.val (.ref b), .val (.int (0 : Int32)), .val (.int ch)] rfl 32 rfl ?_
  refine g_aloadN S32.here hx (hb hby own_d49) rfl rfl 33 rfl ?_
  refine g_iloadN S32.here hx (hb hby own_d50) rfl 34 rfl ?_
  refine g_iinc S32.here hx (hb hby own_d51) rfl #[.val (.ref b), .val (.int (1 : Int32)), .val (.int ch)] (by rw [show (0 : Int32) + Int32.ofInt 1 = (1 : Int32) from by decide]; rfl) 37 rfl ?_
  refine g_iloadN S32.here hx (hb hby own_d52) rfl 38 rfl ?_
  refine S32.getS hx (host := "") (Or.inl (own_q136 hw)) Via.refl (g2.ext S32.old.2) (hb hby own_d53) 41 rfl (fun T33 S33 => ?_)
  refine g_ishr S33.here hx (hb hby own_d54) 42 rfl ?_
  refine g_i2b S33.here hx (hb hby own_d55) 43 rfl ?_
  refine S33.stB hx B 0 ⟨by decide, by decide⟩ (by decide) (by rw [hl]; decide) gb safe_nil (hb hby own_d56) 44 rfl (fun T34 h34 S34 W34 V34 R34 => ?_)
  rw [own_st0] at V34
  have B := V34
  have K := K.wr W34 (Or.inl (List.mem_singleton.mpr rfl))
  refine g_aloadN S34.here hx (hb hby own_d57) rfl rfl 45 rfl ?_
  refine g_iloadN S34.here hx (hb hby own_d58) rfl 46 rfl ?_
  refine g_iloadN S34.here hx (hb hby own_d59) rfl 47 rfl ?_
  refine S34.getS hx (host := "") (Or.inl (own_q137 hw)) Via.refl (g3.ext S34.old.2) (hb hby own_d60) 50 rfl (fun T35 S35 => ?_)
  refine g_ishr S35.here hx (hb hby own_d61) 51 rfl ?_
  refine g_i2b S35.here hx (hb hby own_d62) 52 rfl ?_
  refine S35.stB hx B 1 ⟨by decide, by decide⟩ (by decide) (by rw [List.length_set]; rw [hl]; decide) gb safe_nil (hb hby own_d63) 53 rfl (fun T36 h36 S36 W36 V36 R36 => ?_)
  rw [own_st8] at V36
  have B := V36
  have K := K.wr W36 (Or.inl (List.mem_singleton.mpr rfl))
  exact S36.vret hx hlk hret (hb hby own_d64) ⟨rfl, K, B⟩ (by decide) (by decide)
set_option maxRecDepth 65536 in
set_option maxHeartbeats 40000000 in
theorem ctGC20 (l : Launch) (Z : State) (a0 : Array Value) (hw : ∀ d ∈ tables_1, d.before a0 Z = true) (b : Addr) (kb : ClassId) (ch : Int32) (vs : List Value) (h : Heap) (O : Old Z Z.heap.size h) (H : own_h16 Z) (kc : 0 ≤ ch.toInt ∧ ch.toInt ≤ 32767) (B : Arv Z h b kb .byte (4 : Int32) vs (.int 0)) (e0 : vs.getD 0 (.int 0) = .int (StrChars.lo8 ch)) (e1 : vs.getD 1 (.int 0) = .int (StrChars.hi8 ch)) :
    Ct 0 l Z [] [] (⟨"java/lang/StringUTF16", "getChar", "([BI)C"⟩ : MethodName) jdk_52_method_5_code 2 (some .char) ({ frames := 0, cells := 0, slots := 0, locals := 0 } : Room) #[(.ref b), (.int (0 : Int32))] h (fun v h' => v = some (.int ch) ∧ h = h') := by
  refine Ct.intro (plainFor_of_name own_pn26) O (fun _ => rfl) ⟨a0, EW.nil⟩ ?_
  intro p e s m below meth c T0 hx hby hml hret hnm hlk hsf S0
  refine Goes.cast (own_ef65 m b (0 : Int32)) ?_
  obtain ⟨g1, g2, g3⟩ := H
  refine S0.getS hx (host := "") (Or.inl (own_q135 hw)) Via.refl (g1.ext O.2) (hb hby own_d66) 3 rfl (fun T37 S37 => ?_)
  refine g_ifT S37.here hx (hb hby own_d67) 1 (by decide) (by show ¬ 1 = 0; decide) 28 (by decide) (by decide) ?_
  refine g_iloadN S37.here hx (hb hby own_d68) rfl 29 rfl ?_
  refine g_iconst S37.here hx (hb hby own_d69) (1 : Int32) (by decide) 30 rfl ?_
  refine g_ishl S37.here hx (hb hby own_d70) 31 rfl ?_
  rw [show ((0 : Int32) <<< ((1 : Int32) &&& 31)) = (0 : Int32) from by decide]
  refine g_istoreN S37.here hx (hb hby own_d71) #[.val (.ref b), .val (.int (0 : Int32))] rfl 32 rfl ?_
  refine g_aloadN S37.here hx (hb hby own_d72) rfl rfl 33 rfl ?_
  refine g_iloadN S37.here hx (hb hby own_d73) rfl 34 rfl ?_
  refine g_iinc S37.here hx (hb hby own_d74) rfl #[.val (.ref b), .val (.int (1 : Int32))] (by rw [show (0 : Int32) + Int32.ofInt 1 = (1 : Int32) from by decide]; rfl) 37 rfl ?_
  refine S37.bald hx B ⟨by decide, by decide⟩ (own_at (i := 0) (by decide) e0) (hb hby own_d75) 38 rfl ?_
  refine g_sipush S37.here hx (hb hby own_d76) (255 : Int32) (by decide) 41 rfl ?_
  refine g_iand S37.here hx (hb hby own_d77) 42 rfl ?_
  refine S37.getS hx (host := "") (Or.inl (own_q136 hw)) Via.refl (g2.ext O.2) (hb hby own_d78) 45 rfl (fun T38 S38 => ?_)
  refine g_ishl S38.here hx (hb hby own_d79) 46 rfl ?_
  refine g_aloadN S38.here hx (hb hby own_d80) rfl rfl 47 rfl ?_
  refine g_iloadN S38.here hx (hb hby own_d81) rfl 48 rfl ?_
  refine S38.bald hx B ⟨by decide, by decide⟩ (own_at (i := 1) (by decide) e1) (hb hby own_d82) 49 rfl ?_
  refine g_sipush S38.here hx (hb hby own_d83) (255 : Int32) (by decide) 52 rfl ?_
  refine g_iand S38.here hx (hb hby own_d84) 53 rfl ?_
  refine S38.getS hx (host := "") (Or.inl (own_q137 hw)) Via.refl (g3.ext O.2) (hb hby own_d85) 56 rfl (fun T39 S39 => ?_)
  refine g_ishl S39.here hx (hb hby own_d86) 57 rfl ?_
  refine g_ior S39.here hx (hb hby own_d87) 58 rfl ?_
  refine g_i2c S39.here hx (hb hby own_d88) 59 rfl ?_
  rw [own_pair kc]
  exact S39.iret hx hlk hret (Or.inr (Or.inr (Or.inr (Or.inl rfl)))) (own_narrow kc) (hb hby own_d89) ⟨rfl, rfl⟩ (by decide) (by decide)
set_option maxRecDepth 65536 in
set_option maxHeartbeats 40000000 in
theorem ctPC21 (l : Launch) (Z : State) (a0 : Array Value) (hw : ∀ d ∈ tables_1, d.before a0 Z = true) (b : Addr) (kb : ClassId) (ch : Int32) (vs : List Value) (h : Heap) (O : Old Z Z.heap.size h) (H : own_h16 Z) (B : Arv Z h b kb .byte (4 : Int32) vs (.int 0)) (hl : vs.length = 4) (gb : Z.heap.size ≤ b) :
    Ct 0 l Z [] [] (⟨"java/lang/StringUTF16", "putChar", "([BII)V"⟩ : MethodName) jdk_52_method_4_code 3 none ({ frames := 0, cells := 0, slots := 0, locals := 0 } : Room) #[(.ref b), (.int (1 : Int32)), (.int ch)] h (fun v h' => v = none ∧ Keep h h' [b] ∧ Arv Z h' b kb .byte (4 : Int32) ((vs.set 2 (.int (StrChars.lo8 ch))).set 3 (.int (StrChars.hi8 ch))) (.int 0)) := by
  refine Ct.intro (plainFor_of_name own_pn26) O (fun _ => rfl) ⟨a0, EW.nil⟩ ?_
  intro p e s m below meth c T0 hx hby hml hret hnm hlk hsf S0
  refine Goes.cast (own_ef42 m b (1 : Int32) ch) ?_
  obtain ⟨g1, g2, g3⟩ := H
  have K := Keep.refl h [b]
  refine S0.getS hx (host := "") (Or.inl (own_q135 hw)) Via.refl (g1.ext O.2) (hb hby own_d43) 3 rfl (fun T40 S40 => ?_)
  refine g_ifT S40.here hx (hb hby own_d44) 1 (by decide) (by show ¬ 1 = 0; decide) 28 (by decide) (by decide) ?_
  refine g_iloadN S40.here hx (hb hby own_d45) rfl 29 rfl ?_
  refine g_iconst S40.here hx (hb hby own_d46) (1 : Int32) (by decide) 30 rfl ?_
  refine g_ishl S40.here hx (hb hby own_d47) 31 rfl ?_
  rw [show ((1 : Int32) <<< ((1 : Int32) &&& 31)) = (2 : Int32) from by decide]
  refine g_istoreN S40.here hx (hb hby own_d48) #[.val (.ref b), .val (.int (2 : Int32)), .val (.int ch)] rfl 32 rfl ?_
  refine g_aloadN S40.here hx (hb hby own_d49) rfl rfl 33 rfl ?_
  refine g_iloadN S40.here hx (hb hby own_d50) rfl 34 rfl ?_
  refine g_iinc S40.here hx (hb hby own_d51) rfl #[.val (.ref b), .val (.int (3 : Int32)), .val (.int ch)] (by rw [show (2 : Int32) + Int32.ofInt 1 = (3 : Int32) from by decide]; rfl) 37 rfl ?_
  refine g_iloadN S40.here hx (hb hby own_d52) rfl 38 rfl ?_
  refine S40.getS hx (host := "") (Or.inl (own_q136 hw)) Via.refl (g2.ext S40.old.2) (hb hby own_d53) 41 rfl (fun T41 S41 => ?_)
  refine g_ishr S41.here hx (hb hby own_d54) 42 rfl ?_
  refine g_i2b S41.here hx (hb hby own_d55) 43 rfl ?_
  refine S41.stB hx B 2 ⟨by decide, by decide⟩ (by decide) (by rw [hl]; decide) gb safe_nil (hb hby own_d56) 44 rfl (fun T42 h42 S42 W42 V42 R42 => ?_)
  rw [own_st0] at V42
  have B := V42
  have K := K.wr W42 (Or.inl (List.mem_singleton.mpr rfl))
  refine g_aloadN S42.here hx (hb hby own_d57) rfl rfl 45 rfl ?_
  refine g_iloadN S42.here hx (hb hby own_d58) rfl 46 rfl ?_
  refine g_iloadN S42.here hx (hb hby own_d59) rfl 47 rfl ?_
  refine S42.getS hx (host := "") (Or.inl (own_q137 hw)) Via.refl (g3.ext S42.old.2) (hb hby own_d60) 50 rfl (fun T43 S43 => ?_)
  refine g_ishr S43.here hx (hb hby own_d61) 51 rfl ?_
  refine g_i2b S43.here hx (hb hby own_d62) 52 rfl ?_
  refine S43.stB hx B 3 ⟨by decide, by decide⟩ (by decide) (by rw [List.length_set]; rw [hl]; decide) gb safe_nil (hb hby own_d63) 53 rfl (fun T44 h44 S44 W44 V44 R44 => ?_)
  rw [own_st8] at V44
  have B := V44
  have K := K.wr W44 (Or.inl (List.mem_singleton.mpr rfl))
  exact S44.vret hx hlk hret (hb hby own_d64) ⟨rfl, K, B⟩ (by decide) (by decide)
set_option maxRecDepth 65536 in
set_option maxHeartbeats 40000000 in
theorem ctGC21 (l : Launch) (Z : State) (a0 : Array Value) (hw : ∀ d ∈ tables_1, d.before a0 Z = true) (b : Addr) (kb : ClassId) (ch : Int32) (vs : List Value) (h : Heap) (O : Old Z Z.heap.size h) (H : own_h16 Z) (kc : 0 ≤ ch.toInt ∧ ch.toInt ≤ 32767) (B : Arv Z h b kb .byte (4 : Int32) vs (.int 0)) (e0 : vs.getD 2 (.int 0) = .int (StrChars.lo8 ch)) (e1 : vs.getD 3 (.int 0) = .int (StrChars.hi8 ch)) :
    Ct 0 l Z [] [] (⟨"java/lang/StringUTF16", "getChar", "([BI)C"⟩ : MethodName) jdk_52_method_5_code 2 (some .char) ({ frames := 0, cells := 0, slots := 0, locals := 0 } : Room) #[(.ref b), (.int (1 : Int32))] h (fun v h' => v = some (.int ch) ∧ h = h') := by
  refine Ct.intro (plainFor_of_name own_pn26) O (fun _ => rfl) ⟨a0, EW.nil⟩ ?_
  intro p e s m below meth c T0 hx hby hml hret hnm hlk hsf S0
  refine Goes.cast (own_ef65 m b (1 : Int32)) ?_
  obtain ⟨g1, g2, g3⟩ := H
  refine S0.getS hx (host := "") (Or.inl (own_q135 hw)) Via.refl (g1.ext O.2) (hb hby own_d66) 3 rfl (fun T45 S45 => ?_)
  refine g_ifT S45.here hx (hb hby own_d67) 1 (by decide) (by show ¬ 1 = 0; decide) 28 (by decide) (by decide) ?_
  refine g_iloadN S45.here hx (hb hby own_d68) rfl 29 rfl ?_
  refine g_iconst S45.here hx (hb hby own_d69) (1 : Int32) (by decide) 30 rfl ?_
  refine g_ishl S45.here hx (hb hby own_d70) 31 rfl ?_
  rw [show ((1 : Int32) <<< ((1 : Int32) &&& 31)) = (2 : Int32) from by decide]
  refine g_istoreN S45.here hx (hb hby own_d71) #[.val (.ref b), .val (.int (2 : Int32))] rfl 32 rfl ?_
  refine g_aloadN S45.here hx (hb hby own_d72) rfl rfl 33 rfl ?_
  refine g_iloadN S45.here hx (hb hby own_d73) rfl 34 rfl ?_
  refine g_iinc S45.here hx (hb hby own_d74) rfl #[.val (.ref b), .val (.int (3 : Int32))] (by rw [show (2 : Int32) + Int32.ofInt 1 = (3 : Int32) from by decide]; rfl) 37 rfl ?_
  refine S45.bald hx B ⟨by decide, by decide⟩ (own_at (i := 2) (by decide) e0) (hb hby own_d75) 38 rfl ?_
  refine g_sipush S45.here hx (hb hby own_d76) (255 : Int32) (by decide) 41 rfl ?_
  refine g_iand S45.here hx (hb hby own_d77) 42 rfl ?_
  refine S45.getS hx (host := "") (Or.inl (own_q136 hw)) Via.refl (g2.ext O.2) (hb hby own_d78) 45 rfl (fun T46 S46 => ?_)
  refine g_ishl S46.here hx (hb hby own_d79) 46 rfl ?_
  refine g_aloadN S46.here hx (hb hby own_d80) rfl rfl 47 rfl ?_
  refine g_iloadN S46.here hx (hb hby own_d81) rfl 48 rfl ?_
  refine S46.bald hx B ⟨by decide, by decide⟩ (own_at (i := 3) (by decide) e1) (hb hby own_d82) 49 rfl ?_
  refine g_sipush S46.here hx (hb hby own_d83) (255 : Int32) (by decide) 52 rfl ?_
  refine g_iand S46.here hx (hb hby own_d84) 53 rfl ?_
  refine S46.getS hx (host := "") (Or.inl (own_q137 hw)) Via.refl (g3.ext O.2) (hb hby own_d85) 56 rfl (fun T47 S47 => ?_)
  refine g_ishl S47.here hx (hb hby own_d86) 57 rfl ?_
  refine g_ior S47.here hx (hb hby own_d87) 58 rfl ?_
  refine g_i2c S47.here hx (hb hby own_d88) 59 rfl ?_
  rw [own_pair kc]
  exact S47.iret hx hlk hret (Or.inr (Or.inr (Or.inr (Or.inl rfl)))) (own_narrow kc) (hb hby own_d89) ⟨rfl, rfl⟩ (by decide) (by decide)
set_option maxRecDepth 65536 in
set_option maxHeartbeats 40000000 in
theorem ctTB2 (l : Launch) (Z : State) (a0 : Array Value) (hw : ∀ d ∈ tables_1, d.before a0 Z = true) (a : Addr) (ka : ClassId) (c1 c2 : Int32) (h : Heap) (O : Old Z Z.heap.size h) (H : own_h16 Z) (k1 : 0 ≤ c1.toInt ∧ c1.toInt ≤ 32767) (k2 : 0 ≤ c2.toInt ∧ c2.toInt ≤ 32767) (A : Arv Z h a ka .char (2 : Int32) [(.int c1), (.int c2)] (.int 0)) :
    Ct 0 l Z [] [] (⟨"java/lang/StringUTF16", "toBytes", "([CII)[B"⟩ : MethodName) jdk_52_method_14_code 5 (some (.array .byte)) ({ frames := 2, cells := 1, slots := 6, locals := 30 } : Room) #[(.ref a), (.int (0 : Int32)), (.int (2 : Int32))] h (fun v h' => ∃ (b : Addr) (k : ClassId), v = some (.ref b) ∧ h.size ≤ b ∧ Ext h h' ∧ Arv Z h' b k .byte (4 : Int32) (own_pr [c1, c2]) (.int 0)) := by
  refine Ct.intro (plainFor_of_name own_pn26) O (fun _ => rfl) ⟨a0, EW.nil⟩ ?_
  intro p e s m below meth c T0 hx hby hml hret hnm hlk hsf S0
  refine Goes.cast (own_ef90 m a (0 : Int32) (2 : Int32)) ?_
  refine g_iloadN S0.here hx (hb hby own_d91) rfl 1 rfl ?_
  refine S0.callS hx (W := 0) (own_q125 hw) (own_q126 hw) (own_q29 hw) (own_q127 hw) (by decide) (ctNF2 l Z a0 hw h O) nosf (by decide) (by decide) (by rw [hml]; rfl) [(.int (2 : Int32))] [] (lenOf own_pd93 rfl) rfl rfl (Nat.le_refl _) (hb hby own_d92) (by decide) (by decide) 4 rfl (fun v48 vm48 T48 h48 S48 Q48 R48 => ?_)
  obtain ⟨b, kb, rfl, gb, E, B⟩ := Q48
  show Goes _ _ _ _ T48 (mkF m 4 #[.val (.ref a), .val (.int (0 : Int32)), .val (.int (2 : Int32)), .unset, .unset] [(.ref b)])
  have nab : a ∉ [b] := fun q => by cases List.mem_singleton.mp q; exact absurd A.lt (Nat.not_lt.mpr gb)
  have A := A.ext E
  have gz : Z.heap.size ≤ b := Nat.le_trans O.2.1 gb
  refine g_astoreN S48.here hx (hb hby own_d94) rfl #[.val (.ref a), .val (.int (0 : Int32)), .val (.int (2 : Int32)), .val (.ref b), .unset] rfl 5 rfl ?_
  refine g_iconst S48.here hx (hb hby own_d95) (0 : Int32) (by decide) 6 rfl ?_
  refine g_istore S48.here hx (hb hby own_d96) #[.val (.ref a), .val (.int (0 : Int32)), .val (.int (2 : Int32)), .val (.ref b), .val (.int (0 : Int32))] rfl 8 rfl ?_
  refine g_iload S48.here hx (hb hby own_d97) rfl 10 rfl ?_
  refine g_iloadN S48.here hx (hb hby own_d98) rfl 11 rfl ?_
  refine g_icmpF S48.here hx (hb hby own_d99) 0 2 (by decide) (by decide) (by show ¬ (2 ≤ 0); decide) 14 rfl ?_
  refine g_aloadN S48.here hx (hb hby own_d100) rfl rfl 15 rfl ?_
  refine g_iload S48.here hx (hb hby own_d101) rfl 17 rfl ?_
  refine g_aloadN S48.here hx (hb hby own_d102) rfl rfl 18 rfl ?_
  refine g_iloadN S48.here hx (hb hby own_d103) rfl 19 rfl ?_
  refine S48.cald hx A ⟨by decide, by decide⟩ (own_at (i := 0) (by decide) rfl) (hb hby own_d104) 20 rfl ?_
  refine S48.callS hx (W := 0) (own_q132 hw) (own_q133 hw) (own_q29 hw) (own_q134 hw) (by decide) (ctPC20 l Z a0 hw b kb c1 [.int 0, .int 0, .int 0, .int 0] h48 S48.old H B rfl gz) nosf (by decide) (by decide) (by rw [hml]; rfl) [(.ref b), (.int (0 : Int32)), (.int c1)] [] (lenOf own_pd106 rfl) rfl rfl (Nat.le_refl _) (hb hby own_d105) (by decide) (by decide) 23 rfl (fun v49 vm49 T49 h49 S49 Q49 R49 => ?_)
  obtain ⟨rfl, K49, B49⟩ := Q49
  show Goes _ _ _ _ T49 (mkF m 23 #[.val (.ref a), .val (.int (0 : Int32)), .val (.int (2 : Int32)), .val (.ref b), .val (.int (0 : Int32))] [])
  have B : Arv Z h49 b kb .byte (4 : Int32) [.int (StrChars.lo8 c1), .int (StrChars.hi8 c1), .int 0, .int 0] (.int 0) := B49
  have A := A.keep K49 nab
  have E := own_ext_keep E K49 (fun x hx => by cases List.mem_singleton.mp hx; exact gb)
  refine g_iinc S49.here hx (hb hby own_d107) rfl #[.val (.ref a), .val (.int (1 : Int32)), .val (.int (2 : Int32)), .val (.ref b), .val (.int (0 : Int32))] (by rw [show (0 : Int32) + Int32.ofInt 1 = (1 : Int32) from by decide]; rfl) 26 rfl ?_
  refine g_iinc S49.here hx (hb hby own_d108) rfl #[.val (.ref a), .val (.int (1 : Int32)), .val (.int (2 : Int32)), .val (.ref b), .val (.int (1 : Int32))] (by rw [show (0 : Int32) + Int32.ofInt 1 = (1 : Int32) from by decide]; rfl) 29 rfl ?_
  refine g_goto S49.here hx (hb hby own_d109) 8 (by decide) (by decide) ?_
  refine g_iload S49.here hx (hb hby own_d97) rfl 10 rfl ?_
  refine g_iloadN S49.here hx (hb hby own_d98) rfl 11 rfl ?_
  refine g_icmpF S49.here hx (hb hby own_d99) 1 2 (by decide) (by decide) (by show ¬ (2 ≤ 1); decide) 14 rfl ?_
  refine g_aloadN S49.here hx (hb hby own_d100) rfl rfl 15 rfl ?_
  refine g_iload S49.here hx (hb hby own_d101) rfl 17 rfl ?_
  refine g_aloadN S49.here hx (hb hby own_d102) rfl rfl 18 rfl ?_
  refine g_iloadN S49.here hx (hb hby own_d103) rfl 19 rfl ?_
  refine S49.cald hx A ⟨by decide, by decide⟩ (own_at (i := 1) (by decide) rfl) (hb hby own_d104) 20 rfl ?_
  refine S49.callS hx (W := 0) (own_q132 hw) (own_q133 hw) (own_q29 hw) (own_q134 hw) (by decide) (ctPC21 l Z a0 hw b kb c2 [.int (StrChars.lo8 c1), .int (StrChars.hi8 c1), .int 0, .int 0] h49 S49.old H B rfl gz) nosf (by decide) (by decide) (by rw [hml]; rfl) [(.ref b), (.int (1 : Int32)), (.int c2)] [] (lenOf own_pd106 rfl) rfl rfl (Nat.le_refl _) (hb hby own_d105) (by decide) (by decide) 23 rfl (fun v50 vm50 T50 h50 S50 Q50 R50 => ?_)
  obtain ⟨rfl, K50, B50⟩ := Q50
  show Goes _ _ _ _ T50 (mkF m 23 #[.val (.ref a), .val (.int (1 : Int32)), .val (.int (2 : Int32)), .val (.ref b), .val (.int (1 : Int32))] [])
  have B : Arv Z h50 b kb .byte (4 : Int32) [.int (StrChars.lo8 c1), .int (StrChars.hi8 c1), .int (StrChars.lo8 c2), .int (StrChars.hi8 c2)] (.int 0) := B50
  have A := A.keep K50 nab
  have E := own_ext_keep E K50 (fun x hx => by cases List.mem_singleton.mp hx; exact gb)
  refine g_iinc S50.here hx (hb hby own_d107) rfl #[.val (.ref a), .val (.int (2 : Int32)), .val (.int (2 : Int32)), .val (.ref b), .val (.int (1 : Int32))] (by rw [show (1 : Int32) + Int32.ofInt 1 = (2 : Int32) from by decide]; rfl) 26 rfl ?_
  refine g_iinc S50.here hx (hb hby own_d108) rfl #[.val (.ref a), .val (.int (2 : Int32)), .val (.int (2 : Int32)), .val (.ref b), .val (.int (2 : Int32))] (by rw [show (1 : Int32) + Int32.ofInt 1 = (2 : Int32) from by decide]; rfl) 29 rfl ?_
  refine g_goto S50.here hx (hb hby own_d109) 8 (by decide) (by decide) ?_
  refine g_iload S50.here hx (hb hby own_d97) rfl 10 rfl ?_
  refine g_iloadN S50.here hx (hb hby own_d98) rfl 11 rfl ?_
  refine g_icmpT S50.here hx (hb hby own_d99) 2 2 (by decide) (by decide) (by show 2 ≤ 2; decide) 32 (by decide) (by decide) ?_
  refine g_aloadN S50.here hx (hb hby own_d110) rfl rfl 33 rfl ?_
  exact S50.aret hx hlk hret rfl rfl rfl (hb hby own_d111) ⟨b, kb, rfl, gb, E, B⟩ (by decide) (by decide)
set_option maxRecDepth 65536 in
set_option maxHeartbeats 40000000 in
theorem ctC32 (l : Launch) (Z : State) (a0 : Array Value) (hw : ∀ d ∈ tables_1, d.before a0 Z = true) (a : Addr) (ka : ClassId) (c1 c2 : Int32) (h : Heap) (O : Old Z Z.heap.size h) (H : own_h16 Z) (k1 : 0 ≤ c1.toInt ∧ c1.toInt ≤ 32767) (k2 : 0 ≤ c2.toInt ∧ c2.toInt ≤ 32767) (A : Arv Z h a ka .char (2 : Int32) [(.int c1), (.int c2)] (.int 0)) :
    Ct 0 l Z [] [] (⟨"java/lang/StringUTF16", "compress", "([CII)[B"⟩ : MethodName) jdk_52_method_16_code 6 (some (.array .byte)) ({ frames := 3, cells := 2, slots := 9, locals := 50 } : Room) #[(.ref a), (.int (0 : Int32)), (.int (2 : Int32))] h (fun v h' => ∃ (t : Addr) (k : ClassId), v = some (.ref t) ∧ h.size ≤ t ∧ Ext h h' ∧ ((own_lat [c1, c2] ∧ Exa Z h' t "[B" ∧ Arv Z h' t k .byte (2 : Int32) (own_bs [c1, c2]) (.int 0)) ∨ Arv Z h' t k .byte (4 : Int32) (own_pr [c1, c2]) (.int 0))) := by
  refine Ct.intro (plainFor_of_name own_pn26) O (fun _ => rfl) ⟨a0, EW.nil⟩ ?_
  intro p e s m below meth c T0 hx hby hml hret hnm hlk hsf S0
  refine Goes.cast (own_ef112 m a (0 : Int32) (2 : Int32)) ?_
  have A0 := A
  refine g_iloadN S0.here hx (hb hby own_d113) rfl 1 rfl ?_
  refine S0.newAE (aty := .byte) hx (own_q31 hw) (n := (2 : Int32)) (by decide) (cap := 2) (by decide) (by decide) (hb hby own_d114) (by decide) (by decide) (ad := "[B") (by decide) 3 rfl (fun T51 h51 B_b k51 S51 g51 E51 V51 B_x F51 R51 => ?_)
  have B : Arv Z h51 B_b k51 .byte (2 : Int32) [.int 0, .int 0] (.int 0) := V51
  have B_z : Z.heap.size ≤ B_b := by rw [g51]; exact S0.size
  have B_g : h.size ≤ B_b := Nat.le_of_eq g51.symm
  have A := A.ext E51
  refine g_astoreN S51.here hx (hb hby own_d115) rfl #[.val (.ref a), .val (.int (0 : Int32)), .val (.int (2 : Int32)), .val (.ref B_b), .unset, .unset] rfl 4 rfl ?_
  refine g_aloadN S51.here hx (hb hby own_d116) rfl rfl 5 rfl ?_
  refine g_iloadN S51.here hx (hb hby own_d117) rfl 6 rfl ?_
  refine g_aloadN S51.here hx (hb hby own_d118) rfl rfl 7 rfl ?_
  refine g_iconst S51.here hx (hb hby own_d119) (0 : Int32) (by decide) 8 rfl ?_
  refine g_iloadN S51.here hx (hb hby own_d120) rfl 9 rfl ?_
  have nab : a ≠ B_b := fun q => by rw [← q] at B_g; exact absurd A0.lt (Nat.not_lt.mpr B_g)
  refine S51.callS hx (W := 0) (own_q32 hw) (own_q33 hw) (own_q29 hw) (own_q34 hw) (by decide) (ctC52 l Z a0 hw a B_b ka _ c1 c2 h51 S51.old k1 k2 A B B_z nab) nosf (by decide) (by decide) (by rw [hml]; rfl) [(.ref a), (.int (0 : Int32)), (.ref B_b), (.int (0 : Int32)), (.int (2 : Int32))] [] (lenOf own_pd122 rfl) rfl rfl (Nat.le_refl _) (hb hby own_d121) (by decide) (by decide) 12 rfl (fun v52 vm52 T52 h52 S52 Q52 R52 => ?_)
  obtain ⟨K52, Q52⟩ := Q52
  have B_x := B_x.keep K52
  have A := A.keep K52 (fun q => nab (List.mem_singleton.mp q))
  have E := own_ext_keep E51 K52 (fun x hx => by cases List.mem_singleton.mp hx; exact B_g)
  rcases Q52 with ⟨rfl, la, B⟩ | ⟨rfl, gt⟩ | ⟨rfl, gt⟩
  · show Goes _ _ _ _ T52 (mkF m 12 #[.val (.ref a), .val (.int (0 : Int32)), .val (.int (2 : Int32)), .val (.ref B_b), .unset, .unset] [(.int (2 : Int32))])
    refine g_istore S52.here hx (hb hby own_d123) #[.val (.ref a), .val (.int (0 : Int32)), .val (.int (2 : Int32)), .val (.ref B_b), .val (.int (2 : Int32)), .unset] rfl 14 rfl ?_
    refine g_iload S52.here hx (hb hby own_d124) rfl 16 rfl ?_
    refine g_iloadN S52.here hx (hb hby own_d125) rfl 17 rfl ?_
    refine g_icmpT S52.here hx (hb hby own_d126) 2 2 (by decide) (by decide) (by show 2 = 2; decide) 57 (by decide) (by decide) ?_
    refine g_aloadN S52.here hx (hb hby own_d127) rfl rfl 58 rfl ?_
    exact S52.aret hx hlk hret rfl rfl rfl (hb hby own_d128) ⟨_, _, rfl, B_g, E, Or.inl ⟨la, B_x, B⟩⟩ (by decide) (by decide)
  · show Goes _ _ _ _ T52 (mkF m 12 #[.val (.ref a), .val (.int (0 : Int32)), .val (.int (2 : Int32)), .val (.ref B_b), .unset, .unset] [(.int (0 : Int32))])
    refine g_istore S52.here hx (hb hby own_d123) #[.val (.ref a), .val (.int (0 : Int32)), .val (.int (2 : Int32)), .val (.ref B_b), .val (.int (0 : Int32)), .unset] rfl 14 rfl ?_
    refine g_iload S52.here hx (hb hby own_d124) rfl 16 rfl ?_
    refine g_iloadN S52.here hx (hb hby own_d125) rfl 17 rfl ?_
    refine g_icmpF S52.here hx (hb hby own_d126) 0 2 (by decide) (by decide) (by show ¬ (0 = 2); decide) 20 rfl ?_
    have E0 := E
    refine g_aloadN S52.here hx (hb hby own_d129) rfl rfl 21 rfl ?_
    refine g_iloadN S52.here hx (hb hby own_d130) rfl 22 rfl ?_
    refine g_iloadN S52.here hx (hb hby own_d131) rfl 23 rfl ?_
    refine S52.callS hx (W := 0) (own_q122 hw) (own_q123 hw) (own_q29 hw) (own_q124 hw) (by decide) (ctTB2 l Z a0 hw a ka c1 c2 h52 S52.old H k1 k2 A) nosf (by decide) (by decide) (by rw [hml]; rfl) [(.ref a), (.int (0 : Int32)), (.int (2 : Int32))] [] (lenOf own_pd133 rfl) rfl rfl (Nat.le_refl _) (hb hby own_d132) (by decide) (by decide) 26 rfl (fun v53 vm53 T53 h53 S53 Q53 R53 => ?_)
    obtain ⟨b2, kk2, rfl, g2, E2, B2⟩ := Q53
    show Goes _ _ _ _ T53 (mkF m 26 #[.val (.ref a), .val (.int (0 : Int32)), .val (.int (2 : Int32)), .val (.ref B_b), .val (.int (0 : Int32)), .unset] [(.ref b2)])
    have E := own_ext_trans E E2
    refine g_astore S53.here hx (hb hby own_d134) rfl #[.val (.ref a), .val (.int (0 : Int32)), .val (.int (2 : Int32)), .val (.ref B_b), .val (.int (0 : Int32)), .val (.ref b2)] rfl 28 rfl ?_
    refine g_aload S53.here hx (hb hby own_d135) rfl rfl 30 rfl ?_
    refine g_iload S53.here hx (hb hby own_d136) rfl 32 rfl ?_
    refine S53.callS hx (W := 0) (own_q138 hw) (own_q139 hw) (own_q29 hw) (own_q140 hw) (by decide) (ctGC20 l Z a0 hw b2 kk2 c1 _ h53 S53.old H k1 B2 rfl rfl) nosf (by decide) (by decide) (by rw [hml]; rfl) [(.ref b2), (.int (0 : Int32))] [] (lenOf own_pd138 rfl) rfl rfl (Nat.le_refl _) (hb hby own_d137) (by decide) (by decide) 35 rfl (fun v54 vm54 T54 h54 S54 Q54 R54 => ?_)
    obtain ⟨rfl, rfl⟩ := Q54
    show Goes _ _ _ _ T54 (mkF m 35 #[.val (.ref a), .val (.int (0 : Int32)), .val (.int (2 : Int32)), .val (.ref B_b), .val (.int (0 : Int32)), .val (.ref b2)] [(.int c1)])
    refine g_sipush S54.here hx (hb hby own_d139) (255 : Int32) (by decide) 38 rfl ?_
    refine g_icmpT S54.here hx (hb hby own_d140) c1.toInt 255 rfl (by decide) (show 255 < c1.toInt from gt) 54 (by decide) (by decide) ?_
    refine g_aload S54.here hx (hb hby own_d141) rfl rfl 56 rfl ?_
    exact S54.aret hx hlk hret rfl rfl rfl (hb hby own_d142) ⟨b2, kk2, rfl, Nat.le_trans E0.1 g2, E, Or.inr B2⟩ (by decide) (by decide)
  · show Goes _ _ _ _ T52 (mkF m 12 #[.val (.ref a), .val (.int (0 : Int32)), .val (.int (2 : Int32)), .val (.ref B_b), .unset, .unset] [(.int (1 : Int32))])
    refine g_istore S52.here hx (hb hby own_d123) #[.val (.ref a), .val (.int (0 : Int32)), .val (.int (2 : Int32)), .val (.ref B_b), .val (.int (1 : Int32)), .unset] rfl 14 rfl ?_
    refine g_iload S52.here hx (hb hby own_d124) rfl 16 rfl ?_
    refine g_iloadN S52.here hx (hb hby own_d125) rfl 17 rfl ?_
    refine g_icmpF S52.here hx (hb hby own_d126) 1 2 (by decide) (by decide) (by show ¬ (1 = 2); decide) 20 rfl ?_
    have E0 := E
    refine g_aloadN S52.here hx (hb hby own_d129) rfl rfl 21 rfl ?_
    refine g_iloadN S52.here hx (hb hby own_d130) rfl 22 rfl ?_
    refine g_iloadN S52.here hx (hb hby own_d131) rfl 23 rfl ?_
    refine S52.callS hx (W := 0) (own_q122 hw) (own_q123 hw) (own_q29 hw) (own_q124 hw) (by decide) (ctTB2 l Z a0 hw a ka c1 c2 h52 S52.old H k1 k2 A) nosf (by decide) (by decide) (by rw [hml]; rfl) [(.ref a), (.int (0 : Int32)), (.int (2 : Int32))] [] (lenOf own_pd133 rfl) rfl rfl (Nat.le_refl _) (hb hby own_d132) (by decide) (by decide) 26 rfl (fun v55 vm55 T55 h55 S55 Q55 R55 => ?_)
    obtain ⟨b2, kk2, rfl, g2, E2, B2⟩ := Q55
    show Goes _ _ _ _ T55 (mkF m 26 #[.val (.ref a), .val (.int (0 : Int32)), .val (.int (2 : Int32)), .val (.ref B_b), .val (.int (1 : Int32)), .unset] [(.ref b2)])
    have E := own_ext_trans E E2
    refine g_astore S55.here hx (hb hby own_d134) rfl #[.val (.ref a), .val (.int (0 : Int32)), .val (.int (2 : Int32)), .val (.ref B_b), .val (.int (1 : Int32)), .val (.ref b2)] rfl 28 rfl ?_
    refine g_aload S55.here hx (hb hby own_d135) rfl rfl 30 rfl ?_
    refine g_iload S55.here hx (hb hby own_d136) rfl 32 rfl ?_
    refine S55.callS hx (W := 0) (own_q138 hw) (own_q139 hw) (own_q29 hw) (own_q140 hw) (by decide) (ctGC21 l Z a0 hw b2 kk2 c2 _ h55 S55.old H k2 B2 rfl rfl) nosf (by decide) (by decide) (by rw [hml]; rfl) [(.ref b2), (.int (1 : Int32))] [] (lenOf own_pd138 rfl) rfl rfl (Nat.le_refl _) (hb hby own_d137) (by decide) (by decide) 35 rfl (fun v56 vm56 T56 h56 S56 Q56 R56 => ?_)
    obtain ⟨rfl, rfl⟩ := Q56
    show Goes _ _ _ _ T56 (mkF m 35 #[.val (.ref a), .val (.int (0 : Int32)), .val (.int (2 : Int32)), .val (.ref B_b), .val (.int (1 : Int32)), .val (.ref b2)] [(.int c2)])
    refine g_sipush S56.here hx (hb hby own_d139) (255 : Int32) (by decide) 38 rfl ?_
    refine g_icmpT S56.here hx (hb hby own_d140) c2.toInt 255 rfl (by decide) (show 255 < c2.toInt from gt) 54 (by decide) (by decide) ?_
    refine g_aload S56.here hx (hb hby own_d141) rfl rfl 56 rfl ?_
    exact S56.aret hx hlk hret rfl rfl rfl (hb hby own_d142) ⟨b2, kk2, rfl, Nat.le_trans E0.1 g2, E, Or.inr B2⟩ (by decide) (by decide)
set_option maxRecDepth 65536 in
set_option maxHeartbeats 40000000 in
theorem ctCF20 (l : Launch) (Z : State) (a0 : Array Value) (hw : ∀ d ∈ tables_1, d.before a0 Z = true) (t : Addr) (kt : ClassId) (vs : List Value) (h : Heap) (O : Old Z Z.heap.size h) (B : Arv Z h t kt .byte (2 : Int32) vs (.int 0)) :
    Ct 0 l Z [] [] (⟨"java/lang/StringUTF16", "coderFromArrayLen", "([BI)B"⟩ : MethodName) jdk_52_method_15_code 2 (some .byte) ({ frames := 0, cells := 0, slots := 0, locals := 0 } : Room) #[(.ref t), (.int (2 : Int32))] h (fun v h' => v = some (.int (0 : Int32)) ∧ h = h') := by
  refine Ct.intro (plainFor_of_name own_pn26) O (fun _ => rfl) ⟨a0, EW.nil⟩ ?_
  intro p e s m below meth c T0 hx hby hml hret hnm hlk hsf S0
  refine Goes.cast (own_ef65 m t (2 : Int32)) ?_
  refine g_iloadN S0.here hx (hb hby own_d143) rfl 1 rfl ?_
  refine g_aloadN S0.here hx (hb hby own_d144) rfl rfl 2 rfl ?_
  refine S0.len hx B (hb hby own_d145) 3 rfl ?_
  refine g_isub S0.here hx (hb hby own_d146) 4 rfl ?_
  rw [show ((2 : Int32) - (2 : Int32)) = (0 : Int32) from by decide]
  refine g_bipush S0.here hx (hb hby own_d147) (31 : Int32) (by decide) 6 rfl ?_
  refine g_iushr S0.here hx (hb hby own_d148) 7 rfl ?_
  rw [show (((0 : Int32).toUInt32 >>> ((31 : Int32) &&& 31).toUInt32).toInt32) = (0 : Int32) from by decide]
  refine g_i2b S0.here hx (hb hby own_d149) 8 rfl ?_
  rw [show ((0 : Int32).toInt8.toInt32) = (0 : Int32) from by decide]
  exact S0.iret hx hlk hret (Or.inr (Or.inr (Or.inl rfl))) rfl (hb hby own_d150) ⟨rfl, rfl⟩ (by decide) (by decide)
set_option maxRecDepth 65536 in
set_option maxHeartbeats 40000000 in
theorem ctCF21 (l : Launch) (Z : State) (a0 : Array Value) (hw : ∀ d ∈ tables_1, d.before a0 Z = true) (t : Addr) (kt : ClassId) (vs : List Value) (h : Heap) (O : Old Z Z.heap.size h) (B : Arv Z h t kt .byte (4 : Int32) vs (.int 0)) :
    Ct 0 l Z [] [] (⟨"java/lang/StringUTF16", "coderFromArrayLen", "([BI)B"⟩ : MethodName) jdk_52_method_15_code 2 (some .byte) ({ frames := 0, cells := 0, slots := 0, locals := 0 } : Room) #[(.ref t), (.int (2 : Int32))] h (fun v h' => v = some (.int (1 : Int32)) ∧ h = h') := by
  refine Ct.intro (plainFor_of_name own_pn26) O (fun _ => rfl) ⟨a0, EW.nil⟩ ?_
  intro p e s m below meth c T0 hx hby hml hret hnm hlk hsf S0
  refine Goes.cast (own_ef65 m t (2 : Int32)) ?_
  refine g_iloadN S0.here hx (hb hby own_d143) rfl 1 rfl ?_
  refine g_aloadN S0.here hx (hb hby own_d144) rfl rfl 2 rfl ?_
  refine S0.len hx B (hb hby own_d145) 3 rfl ?_
  refine g_isub S0.here hx (hb hby own_d146) 4 rfl ?_
  rw [show ((2 : Int32) - (4 : Int32)) = (-2 : Int32) from by decide]
  refine g_bipush S0.here hx (hb hby own_d147) (31 : Int32) (by decide) 6 rfl ?_
  refine g_iushr S0.here hx (hb hby own_d148) 7 rfl ?_
  rw [show (((-2 : Int32).toUInt32 >>> ((31 : Int32) &&& 31).toUInt32).toInt32) = (1 : Int32) from by decide]
  refine g_i2b S0.here hx (hb hby own_d149) 8 rfl ?_
  rw [show ((1 : Int32).toInt8.toInt32) = (1 : Int32) from by decide]
  exact S0.iret hx hlk hret (Or.inr (Or.inr (Or.inl rfl))) rfl (hb hby own_d150) ⟨rfl, rfl⟩ (by decide) (by decide)
set_option maxRecDepth 65536 in
set_option maxHeartbeats 40000000 in
theorem ctN42 (l : Launch) (Z : State) (a0 : Array Value) (hw : ∀ d ∈ tables_1, d.before a0 Z = true) (x a : Addr) (ka : ClassId) (c1 c2 : Int32) (h : Heap) (O : Old Z Z.heap.size h) (G : own_cs Z) (H : own_h16 Z) (k1 : 0 ≤ c1.toInt ∧ c1.toInt ≤ 32767) (k2 : 0 ≤ c2.toInt ∧ c2.toInt ≤ 32767) (A : Arv Z h a ka .char (2 : Int32) [(.int c1), (.int c2)] (.int 0)) (F : own_raw Z h x) (gx : Z.heap.size ≤ x) :
    Ct 0 l Z [] [] (⟨"java/lang/String", "<init>", "([CIILjava/lang/Void;)V"⟩ : MethodName) jdk_42_method_149_code 6 none ({ frames := 4, cells := 2, slots := 9, locals := 70 } : Room) #[(.ref x), (.ref a), (.int (0 : Int32)), (.int (2 : Int32)), .null] h (fun v h' => v = none ∧ own_txt Z h' x [c1, c2] ∧ Keep h h' [x]) := by
  refine Ct.intro (plainFor_of_name own_pn173) O (fun _ => rfl) ⟨a0, EW.nil⟩ ?_
  intro p e s m below meth c T0 hx hby hml hret hnm hlk hsf S0
  refine Goes.cast (own_ef151 m x a (0 : Int32) (2 : Int32)) ?_
  obtain ⟨f1, ⟨v0, f2⟩, w0, f3⟩ := F
  refine g_aloadN S0.here hx (hb hby own_d152) rfl rfl 1 rfl ?_
  refine S0.initO hx (own_q23 hw) (own_q24 hw) (own_q25 hw) (by rw [hml]; rfl) (W := 0) (by decide) (Nat.le_refl _) (by decide) (hb hby own_d153) 4 rfl (fun T57 S57 => ?_)
  refine g_iloadN S57.here hx (hb hby own_d154) rfl 5 rfl ?_
  refine g_ifT S57.here hx (hb hby own_d155) 2 (by decide) (by show ¬ 2 = 0; decide) 27 (by decide) (by decide) ?_
  obtain ⟨z, g1, g2⟩ := G
  refine S57.getS hx (host := "") (Or.inl (own_q26 hw)) Via.refl (g1.ext O.2) (hb hby own_d156) 30 rfl (fun T58 S58 => ?_)
  refine g_ifF S58.here hx (hb hby own_d157) z.toInt rfl (show ¬ (z.toInt = 0) from own_nz g2) 33 rfl ?_
  refine g_aloadN S58.here hx (hb hby own_d158) rfl rfl 34 rfl ?_
  refine g_iloadN S58.here hx (hb hby own_d159) rfl 35 rfl ?_
  refine g_iloadN S58.here hx (hb hby own_d160) rfl 36 rfl ?_
  refine S58.callS hx (W := 0) (own_q27 hw) (own_q28 hw) (own_q29 hw) (own_q30 hw) (by decide) (ctC32 l Z a0 hw a ka c1 c2 h S58.old H k1 k2 A) nosf (by decide) (by decide) (by rw [hml]; rfl) [(.ref a), (.int (0 : Int32)), (.int (2 : Int32))] [] (lenOf own_pd133 rfl) rfl rfl (Nat.le_refl _) (hb hby own_d161) (by decide) (by decide) 39 rfl (fun v59 vm59 T59 h59 S59 Q59 R59 => ?_)
  obtain ⟨t, kt, rfl, gt, E, B⟩ := Q59
  show Goes _ _ _ _ T59 (mkF m 39 #[.val (.ref x), .val (.ref a), .val (.int (0 : Int32)), .val (.int (2 : Int32)), .val .null, .unset] [(.ref t)])
  have nt : t ≠ x := fun q => by rw [q] at gt; exact absurd f1.lt (Nat.not_lt.mpr gt)
  have f1 := f1.ext E
  have f2 := f2.ext E
  have f3 := f3.ext E
  have K := (Keep.refl h [x]).ext E
  rcases B with ⟨la, XB, B⟩ | B
  · refine g_astore S59.here hx (hb hby own_d162) rfl #[.val (.ref x), .val (.ref a), .val (.int (0 : Int32)), .val (.int (2 : Int32)), .val .null, .val (.ref t)] rfl 41 rfl ?_
    refine g_aloadN S59.here hx (hb hby own_d163) rfl rfl 42 rfl ?_
    refine g_aload S59.here hx (hb hby own_d164) rfl rfl 44 rfl ?_
    refine g_iloadN S59.here hx (hb hby own_d165) rfl 45 rfl ?_
    refine S59.callS hx (W := 1) (own_q35 hw) (own_q36 hw) (own_q29 hw) (own_q37 hw) (by decide) (ctCF20 l Z a0 hw t kt _ h59 S59.old B) nosf (by decide) (by decide) (by rw [hml]; rfl) [(.ref t), (.int (2 : Int32))] [(.ref x)] (lenOf own_pd167 rfl) rfl rfl (Nat.le_refl _) (hb hby own_d166) (by decide) (by decide) 48 rfl (fun v60 vm60 T60 h60 S60 Q60 R60 => ?_)
    obtain ⟨rfl, rfl⟩ := Q60
    show Goes _ _ _ _ T60 (mkF m 48 #[.val (.ref x), .val (.ref a), .val (.int (0 : Int32)), .val (.int (2 : Int32)), .val .null, .val (.ref t)] [(.int (0 : Int32)), (.ref x)])
    refine S60.putF hx (host := "") (Or.inl (own_q38 hw)) Via.refl f3 f1 (Or.inr ⟨(own_q39 hw), rfl, hnm⟩) (own_q14 hw) (ty := .byte) (by decide) rfl rfl safe_nil gx (hb hby own_d168) 51 rfl (fun T61 h61 S61 W61 R61 => ?_)
    have f1 := f1.wr W61
    have f3 := f3.same W61
    have f2 := f2.other W61 (Or.inr (slot_ne (Or.inr (own_q41 hw)) (Or.inr (own_q39 hw)) (by decide) (t := .array .byte) (t' := .byte) (by decide) (by decide)))
    have B := B.other W61 nt
    have K := K.wr W61 (Or.inl (List.mem_singleton.mpr rfl))
    have XB := XB.wr W61
    refine g_aloadN S61.here hx (hb hby own_d169) rfl rfl 52 rfl ?_
    refine g_aload S61.here hx (hb hby own_d170) rfl rfl 54 rfl ?_
    refine S61.putF hx (host := "") (Or.inl (own_q40 hw)) Via.refl f2 f1 (Or.inr ⟨(own_q41 hw), rfl, hnm⟩) (own_q14 hw) (ty := (.array .byte)) (by decide) rfl rfl safe_nil gx (hb hby own_d171) 57 rfl (fun T62 h62 S62 W62 R62 => ?_)
    have f1 := f1.wr W62
    have f2 := f2.same W62
    have f3 := f3.other W62 (Or.inr (slot_ne (Or.inr (own_q39 hw)) (Or.inr (own_q41 hw)) (by decide) (t := .byte) (t' := .array .byte) (by decide) (by decide)))
    have B := B.other W62 nt
    have K := K.wr W62 (Or.inl (List.mem_singleton.mpr rfl))
    have XB := XB.wr W62
    exact S62.vret hx hlk hret (hb hby own_d172) ⟨rfl, ⟨f1, t, kt, f2, Or.inl ⟨f3, la, XB, B⟩⟩, K⟩ (by decide) (by decide)
  · refine g_astore S59.here hx (hb hby own_d162) rfl #[.val (.ref x), .val (.ref a), .val (.int (0 : Int32)), .val (.int (2 : Int32)), .val .null, .val (.ref t)] rfl 41 rfl ?_
    refine g_aloadN S59.here hx (hb hby own_d163) rfl rfl 42 rfl ?_
    refine g_aload S59.here hx (hb hby own_d164) rfl rfl 44 rfl ?_
    refine g_iloadN S59.here hx (hb hby own_d165) rfl 45 rfl ?_
    refine S59.callS hx (W := 1) (own_q35 hw) (own_q36 hw) (own_q29 hw) (own_q37 hw) (by decide) (ctCF21 l Z a0 hw t kt _ h59 S59.old B) nosf (by decide) (by decide) (by rw [hml]; rfl) [(.ref t), (.int (2 : Int32))] [(.ref x)] (lenOf own_pd167 rfl) rfl rfl (Nat.le_refl _) (hb hby own_d166) (by decide) (by decide) 48 rfl (fun v63 vm63 T63 h63 S63 Q63 R63 => ?_)
    obtain ⟨rfl, rfl⟩ := Q63
    show Goes _ _ _ _ T63 (mkF m 48 #[.val (.ref x), .val (.ref a), .val (.int (0 : Int32)), .val (.int (2 : Int32)), .val .null, .val (.ref t)] [(.int (1 : Int32)), (.ref x)])
    refine S63.putF hx (host := "") (Or.inl (own_q38 hw)) Via.refl f3 f1 (Or.inr ⟨(own_q39 hw), rfl, hnm⟩) (own_q14 hw) (ty := .byte) (by decide) rfl rfl safe_nil gx (hb hby own_d168) 51 rfl (fun T64 h64 S64 W64 R64 => ?_)
    have f1 := f1.wr W64
    have f3 := f3.same W64
    have f2 := f2.other W64 (Or.inr (slot_ne (Or.inr (own_q41 hw)) (Or.inr (own_q39 hw)) (by decide) (t := .array .byte) (t' := .byte) (by decide) (by decide)))
    have B := B.other W64 nt
    have K := K.wr W64 (Or.inl (List.mem_singleton.mpr rfl))
    refine g_aloadN S64.here hx (hb hby own_d169) rfl rfl 52 rfl ?_
    refine g_aload S64.here hx (hb hby own_d170) rfl rfl 54 rfl ?_
    refine S64.putF hx (host := "") (Or.inl (own_q40 hw)) Via.refl f2 f1 (Or.inr ⟨(own_q41 hw), rfl, hnm⟩) (own_q14 hw) (ty := (.array .byte)) (by decide) rfl rfl safe_nil gx (hb hby own_d171) 57 rfl (fun T65 h65 S65 W65 R65 => ?_)
    have f1 := f1.wr W65
    have f2 := f2.same W65
    have f3 := f3.other W65 (Or.inr (slot_ne (Or.inr (own_q39 hw)) (Or.inr (own_q41 hw)) (by decide) (t := .byte) (t' := .array .byte) (by decide) (by decide)))
    have B := B.other W65 nt
    have K := K.wr W65 (Or.inl (List.mem_singleton.mpr rfl))
    exact S65.vret hx hlk hret (hb hby own_d172) ⟨rfl, ⟨f1, t, kt, f2, Or.inr ⟨f3, nofun, B⟩⟩, K⟩ (by decide) (by decide)
set_option maxRecDepth 65536 in
set_option maxHeartbeats 40000000 in
theorem ctN12 (l : Launch) (Z : State) (a0 : Array Value) (hw : ∀ d ∈ tables_1, d.before a0 Z = true) (x a : Addr) (ka : ClassId) (c1 c2 : Int32) (h : Heap) (O : Old Z Z.heap.size h) (G : own_cs Z) (H : own_h16 Z) (k1 : 0 ≤ c1.toInt ∧ c1.toInt ≤ 32767) (k2 : 0 ≤ c2.toInt ∧ c2.toInt ≤ 32767) (A : Arv Z h a ka .char (2 : Int32) [(.int c1), (.int c2)] (.int 0)) (F : own_raw Z h x) (gx : Z.heap.size ≤ x) :
    Ct 0 l Z [] [] (⟨"java/lang/String", "<init>", "([C)V"⟩ : MethodName) jdk_42_method_3_code 2 none ({ frames := 5, cells := 2, slots := 9, locals := 90 } : Room) #[(.ref x), (.ref a)] h (fun v h' => v = none ∧ own_txt Z h' x [c1, c2] ∧ Keep h h' [x]) := by
  refine Ct.intro (plainFor_of_name own_pn173) O (fun _ => rfl) ⟨a0, EW.nil⟩ ?_
  intro p e s m below meth c T0 hx hby hml hret hnm hlk hsf S0
  refine Goes.cast (own_ef174 m x a) ?_
  refine g_aloadN S0.here hx (hb hby own_d175) rfl rfl 1 rfl ?_
  refine g_aloadN S0.here hx (hb hby own_d176) rfl rfl 2 rfl ?_
  refine g_iconst S0.here hx (hb hby own_d177) (0 : Int32) (by decide) 3 rfl ?_
  refine g_aloadN S0.here hx (hb hby own_d178) rfl rfl 4 rfl ?_
  refine S0.len hx A (hb hby own_d179) 5 rfl ?_
  refine g_aconst_null S0.here hx (hb hby own_d180) 6 rfl ?_
  refine S0.callI hx (W := 0) (a := x) rfl (own_q19 hw) (own_q20 hw) (own_q22 hw) (by decide) (own_q15 hw) (ctN42 l Z a0 hw x a ka c1 c2 h O G H k1 k2 A F gx) nosf (by decide) (by decide) (by rw [hml]; rfl) [(.ref a), (.int (0 : Int32)), (.int (2 : Int32)), .null] [] (lenOf own_pd182 rfl) rfl rfl (Nat.le_refl _) (hb hby own_d181) (by decide) (by decide) 9 rfl (fun v66 vm66 T66 h66 S66 Q66 R66 => ?_)
  obtain ⟨rfl, B, KK⟩ := Q66
  show Goes _ _ _ _ T66 (mkF m 9 #[.val (.ref x), .val (.ref a)] [])
  exact S66.vret hx hlk hret (hb hby own_d183) ⟨rfl, B, KK⟩ (by decide) (by decide)
set_option maxRecDepth 65536 in
set_option maxHeartbeats 40000000 in
theorem ctC53 (l : Launch) (Z : State) (a0 : Array Value) (hw : ∀ d ∈ tables_1, d.before a0 Z = true) (a b : Addr) (ka kb : ClassId) (c1 c2 c3 : Int32) (h : Heap) (O : Old Z Z.heap.size h) (k1 : 0 ≤ c1.toInt ∧ c1.toInt ≤ 32767) (k2 : 0 ≤ c2.toInt ∧ c2.toInt ≤ 32767) (k3 : 0 ≤ c3.toInt ∧ c3.toInt ≤ 32767) (A : Arv Z h a ka .char (3 : Int32) [(.int c1), (.int c2), (.int c3)] (.int 0)) (B : Arv Z h b kb .byte (3 : Int32) [.int 0, .int 0, .int 0] (.int 0)) (gb : Z.heap.size ≤ b) (nab : a ≠ b) :
    Ct 0 l Z [] [] (⟨"java/lang/StringUTF16", "compress", "([CI[BII)I"⟩ : MethodName) jdk_52_method_21_code 7 (some .int) ({ frames := 0, cells := 0, slots := 0, locals := 0 } : Room) #[(.ref a), (.int (0 : Int32)), (.ref b), (.int (0 : Int32)), (.int (3 : Int32))] h (fun v h' => Keep h h' [b] ∧ ((v = some (.int (3 : Int32)) ∧ own_lat [c1, c2, c3] ∧ Arv Z h' b kb .byte (3 : Int32) (own_bs [c1, c2, c3]) (.int 0)) ∨ (v = some (.int (0 : Int32)) ∧ 255 < c1.toInt) ∨ (v = some (.int (1 : Int32)) ∧ 255 < c2.toInt) ∨ (v = some (.int (2 : Int32)) ∧ 255 < c3.toInt))) := by
  refine Ct.intro (plainFor_of_name own_pn26) O (fun _ => rfl) ⟨a0, EW.nil⟩ ?_
  intro p e s m below meth c T0 hx hby hml hret hnm hlk hsf S0
  refine Goes.cast (own_ef0 m a (0 : Int32) b (0 : Int32) (3 : Int32)) ?_
  have K := Keep.refl h [b]
  refine g_iconst S0.here hx (hb hby own_d1) (0 : Int32) (by decide) 1 rfl ?_
  refine g_istore S0.here hx (hb hby own_d2) #[.val (.ref a), .val (.int (0 : Int32)), .val (.ref b), .val (.int (0 : Int32)), .val (.int (3 : Int32)), .val (.int (0 : Int32)), .unset] rfl 3 rfl ?_
  refine g_iload S0.here hx (hb hby own_d3) rfl 5 rfl ?_
  refine g_iload S0.here hx (hb hby own_d4) rfl 7 rfl ?_
  refine g_icmpF S0.here hx (hb hby own_d5) 0 3 (by decide) (by decide) (by show ¬ (3 ≤ 0); decide) 10 rfl ?_
  refine g_aloadN S0.here hx (hb hby own_d6) rfl rfl 11 rfl ?_
  refine g_iloadN S0.here hx (hb hby own_d7) rfl 12 rfl ?_
  refine S0.cald hx A ⟨by decide, by decide⟩ (own_at (i := 0) (by decide) rfl) (hb hby own_d8) 13 rfl ?_
  refine g_istore S0.here hx (hb hby own_d9) #[.val (.ref a), .val (.int (0 : Int32)), .val (.ref b), .val (.int (0 : Int32)), .val (.int (3 : Int32)), .val (.int (0 : Int32)), .val (.int c1)] rfl 15 rfl ?_
  refine g_iload S0.here hx (hb hby own_d10) rfl 17 rfl ?_
  refine g_sipush S0.here hx (hb hby own_d11) (255 : Int32) (by decide) 20 rfl ?_
  refine g_icmp S0.here hx (hb hby own_d12) c1.toInt 255 rfl (by decide) 26 23 (by decide) (by decide) rfl (fun (hc20 : c1.toInt ≤ 255) => ?_) (fun (hc20 : ¬ (c1.toInt ≤ 255)) => ?_)
  · refine g_aloadN S0.here hx (hb hby own_d13) rfl rfl 27 rfl ?_
    refine g_iloadN S0.here hx (hb hby own_d14) rfl 28 rfl ?_
    refine g_iload S0.here hx (hb hby own_d15) rfl 30 rfl ?_
    refine g_i2b S0.here hx (hb hby own_d16) 31 rfl ?_
    refine S0.stB hx B 0 ⟨by decide, by decide⟩ (by decide) (by simp) gb safe_nil (hb hby own_d17) 32 rfl (fun T67 h67 S67 W67 V67 R67 => ?_)
    rw [own_lo8] at V67
    have B : Arv Z h67 b kb .byte (3 : Int32) [.int c1.toInt8.toInt32, .int 0, .int 0] (.int 0) := V67
    have A := A.other W67 nab
    have K := K.wr W67 (Or.inl (List.mem_singleton.mpr rfl))
    refine g_iinc S67.here hx (hb hby own_d18) rfl #[.val (.ref a), .val (.int (1 : Int32)), .val (.ref b), .val (.int (0 : Int32)), .val (.int (3 : Int32)), .val (.int (0 : Int32)), .val (.int c1)] (by rw [show (0 : Int32) + Int32.ofInt 1 = (1 : Int32) from by decide]; rfl) 35 rfl ?_
    refine g_iinc S67.here hx (hb hby own_d19) rfl #[.val (.ref a), .val (.int (1 : Int32)), .val (.ref b), .val (.int (1 : Int32)), .val (.int (3 : Int32)), .val (.int (0 : Int32)), .val (.int c1)] (by rw [show (0 : Int32) + Int32.ofInt 1 = (1 : Int32) from by decide]; rfl) 38 rfl ?_
    refine g_iinc S67.here hx (hb hby own_d20) rfl #[.val (.ref a), .val (.int (1 : Int32)), .val (.ref b), .val (.int (1 : Int32)), .val (.int (3 : Int32)), .val (.int (1 : Int32)), .val (.int c1)] (by rw [show (0 : Int32) + Int32.ofInt 1 = (1 : Int32) from by decide]; rfl) 41 rfl ?_
    refine g_goto S67.here hx (hb hby own_d21) 3 (by decide) (by decide) ?_
    refine g_iload S67.here hx (hb hby own_d3) rfl 5 rfl ?_
    refine g_iload S67.here hx (hb hby own_d4) rfl 7 rfl ?_
    refine g_icmpF S67.here hx (hb hby own_d5) 1 3 (by decide) (by decide) (by show ¬ (3 ≤ 1); decide) 10 rfl ?_
    refine g_aloadN S67.here hx (hb hby own_d6) rfl rfl 11 rfl ?_
    refine g_iloadN S67.here hx (hb hby own_d7) rfl 12 rfl ?_
    refine S67.cald hx A ⟨by decide, by decide⟩ (own_at (i := 1) (by decide) rfl) (hb hby own_d8) 13 rfl ?_
    refine g_istore S67.here hx (hb hby own_d9) #[.val (.ref a), .val (.int (1 : Int32)), .val (.ref b), .val (.int (1 : Int32)), .val (.int (3 : Int32)), .val (.int (1 : Int32)), .val (.int c2)] rfl 15 rfl ?_
    refine g_iload S67.here hx (hb hby own_d10) rfl 17 rfl ?_
    refine g_sipush S67.here hx (hb hby own_d11) (255 : Int32) (by decide) 20 rfl ?_
    refine g_icmp S67.here hx (hb hby own_d12) c2.toInt 255 rfl (by decide) 26 23 (by decide) (by decide) rfl (fun (hc20 : c2.toInt ≤ 255) => ?_) (fun (hc20 : ¬ (c2.toInt ≤ 255)) => ?_)
    · refine g_aloadN S67.here hx (hb hby own_d13) rfl rfl 27 rfl ?_
      refine g_iloadN S67.here hx (hb hby own_d14) rfl 28 rfl ?_
      refine g_iload S67.here hx (hb hby own_d15) rfl 30 rfl ?_
      refine g_i2b S67.here hx (hb hby own_d16) 31 rfl ?_
      refine S67.stB hx B 1 ⟨by decide, by decide⟩ (by decide) (by simp) gb safe_nil (hb hby own_d17) 32 rfl (fun T68 h68 S68 W68 V68 R68 => ?_)
      rw [own_lo8] at V68
      have B : Arv Z h68 b kb .byte (3 : Int32) [.int c1.toInt8.toInt32, .int c2.toInt8.toInt32, .int 0] (.int 0) := V68
      have A := A.other W68 nab
      have K := K.wr W68 (Or.inl (List.mem_singleton.mpr rfl))
      refine g_iinc S68.here hx (hb hby own_d18) rfl #[.val (.ref a), .val (.int (2 : Int32)), .val (.ref b), .val (.int (1 : Int32)), .val (.int (3 : Int32)), .val (.int (1 : Int32)), .val (.int c2)] (by rw [show (1 : Int32) + Int32.ofInt 1 = (2 : Int32) from by decide]; rfl) 35 rfl ?_
      refine g_iinc S68.here hx (hb hby own_d19) rfl #[.val (.ref a), .val (.int (2 : Int32)), .val (.ref b), .val (.int (2 : Int32)), .val (.int (3 : Int32)), .val (.int (1 : Int32)), .val (.int c2)] (by rw [show (1 : Int32) + Int32.ofInt 1 = (2 : Int32) from by decide]; rfl) 38 rfl ?_
      refine g_iinc S68.here hx (hb hby own_d20) rfl #[.val (.ref a), .val (.int (2 : Int32)), .val (.ref b), .val (.int (2 : Int32)), .val (.int (3 : Int32)), .val (.int (2 : Int32)), .val (.int c2)] (by rw [show (1 : Int32) + Int32.ofInt 1 = (2 : Int32) from by decide]; rfl) 41 rfl ?_
      refine g_goto S68.here hx (hb hby own_d21) 3 (by decide) (by decide) ?_
      refine g_iload S68.here hx (hb hby own_d3) rfl 5 rfl ?_
      refine g_iload S68.here hx (hb hby own_d4) rfl 7 rfl ?_
      refine g_icmpF S68.here hx (hb hby own_d5) 2 3 (by decide) (by decide) (by show ¬ (3 ≤ 2); decide) 10 rfl ?_
      refine g_aloadN S68.here hx (hb hby own_d6) rfl rfl 11 rfl ?_
      refine g_iloadN S68.here hx (hb hby own_d7) rfl 12 rfl ?_
      refine S68.cald hx A ⟨by decide, by decide⟩ (own_at (i := 2) (by decide) rfl) (hb hby own_d8) 13 rfl ?_
      refine g_istore S68.here hx (hb hby own_d9) #[.val (.ref a), .val (.int (2 : Int32)), .val (.ref b), .val (.int (2 : Int32)), .val (.int (3 : Int32)), .val (.int (2 : Int32)), .val (.int c3)] rfl 15 rfl ?_
      refine g_iload S68.here hx (hb hby own_d10) rfl 17 rfl ?_
      refine g_sipush S68.here hx (hb hby own_d11) (255 : Int32) (by decide) 20 rfl ?_
      refine g_icmp S68.here hx (hb hby own_d12) c3.toInt 255 rfl (by decide) 26 23 (by decide) (by decide) rfl (fun (hc20 : c3.toInt ≤ 255) => ?_) (fun (hc20 : ¬ (c3.toInt ≤ 255)) => ?_)
      · refine g_aloadN S68.here hx (hb hby own_d13) rfl rfl 27 rfl ?_
        refine g_iloadN S68.here hx (hb hby own_d14) rfl 28 rfl ?_
        refine g_iload S68.here hx (hb hby own_d15) rfl 30 rfl ?_
        refine g_i2b S68.here hx (hb hby own_d16) 31 rfl ?_
        refine S68.stB hx B 2 ⟨by decide, by decide⟩ (by decide) (by simp) gb safe_nil (hb hby own_d17) 32 rfl (fun T69 h69 S69 W69 V69 R69 => ?_)
        rw [own_lo8] at V69
        have B : Arv Z h69 b kb .byte (3 : Int32) [.int c1.toInt8.toInt32, .int c2.toInt8.toInt32, .int c3.toInt8.toInt32] (.int 0) := V69
        have A := A.other W69 nab
        have K := K.wr W69 (Or.inl (List.mem_singleton.mpr rfl))
        refine g_iinc S69.here hx (hb hby own_d18) rfl #[.val (.ref a), .val (.int (3 : Int32)), .val (.ref b), .val (.int (2 : Int32)), .val (.int (3 : Int32)), .val (.int (2 : Int32)), .val (.int c3)] (by rw [show (2 : Int32) + Int32.ofInt 1 = (3 : Int32) from by decide]; rfl) 35 rfl ?_
        refine g_iinc S69.here hx (hb hby own_d19) rfl #[.val (.ref a), .val (.int (3 : Int32)), .val (.ref b), .val (.int (3 : Int32)), .val (.int (3 : Int32)), .val (.int (2 : Int32)), .val (.int c3)] (by rw [show (2 : Int32) + Int32.ofInt 1 = (3 : Int32) from by decide]; rfl) 38 rfl ?_
        refine g_iinc S69.here hx (hb hby own_d20) rfl #[.val (.ref a), .val (.int (3 : Int32)), .val (.ref b), .val (.int (3 : Int32)), .val (.int (3 : Int32)), .val (.int (3 : Int32)), .val (.int c3)] (by rw [show (2 : Int32) + Int32.ofInt 1 = (3 : Int32) from by decide]; rfl) 41 rfl ?_
        refine g_goto S69.here hx (hb hby own_d21) 3 (by decide) (by decide) ?_
        refine g_iload S69.here hx (hb hby own_d3) rfl 5 rfl ?_
        refine g_iload S69.here hx (hb hby own_d4) rfl 7 rfl ?_
        refine g_icmpT S69.here hx (hb hby own_d5) 3 3 (by decide) (by decide) (by show 3 ≤ 3; decide) 44 (by decide) (by decide) ?_
        refine g_iload S69.here hx (hb hby own_d22) rfl 46 rfl ?_
        exact S69.iret hx hlk hret (Or.inl rfl) rfl (hb hby own_d23) ⟨K, Or.inl ⟨rfl, (own_lat_cons ⟨k1.1, by omega⟩ (own_lat_cons ⟨k2.1, by omega⟩ (own_lat_cons ⟨k3.1, by omega⟩ own_lat_nil))), B⟩⟩ (by decide) (by decide)
      · refine g_iload S68.here hx (hb hby own_d24) rfl 25 rfl ?_
        exact S68.iret hx hlk hret (Or.inl rfl) rfl (hb hby own_d25) ⟨K, Or.inr (Or.inr (Or.inr (⟨rfl, by omega⟩)))⟩ (by decide) (by decide)
    · refine g_iload S67.here hx (hb hby own_d24) rfl 25 rfl ?_
      exact S67.iret hx hlk hret (Or.inl rfl) rfl (hb hby own_d25) ⟨K, Or.inr (Or.inr (Or.inl ⟨rfl, by omega⟩))⟩ (by decide) (by decide)
  · refine g_iload S0.here hx (hb hby own_d24) rfl 25 rfl ?_
    exact S0.iret hx hlk hret (Or.inl rfl) rfl (hb hby own_d25) ⟨K, Or.inr (Or.inl ⟨rfl, by omega⟩)⟩ (by decide) (by decide)
set_option maxRecDepth 65536 in
set_option maxHeartbeats 40000000 in
theorem ctNL3 (l : Launch) (Z : State) (a0 : Array Value) (hw : ∀ d ∈ tables_1, d.before a0 Z = true)  (h : Heap) (O : Old Z Z.heap.size h) :
    Ct 0 l Z [] [] (⟨"java/lang/StringUTF16", "newBytesLength", "(I)I"⟩ : MethodName) jdk_52_method_3_code 1 (some .int) ({ frames := 0, cells := 0, slots := 0, locals := 0 } : Room) #[(.int (3 : Int32))] h (fun v h' => v = some (.int (6 : Int32)) ∧ h = h') := by
  refine Ct.intro (plainFor_of_name own_pn26) O (fun _ => rfl) ⟨a0, EW.nil⟩ ?_
  intro p e s m below meth c T0 hx hby hml hret hnm hlk hsf S0
  refine Goes.cast (own_ef27 m (3 : Int32)) ?_
  refine g_iloadN S0.here hx (hb hby own_d28) rfl 1 rfl ?_
  refine g_ifT S0.here hx (hb hby own_d29) 3 (by decide) (by show 0 ≤ 3; decide) 12 (by decide) (by decide) ?_
  refine g_iloadN S0.here hx (hb hby own_d30) rfl 13 rfl ?_
  refine S0.ldcI hx (own_q131 hw) (hb hby own_d31) 15 rfl ?_
  refine g_icmpT S0.here hx (hb hby own_d32) 3 1073741823 (by decide) (by decide) (by show 3 < 1073741823; decide) 55 (by decide) (by decide) ?_
  refine g_iloadN S0.here hx (hb hby own_d33) rfl 56 rfl ?_
  refine g_iconst S0.here hx (hb hby own_d34) (1 : Int32) (by decide) 57 rfl ?_
  refine g_ishl S0.here hx (hb hby own_d35) 58 rfl ?_
  rw [show ((3 : Int32) <<< ((1 : Int32) &&& 31)) = (6 : Int32) from by decide]
  exact S0.iret hx hlk hret (Or.inl rfl) rfl (hb hby own_d36) ⟨rfl, rfl⟩ (by decide) (by decide)
set_option maxRecDepth 65536 in
set_option maxHeartbeats 40000000 in
theorem ctNF3 (l : Launch) (Z : State) (a0 : Array Value) (hw : ∀ d ∈ tables_1, d.before a0 Z = true)  (h : Heap) (O : Old Z Z.heap.size h) :
    Ct 0 l Z [] [] (⟨"java/lang/StringUTF16", "newBytesFor", "(I)[B"⟩ : MethodName) jdk_52_method_2_code 1 (some (.array .byte)) ({ frames := 1, cells := 1, slots := 6, locals := 12 } : Room) #[(.int (3 : Int32))] h (fun v h' => ∃ (b : Addr) (k : ClassId), v = some (.ref b) ∧ h.size ≤ b ∧ Ext h h' ∧ Arv Z h' b k .byte (6 : Int32) [.int 0, .int 0, .int 0, .int 0, .int 0, .int 0] (.int 0)) := by
  refine Ct.intro (plainFor_of_name own_pn26) O (fun _ => rfl) ⟨a0, EW.nil⟩ ?_
  intro p e s m below meth c T0 hx hby hml hret hnm hlk hsf S0
  refine Goes.cast (own_ef27 m (3 : Int32)) ?_
  refine g_iloadN S0.here hx (hb hby own_d37) rfl 1 rfl ?_
  refine S0.callS hx (W := 0) (own_q128 hw) (own_q129 hw) (own_q29 hw) (own_q130 hw) (by decide) (ctNL3 l Z a0 hw h O) nosf (by decide) (by decide) (by rw [hml]; rfl) [(.int (3 : Int32))] [] (lenOf own_pd39 rfl) rfl rfl (Nat.le_refl _) (hb hby own_d38) (by decide) (by decide) 4 rfl (fun v70 vm70 T70 h70 S70 Q70 R70 => ?_)
  obtain ⟨rfl, rfl⟩ := Q70
  show Goes _ _ _ _ T70 (mkF m 4 #[.val (.int (3 : Int32))] [(.int (6 : Int32))])
  refine S70.newAE (aty := .byte) hx (own_q31 hw) (n := (6 : Int32)) (by decide) (cap := 6) (by decide) (by decide) (hb hby own_d40) (by decide) (by decide) (ad := "[B") (by decide) 6 rfl (fun T71 h71 B_b k71 S71 g71 E71 V71 B_x F71 R71 => ?_)
  have B : Arv Z h71 B_b k71 .byte (6 : Int32) [.int 0, .int 0, .int 0, .int 0, .int 0, .int 0] (.int 0) := V71
  have B_z : Z.heap.size ≤ B_b := by rw [g71]; exact S70.size
  have B_g : h.size ≤ B_b := Nat.le_of_eq g71.symm
  exact S71.aret hx hlk hret rfl rfl rfl (hb hby own_d41) ⟨_, _, rfl, B_g, E71, B⟩ (by decide) (by decide)
set_option maxRecDepth 65536 in
set_option maxHeartbeats 40000000 in
theorem ctPC30 (l : Launch) (Z : State) (a0 : Array Value) (hw : ∀ d ∈ tables_1, d.before a0 Z = true) (b : Addr) (kb : ClassId) (ch : Int32) (vs : List Value) (h : Heap) (O : Old Z Z.heap.size h) (H : own_h16 Z) (B : Arv Z h b kb .byte (6 : Int32) vs (.int 0)) (hl : vs.length = 6) (gb : Z.heap.size ≤ b) :
    Ct 0 l Z [] [] (⟨"java/lang/StringUTF16", "putChar", "([BII)V"⟩ : MethodName) jdk_52_method_4_code 3 none ({ frames := 0, cells := 0, slots := 0, locals := 0 } : Room) #[(.ref b), (.int (0 : Int32)), (.int ch)] h (fun v h' => v = none ∧ Keep h h' [b] ∧ Arv Z h' b kb .byte (6 : Int32) ((vs.set 0 (.int (StrChars.lo8 ch))).set 1 (.int (StrChars.hi8 ch))) (.int 0)) := by
  refine Ct.intro (plainFor_of_name own_pn26) O (fun _ => rfl) ⟨a0, EW.nil⟩ ?_
  intro p e s m below meth c T0 hx hby hml hret hnm hlk hsf S0
  refine Goes.cast (own_ef42 m b (0 : Int32) ch) ?_
  obtain ⟨g1, g2, g3⟩ := H
  have K := Keep.refl h [b]
  refine S0.getS hx (host := "") (Or.inl (own_q135 hw)) Via.refl (g1.ext O.2) (hb hby own_d43) 3 rfl (fun T72 S72 => ?_)
  refine g_ifT S72.here hx (hb hby own_d44) 1 (by decide) (by show ¬ 1 = 0; decide) 28 (by decide) (by decide) ?_
  refine g_iloadN S72.here hx (hb hby own_d45) rfl 29 rfl ?_
  refine g_iconst S72.here hx (hb hby own_d46) (1 : Int32) (by decide) 30 rfl ?_
  refine g_ishl S72.here hx (hb hby own_d47) 31 rfl ?_
  rw [show ((0 : Int32) <<< ((1 : Int32) &&& 31)) = (0 : Int32) from by decide]
  refine g_istoreN S72.here hx (hb hby own_d48) #[.val (.ref b), .val (.int (0 : Int32)), .val (.int ch)] rfl 32 rfl ?_
  refine g_aloadN S72.here hx (hb hby own_d49) rfl rfl 33 rfl ?_
  refine g_iloadN S72.here hx (hb hby own_d50) rfl 34 rfl ?_
  refine g_iinc S72.here hx (hb hby own_d51) rfl #[.val (.ref b), .val (.int (1 : Int32)), .val (.int ch)] (by rw [show (0 : Int32) + Int32.ofInt 1 = (1 : Int32) from by decide]; rfl) 37 rfl ?_
  refine g_iloadN S72.here hx (hb hby own_d52) rfl 38 rfl ?_
  refine S72.getS hx (host := "") (Or.inl (own_q136 hw)) Via.refl (g2.ext S72.old.2) (hb hby own_d53) 41 rfl (fun T73 S73 => ?_)
  refine g_ishr S73.here hx (hb hby own_d54) 42 rfl ?_
  refine g_i2b S73.here hx (hb hby own_d55) 43 rfl ?_
  refine S73.stB hx B 0 ⟨by decide, by decide⟩ (by decide) (by rw [hl]; decide) gb safe_nil (hb hby own_d56) 44 rfl (fun T74 h74 S74 W74 V74 R74 => ?_)
  rw [own_st0] at V74
  have B := V74
  have K := K.wr W74 (Or.inl (List.mem_singleton.mpr rfl))
  refine g_aloadN S74.here hx (hb hby own_d57) rfl rfl 45 rfl ?_
  refine g_iloadN S74.here hx (hb hby own_d58) rfl 46 rfl ?_
  refine g_iloadN S74.here hx (hb hby own_d59) rfl 47 rfl ?_
  refine S74.getS hx (host := "") (Or.inl (own_q137 hw)) Via.refl (g3.ext S74.old.2) (hb hby own_d60) 50 rfl (fun T75 S75 => ?_)
  refine g_ishr S75.here hx (hb hby own_d61) 51 rfl ?_
  refine g_i2b S75.here hx (hb hby own_d62) 52 rfl ?_
  refine S75.stB hx B 1 ⟨by decide, by decide⟩ (by decide) (by rw [List.length_set]; rw [hl]; decide) gb safe_nil (hb hby own_d63) 53 rfl (fun T76 h76 S76 W76 V76 R76 => ?_)
  rw [own_st8] at V76
  have B := V76
  have K := K.wr W76 (Or.inl (List.mem_singleton.mpr rfl))
  exact S76.vret hx hlk hret (hb hby own_d64) ⟨rfl, K, B⟩ (by decide) (by decide)
set_option maxRecDepth 65536 in
set_option maxHeartbeats 40000000 in
theorem ctGC30 (l : Launch) (Z : State) (a0 : Array Value) (hw : ∀ d ∈ tables_1, d.before a0 Z = true) (b : Addr) (kb : ClassId) (ch : Int32) (vs : List Value) (h : Heap) (O : Old Z Z.heap.size h) (H : own_h16 Z) (kc : 0 ≤ ch.toInt ∧ ch.toInt ≤ 32767) (B : Arv Z h b kb .byte (6 : Int32) vs (.int 0)) (e0 : vs.getD 0 (.int 0) = .int (StrChars.lo8 ch)) (e1 : vs.getD 1 (.int 0) = .int (StrChars.hi8 ch)) :
    Ct 0 l Z [] [] (⟨"java/lang/StringUTF16", "getChar", "([BI)C"⟩ : MethodName) jdk_52_method_5_code 2 (some .char) ({ frames := 0, cells := 0, slots := 0, locals := 0 } : Room) #[(.ref b), (.int (0 : Int32))] h (fun v h' => v = some (.int ch) ∧ h = h') := by
  refine Ct.intro (plainFor_of_name own_pn26) O (fun _ => rfl) ⟨a0, EW.nil⟩ ?_
  intro p e s m below meth c T0 hx hby hml hret hnm hlk hsf S0
  refine Goes.cast (own_ef65 m b (0 : Int32)) ?_
  obtain ⟨g1, g2, g3⟩ := H
  refine S0.getS hx (host := "") (Or.inl (own_q135 hw)) Via.refl (g1.ext O.2) (hb hby own_d66) 3 rfl (fun T77 S77 => ?_)
  refine g_ifT S77.here hx (hb hby own_d67) 1 (by decide) (by show ¬ 1 = 0; decide) 28 (by decide) (by decide) ?_
  refine g_iloadN S77.here hx (hb hby own_d68) rfl 29 rfl ?_
  refine g_iconst S77.here hx (hb hby own_d69) (1 : Int32) (by decide) 30 rfl ?_
  refine g_ishl S77.here hx (hb hby own_d70) 31 rfl ?_
  rw [show ((0 : Int32) <<< ((1 : Int32) &&& 31)) = (0 : Int32) from by decide]
  refine g_istoreN S77.here hx (hb hby own_d71) #[.val (.ref b), .val (.int (0 : Int32))] rfl 32 rfl ?_
  refine g_aloadN S77.here hx (hb hby own_d72) rfl rfl 33 rfl ?_
  refine g_iloadN S77.here hx (hb hby own_d73) rfl 34 rfl ?_
  refine g_iinc S77.here hx (hb hby own_d74) rfl #[.val (.ref b), .val (.int (1 : Int32))] (by rw [show (0 : Int32) + Int32.ofInt 1 = (1 : Int32) from by decide]; rfl) 37 rfl ?_
  refine S77.bald hx B ⟨by decide, by decide⟩ (own_at (i := 0) (by decide) e0) (hb hby own_d75) 38 rfl ?_
  refine g_sipush S77.here hx (hb hby own_d76) (255 : Int32) (by decide) 41 rfl ?_
  refine g_iand S77.here hx (hb hby own_d77) 42 rfl ?_
  refine S77.getS hx (host := "") (Or.inl (own_q136 hw)) Via.refl (g2.ext O.2) (hb hby own_d78) 45 rfl (fun T78 S78 => ?_)
  refine g_ishl S78.here hx (hb hby own_d79) 46 rfl ?_
  refine g_aloadN S78.here hx (hb hby own_d80) rfl rfl 47 rfl ?_
  refine g_iloadN S78.here hx (hb hby own_d81) rfl 48 rfl ?_
  refine S78.bald hx B ⟨by decide, by decide⟩ (own_at (i := 1) (by decide) e1) (hb hby own_d82) 49 rfl ?_
  refine g_sipush S78.here hx (hb hby own_d83) (255 : Int32) (by decide) 52 rfl ?_
  refine g_iand S78.here hx (hb hby own_d84) 53 rfl ?_
  refine S78.getS hx (host := "") (Or.inl (own_q137 hw)) Via.refl (g3.ext O.2) (hb hby own_d85) 56 rfl (fun T79 S79 => ?_)
  refine g_ishl S79.here hx (hb hby own_d86) 57 rfl ?_
  refine g_ior S79.here hx (hb hby own_d87) 58 rfl ?_
  refine g_i2c S79.here hx (hb hby own_d88) 59 rfl ?_
  rw [own_pair kc]
  exact S79.iret hx hlk hret (Or.inr (Or.inr (Or.inr (Or.inl rfl)))) (own_narrow kc) (hb hby own_d89) ⟨rfl, rfl⟩ (by decide) (by decide)
set_option maxRecDepth 65536 in
set_option maxHeartbeats 40000000 in
theorem ctPC31 (l : Launch) (Z : State) (a0 : Array Value) (hw : ∀ d ∈ tables_1, d.before a0 Z = true) (b : Addr) (kb : ClassId) (ch : Int32) (vs : List Value) (h : Heap) (O : Old Z Z.heap.size h) (H : own_h16 Z) (B : Arv Z h b kb .byte (6 : Int32) vs (.int 0)) (hl : vs.length = 6) (gb : Z.heap.size ≤ b) :
    Ct 0 l Z [] [] (⟨"java/lang/StringUTF16", "putChar", "([BII)V"⟩ : MethodName) jdk_52_method_4_code 3 none ({ frames := 0, cells := 0, slots := 0, locals := 0 } : Room) #[(.ref b), (.int (1 : Int32)), (.int ch)] h (fun v h' => v = none ∧ Keep h h' [b] ∧ Arv Z h' b kb .byte (6 : Int32) ((vs.set 2 (.int (StrChars.lo8 ch))).set 3 (.int (StrChars.hi8 ch))) (.int 0)) := by
  refine Ct.intro (plainFor_of_name own_pn26) O (fun _ => rfl) ⟨a0, EW.nil⟩ ?_
  intro p e s m below meth c T0 hx hby hml hret hnm hlk hsf S0
  refine Goes.cast (own_ef42 m b (1 : Int32) ch) ?_
  obtain ⟨g1, g2, g3⟩ := H
  have K := Keep.refl h [b]
  refine S0.getS hx (host := "") (Or.inl (own_q135 hw)) Via.refl (g1.ext O.2) (hb hby own_d43) 3 rfl (fun T80 S80 => ?_)
  refine g_ifT S80.here hx (hb hby own_d44) 1 (by decide) (by show ¬ 1 = 0; decide) 28 (by decide) (by decide) ?_
  refine g_iloadN S80.here hx (hb hby own_d45) rfl 29 rfl ?_
  refine g_iconst S80.here hx (hb hby own_d46) (1 : Int32) (by decide) 30 rfl ?_
  refine g_ishl S80.here hx (hb hby own_d47) 31 rfl ?_
  rw [show ((1 : Int32) <<< ((1 : Int32) &&& 31)) = (2 : Int32) from by decide]
  refine g_istoreN S80.here hx (hb hby own_d48) #[.val (.ref b), .val (.int (2 : Int32)), .val (.int ch)] rfl 32 rfl ?_
  refine g_aloadN S80.here hx (hb hby own_d49) rfl rfl 33 rfl ?_
  refine g_iloadN S80.here hx (hb hby own_d50) rfl 34 rfl ?_
  refine g_iinc S80.here hx (hb hby own_d51) rfl #[.val (.ref b), .val (.int (3 : Int32)), .val (.int ch)] (by rw [show (2 : Int32) + Int32.ofInt 1 = (3 : Int32) from by decide]; rfl) 37 rfl ?_
  refine g_iloadN S80.here hx (hb hby own_d52) rfl 38 rfl ?_
  refine S80.getS hx (host := "") (Or.inl (own_q136 hw)) Via.refl (g2.ext S80.old.2) (hb hby own_d53) 41 rfl (fun T81 S81 => ?_)
  refine g_ishr S81.here hx (hb hby own_d54) 42 rfl ?_
  refine g_i2b S81.here hx (hb hby own_d55) 43 rfl ?_
  refine S81.stB hx B 2 ⟨by decide, by decide⟩ (by decide) (by rw [hl]; decide) gb safe_nil (hb hby own_d56) 44 rfl (fun T82 h82 S82 W82 V82 R82 => ?_)
  rw [own_st0] at V82
  have B := V82
  have K := K.wr W82 (Or.inl (List.mem_singleton.mpr rfl))
  refine g_aloadN S82.here hx (hb hby own_d57) rfl rfl 45 rfl ?_
  refine g_iloadN S82.here hx (hb hby own_d58) rfl 46 rfl ?_
  refine g_iloadN S82.here hx (hb hby own_d59) rfl 47 rfl ?_
  refine S82.getS hx (host := "") (Or.inl (own_q137 hw)) Via.refl (g3.ext S82.old.2) (hb hby own_d60) 50 rfl (fun T83 S83 => ?_)
  refine g_ishr S83.here hx (hb hby own_d61) 51 rfl ?_
  refine g_i2b S83.here hx (hb hby own_d62) 52 rfl ?_
  refine S83.stB hx B 3 ⟨by decide, by decide⟩ (by decide) (by rw [List.length_set]; rw [hl]; decide) gb safe_nil (hb hby own_d63) 53 rfl (fun T84 h84 S84 W84 V84 R84 => ?_)
  rw [own_st8] at V84
  have B := V84
  have K := K.wr W84 (Or.inl (List.mem_singleton.mpr rfl))
  exact S84.vret hx hlk hret (hb hby own_d64) ⟨rfl, K, B⟩ (by decide) (by decide)
set_option maxRecDepth 65536 in
set_option maxHeartbeats 40000000 in
theorem ctGC31 (l : Launch) (Z : State) (a0 : Array Value) (hw : ∀ d ∈ tables_1, d.before a0 Z = true) (b : Addr) (kb : ClassId) (ch : Int32) (vs : List Value) (h : Heap) (O : Old Z Z.heap.size h) (H : own_h16 Z) (kc : 0 ≤ ch.toInt ∧ ch.toInt ≤ 32767) (B : Arv Z h b kb .byte (6 : Int32) vs (.int 0)) (e0 : vs.getD 2 (.int 0) = .int (StrChars.lo8 ch)) (e1 : vs.getD 3 (.int 0) = .int (StrChars.hi8 ch)) :
    Ct 0 l Z [] [] (⟨"java/lang/StringUTF16", "getChar", "([BI)C"⟩ : MethodName) jdk_52_method_5_code 2 (some .char) ({ frames := 0, cells := 0, slots := 0, locals := 0 } : Room) #[(.ref b), (.int (1 : Int32))] h (fun v h' => v = some (.int ch) ∧ h = h') := by
  refine Ct.intro (plainFor_of_name own_pn26) O (fun _ => rfl) ⟨a0, EW.nil⟩ ?_
  intro p e s m below meth c T0 hx hby hml hret hnm hlk hsf S0
  refine Goes.cast (own_ef65 m b (1 : Int32)) ?_
  obtain ⟨g1, g2, g3⟩ := H
  refine S0.getS hx (host := "") (Or.inl (own_q135 hw)) Via.refl (g1.ext O.2) (hb hby own_d66) 3 rfl (fun T85 S85 => ?_)
  refine g_ifT S85.here hx (hb hby own_d67) 1 (by decide) (by show ¬ 1 = 0; decide) 28 (by decide) (by decide) ?_
  refine g_iloadN S85.here hx (hb hby own_d68) rfl 29 rfl ?_
  refine g_iconst S85.here hx (hb hby own_d69) (1 : Int32) (by decide) 30 rfl ?_
  refine g_ishl S85.here hx (hb hby own_d70) 31 rfl ?_
  rw [show ((1 : Int32) <<< ((1 : Int32) &&& 31)) = (2 : Int32) from by decide]
  refine g_istoreN S85.here hx (hb hby own_d71) #[.val (.ref b), .val (.int (2 : Int32))] rfl 32 rfl ?_
  refine g_aloadN S85.here hx (hb hby own_d72) rfl rfl 33 rfl ?_
  refine g_iloadN S85.here hx (hb hby own_d73) rfl 34 rfl ?_
  refine g_iinc S85.here hx (hb hby own_d74) rfl #[.val (.ref b), .val (.int (3 : Int32))] (by rw [show (2 : Int32) + Int32.ofInt 1 = (3 : Int32) from by decide]; rfl) 37 rfl ?_
  refine S85.bald hx B ⟨by decide, by decide⟩ (own_at (i := 2) (by decide) e0) (hb hby own_d75) 38 rfl ?_
  refine g_sipush S85.here hx (hb hby own_d76) (255 : Int32) (by decide) 41 rfl ?_
  refine g_iand S85.here hx (hb hby own_d77) 42 rfl ?_
  refine S85.getS hx (host := "") (Or.inl (own_q136 hw)) Via.refl (g2.ext O.2) (hb hby own_d78) 45 rfl (fun T86 S86 => ?_)
  refine g_ishl S86.here hx (hb hby own_d79) 46 rfl ?_
  refine g_aloadN S86.here hx (hb hby own_d80) rfl rfl 47 rfl ?_
  refine g_iloadN S86.here hx (hb hby own_d81) rfl 48 rfl ?_
  refine S86.bald hx B ⟨by decide, by decide⟩ (own_at (i := 3) (by decide) e1) (hb hby own_d82) 49 rfl ?_
  refine g_sipush S86.here hx (hb hby own_d83) (255 : Int32) (by decide) 52 rfl ?_
  refine g_iand S86.here hx (hb hby own_d84) 53 rfl ?_
  refine S86.getS hx (host := "") (Or.inl (own_q137 hw)) Via.refl (g3.ext O.2) (hb hby own_d85) 56 rfl (fun T87 S87 => ?_)
  refine g_ishl S87.here hx (hb hby own_d86) 57 rfl ?_
  refine g_ior S87.here hx (hb hby own_d87) 58 rfl ?_
  refine g_i2c S87.here hx (hb hby own_d88) 59 rfl ?_
  rw [own_pair kc]
  exact S87.iret hx hlk hret (Or.inr (Or.inr (Or.inr (Or.inl rfl)))) (own_narrow kc) (hb hby own_d89) ⟨rfl, rfl⟩ (by decide) (by decide)
set_option maxRecDepth 65536 in
set_option maxHeartbeats 40000000 in
theorem ctPC32 (l : Launch) (Z : State) (a0 : Array Value) (hw : ∀ d ∈ tables_1, d.before a0 Z = true) (b : Addr) (kb : ClassId) (ch : Int32) (vs : List Value) (h : Heap) (O : Old Z Z.heap.size h) (H : own_h16 Z) (B : Arv Z h b kb .byte (6 : Int32) vs (.int 0)) (hl : vs.length = 6) (gb : Z.heap.size ≤ b) :
    Ct 0 l Z [] [] (⟨"java/lang/StringUTF16", "putChar", "([BII)V"⟩ : MethodName) jdk_52_method_4_code 3 none ({ frames := 0, cells := 0, slots := 0, locals := 0 } : Room) #[(.ref b), (.int (2 : Int32)), (.int ch)] h (fun v h' => v = none ∧ Keep h h' [b] ∧ Arv Z h' b kb .byte (6 : Int32) ((vs.set 4 (.int (StrChars.lo8 ch))).set 5 (.int (StrChars.hi8 ch))) (.int 0)) := by
  refine Ct.intro (plainFor_of_name own_pn26) O (fun _ => rfl) ⟨a0, EW.nil⟩ ?_
  intro p e s m below meth c T0 hx hby hml hret hnm hlk hsf S0
  refine Goes.cast (own_ef42 m b (2 : Int32) ch) ?_
  obtain ⟨g1, g2, g3⟩ := H
  have K := Keep.refl h [b]
  refine S0.getS hx (host := "") (Or.inl (own_q135 hw)) Via.refl (g1.ext O.2) (hb hby own_d43) 3 rfl (fun T88 S88 => ?_)
  refine g_ifT S88.here hx (hb hby own_d44) 1 (by decide) (by show ¬ 1 = 0; decide) 28 (by decide) (by decide) ?_
  refine g_iloadN S88.here hx (hb hby own_d45) rfl 29 rfl ?_
  refine g_iconst S88.here hx (hb hby own_d46) (1 : Int32) (by decide) 30 rfl ?_
  refine g_ishl S88.here hx (hb hby own_d47) 31 rfl ?_
  rw [show ((2 : Int32) <<< ((1 : Int32) &&& 31)) = (4 : Int32) from by decide]
  refine g_istoreN S88.here hx (hb hby own_d48) #[.val (.ref b), .val (.int (4 : Int32)), .val (.int ch)] rfl 32 rfl ?_
  refine g_aloadN S88.here hx (hb hby own_d49) rfl rfl 33 rfl ?_
  refine g_iloadN S88.here hx (hb hby own_d50) rfl 34 rfl ?_
  refine g_iinc S88.here hx (hb hby own_d51) rfl #[.val (.ref b), .val (.int (5 : Int32)), .val (.int ch)] (by rw [show (4 : Int32) + Int32.ofInt 1 = (5 : Int32) from by decide]; rfl) 37 rfl ?_
  refine g_iloadN S88.here hx (hb hby own_d52) rfl 38 rfl ?_
  refine S88.getS hx (host := "") (Or.inl (own_q136 hw)) Via.refl (g2.ext S88.old.2) (hb hby own_d53) 41 rfl (fun T89 S89 => ?_)
  refine g_ishr S89.here hx (hb hby own_d54) 42 rfl ?_
  refine g_i2b S89.here hx (hb hby own_d55) 43 rfl ?_
  refine S89.stB hx B 4 ⟨by decide, by decide⟩ (by decide) (by rw [hl]; decide) gb safe_nil (hb hby own_d56) 44 rfl (fun T90 h90 S90 W90 V90 R90 => ?_)
  rw [own_st0] at V90
  have B := V90
  have K := K.wr W90 (Or.inl (List.mem_singleton.mpr rfl))
  refine g_aloadN S90.here hx (hb hby own_d57) rfl rfl 45 rfl ?_
  refine g_iloadN S90.here hx (hb hby own_d58) rfl 46 rfl ?_
  refine g_iloadN S90.here hx (hb hby own_d59) rfl 47 rfl ?_
  refine S90.getS hx (host := "") (Or.inl (own_q137 hw)) Via.refl (g3.ext S90.old.2) (hb hby own_d60) 50 rfl (fun T91 S91 => ?_)
  refine g_ishr S91.here hx (hb hby own_d61) 51 rfl ?_
  refine g_i2b S91.here hx (hb hby own_d62) 52 rfl ?_
  refine S91.stB hx B 5 ⟨by decide, by decide⟩ (by decide) (by rw [List.length_set]; rw [hl]; decide) gb safe_nil (hb hby own_d63) 53 rfl (fun T92 h92 S92 W92 V92 R92 => ?_)
  rw [own_st8] at V92
  have B := V92
  have K := K.wr W92 (Or.inl (List.mem_singleton.mpr rfl))
  exact S92.vret hx hlk hret (hb hby own_d64) ⟨rfl, K, B⟩ (by decide) (by decide)
set_option maxRecDepth 65536 in
set_option maxHeartbeats 40000000 in
theorem ctGC32 (l : Launch) (Z : State) (a0 : Array Value) (hw : ∀ d ∈ tables_1, d.before a0 Z = true) (b : Addr) (kb : ClassId) (ch : Int32) (vs : List Value) (h : Heap) (O : Old Z Z.heap.size h) (H : own_h16 Z) (kc : 0 ≤ ch.toInt ∧ ch.toInt ≤ 32767) (B : Arv Z h b kb .byte (6 : Int32) vs (.int 0)) (e0 : vs.getD 4 (.int 0) = .int (StrChars.lo8 ch)) (e1 : vs.getD 5 (.int 0) = .int (StrChars.hi8 ch)) :
    Ct 0 l Z [] [] (⟨"java/lang/StringUTF16", "getChar", "([BI)C"⟩ : MethodName) jdk_52_method_5_code 2 (some .char) ({ frames := 0, cells := 0, slots := 0, locals := 0 } : Room) #[(.ref b), (.int (2 : Int32))] h (fun v h' => v = some (.int ch) ∧ h = h') := by
  refine Ct.intro (plainFor_of_name own_pn26) O (fun _ => rfl) ⟨a0, EW.nil⟩ ?_
  intro p e s m below meth c T0 hx hby hml hret hnm hlk hsf S0
  refine Goes.cast (own_ef65 m b (2 : Int32)) ?_
  obtain ⟨g1, g2, g3⟩ := H
  refine S0.getS hx (host := "") (Or.inl (own_q135 hw)) Via.refl (g1.ext O.2) (hb hby own_d66) 3 rfl (fun T93 S93 => ?_)
  refine g_ifT S93.here hx (hb hby own_d67) 1 (by decide) (by show ¬ 1 = 0; decide) 28 (by decide) (by decide) ?_
  refine g_iloadN S93.here hx (hb hby own_d68) rfl 29 rfl ?_
  refine g_iconst S93.here hx (hb hby own_d69) (1 : Int32) (by decide) 30 rfl ?_
  refine g_ishl S93.here hx (hb hby own_d70) 31 rfl ?_
  rw [show ((2 : Int32) <<< ((1 : Int32) &&& 31)) = (4 : Int32) from by decide]
  refine g_istoreN S93.here hx (hb hby own_d71) #[.val (.ref b), .val (.int (4 : Int32))] rfl 32 rfl ?_
  refine g_aloadN S93.here hx (hb hby own_d72) rfl rfl 33 rfl ?_
  refine g_iloadN S93.here hx (hb hby own_d73) rfl 34 rfl ?_
  refine g_iinc S93.here hx (hb hby own_d74) rfl #[.val (.ref b), .val (.int (5 : Int32))] (by rw [show (4 : Int32) + Int32.ofInt 1 = (5 : Int32) from by decide]; rfl) 37 rfl ?_
  refine S93.bald hx B ⟨by decide, by decide⟩ (own_at (i := 4) (by decide) e0) (hb hby own_d75) 38 rfl ?_
  refine g_sipush S93.here hx (hb hby own_d76) (255 : Int32) (by decide) 41 rfl ?_
  refine g_iand S93.here hx (hb hby own_d77) 42 rfl ?_
  refine S93.getS hx (host := "") (Or.inl (own_q136 hw)) Via.refl (g2.ext O.2) (hb hby own_d78) 45 rfl (fun T94 S94 => ?_)
  refine g_ishl S94.here hx (hb hby own_d79) 46 rfl ?_
  refine g_aloadN S94.here hx (hb hby own_d80) rfl rfl 47 rfl ?_
  refine g_iloadN S94.here hx (hb hby own_d81) rfl 48 rfl ?_
  refine S94.bald hx B ⟨by decide, by decide⟩ (own_at (i := 5) (by decide) e1) (hb hby own_d82) 49 rfl ?_
  refine g_sipush S94.here hx (hb hby own_d83) (255 : Int32) (by decide) 52 rfl ?_
  refine g_iand S94.here hx (hb hby own_d84) 53 rfl ?_
  refine S94.getS hx (host := "") (Or.inl (own_q137 hw)) Via.refl (g3.ext O.2) (hb hby own_d85) 56 rfl (fun T95 S95 => ?_)
  refine g_ishl S95.here hx (hb hby own_d86) 57 rfl ?_
  refine g_ior S95.here hx (hb hby own_d87) 58 rfl ?_
  refine g_i2c S95.here hx (hb hby own_d88) 59 rfl ?_
  rw [own_pair kc]
  exact S95.iret hx hlk hret (Or.inr (Or.inr (Or.inr (Or.inl rfl)))) (own_narrow kc) (hb hby own_d89) ⟨rfl, rfl⟩ (by decide) (by decide)
set_option maxRecDepth 65536 in
set_option maxHeartbeats 40000000 in
theorem ctTB3 (l : Launch) (Z : State) (a0 : Array Value) (hw : ∀ d ∈ tables_1, d.before a0 Z = true) (a : Addr) (ka : ClassId) (c1 c2 c3 : Int32) (h : Heap) (O : Old Z Z.heap.size h) (H : own_h16 Z) (k1 : 0 ≤ c1.toInt ∧ c1.toInt ≤ 32767) (k2 : 0 ≤ c2.toInt ∧ c2.toInt ≤ 32767) (k3 : 0 ≤ c3.toInt ∧ c3.toInt ≤ 32767) (A : Arv Z h a ka .char (3 : Int32) [(.int c1), (.int c2), (.int c3)] (.int 0)) :
    Ct 0 l Z [] [] (⟨"java/lang/StringUTF16", "toBytes", "([CII)[B"⟩ : MethodName) jdk_52_method_14_code 5 (some (.array .byte)) ({ frames := 2, cells := 1, slots := 6, locals := 30 } : Room) #[(.ref a), (.int (0 : Int32)), (.int (3 : Int32))] h (fun v h' => ∃ (b : Addr) (k : ClassId), v = some (.ref b) ∧ h.size ≤ b ∧ Ext h h' ∧ Arv Z h' b k .byte (6 : Int32) (own_pr [c1, c2, c3]) (.int 0)) := by
  refine Ct.intro (plainFor_of_name own_pn26) O (fun _ => rfl) ⟨a0, EW.nil⟩ ?_
  intro p e s m below meth c T0 hx hby hml hret hnm hlk hsf S0
  refine Goes.cast (own_ef90 m a (0 : Int32) (3 : Int32)) ?_
  refine g_iloadN S0.here hx (hb hby own_d91) rfl 1 rfl ?_
  refine S0.callS hx (W := 0) (own_q125 hw) (own_q126 hw) (own_q29 hw) (own_q127 hw) (by decide) (ctNF3 l Z a0 hw h O) nosf (by decide) (by decide) (by rw [hml]; rfl) [(.int (3 : Int32))] [] (lenOf own_pd93 rfl) rfl rfl (Nat.le_refl _) (hb hby own_d92) (by decide) (by decide) 4 rfl (fun v96 vm96 T96 h96 S96 Q96 R96 => ?_)
  obtain ⟨b, kb, rfl, gb, E, B⟩ := Q96
  show Goes _ _ _ _ T96 (mkF m 4 #[.val (.ref a), .val (.int (0 : Int32)), .val (.int (3 : Int32)), .unset, .unset] [(.ref b)])
  have nab : a ∉ [b] := fun q => by cases List.mem_singleton.mp q; exact absurd A.lt (Nat.not_lt.mpr gb)
  have A := A.ext E
  have gz : Z.heap.size ≤ b := Nat.le_trans O.2.1 gb
  refine g_astoreN S96.here hx (hb hby own_d94) rfl #[.val (.ref a), .val (.int (0 : Int32)), .val (.int (3 : Int32)), .val (.ref b), .unset] rfl 5 rfl ?_
  refine g_iconst S96.here hx (hb hby own_d95) (0 : Int32) (by decide) 6 rfl ?_
  refine g_istore S96.here hx (hb hby own_d96) #[.val (.ref a), .val (.int (0 : Int32)), .val (.int (3 : Int32)), .val (.ref b), .val (.int (0 : Int32))] rfl 8 rfl ?_
  refine g_iload S96.here hx (hb hby own_d97) rfl 10 rfl ?_
  refine g_iloadN S96.here hx (hb hby own_d98) rfl 11 rfl ?_
  refine g_icmpF S96.here hx (hb hby own_d99) 0 3 (by decide) (by decide) (by show ¬ (3 ≤ 0); decide) 14 rfl ?_
  refine g_aloadN S96.here hx (hb hby own_d100) rfl rfl 15 rfl ?_
  refine g_iload S96.here hx (hb hby own_d101) rfl 17 rfl ?_
  refine g_aloadN S96.here hx (hb hby own_d102) rfl rfl 18 rfl ?_
  refine g_iloadN S96.here hx (hb hby own_d103) rfl 19 rfl ?_
  refine S96.cald hx A ⟨by decide, by decide⟩ (own_at (i := 0) (by decide) rfl) (hb hby own_d104) 20 rfl ?_
  refine S96.callS hx (W := 0) (own_q132 hw) (own_q133 hw) (own_q29 hw) (own_q134 hw) (by decide) (ctPC30 l Z a0 hw b kb c1 [.int 0, .int 0, .int 0, .int 0, .int 0, .int 0] h96 S96.old H B rfl gz) nosf (by decide) (by decide) (by rw [hml]; rfl) [(.ref b), (.int (0 : Int32)), (.int c1)] [] (lenOf own_pd106 rfl) rfl rfl (Nat.le_refl _) (hb hby own_d105) (by decide) (by decide) 23 rfl (fun v97 vm97 T97 h97 S97 Q97 R97 => ?_)
  obtain ⟨rfl, K97, B97⟩ := Q97
  show Goes _ _ _ _ T97 (mkF m 23 #[.val (.ref a), .val (.int (0 : Int32)), .val (.int (3 : Int32)), .val (.ref b), .val (.int (0 : Int32))] [])
  have B : Arv Z h97 b kb .byte (6 : Int32) [.int (StrChars.lo8 c1), .int (StrChars.hi8 c1), .int 0, .int 0, .int 0, .int 0] (.int 0) := B97
  have A := A.keep K97 nab
  have E := own_ext_keep E K97 (fun x hx => by cases List.mem_singleton.mp hx; exact gb)
  refine g_iinc S97.here hx (hb hby own_d107) rfl #[.val (.ref a), .val (.int (1 : Int32)), .val (.int (3 : Int32)), .val (.ref b), .val (.int (0 : Int32))] (by rw [show (0 : Int32) + Int32.ofInt 1 = (1 : Int32) from by decide]; rfl) 26 rfl ?_
  refine g_iinc S97.here hx (hb hby own_d108) rfl #[.val (.ref a), .val (.int (1 : Int32)), .val (.int (3 : Int32)), .val (.ref b), .val (.int (1 : Int32))] (by rw [show (0 : Int32) + Int32.ofInt 1 = (1 : Int32) from by decide]; rfl) 29 rfl ?_
  refine g_goto S97.here hx (hb hby own_d109) 8 (by decide) (by decide) ?_
  refine g_iload S97.here hx (hb hby own_d97) rfl 10 rfl ?_
  refine g_iloadN S97.here hx (hb hby own_d98) rfl 11 rfl ?_
  refine g_icmpF S97.here hx (hb hby own_d99) 1 3 (by decide) (by decide) (by show ¬ (3 ≤ 1); decide) 14 rfl ?_
  refine g_aloadN S97.here hx (hb hby own_d100) rfl rfl 15 rfl ?_
  refine g_iload S97.here hx (hb hby own_d101) rfl 17 rfl ?_
  refine g_aloadN S97.here hx (hb hby own_d102) rfl rfl 18 rfl ?_
  refine g_iloadN S97.here hx (hb hby own_d103) rfl 19 rfl ?_
  refine S97.cald hx A ⟨by decide, by decide⟩ (own_at (i := 1) (by decide) rfl) (hb hby own_d104) 20 rfl ?_
  refine S97.callS hx (W := 0) (own_q132 hw) (own_q133 hw) (own_q29 hw) (own_q134 hw) (by decide) (ctPC31 l Z a0 hw b kb c2 [.int (StrChars.lo8 c1), .int (StrChars.hi8 c1), .int 0, .int 0, .int 0, .int 0] h97 S97.old H B rfl gz) nosf (by decide) (by decide) (by rw [hml]; rfl) [(.ref b), (.int (1 : Int32)), (.int c2)] [] (lenOf own_pd106 rfl) rfl rfl (Nat.le_refl _) (hb hby own_d105) (by decide) (by decide) 23 rfl (fun v98 vm98 T98 h98 S98 Q98 R98 => ?_)
  obtain ⟨rfl, K98, B98⟩ := Q98
  show Goes _ _ _ _ T98 (mkF m 23 #[.val (.ref a), .val (.int (1 : Int32)), .val (.int (3 : Int32)), .val (.ref b), .val (.int (1 : Int32))] [])
  have B : Arv Z h98 b kb .byte (6 : Int32) [.int (StrChars.lo8 c1), .int (StrChars.hi8 c1), .int (StrChars.lo8 c2), .int (StrChars.hi8 c2), .int 0, .int 0] (.int 0) := B98
  have A := A.keep K98 nab
  have E := own_ext_keep E K98 (fun x hx => by cases List.mem_singleton.mp hx; exact gb)
  refine g_iinc S98.here hx (hb hby own_d107) rfl #[.val (.ref a), .val (.int (2 : Int32)), .val (.int (3 : Int32)), .val (.ref b), .val (.int (1 : Int32))] (by rw [show (1 : Int32) + Int32.ofInt 1 = (2 : Int32) from by decide]; rfl) 26 rfl ?_
  refine g_iinc S98.here hx (hb hby own_d108) rfl #[.val (.ref a), .val (.int (2 : Int32)), .val (.int (3 : Int32)), .val (.ref b), .val (.int (2 : Int32))] (by rw [show (1 : Int32) + Int32.ofInt 1 = (2 : Int32) from by decide]; rfl) 29 rfl ?_
  refine g_goto S98.here hx (hb hby own_d109) 8 (by decide) (by decide) ?_
  refine g_iload S98.here hx (hb hby own_d97) rfl 10 rfl ?_
  refine g_iloadN S98.here hx (hb hby own_d98) rfl 11 rfl ?_
  refine g_icmpF S98.here hx (hb hby own_d99) 2 3 (by decide) (by decide) (by show ¬ (3 ≤ 2); decide) 14 rfl ?_
  refine g_aloadN S98.here hx (hb hby own_d100) rfl rfl 15 rfl ?_
  refine g_iload S98.here hx (hb hby own_d101) rfl 17 rfl ?_
  refine g_aloadN S98.here hx (hb hby own_d102) rfl rfl 18 rfl ?_
  refine g_iloadN S98.here hx (hb hby own_d103) rfl 19 rfl ?_
  refine S98.cald hx A ⟨by decide, by decide⟩ (own_at (i := 2) (by decide) rfl) (hb hby own_d104) 20 rfl ?_
  refine S98.callS hx (W := 0) (own_q132 hw) (own_q133 hw) (own_q29 hw) (own_q134 hw) (by decide) (ctPC32 l Z a0 hw b kb c3 [.int (StrChars.lo8 c1), .int (StrChars.hi8 c1), .int (StrChars.lo8 c2), .int (StrChars.hi8 c2), .int 0, .int 0] h98 S98.old H B rfl gz) nosf (by decide) (by decide) (by rw [hml]; rfl) [(.ref b), (.int (2 : Int32)), (.int c3)] [] (lenOf own_pd106 rfl) rfl rfl (Nat.le_refl _) (hb hby own_d105) (by decide) (by decide) 23 rfl (fun v99 vm99 T99 h99 S99 Q99 R99 => ?_)
  obtain ⟨rfl, K99, B99⟩ := Q99
  show Goes _ _ _ _ T99 (mkF m 23 #[.val (.ref a), .val (.int (2 : Int32)), .val (.int (3 : Int32)), .val (.ref b), .val (.int (2 : Int32))] [])
  have B : Arv Z h99 b kb .byte (6 : Int32) [.int (StrChars.lo8 c1), .int (StrChars.hi8 c1), .int (StrChars.lo8 c2), .int (StrChars.hi8 c2), .int (StrChars.lo8 c3), .int (StrChars.hi8 c3)] (.int 0) := B99
  have A := A.keep K99 nab
  have E := own_ext_keep E K99 (fun x hx => by cases List.mem_singleton.mp hx; exact gb)
  refine g_iinc S99.here hx (hb hby own_d107) rfl #[.val (.ref a), .val (.int (3 : Int32)), .val (.int (3 : Int32)), .val (.ref b), .val (.int (2 : Int32))] (by rw [show (2 : Int32) + Int32.ofInt 1 = (3 : Int32) from by decide]; rfl) 26 rfl ?_
  refine g_iinc S99.here hx (hb hby own_d108) rfl #[.val (.ref a), .val (.int (3 : Int32)), .val (.int (3 : Int32)), .val (.ref b), .val (.int (3 : Int32))] (by rw [show (2 : Int32) + Int32.ofInt 1 = (3 : Int32) from by decide]; rfl) 29 rfl ?_
  refine g_goto S99.here hx (hb hby own_d109) 8 (by decide) (by decide) ?_
  refine g_iload S99.here hx (hb hby own_d97) rfl 10 rfl ?_
  refine g_iloadN S99.here hx (hb hby own_d98) rfl 11 rfl ?_
  refine g_icmpT S99.here hx (hb hby own_d99) 3 3 (by decide) (by decide) (by show 3 ≤ 3; decide) 32 (by decide) (by decide) ?_
  refine g_aloadN S99.here hx (hb hby own_d110) rfl rfl 33 rfl ?_
  exact S99.aret hx hlk hret rfl rfl rfl (hb hby own_d111) ⟨b, kb, rfl, gb, E, B⟩ (by decide) (by decide)
set_option maxRecDepth 65536 in
set_option maxHeartbeats 40000000 in
theorem ctC33 (l : Launch) (Z : State) (a0 : Array Value) (hw : ∀ d ∈ tables_1, d.before a0 Z = true) (a : Addr) (ka : ClassId) (c1 c2 c3 : Int32) (h : Heap) (O : Old Z Z.heap.size h) (H : own_h16 Z) (k1 : 0 ≤ c1.toInt ∧ c1.toInt ≤ 32767) (k2 : 0 ≤ c2.toInt ∧ c2.toInt ≤ 32767) (k3 : 0 ≤ c3.toInt ∧ c3.toInt ≤ 32767) (A : Arv Z h a ka .char (3 : Int32) [(.int c1), (.int c2), (.int c3)] (.int 0)) :
    Ct 0 l Z [] [] (⟨"java/lang/StringUTF16", "compress", "([CII)[B"⟩ : MethodName) jdk_52_method_16_code 6 (some (.array .byte)) ({ frames := 3, cells := 2, slots := 9, locals := 50 } : Room) #[(.ref a), (.int (0 : Int32)), (.int (3 : Int32))] h (fun v h' => ∃ (t : Addr) (k : ClassId), v = some (.ref t) ∧ h.size ≤ t ∧ Ext h h' ∧ ((own_lat [c1, c2, c3] ∧ Exa Z h' t "[B" ∧ Arv Z h' t k .byte (3 : Int32) (own_bs [c1, c2, c3]) (.int 0)) ∨ Arv Z h' t k .byte (6 : Int32) (own_pr [c1, c2, c3]) (.int 0))) := by
  refine Ct.intro (plainFor_of_name own_pn26) O (fun _ => rfl) ⟨a0, EW.nil⟩ ?_
  intro p e s m below meth c T0 hx hby hml hret hnm hlk hsf S0
  refine Goes.cast (own_ef112 m a (0 : Int32) (3 : Int32)) ?_
  have A0 := A
  refine g_iloadN S0.here hx (hb hby own_d113) rfl 1 rfl ?_
  refine S0.newAE (aty := .byte) hx (own_q31 hw) (n := (3 : Int32)) (by decide) (cap := 3) (by decide) (by decide) (hb hby own_d114) (by decide) (by decide) (ad := "[B") (by decide) 3 rfl (fun T100 h100 B_b k100 S100 g100 E100 V100 B_x F100 R100 => ?_)
  have B : Arv Z h100 B_b k100 .byte (3 : Int32) [.int 0, .int 0, .int 0] (.int 0) := V100
  have B_z : Z.heap.size ≤ B_b := by rw [g100]; exact S0.size
  have B_g : h.size ≤ B_b := Nat.le_of_eq g100.symm
  have A := A.ext E100
  refine g_astoreN S100.here hx (hb hby own_d115) rfl #[.val (.ref a), .val (.int (0 : Int32)), .val (.int (3 : Int32)), .val (.ref B_b), .unset, .unset] rfl 4 rfl ?_
  refine g_aloadN S100.here hx (hb hby own_d116) rfl rfl 5 rfl ?_
  refine g_iloadN S100.here hx (hb hby own_d117) rfl 6 rfl ?_
  refine g_aloadN S100.here hx (hb hby own_d118) rfl rfl 7 rfl ?_
  refine g_iconst S100.here hx (hb hby own_d119) (0 : Int32) (by decide) 8 rfl ?_
  refine g_iloadN S100.here hx (hb hby own_d120) rfl 9 rfl ?_
  have nab : a ≠ B_b := fun q => by rw [← q] at B_g; exact absurd A0.lt (Nat.not_lt.mpr B_g)
  refine S100.callS hx (W := 0) (own_q32 hw) (own_q33 hw) (own_q29 hw) (own_q34 hw) (by decide) (ctC53 l Z a0 hw a B_b ka _ c1 c2 c3 h100 S100.old k1 k2 k3 A B B_z nab) nosf (by decide) (by decide) (by rw [hml]; rfl) [(.ref a), (.int (0 : Int32)), (.ref B_b), (.int (0 : Int32)), (.int (3 : Int32))] [] (lenOf own_pd122 rfl) rfl rfl (Nat.le_refl _) (hb hby own_d121) (by decide) (by decide) 12 rfl (fun v101 vm101 T101 h101 S101 Q101 R101 => ?_)
  obtain ⟨K101, Q101⟩ := Q101
  have B_x := B_x.keep K101
  have A := A.keep K101 (fun q => nab (List.mem_singleton.mp q))
  have E := own_ext_keep E100 K101 (fun x hx => by cases List.mem_singleton.mp hx; exact B_g)
  rcases Q101 with ⟨rfl, la, B⟩ | ⟨rfl, gt⟩ | ⟨rfl, gt⟩ | ⟨rfl, gt⟩
  · show Goes _ _ _ _ T101 (mkF m 12 #[.val (.ref a), .val (.int (0 : Int32)), .val (.int (3 : Int32)), .val (.ref B_b), .unset, .unset] [(.int (3 : Int32))])
    refine g_istore S101.here hx (hb hby own_d123) #[.val (.ref a), .val (.int (0 : Int32)), .val (.int (3 : Int32)), .val (.ref B_b), .val (.int (3 : Int32)), .unset] rfl 14 rfl ?_
    refine g_iload S101.here hx (hb hby own_d124) rfl 16 rfl ?_
    refine g_iloadN S101.here hx (hb hby own_d125) rfl 17 rfl ?_
    refine g_icmpT S101.here hx (hb hby own_d126) 3 3 (by decide) (by decide) (by show 3 = 3; decide) 57 (by decide) (by decide) ?_
    refine g_aloadN S101.here hx (hb hby own_d127) rfl rfl 58 rfl ?_
    exact S101.aret hx hlk hret rfl rfl rfl (hb hby own_d128) ⟨_, _, rfl, B_g, E, Or.inl ⟨la, B_x, B⟩⟩ (by decide) (by decide)
  · show Goes _ _ _ _ T101 (mkF m 12 #[.val (.ref a), .val (.int (0 : Int32)), .val (.int (3 : Int32)), .val (.ref B_b), .unset, .unset] [(.int (0 : Int32))])
    refine g_istore S101.here hx (hb hby own_d123) #[.val (.ref a), .val (.int (0 : Int32)), .val (.int (3 : Int32)), .val (.ref B_b), .val (.int (0 : Int32)), .unset] rfl 14 rfl ?_
    refine g_iload S101.here hx (hb hby own_d124) rfl 16 rfl ?_
    refine g_iloadN S101.here hx (hb hby own_d125) rfl 17 rfl ?_
    refine g_icmpF S101.here hx (hb hby own_d126) 0 3 (by decide) (by decide) (by show ¬ (0 = 3); decide) 20 rfl ?_
    have E0 := E
    refine g_aloadN S101.here hx (hb hby own_d129) rfl rfl 21 rfl ?_
    refine g_iloadN S101.here hx (hb hby own_d130) rfl 22 rfl ?_
    refine g_iloadN S101.here hx (hb hby own_d131) rfl 23 rfl ?_
    refine S101.callS hx (W := 0) (own_q122 hw) (own_q123 hw) (own_q29 hw) (own_q124 hw) (by decide) (ctTB3 l Z a0 hw a ka c1 c2 c3 h101 S101.old H k1 k2 k3 A) nosf (by decide) (by decide) (by rw [hml]; rfl) [(.ref a), (.int (0 : Int32)), (.int (3 : Int32))] [] (lenOf own_pd133 rfl) rfl rfl (Nat.le_refl _) (hb hby own_d132) (by decide) (by decide) 26 rfl (fun v102 vm102 T102 h102 S102 Q102 R102 => ?_)
    obtain ⟨b2, kk2, rfl, g2, E2, B2⟩ := Q102
    show Goes _ _ _ _ T102 (mkF m 26 #[.val (.ref a), .val (.int (0 : Int32)), .val (.int (3 : Int32)), .val (.ref B_b), .val (.int (0 : Int32)), .unset] [(.ref b2)])
    have E := own_ext_trans E E2
    refine g_astore S102.here hx (hb hby own_d134) rfl #[.val (.ref a), .val (.int (0 : Int32)), .val (.int (3 : Int32)), .val (.ref B_b), .val (.int (0 : Int32)), .val (.ref b2)] rfl 28 rfl ?_
    refine g_aload S102.here hx (hb hby own_d135) rfl rfl 30 rfl ?_
    refine g_iload S102.here hx (hb hby own_d136) rfl 32 rfl ?_
    refine S102.callS hx (W := 0) (own_q138 hw) (own_q139 hw) (own_q29 hw) (own_q140 hw) (by decide) (ctGC30 l Z a0 hw b2 kk2 c1 _ h102 S102.old H k1 B2 rfl rfl) nosf (by decide) (by decide) (by rw [hml]; rfl) [(.ref b2), (.int (0 : Int32))] [] (lenOf own_pd138 rfl) rfl rfl (Nat.le_refl _) (hb hby own_d137) (by decide) (by decide) 35 rfl (fun v103 vm103 T103 h103 S103 Q103 R103 => ?_)
    obtain ⟨rfl, rfl⟩ := Q103
    show Goes _ _ _ _ T103 (mkF m 35 #[.val (.ref a), .val (.int (0 : Int32)), .val (.int (3 : Int32)), .val (.ref B_b), .val (.int (0 : Int32)), .val (.ref b2)] [(.int c1)])
    refine g_sipush S103.here hx (hb hby own_d139) (255 : Int32) (by decide) 38 rfl ?_
    refine g_icmpT S103.here hx (hb hby own_d140) c1.toInt 255 rfl (by decide) (show 255 < c1.toInt from gt) 54 (by decide) (by decide) ?_
    refine g_aload S103.here hx (hb hby own_d141) rfl rfl 56 rfl ?_
    exact S103.aret hx hlk hret rfl rfl rfl (hb hby own_d142) ⟨b2, kk2, rfl, Nat.le_trans E0.1 g2, E, Or.inr B2⟩ (by decide) (by decide)
  · show Goes _ _ _ _ T101 (mkF m 12 #[.val (.ref a), .val (.int (0 : Int32)), .val (.int (3 : Int32)), .val (.ref B_b), .unset, .unset] [(.int (1 : Int32))])
    refine g_istore S101.here hx (hb hby own_d123) #[.val (.ref a), .val (.int (0 : Int32)), .val (.int (3 : Int32)), .val (.ref B_b), .val (.int (1 : Int32)), .unset] rfl 14 rfl ?_
    refine g_iload S101.here hx (hb hby own_d124) rfl 16 rfl ?_
    refine g_iloadN S101.here hx (hb hby own_d125) rfl 17 rfl ?_
    refine g_icmpF S101.here hx (hb hby own_d126) 1 3 (by decide) (by decide) (by show ¬ (1 = 3); decide) 20 rfl ?_
    have E0 := E
    refine g_aloadN S101.here hx (hb hby own_d129) rfl rfl 21 rfl ?_
    refine g_iloadN S101.here hx (hb hby own_d130) rfl 22 rfl ?_
    refine g_iloadN S101.here hx (hb hby own_d131) rfl 23 rfl ?_
    refine S101.callS hx (W := 0) (own_q122 hw) (own_q123 hw) (own_q29 hw) (own_q124 hw) (by decide) (ctTB3 l Z a0 hw a ka c1 c2 c3 h101 S101.old H k1 k2 k3 A) nosf (by decide) (by decide) (by rw [hml]; rfl) [(.ref a), (.int (0 : Int32)), (.int (3 : Int32))] [] (lenOf own_pd133 rfl) rfl rfl (Nat.le_refl _) (hb hby own_d132) (by decide) (by decide) 26 rfl (fun v104 vm104 T104 h104 S104 Q104 R104 => ?_)
    obtain ⟨b2, kk2, rfl, g2, E2, B2⟩ := Q104
    show Goes _ _ _ _ T104 (mkF m 26 #[.val (.ref a), .val (.int (0 : Int32)), .val (.int (3 : Int32)), .val (.ref B_b), .val (.int (1 : Int32)), .unset] [(.ref b2)])
    have E := own_ext_trans E E2
    refine g_astore S104.here hx (hb hby own_d134) rfl #[.val (.ref a), .val (.int (0 : Int32)), .val (.int (3 : Int32)), .val (.ref B_b), .val (.int (1 : Int32)), .val (.ref b2)] rfl 28 rfl ?_
    refine g_aload S104.here hx (hb hby own_d135) rfl rfl 30 rfl ?_
    refine g_iload S104.here hx (hb hby own_d136) rfl 32 rfl ?_
    refine S104.callS hx (W := 0) (own_q138 hw) (own_q139 hw) (own_q29 hw) (own_q140 hw) (by decide) (ctGC31 l Z a0 hw b2 kk2 c2 _ h104 S104.old H k2 B2 rfl rfl) nosf (by decide) (by decide) (by rw [hml]; rfl) [(.ref b2), (.int (1 : Int32))] [] (lenOf own_pd138 rfl) rfl rfl (Nat.le_refl _) (hb hby own_d137) (by decide) (by decide) 35 rfl (fun v105 vm105 T105 h105 S105 Q105 R105 => ?_)
    obtain ⟨rfl, rfl⟩ := Q105
    show Goes _ _ _ _ T105 (mkF m 35 #[.val (.ref a), .val (.int (0 : Int32)), .val (.int (3 : Int32)), .val (.ref B_b), .val (.int (1 : Int32)), .val (.ref b2)] [(.int c2)])
    refine g_sipush S105.here hx (hb hby own_d139) (255 : Int32) (by decide) 38 rfl ?_
    refine g_icmpT S105.here hx (hb hby own_d140) c2.toInt 255 rfl (by decide) (show 255 < c2.toInt from gt) 54 (by decide) (by decide) ?_
    refine g_aload S105.here hx (hb hby own_d141) rfl rfl 56 rfl ?_
    exact S105.aret hx hlk hret rfl rfl rfl (hb hby own_d142) ⟨b2, kk2, rfl, Nat.le_trans E0.1 g2, E, Or.inr B2⟩ (by decide) (by decide)
  · show Goes _ _ _ _ T101 (mkF m 12 #[.val (.ref a), .val (.int (0 : Int32)), .val (.int (3 : Int32)), .val (.ref B_b), .unset, .unset] [(.int (2 : Int32))])
    refine g_istore S101.here hx (hb hby own_d123) #[.val (.ref a), .val (.int (0 : Int32)), .val (.int (3 : Int32)), .val (.ref B_b), .val (.int (2 : Int32)), .unset] rfl 14 rfl ?_
    refine g_iload S101.here hx (hb hby own_d124) rfl 16 rfl ?_
    refine g_iloadN S101.here hx (hb hby own_d125) rfl 17 rfl ?_
    refine g_icmpF S101.here hx (hb hby own_d126) 2 3 (by decide) (by decide) (by show ¬ (2 = 3); decide) 20 rfl ?_
    have E0 := E
    refine g_aloadN S101.here hx (hb hby own_d129) rfl rfl 21 rfl ?_
    refine g_iloadN S101.here hx (hb hby own_d130) rfl 22 rfl ?_
    refine g_iloadN S101.here hx (hb hby own_d131) rfl 23 rfl ?_
    refine S101.callS hx (W := 0) (own_q122 hw) (own_q123 hw) (own_q29 hw) (own_q124 hw) (by decide) (ctTB3 l Z a0 hw a ka c1 c2 c3 h101 S101.old H k1 k2 k3 A) nosf (by decide) (by decide) (by rw [hml]; rfl) [(.ref a), (.int (0 : Int32)), (.int (3 : Int32))] [] (lenOf own_pd133 rfl) rfl rfl (Nat.le_refl _) (hb hby own_d132) (by decide) (by decide) 26 rfl (fun v106 vm106 T106 h106 S106 Q106 R106 => ?_)
    obtain ⟨b2, kk2, rfl, g2, E2, B2⟩ := Q106
    show Goes _ _ _ _ T106 (mkF m 26 #[.val (.ref a), .val (.int (0 : Int32)), .val (.int (3 : Int32)), .val (.ref B_b), .val (.int (2 : Int32)), .unset] [(.ref b2)])
    have E := own_ext_trans E E2
    refine g_astore S106.here hx (hb hby own_d134) rfl #[.val (.ref a), .val (.int (0 : Int32)), .val (.int (3 : Int32)), .val (.ref B_b), .val (.int (2 : Int32)), .val (.ref b2)] rfl 28 rfl ?_
    refine g_aload S106.here hx (hb hby own_d135) rfl rfl 30 rfl ?_
    refine g_iload S106.here hx (hb hby own_d136) rfl 32 rfl ?_
    refine S106.callS hx (W := 0) (own_q138 hw) (own_q139 hw) (own_q29 hw) (own_q140 hw) (by decide) (ctGC32 l Z a0 hw b2 kk2 c3 _ h106 S106.old H k3 B2 rfl rfl) nosf (by decide) (by decide) (by rw [hml]; rfl) [(.ref b2), (.int (2 : Int32))] [] (lenOf own_pd138 rfl) rfl rfl (Nat.le_refl _) (hb hby own_d137) (by decide) (by decide) 35 rfl (fun v107 vm107 T107 h107 S107 Q107 R107 => ?_)
    obtain ⟨rfl, rfl⟩ := Q107
    show Goes _ _ _ _ T107 (mkF m 35 #[.val (.ref a), .val (.int (0 : Int32)), .val (.int (3 : Int32)), .val (.ref B_b), .val (.int (2 : Int32)), .val (.ref b2)] [(.int c3)])
    refine g_sipush S107.here hx (hb hby own_d139) (255 : Int32) (by decide) 38 rfl ?_
    refine g_icmpT S107.here hx (hb hby own_d140) c3.toInt 255 rfl (by decide) (show 255 < c3.toInt from gt) 54 (by decide) (by decide) ?_
    refine g_aload S107.here hx (hb hby own_d141) rfl rfl 56 rfl ?_
    exact S107.aret hx hlk hret rfl rfl rfl (hb hby own_d142) ⟨b2, kk2, rfl, Nat.le_trans E0.1 g2, E, Or.inr B2⟩ (by decide) (by decide)
set_option maxRecDepth 65536 in
set_option maxHeartbeats 40000000 in
theorem ctCF30 (l : Launch) (Z : State) (a0 : Array Value) (hw : ∀ d ∈ tables_1, d.before a0 Z = true) (t : Addr) (kt : ClassId) (vs : List Value) (h : Heap) (O : Old Z Z.heap.size h) (B : Arv Z h t kt .byte (3 : Int32) vs (.int 0)) :
    Ct 0 l Z [] [] (⟨"java/lang/StringUTF16", "coderFromArrayLen", "([BI)B"⟩ : MethodName) jdk_52_method_15_code 2 (some .byte) ({ frames := 0, cells := 0, slots := 0, locals := 0 } : Room) #[(.ref t), (.int (3 : Int32))] h (fun v h' => v = some (.int (0 : Int32)) ∧ h = h') := by
  refine Ct.intro (plainFor_of_name own_pn26) O (fun _ => rfl) ⟨a0, EW.nil⟩ ?_
  intro p e s m below meth c T0 hx hby hml hret hnm hlk hsf S0
  refine Goes.cast (own_ef65 m t (3 : Int32)) ?_
  refine g_iloadN S0.here hx (hb hby own_d143) rfl 1 rfl ?_
  refine g_aloadN S0.here hx (hb hby own_d144) rfl rfl 2 rfl ?_
  refine S0.len hx B (hb hby own_d145) 3 rfl ?_
  refine g_isub S0.here hx (hb hby own_d146) 4 rfl ?_
  rw [show ((3 : Int32) - (3 : Int32)) = (0 : Int32) from by decide]
  refine g_bipush S0.here hx (hb hby own_d147) (31 : Int32) (by decide) 6 rfl ?_
  refine g_iushr S0.here hx (hb hby own_d148) 7 rfl ?_
  rw [show (((0 : Int32).toUInt32 >>> ((31 : Int32) &&& 31).toUInt32).toInt32) = (0 : Int32) from by decide]
  refine g_i2b S0.here hx (hb hby own_d149) 8 rfl ?_
  rw [show ((0 : Int32).toInt8.toInt32) = (0 : Int32) from by decide]
  exact S0.iret hx hlk hret (Or.inr (Or.inr (Or.inl rfl))) rfl (hb hby own_d150) ⟨rfl, rfl⟩ (by decide) (by decide)
set_option maxRecDepth 65536 in
set_option maxHeartbeats 40000000 in
theorem ctCF31 (l : Launch) (Z : State) (a0 : Array Value) (hw : ∀ d ∈ tables_1, d.before a0 Z = true) (t : Addr) (kt : ClassId) (vs : List Value) (h : Heap) (O : Old Z Z.heap.size h) (B : Arv Z h t kt .byte (6 : Int32) vs (.int 0)) :
    Ct 0 l Z [] [] (⟨"java/lang/StringUTF16", "coderFromArrayLen", "([BI)B"⟩ : MethodName) jdk_52_method_15_code 2 (some .byte) ({ frames := 0, cells := 0, slots := 0, locals := 0 } : Room) #[(.ref t), (.int (3 : Int32))] h (fun v h' => v = some (.int (1 : Int32)) ∧ h = h') := by
  refine Ct.intro (plainFor_of_name own_pn26) O (fun _ => rfl) ⟨a0, EW.nil⟩ ?_
  intro p e s m below meth c T0 hx hby hml hret hnm hlk hsf S0
  refine Goes.cast (own_ef65 m t (3 : Int32)) ?_
  refine g_iloadN S0.here hx (hb hby own_d143) rfl 1 rfl ?_
  refine g_aloadN S0.here hx (hb hby own_d144) rfl rfl 2 rfl ?_
  refine S0.len hx B (hb hby own_d145) 3 rfl ?_
  refine g_isub S0.here hx (hb hby own_d146) 4 rfl ?_
  rw [show ((3 : Int32) - (6 : Int32)) = (-3 : Int32) from by decide]
  refine g_bipush S0.here hx (hb hby own_d147) (31 : Int32) (by decide) 6 rfl ?_
  refine g_iushr S0.here hx (hb hby own_d148) 7 rfl ?_
  rw [show (((-3 : Int32).toUInt32 >>> ((31 : Int32) &&& 31).toUInt32).toInt32) = (1 : Int32) from by decide]
  refine g_i2b S0.here hx (hb hby own_d149) 8 rfl ?_
  rw [show ((1 : Int32).toInt8.toInt32) = (1 : Int32) from by decide]
  exact S0.iret hx hlk hret (Or.inr (Or.inr (Or.inl rfl))) rfl (hb hby own_d150) ⟨rfl, rfl⟩ (by decide) (by decide)
set_option maxRecDepth 65536 in
set_option maxHeartbeats 40000000 in
theorem ctN43 (l : Launch) (Z : State) (a0 : Array Value) (hw : ∀ d ∈ tables_1, d.before a0 Z = true) (x a : Addr) (ka : ClassId) (c1 c2 c3 : Int32) (h : Heap) (O : Old Z Z.heap.size h) (G : own_cs Z) (H : own_h16 Z) (k1 : 0 ≤ c1.toInt ∧ c1.toInt ≤ 32767) (k2 : 0 ≤ c2.toInt ∧ c2.toInt ≤ 32767) (k3 : 0 ≤ c3.toInt ∧ c3.toInt ≤ 32767) (A : Arv Z h a ka .char (3 : Int32) [(.int c1), (.int c2), (.int c3)] (.int 0)) (F : own_raw Z h x) (gx : Z.heap.size ≤ x) :
    Ct 0 l Z [] [] (⟨"java/lang/String", "<init>", "([CIILjava/lang/Void;)V"⟩ : MethodName) jdk_42_method_149_code 6 none ({ frames := 4, cells := 2, slots := 9, locals := 70 } : Room) #[(.ref x), (.ref a), (.int (0 : Int32)), (.int (3 : Int32)), .null] h (fun v h' => v = none ∧ own_txt Z h' x [c1, c2, c3] ∧ Keep h h' [x]) := by
  refine Ct.intro (plainFor_of_name own_pn173) O (fun _ => rfl) ⟨a0, EW.nil⟩ ?_
  intro p e s m below meth c T0 hx hby hml hret hnm hlk hsf S0
  refine Goes.cast (own_ef151 m x a (0 : Int32) (3 : Int32)) ?_
  obtain ⟨f1, ⟨v0, f2⟩, w0, f3⟩ := F
  refine g_aloadN S0.here hx (hb hby own_d152) rfl rfl 1 rfl ?_
  refine S0.initO hx (own_q23 hw) (own_q24 hw) (own_q25 hw) (by rw [hml]; rfl) (W := 0) (by decide) (Nat.le_refl _) (by decide) (hb hby own_d153) 4 rfl (fun T108 S108 => ?_)
  refine g_iloadN S108.here hx (hb hby own_d154) rfl 5 rfl ?_
  refine g_ifT S108.here hx (hb hby own_d155) 3 (by decide) (by show ¬ 3 = 0; decide) 27 (by decide) (by decide) ?_
  obtain ⟨z, g1, g2⟩ := G
  refine S108.getS hx (host := "") (Or.inl (own_q26 hw)) Via.refl (g1.ext O.2) (hb hby own_d156) 30 rfl (fun T109 S109 => ?_)
  refine g_ifF S109.here hx (hb hby own_d157) z.toInt rfl (show ¬ (z.toInt = 0) from own_nz g2) 33 rfl ?_
  refine g_aloadN S109.here hx (hb hby own_d158) rfl rfl 34 rfl ?_
  refine g_iloadN S109.here hx (hb hby own_d159) rfl 35 rfl ?_
  refine g_iloadN S109.here hx (hb hby own_d160) rfl 36 rfl ?_
  refine S109.callS hx (W := 0) (own_q27 hw) (own_q28 hw) (own_q29 hw) (own_q30 hw) (by decide) (ctC33 l Z a0 hw a ka c1 c2 c3 h S109.old H k1 k2 k3 A) nosf (by decide) (by decide) (by rw [hml]; rfl) [(.ref a), (.int (0 : Int32)), (.int (3 : Int32))] [] (lenOf own_pd133 rfl) rfl rfl (Nat.le_refl _) (hb hby own_d161) (by decide) (by decide) 39 rfl (fun v110 vm110 T110 h110 S110 Q110 R110 => ?_)
  obtain ⟨t, kt, rfl, gt, E, B⟩ := Q110
  show Goes _ _ _ _ T110 (mkF m 39 #[.val (.ref x), .val (.ref a), .val (.int (0 : Int32)), .val (.int (3 : Int32)), .val .null, .unset] [(.ref t)])
  have nt : t ≠ x := fun q => by rw [q] at gt; exact absurd f1.lt (Nat.not_lt.mpr gt)
  have f1 := f1.ext E
  have f2 := f2.ext E
  have f3 := f3.ext E
  have K := (Keep.refl h [x]).ext E
  rcases B with ⟨la, XB, B⟩ | B
  · refine g_astore S110.here hx (hb hby own_d162) rfl #[.val (.ref x), .val (.ref a), .val (.int (0 : Int32)), .val (.int (3 : Int32)), .val .null, .val (.ref t)] rfl 41 rfl ?_
    refine g_aloadN S110.here hx (hb hby own_d163) rfl rfl 42 rfl ?_
    refine g_aload S110.here hx (hb hby own_d164) rfl rfl 44 rfl ?_
    refine g_iloadN S110.here hx (hb hby own_d165) rfl 45 rfl ?_
    refine S110.callS hx (W := 1) (own_q35 hw) (own_q36 hw) (own_q29 hw) (own_q37 hw) (by decide) (ctCF30 l Z a0 hw t kt _ h110 S110.old B) nosf (by decide) (by decide) (by rw [hml]; rfl) [(.ref t), (.int (3 : Int32))] [(.ref x)] (lenOf own_pd167 rfl) rfl rfl (Nat.le_refl _) (hb hby own_d166) (by decide) (by decide) 48 rfl (fun v111 vm111 T111 h111 S111 Q111 R111 => ?_)
    obtain ⟨rfl, rfl⟩ := Q111
    show Goes _ _ _ _ T111 (mkF m 48 #[.val (.ref x), .val (.ref a), .val (.int (0 : Int32)), .val (.int (3 : Int32)), .val .null, .val (.ref t)] [(.int (0 : Int32)), (.ref x)])
    refine S111.putF hx (host := "") (Or.inl (own_q38 hw)) Via.refl f3 f1 (Or.inr ⟨(own_q39 hw), rfl, hnm⟩) (own_q14 hw) (ty := .byte) (by decide) rfl rfl safe_nil gx (hb hby own_d168) 51 rfl (fun T112 h112 S112 W112 R112 => ?_)
    have f1 := f1.wr W112
    have f3 := f3.same W112
    have f2 := f2.other W112 (Or.inr (slot_ne (Or.inr (own_q41 hw)) (Or.inr (own_q39 hw)) (by decide) (t := .array .byte) (t' := .byte) (by decide) (by decide)))
    have B := B.other W112 nt
    have K := K.wr W112 (Or.inl (List.mem_singleton.mpr rfl))
    have XB := XB.wr W112
    refine g_aloadN S112.here hx (hb hby own_d169) rfl rfl 52 rfl ?_
    refine g_aload S112.here hx (hb hby own_d170) rfl rfl 54 rfl ?_
    refine S112.putF hx (host := "") (Or.inl (own_q40 hw)) Via.refl f2 f1 (Or.inr ⟨(own_q41 hw), rfl, hnm⟩) (own_q14 hw) (ty := (.array .byte)) (by decide) rfl rfl safe_nil gx (hb hby own_d171) 57 rfl (fun T113 h113 S113 W113 R113 => ?_)
    have f1 := f1.wr W113
    have f2 := f2.same W113
    have f3 := f3.other W113 (Or.inr (slot_ne (Or.inr (own_q39 hw)) (Or.inr (own_q41 hw)) (by decide) (t := .byte) (t' := .array .byte) (by decide) (by decide)))
    have B := B.other W113 nt
    have K := K.wr W113 (Or.inl (List.mem_singleton.mpr rfl))
    have XB := XB.wr W113
    exact S113.vret hx hlk hret (hb hby own_d172) ⟨rfl, ⟨f1, t, kt, f2, Or.inl ⟨f3, la, XB, B⟩⟩, K⟩ (by decide) (by decide)
  · refine g_astore S110.here hx (hb hby own_d162) rfl #[.val (.ref x), .val (.ref a), .val (.int (0 : Int32)), .val (.int (3 : Int32)), .val .null, .val (.ref t)] rfl 41 rfl ?_
    refine g_aloadN S110.here hx (hb hby own_d163) rfl rfl 42 rfl ?_
    refine g_aload S110.here hx (hb hby own_d164) rfl rfl 44 rfl ?_
    refine g_iloadN S110.here hx (hb hby own_d165) rfl 45 rfl ?_
    refine S110.callS hx (W := 1) (own_q35 hw) (own_q36 hw) (own_q29 hw) (own_q37 hw) (by decide) (ctCF31 l Z a0 hw t kt _ h110 S110.old B) nosf (by decide) (by decide) (by rw [hml]; rfl) [(.ref t), (.int (3 : Int32))] [(.ref x)] (lenOf own_pd167 rfl) rfl rfl (Nat.le_refl _) (hb hby own_d166) (by decide) (by decide) 48 rfl (fun v114 vm114 T114 h114 S114 Q114 R114 => ?_)
    obtain ⟨rfl, rfl⟩ := Q114
    show Goes _ _ _ _ T114 (mkF m 48 #[.val (.ref x), .val (.ref a), .val (.int (0 : Int32)), .val (.int (3 : Int32)), .val .null, .val (.ref t)] [(.int (1 : Int32)), (.ref x)])
    refine S114.putF hx (host := "") (Or.inl (own_q38 hw)) Via.refl f3 f1 (Or.inr ⟨(own_q39 hw), rfl, hnm⟩) (own_q14 hw) (ty := .byte) (by decide) rfl rfl safe_nil gx (hb hby own_d168) 51 rfl (fun T115 h115 S115 W115 R115 => ?_)
    have f1 := f1.wr W115
    have f3 := f3.same W115
    have f2 := f2.other W115 (Or.inr (slot_ne (Or.inr (own_q41 hw)) (Or.inr (own_q39 hw)) (by decide) (t := .array .byte) (t' := .byte) (by decide) (by decide)))
    have B := B.other W115 nt
    have K := K.wr W115 (Or.inl (List.mem_singleton.mpr rfl))
    refine g_aloadN S115.here hx (hb hby own_d169) rfl rfl 52 rfl ?_
    refine g_aload S115.here hx (hb hby own_d170) rfl rfl 54 rfl ?_
    refine S115.putF hx (host := "") (Or.inl (own_q40 hw)) Via.refl f2 f1 (Or.inr ⟨(own_q41 hw), rfl, hnm⟩) (own_q14 hw) (ty := (.array .byte)) (by decide) rfl rfl safe_nil gx (hb hby own_d171) 57 rfl (fun T116 h116 S116 W116 R116 => ?_)
    have f1 := f1.wr W116
    have f2 := f2.same W116
    have f3 := f3.other W116 (Or.inr (slot_ne (Or.inr (own_q39 hw)) (Or.inr (own_q41 hw)) (by decide) (t := .byte) (t' := .array .byte) (by decide) (by decide)))
    have B := B.other W116 nt
    have K := K.wr W116 (Or.inl (List.mem_singleton.mpr rfl))
    exact S116.vret hx hlk hret (hb hby own_d172) ⟨rfl, ⟨f1, t, kt, f2, Or.inr ⟨f3, nofun, B⟩⟩, K⟩ (by decide) (by decide)
set_option maxRecDepth 65536 in
set_option maxHeartbeats 40000000 in
theorem ctN13 (l : Launch) (Z : State) (a0 : Array Value) (hw : ∀ d ∈ tables_1, d.before a0 Z = true) (x a : Addr) (ka : ClassId) (c1 c2 c3 : Int32) (h : Heap) (O : Old Z Z.heap.size h) (G : own_cs Z) (H : own_h16 Z) (k1 : 0 ≤ c1.toInt ∧ c1.toInt ≤ 32767) (k2 : 0 ≤ c2.toInt ∧ c2.toInt ≤ 32767) (k3 : 0 ≤ c3.toInt ∧ c3.toInt ≤ 32767) (A : Arv Z h a ka .char (3 : Int32) [(.int c1), (.int c2), (.int c3)] (.int 0)) (F : own_raw Z h x) (gx : Z.heap.size ≤ x) :
    Ct 0 l Z [] [] (⟨"java/lang/String", "<init>", "([C)V"⟩ : MethodName) jdk_42_method_3_code 2 none ({ frames := 5, cells := 2, slots := 9, locals := 90 } : Room) #[(.ref x), (.ref a)] h (fun v h' => v = none ∧ own_txt Z h' x [c1, c2, c3] ∧ Keep h h' [x]) := by
  refine Ct.intro (plainFor_of_name own_pn173) O (fun _ => rfl) ⟨a0, EW.nil⟩ ?_
  intro p e s m below meth c T0 hx hby hml hret hnm hlk hsf S0
  refine Goes.cast (own_ef174 m x a) ?_
  refine g_aloadN S0.here hx (hb hby own_d175) rfl rfl 1 rfl ?_
  refine g_aloadN S0.here hx (hb hby own_d176) rfl rfl 2 rfl ?_
  refine g_iconst S0.here hx (hb hby own_d177) (0 : Int32) (by decide) 3 rfl ?_
  refine g_aloadN S0.here hx (hb hby own_d178) rfl rfl 4 rfl ?_
  refine S0.len hx A (hb hby own_d179) 5 rfl ?_
  refine g_aconst_null S0.here hx (hb hby own_d180) 6 rfl ?_
  refine S0.callI hx (W := 0) (a := x) rfl (own_q19 hw) (own_q20 hw) (own_q22 hw) (by decide) (own_q15 hw) (ctN43 l Z a0 hw x a ka c1 c2 c3 h O G H k1 k2 k3 A F gx) nosf (by decide) (by decide) (by rw [hml]; rfl) [(.ref a), (.int (0 : Int32)), (.int (3 : Int32)), .null] [] (lenOf own_pd182 rfl) rfl rfl (Nat.le_refl _) (hb hby own_d181) (by decide) (by decide) 9 rfl (fun v117 vm117 T117 h117 S117 Q117 R117 => ?_)
  obtain ⟨rfl, B, KK⟩ := Q117
  show Goes _ _ _ _ T117 (mkF m 9 #[.val (.ref x), .val (.ref a)] [])
  exact S117.vret hx hlk hret (hb hby own_d183) ⟨rfl, B, KK⟩ (by decide) (by decide)
def own_t0 : List Int32 := []
theorem own_t0_lat : own_lat own_t0 := own_lat_nil
theorem own_d184 : decode jdk_42_method_149_code 8 = .ok (.aload_n 0, 1) := by decide +kernel
theorem own_d185 : decode jdk_42_method_149_code 9 = .ok (.ldc 7, 2) := by decide +kernel
theorem own_d186 : decode jdk_42_method_149_code 11 = .ok (.getfield 9, 3) := by decide +kernel
theorem own_d187 : decode jdk_42_method_149_code 14 = .ok (.putfield 9, 3) := by decide +kernel
theorem own_d188 : decode jdk_42_method_149_code 17 = .ok (.aload_n 0, 1) := by decide +kernel
theorem own_d189 : decode jdk_42_method_149_code 18 = .ok (.ldc 7, 2) := by decide +kernel
theorem own_d190 : decode jdk_42_method_149_code 20 = .ok (.getfield 15, 3) := by decide +kernel
theorem own_d191 : decode jdk_42_method_149_code 23 = .ok (.putfield 15, 3) := by decide +kernel
theorem own_d192 : decode jdk_42_method_149_code 26 = .ok (.return_, 1) := by decide +kernel
set_option maxRecDepth 65536 in
set_option maxHeartbeats 40000000 in
theorem ctE4 (l : Launch) (Z : State) (a0 : Array Value) (hw : ∀ d ∈ tables_1, d.before a0 Z = true) (a b : Addr) (h : Heap) (O : Old Z Z.heap.size h) (F : own_raw Z h a) (ga : Z.heap.size ≤ a) :
    Ct 1 l Z consts_1 [a] (⟨"java/lang/String", "<init>", "([CIILjava/lang/Void;)V"⟩ : MethodName) jdk_42_method_149_code 6 none ({ frames := 1, cells := 4, slots := 8, locals := 12 } : Room) #[(.ref a), (.ref b), (.int (0 : Int32)), (.int (0 : Int32)), .null] h (fun v h' => v = none ∧ own_txt Z h' a [] ∧ Keep h h' [a]) := by
  refine Ct.intro (plainFor_of_name own_pn173) O (fun q => by cases q) ⟨a0, own_ew hw⟩ ?_
  intro p e s m below meth c T0 hx hby hml hret hnm hlk hsf S0
  refine Goes.cast (own_ef151 m a b (0 : Int32) (0 : Int32)) ?_
  obtain ⟨f1, ⟨v0, f2⟩, c0, f3⟩ := F
  refine g_aloadN S0.here hx (hb hby own_d152) rfl rfl 1 rfl ?_
  refine S0.initO hx (own_q23 hw) (own_q24 hw) (own_q25 hw) (by rw [hml]; rfl) (W := 0) (by decide) (Nat.le_refl _) (by decide) (hb hby own_d153) 4 rfl (fun T118 S118 => ?_)
  refine g_iloadN S118.here hx (hb hby own_d154) rfl 5 rfl ?_
  refine g_ifF S118.here hx (hb hby own_d155) 0 (by decide) (by show ¬ (¬ 0 = 0); decide) 8 rfl ?_
  refine g_aloadN S118.here hx (hb hby own_d184) rfl rfl 9 rfl ?_
  refine S118.ldcC hx (by decide) (own_q42 hw) (own_wS hw) (by decide) (vs := (own_t0.map fun c => c.toInt8.toInt32).map Value.int) (z := Int32.ofNat own_t0.length) (by decide +kernel) (by decide +kernel) (by decide +kernel) (hb hby own_d185) (n := 0) (by decide +kernel) (by decide) (by decide) (by decide) 11 rfl (fun vm119 T119 h119 e1 b119 k119 S119 E119 R119 q119a q119b q119c q119d N119 => ?_)
  have f_e1 : own_str Z h119 e1 own_t0 := ⟨own_t0_lat, by decide +kernel, b119, k119, q119a, q119b, q119c, q119d⟩
  have A1 := f1.ext E119
  have V1 := f2.ext E119
  have C1 := f3.ext E119
  have F1 := R119.safe f1.lt (hsf a (List.mem_singleton.mpr rfl))
  have X1 := E119
  have XB := own_exaB N119 S119.warm.alike q119d
  refine S119.getF hx (host := "") (Or.inl (own_q40 hw)) Via.refl q119c (hb hby own_d186) 14 rfl (fun T121 S121 => ?_)
  refine S121.putF hx (host := "") (Or.inl (own_q40 hw)) Via.refl V1 A1 (Or.inr ⟨(own_q41 hw), rfl, hnm⟩) (own_q14 hw) (ty := (.array .byte)) (by decide) rfl rfl F1 ga (hb hby own_d187) 17 rfl (fun T122 h122 S122 W122 R122 => ?_)
  have A2 := A1.wr W122
  have V2 := V1.same W122
  have C2 := C1.other W122 (Or.inr (slot_ne (Or.inr (own_q39 hw)) (Or.inr (own_q41 hw)) (by decide) (t := .byte) (t' := .array .byte) (by decide) (by decide)))
  have F2 := R122.safe A1.lt F1
  have B2 := q119d.other W122 (N119 a F1).2.symm
  have K2 := Keep.of_wr W122
  have XB := XB.wr W122
  refine g_aloadN S122.here hx (hb hby own_d188) rfl rfl 18 rfl ?_
  refine S122.ldcC hx (by decide) (own_q42 hw) (own_wS hw) (by decide) (vs := (own_t0.map fun c => c.toInt8.toInt32).map Value.int) (z := Int32.ofNat own_t0.length) (by decide +kernel) (by decide +kernel) (by decide +kernel) (hb hby own_d189) (n := 0) (by decide +kernel) (by decide) (by decide) (by decide) 20 rfl (fun vm123 T123 h123 e2 b123 k123 S123 E123 R123 q123a q123b q123c q123d N123 => ?_)
  have f_e2 : own_str Z h123 e2 own_t0 := ⟨own_t0_lat, by decide +kernel, b123, k123, q123a, q123b, q123c, q123d⟩
  have A3 := A2.ext E123
  have V3 := V2.ext E123
  have C3 := C2.ext E123
  have F3 := R123.safe A2.lt F2
  have B3 := B2.ext E123
  have K3 := ((Keep.refl h [a]).ext X1).trans K2 (fun x hx => Or.inl hx) |>.ext E123
  have XB := XB.ext E123
  refine S123.getF hx (host := "") (Or.inl (own_q38 hw)) Via.refl q123b (hb hby own_d190) 23 rfl (fun T124 S124 => ?_)
  refine S124.putF hx (host := "") (Or.inl (own_q38 hw)) Via.refl C3 A3 (Or.inr ⟨(own_q39 hw), rfl, hnm⟩) (own_q14 hw) (ty := .byte) (by decide) rfl rfl F3 ga (hb hby own_d191) 26 rfl (fun T125 h125 S125 W125 R125 => ?_)
  have A4 := A3.wr W125
  have C4 := C3.same W125
  have V4 := V3.other W125 (Or.inr (slot_ne (Or.inr (own_q41 hw)) (Or.inr (own_q39 hw)) (by decide) (t := .array .byte) (t' := .byte) (by decide) (by decide)))
  have B4 := B3.other W125 (N119 a F1).2.symm
  have K4 := K3.wr W125 (Or.inl (List.mem_singleton.mpr rfl))
  have XB := XB.wr W125
  exact S125.vret hx hlk hret (hb hby own_d192) ⟨rfl, ⟨A4, _, _, V4, Or.inl ⟨C4, own_t0_lat, XB, B4⟩⟩, K4⟩ (by decide) (by decide)
set_option maxRecDepth 65536 in
set_option maxHeartbeats 40000000 in
theorem ctE1 (l : Launch) (Z : State) (a0 : Array Value) (hw : ∀ d ∈ tables_1, d.before a0 Z = true) (a b : Addr) (kb : ClassId) (vs : List Value) (dv : Value) (h : Heap) (O : Old Z Z.heap.size h) (F : own_raw Z h a) (ga : Z.heap.size ≤ a) (Ab : Arv Z h b kb .char (0 : Int32) vs dv) :
    Ct 1 l Z consts_1 [a] (⟨"java/lang/String", "<init>", "([C)V"⟩ : MethodName) jdk_42_method_3_code 2 none ({ frames := 2, cells := 4, slots := 8, locals := 29 } : Room) #[(.ref a), (.ref b)] h (fun v h' => v = none ∧ own_txt Z h' a [] ∧ Keep h h' [a]) := by
  refine Ct.intro (plainFor_of_name own_pn173) O (fun q => by cases q) ⟨a0, own_ew hw⟩ ?_
  intro p e s m below meth c T0 hx hby hml hret hnm hlk hsf S0
  refine Goes.cast (own_ef174 m a b) ?_
  refine g_aloadN S0.here hx (hb hby own_d175) rfl rfl 1 rfl ?_
  refine g_aloadN S0.here hx (hb hby own_d176) rfl rfl 2 rfl ?_
  refine g_iconst S0.here hx (hb hby own_d177) (0 : Int32) (by decide) 3 rfl ?_
  refine g_aloadN S0.here hx (hb hby own_d178) rfl rfl 4 rfl ?_
  refine S0.len hx Ab (hb hby own_d179) 5 rfl ?_
  refine g_aconst_null S0.here hx (hb hby own_d180) 6 rfl ?_
  refine S0.callI hx (W := 0) (a := a) rfl (own_q19 hw) (own_q20 hw) (own_q22 hw) (by decide) (own_q15 hw) (ctE4 l Z a0 hw a b h O F ga) (fun x hx => by cases List.mem_singleton.mp hx; exact ⟨F.1.lt, hsf a (List.mem_singleton.mpr rfl)⟩) (by decide) (by decide) (by rw [hml]; rfl) [(.ref b), (.int (0 : Int32)), (.int (0 : Int32)), .null] [] (lenOf own_pd182 rfl) rfl rfl (Nat.le_refl _) (hb hby own_d181) (by decide) (by decide) 9 rfl (fun v126 vm126 T126 h126 S126 Q126 R126 => ?_)
  obtain ⟨rfl, f126, k126⟩ := Q126
  show Goes _ _ _ _ T126 (mkF m 9 #[.val (.ref a), .val (.ref b)] [])
  exact S126.vret hx hlk hret (hb hby own_d183) ⟨rfl, f126, k126⟩ (by decide) (by decide)
theorem own_ef193 (m : MethodId) (x0 : Int32) (x1 : Int32) (x2 : Int32) (x3 : Int32) : entryFrame m #[(.int x0), (.int x1), (.int x2), (.int x3)] 5 = mkF m 0 #[.val (.int x0), .val (.int x1), .val (.int x2), .val (.int x3), .unset] [] := by first | (simp [entryFrame, mkF, argsToLocals, Value.category]; done) | rfl
theorem own_d194 : decode method_3_code 0 = .ok (.iload_n 0, 1) := by decide +kernel
theorem own_d195 : decode method_3_code 1 = .ok (.newarray .char, 2) := by decide +kernel
theorem own_d196 : decode method_3_code 3 = .ok (.astore 4, 2) := by decide +kernel
theorem own_d197 : decode method_3_code 5 = .ok (.iload_n 0, 1) := by decide +kernel
theorem own_d198 : decode method_3_code 6 = .ok (.ifCond .le 8, 3) := by decide +kernel
theorem own_d199 : decode method_3_code 14 = .ok (.iload_n 0, 1) := by decide +kernel
theorem own_d200 : decode method_3_code 15 = .ok (.iconst 1, 1) := by decide +kernel
theorem own_d201 : decode method_3_code 16 = .ok (.if_icmp .le 8, 3) := by decide +kernel
theorem own_d202 : decode method_3_code 24 = .ok (.iload_n 0, 1) := by decide +kernel
theorem own_d203 : decode method_3_code 25 = .ok (.iconst 2, 1) := by decide +kernel
theorem own_d204 : decode method_3_code 26 = .ok (.if_icmp .le 8, 3) := by decide +kernel
theorem own_d205 : decode method_3_code 34 = .ok (.new 7, 3) := by decide +kernel
theorem own_d206 : decode method_3_code 37 = .ok (.dup, 1) := by decide +kernel
theorem own_d207 : decode method_3_code 38 = .ok (.aload 4, 2) := by decide +kernel
theorem own_d208 : decode method_3_code 40 = .ok (.invokespecial 9, 3) := by decide +kernel
theorem own_pd209 : parseMethodDescriptor "([C)V" = some ⟨[(.array .char)], none⟩ := by decide +kernel
theorem own_d210 : decode method_3_code 43 = .ok (.areturn, 1) := by decide +kernel
theorem own_pn211 : plainName "com/example/wirecall/wirecall/FrameWireBytesPinLaw" = true := by first | (simp [plainName, overriddenIn]; done) | decide +kernel
set_option maxRecDepth 65536 in
set_option maxHeartbeats 40000000 in
theorem ctStr0 (l : Launch) (Z : State) (a0 : Array Value) (hw : ∀ d ∈ tables_1, d.before a0 Z = true) (c1 c2 c3 : Int32) (h : Heap) (O : Old Z Z.heap.size h) (G : own_cs Z) (H : own_h16 Z) (k1 : 0 ≤ c1.toInt ∧ c1.toInt ≤ 32767) (k2 : 0 ≤ c2.toInt ∧ c2.toInt ≤ 32767) (k3 : 0 ≤ c3.toInt ∧ c3.toInt ≤ 32767) :
    Ct 1 l Z consts_1 [] (⟨"com/example/wirecall/wirecall/FrameWireBytesPinLaw", "str", "(ICCC)Ljava/lang/String;"⟩ : MethodName) method_3_code 5 (some (.object "java/lang/String")) ({ frames := 6, cells := 6, slots := 16, locals := 110 } : Room) #[(.int (0 : Int32)), (.int c1), (.int c2), (.int c3)] h (fun v h' => ∃ x : Addr, v = some (.ref x) ∧ own_txt Z h' x [] ∧ Ext h h') := by
  refine Ct.intro (plainFor_of_name own_pn211) O (fun q => by cases q) ⟨a0, own_ew hw⟩ ?_
  intro p e s m below meth c T0 hx hby hml hret hnm hlk hsf S0
  refine Goes.cast (own_ef193 m (0 : Int32) c1 c2 c3) ?_
  refine g_iloadN S0.here hx (hb hby own_d194) rfl 1 rfl ?_
  refine S0.newA (aty := .char) hx (own_q12 hw) (n := (0 : Int32)) (by decide) (cap := 0) (by decide) (by decide) (hb hby own_d195) (by decide) (by decide) 3 rfl (fun T127 h127 a k127 S127 g127 E V127 F127 R127 => ?_)
  have A : Arv Z h127 a k127 .char (0 : Int32) [] (.int 0) := V127
  have gz : Z.heap.size ≤ a := by rw [g127]; exact S0.size
  have ga : h.size ≤ a := Nat.le_of_eq g127.symm
  refine g_astore S127.here hx (hb hby own_d196) rfl #[.val (.int (0 : Int32)), .val (.int c1), .val (.int c2), .val (.int c3), .val (.ref a)] rfl 5 rfl ?_
  refine g_iloadN S127.here hx (hb hby own_d197) rfl 6 rfl ?_
  refine g_ifT S127.here hx (hb hby own_d198) 0 (by decide) (by show 0 ≤ 0; decide) 14 (by decide) (by decide) ?_
  refine g_iloadN S127.here hx (hb hby own_d199) rfl 15 rfl ?_
  refine g_iconst S127.here hx (hb hby own_d200) (1 : Int32) (by decide) 16 rfl ?_
  refine g_icmpT S127.here hx (hb hby own_d201) 0 1 (by decide) (by decide) (by show 0 ≤ 1; decide) 24 (by decide) (by decide) ?_
  refine g_iloadN S127.here hx (hb hby own_d202) rfl 25 rfl ?_
  refine g_iconst S127.here hx (hb hby own_d203) (2 : Int32) (by decide) 26 rfl ?_
  refine g_icmpT S127.here hx (hb hby own_d204) 0 2 (by decide) (by decide) (by show 0 ≤ 2; decide) 34 (by decide) (by decide) ?_
  refine S127.new hx (own_q13 hw) (own_q14 hw) (own_q15 hw) (hb hby own_d205) (by decide) (by decide) 37 rfl (fun T128 h128 x S128 g128 E128 A128 D128 F128 R128 U128 => ?_)
  have ga128 : Z.heap.size ≤ x := by rw [g128]; exact S127.size
  have r : own_raw Z h128 x := ⟨A128, ⟨_, D128 (Or.inr (own_q41 hw)) (ty := .array .byte) (by decide)⟩, _, D128 (Or.inr (own_q39 hw)) (ty := .byte) (by decide)⟩
  have gx : h.size ≤ x := by rw [g128]; exact E.1
  have A := A.ext E128
  have E := own_ext_trans E E128
  refine g_dup S128.here hx (hb hby own_d206) rfl 38 rfl ?_
  refine g_aload S128.here hx (hb hby own_d207) rfl rfl 40 rfl ?_
  refine S128.callI hx (W := 1) (a := x) rfl (own_q16 hw) (own_q17 hw) (own_q18 hw) (by decide) (own_q15 hw) (ctE1 l Z a0 hw x a _ _ _ h128 S128.old r ga128 A) (fun y hy => by cases List.mem_singleton.mp hy; exact ⟨r.1.lt, F128⟩) (by decide) (by decide) (by rw [hml]; rfl) [(.ref a)] [(.ref x)] (lenOf own_pd209 rfl) rfl rfl (Nat.le_refl _) (hb hby own_d208) (by decide) (by decide) 43 rfl (fun v129 vm129 T129 h129 S129 Q129 R129 => ?_)
  obtain ⟨rfl, B, K⟩ := Q129
  show Goes _ _ _ _ T129 (mkF m 43 #[.val (.int (0 : Int32)), .val (.int c1), .val (.int c2), .val (.int c3), .val (.ref a)] [(.ref x)])
  have E := own_ext_keep E K (fun y hy => by cases List.mem_singleton.mp hy; exact gx)
  exact S129.aret hx hlk hret rfl rfl rfl (hb hby own_d210) ⟨x, rfl, B, E⟩ (by decide) (by decide)
theorem own_d212 : decode method_3_code 9 = .ok (.aload 4, 2) := by decide +kernel
theorem own_d213 : decode method_3_code 11 = .ok (.iconst 0, 1) := by decide +kernel
theorem own_d214 : decode method_3_code 12 = .ok (.iload_n 1, 1) := by decide +kernel
theorem own_d215 : decode method_3_code 13 = .ok (.castore, 1) := by decide +kernel
set_option maxRecDepth 65536 in
set_option maxHeartbeats 40000000 in
theorem ctStr1 (l : Launch) (Z : State) (a0 : Array Value) (hw : ∀ d ∈ tables_1, d.before a0 Z = true) (c1 c2 c3 : Int32) (h : Heap) (O : Old Z Z.heap.size h) (G : own_cs Z) (H : own_h16 Z) (k1 : 0 ≤ c1.toInt ∧ c1.toInt ≤ 32767) (k2 : 0 ≤ c2.toInt ∧ c2.toInt ≤ 32767) (k3 : 0 ≤ c3.toInt ∧ c3.toInt ≤ 32767) :
    Ct 1 l Z consts_1 [] (⟨"com/example/wirecall/wirecall/FrameWireBytesPinLaw", "str", "(ICCC)Ljava/lang/String;"⟩ : MethodName) method_3_code 5 (some (.object "java/lang/String")) ({ frames := 6, cells := 6, slots := 16, locals := 110 } : Room) #[(.int (1 : Int32)), (.int c1), (.int c2), (.int c3)] h (fun v h' => ∃ x : Addr, v = some (.ref x) ∧ own_txt Z h' x [c1] ∧ Ext h h') := by
  refine Ct.intro (plainFor_of_name own_pn211) O (fun q => by cases q) ⟨a0, own_ew hw⟩ ?_
  intro p e s m below meth c T0 hx hby hml hret hnm hlk hsf S0
  refine Goes.cast (own_ef193 m (1 : Int32) c1 c2 c3) ?_
  refine g_iloadN S0.here hx (hb hby own_d194) rfl 1 rfl ?_
  refine S0.newA (aty := .char) hx (own_q12 hw) (n := (1 : Int32)) (by decide) (cap := 1) (by decide) (by decide) (hb hby own_d195) (by decide) (by decide) 3 rfl (fun T130 h130 a k130 S130 g130 E V130 F130 R130 => ?_)
  have A : Arv Z h130 a k130 .char (1 : Int32) [.int 0] (.int 0) := V130
  have gz : Z.heap.size ≤ a := by rw [g130]; exact S0.size
  have ga : h.size ≤ a := Nat.le_of_eq g130.symm
  refine g_astore S130.here hx (hb hby own_d196) rfl #[.val (.int (1 : Int32)), .val (.int c1), .val (.int c2), .val (.int c3), .val (.ref a)] rfl 5 rfl ?_
  refine g_iloadN S130.here hx (hb hby own_d197) rfl 6 rfl ?_
  refine g_ifF S130.here hx (hb hby own_d198) 1 (by decide) (by show ¬ (1 ≤ 0); decide) 9 rfl ?_
  refine g_aload S130.here hx (hb hby own_d212) rfl rfl 11 rfl ?_
  refine g_iconst S130.here hx (hb hby own_d213) (0 : Int32) (by decide) 12 rfl ?_
  refine g_iloadN S130.here hx (hb hby own_d214) rfl 13 rfl ?_
  refine S130.stC hx A 0 ⟨by decide, by decide⟩ (by decide) (by simp) gz c1 (own_nar (own_b15 k1)) (hb hby own_d215) 14 rfl (fun T131 h131 S131 W131 V131 R131 => ?_)
  have A : Arv Z h131 a k130 .char (1 : Int32) [.int c1] (.int 0) := V131
  have E := own_ext_wr E W131 ga
  refine g_iloadN S131.here hx (hb hby own_d199) rfl 15 rfl ?_
  refine g_iconst S131.here hx (hb hby own_d200) (1 : Int32) (by decide) 16 rfl ?_
  refine g_icmpT S131.here hx (hb hby own_d201) 1 1 (by decide) (by decide) (by show 1 ≤ 1; decide) 24 (by decide) (by decide) ?_
  refine g_iloadN S131.here hx (hb hby own_d202) rfl 25 rfl ?_
  refine g_iconst S131.here hx (hb hby own_d203) (2 : Int32) (by decide) 26 rfl ?_
  refine g_icmpT S131.here hx (hb hby own_d204) 1 2 (by decide) (by decide) (by show 1 ≤ 2; decide) 34 (by decide) (by decide) ?_
  refine S131.new hx (own_q13 hw) (own_q14 hw) (own_q15 hw) (hb hby own_d205) (by decide) (by decide) 37 rfl (fun T132 h132 x S132 g132 E132 A132 D132 F132 R132 U132 => ?_)
  have ga132 : Z.heap.size ≤ x := by rw [g132]; exact S131.size
  have r : own_raw Z h132 x := ⟨A132, ⟨_, D132 (Or.inr (own_q41 hw)) (ty := .array .byte) (by decide)⟩, _, D132 (Or.inr (own_q39 hw)) (ty := .byte) (by decide)⟩
  have gx : h.size ≤ x := by rw [g132]; exact E.1
  have A := A.ext E132
  have E := own_ext_trans E E132
  refine g_dup S132.here hx (hb hby own_d206) rfl 38 rfl ?_
  refine g_aload S132.here hx (hb hby own_d207) rfl rfl 40 rfl ?_
  refine S132.callIN hx (W := 1) (a := x) rfl (own_q16 hw) (own_q17 hw) (own_q18 hw) (by decide) (ctBack (s := s.setVm s.vm) (ctN11 l Z a0 hw x a _ c1 h132 S132.old G H k1 A r ga132) S132.warm (own_q18 hw) (own_q15 hw) (by decide) (by decide)) (fun v h' Lc r => ⟨r.2.1, r.2.2.1, CHr.keep r.1.2.2 (fun y hy => by cases List.mem_singleton.mp hy; exact F132) S132.chr.1⟩) (by rw [hml]; rfl) [(.ref a)] [(.ref x)] (lenOf own_pd209 rfl) rfl rfl (Nat.le_refl _) (hb hby own_d208) (by decide) (by decide) 43 rfl (fun v133 T133 h133 Lc133 S133 Q133 R133 => ?_)
  obtain ⟨rfl, B, K⟩ := Q133.1
  show Goes _ _ _ _ T133 (mkF m 43 #[.val (.int (1 : Int32)), .val (.int c1), .val (.int c2), .val (.int c3), .val (.ref a)] [(.ref x)])
  have E := own_ext_keep E K (fun y hy => by cases List.mem_singleton.mp hy; exact gx)
  exact S133.aret hx hlk hret rfl rfl rfl (hb hby own_d210) ⟨x, rfl, B, E⟩ (by decide) (by decide)
theorem own_d216 : decode method_3_code 19 = .ok (.aload 4, 2) := by decide +kernel
theorem own_d217 : decode method_3_code 21 = .ok (.iconst 1, 1) := by decide +kernel
theorem own_d218 : decode method_3_code 22 = .ok (.iload_n 2, 1) := by decide +kernel
theorem own_d219 : decode method_3_code 23 = .ok (.castore, 1) := by decide +kernel
set_option maxRecDepth 65536 in
set_option maxHeartbeats 40000000 in
theorem ctStr2 (l : Launch) (Z : State) (a0 : Array Value) (hw : ∀ d ∈ tables_1, d.before a0 Z = true) (c1 c2 c3 : Int32) (h : Heap) (O : Old Z Z.heap.size h) (G : own_cs Z) (H : own_h16 Z) (k1 : 0 ≤ c1.toInt ∧ c1.toInt ≤ 32767) (k2 : 0 ≤ c2.toInt ∧ c2.toInt ≤ 32767) (k3 : 0 ≤ c3.toInt ∧ c3.toInt ≤ 32767) :
    Ct 1 l Z consts_1 [] (⟨"com/example/wirecall/wirecall/FrameWireBytesPinLaw", "str", "(ICCC)Ljava/lang/String;"⟩ : MethodName) method_3_code 5 (some (.object "java/lang/String")) ({ frames := 6, cells := 6, slots := 16, locals := 110 } : Room) #[(.int (2 : Int32)), (.int c1), (.int c2), (.int c3)] h (fun v h' => ∃ x : Addr, v = some (.ref x) ∧ own_txt Z h' x [c1, c2] ∧ Ext h h') := by
  refine Ct.intro (plainFor_of_name own_pn211) O (fun q => by cases q) ⟨a0, own_ew hw⟩ ?_
  intro p e s m below meth c T0 hx hby hml hret hnm hlk hsf S0
  refine Goes.cast (own_ef193 m (2 : Int32) c1 c2 c3) ?_
  refine g_iloadN S0.here hx (hb hby own_d194) rfl 1 rfl ?_
  refine S0.newA (aty := .char) hx (own_q12 hw) (n := (2 : Int32)) (by decide) (cap := 2) (by decide) (by decide) (hb hby own_d195) (by decide) (by decide) 3 rfl (fun T134 h134 a k134 S134 g134 E V134 F134 R134 => ?_)
  have A : Arv Z h134 a k134 .char (2 : Int32) [.int 0, .int 0] (.int 0) := V134
  have gz : Z.heap.size ≤ a := by rw [g134]; exact S0.size
  have ga : h.size ≤ a := Nat.le_of_eq g134.symm
  refine g_astore S134.here hx (hb hby own_d196) rfl #[.val (.int (2 : Int32)), .val (.int c1), .val (.int c2), .val (.int c3), .val (.ref a)] rfl 5 rfl ?_
  refine g_iloadN S134.here hx (hb hby own_d197) rfl 6 rfl ?_
  refine g_ifF S134.here hx (hb hby own_d198) 2 (by decide) (by show ¬ (2 ≤ 0); decide) 9 rfl ?_
  refine g_aload S134.here hx (hb hby own_d212) rfl rfl 11 rfl ?_
  refine g_iconst S134.here hx (hb hby own_d213) (0 : Int32) (by decide) 12 rfl ?_
  refine g_iloadN S134.here hx (hb hby own_d214) rfl 13 rfl ?_
  refine S134.stC hx A 0 ⟨by decide, by decide⟩ (by decide) (by simp) gz c1 (own_nar (own_b15 k1)) (hb hby own_d215) 14 rfl (fun T135 h135 S135 W135 V135 R135 => ?_)
  have A : Arv Z h135 a k134 .char (2 : Int32) [.int c1, .int 0] (.int 0) := V135
  have E := own_ext_wr E W135 ga
  refine g_iloadN S135.here hx (hb hby own_d199) rfl 15 rfl ?_
  refine g_iconst S135.here hx (hb hby own_d200) (1 : Int32) (by decide) 16 rfl ?_
  refine g_icmpF S135.here hx (hb hby own_d201) 2 1 (by decide) (by decide) (by show ¬ (2 ≤ 1); decide) 19 rfl ?_
  refine g_aload S135.here hx (hb hby own_d216) rfl rfl 21 rfl ?_
  refine g_iconst S135.here hx (hb hby own_d217) (1 : Int32) (by decide) 22 rfl ?_
  refine g_iloadN S135.here hx (hb hby own_d218) rfl 23 rfl ?_
  refine S135.stC hx A 1 ⟨by decide, by decide⟩ (by decide) (by simp) gz c2 (own_nar (own_b15 k2)) (hb hby own_d219) 24 rfl (fun T136 h136 S136 W136 V136 R136 => ?_)
  have A : Arv Z h136 a k134 .char (2 : Int32) [.int c1, .int c2] (.int 0) := V136
  have E := own_ext_wr E W136 ga
  refine g_iloadN S136.here hx (hb hby own_d202) rfl 25 rfl ?_
  refine g_iconst S136.here hx (hb hby own_d203) (2 : Int32) (by decide) 26 rfl ?_
  refine g_icmpT S136.here hx (hb hby own_d204) 2 2 (by decide) (by decide) (by show 2 ≤ 2; decide) 34 (by decide) (by decide) ?_
  refine S136.new hx (own_q13 hw) (own_q14 hw) (own_q15 hw) (hb hby own_d205) (by decide) (by decide) 37 rfl (fun T137 h137 x S137 g137 E137 A137 D137 F137 R137 U137 => ?_)
  have ga137 : Z.heap.size ≤ x := by rw [g137]; exact S136.size
  have r : own_raw Z h137 x := ⟨A137, ⟨_, D137 (Or.inr (own_q41 hw)) (ty := .array .byte) (by decide)⟩, _, D137 (Or.inr (own_q39 hw)) (ty := .byte) (by decide)⟩
  have gx : h.size ≤ x := by rw [g137]; exact E.1
  have A := A.ext E137
  have E := own_ext_trans E E137
  refine g_dup S137.here hx (hb hby own_d206) rfl 38 rfl ?_
  refine g_aload S137.here hx (hb hby own_d207) rfl rfl 40 rfl ?_
  refine S137.callIN hx (W := 1) (a := x) rfl (own_q16 hw) (own_q17 hw) (own_q18 hw) (by decide) (ctBack (s := s.setVm s.vm) (ctN12 l Z a0 hw x a _ c1 c2 h137 S137.old G H k1 k2 A r ga137) S137.warm (own_q18 hw) (own_q15 hw) (by decide) (by decide)) (fun v h' Lc r => ⟨r.2.1, r.2.2.1, CHr.keep r.1.2.2 (fun y hy => by cases List.mem_singleton.mp hy; exact F137) S137.chr.1⟩) (by rw [hml]; rfl) [(.ref a)] [(.ref x)] (lenOf own_pd209 rfl) rfl rfl (Nat.le_refl _) (hb hby own_d208) (by decide) (by decide) 43 rfl (fun v138 T138 h138 Lc138 S138 Q138 R138 => ?_)
  obtain ⟨rfl, B, K⟩ := Q138.1
  show Goes _ _ _ _ T138 (mkF m 43 #[.val (.int (2 : Int32)), .val (.int c1), .val (.int c2), .val (.int c3), .val (.ref a)] [(.ref x)])
  have E := own_ext_keep E K (fun y hy => by cases List.mem_singleton.mp hy; exact gx)
  exact S138.aret hx hlk hret rfl rfl rfl (hb hby own_d210) ⟨x, rfl, B, E⟩ (by decide) (by decide)
theorem own_d220 : decode method_3_code 29 = .ok (.aload 4, 2) := by decide +kernel
theorem own_d221 : decode method_3_code 31 = .ok (.iconst 2, 1) := by decide +kernel
theorem own_d222 : decode method_3_code 32 = .ok (.iload_n 3, 1) := by decide +kernel
theorem own_d223 : decode method_3_code 33 = .ok (.castore, 1) := by decide +kernel
set_option maxRecDepth 65536 in
set_option maxHeartbeats 40000000 in
theorem ctStr3 (l : Launch) (Z : State) (a0 : Array Value) (hw : ∀ d ∈ tables_1, d.before a0 Z = true) (c1 c2 c3 : Int32) (h : Heap) (O : Old Z Z.heap.size h) (G : own_cs Z) (H : own_h16 Z) (k1 : 0 ≤ c1.toInt ∧ c1.toInt ≤ 32767) (k2 : 0 ≤ c2.toInt ∧ c2.toInt ≤ 32767) (k3 : 0 ≤ c3.toInt ∧ c3.toInt ≤ 32767) :
    Ct 1 l Z consts_1 [] (⟨"com/example/wirecall/wirecall/FrameWireBytesPinLaw", "str", "(ICCC)Ljava/lang/String;"⟩ : MethodName) method_3_code 5 (some (.object "java/lang/String")) ({ frames := 6, cells := 6, slots := 16, locals := 110 } : Room) #[(.int (3 : Int32)), (.int c1), (.int c2), (.int c3)] h (fun v h' => ∃ x : Addr, v = some (.ref x) ∧ own_txt Z h' x [c1, c2, c3] ∧ Ext h h') := by
  refine Ct.intro (plainFor_of_name own_pn211) O (fun q => by cases q) ⟨a0, own_ew hw⟩ ?_
  intro p e s m below meth c T0 hx hby hml hret hnm hlk hsf S0
  refine Goes.cast (own_ef193 m (3 : Int32) c1 c2 c3) ?_
  refine g_iloadN S0.here hx (hb hby own_d194) rfl 1 rfl ?_
  refine S0.newA (aty := .char) hx (own_q12 hw) (n := (3 : Int32)) (by decide) (cap := 3) (by decide) (by decide) (hb hby own_d195) (by decide) (by decide) 3 rfl (fun T139 h139 a k139 S139 g139 E V139 F139 R139 => ?_)
  have A : Arv Z h139 a k139 .char (3 : Int32) [.int 0, .int 0, .int 0] (.int 0) := V139
  have gz : Z.heap.size ≤ a := by rw [g139]; exact S0.size
  have ga : h.size ≤ a := Nat.le_of_eq g139.symm
  refine g_astore S139.here hx (hb hby own_d196) rfl #[.val (.int (3 : Int32)), .val (.int c1), .val (.int c2), .val (.int c3), .val (.ref a)] rfl 5 rfl ?_
  refine g_iloadN S139.here hx (hb hby own_d197) rfl 6 rfl ?_
  refine g_ifF S139.here hx (hb hby own_d198) 3 (by decide) (by show ¬ (3 ≤ 0); decide) 9 rfl ?_
  refine g_aload S139.here hx (hb hby own_d212) rfl rfl 11 rfl ?_
  refine g_iconst S139.here hx (hb hby own_d213) (0 : Int32) (by decide) 12 rfl ?_
  refine g_iloadN S139.here hx (hb hby own_d214) rfl 13 rfl ?_
  refine S139.stC hx A 0 ⟨by decide, by decide⟩ (by decide) (by simp) gz c1 (own_nar (own_b15 k1)) (hb hby own_d215) 14 rfl (fun T140 h140 S140 W140 V140 R140 => ?_)
  have A : Arv Z h140 a k139 .char (3 : Int32) [.int c1, .int 0, .int 0] (.int 0) := V140
  have E := own_ext_wr E W140 ga
  refine g_iloadN S140.here hx (hb hby own_d199) rfl 15 rfl ?_
  refine g_iconst S140.here hx (hb hby own_d200) (1 : Int32) (by decide) 16 rfl ?_
  refine g_icmpF S140.here hx (hb hby own_d201) 3 1 (by decide) (by decide) (by show ¬ (3 ≤ 1); decide) 19 rfl ?_
  refine g_aload S140.here hx (hb hby own_d216) rfl rfl 21 rfl ?_
  refine g_iconst S140.here hx (hb hby own_d217) (1 : Int32) (by decide) 22 rfl ?_
  refine g_iloadN S140.here hx (hb hby own_d218) rfl 23 rfl ?_
  refine S140.stC hx A 1 ⟨by decide, by decide⟩ (by decide) (by simp) gz c2 (own_nar (own_b15 k2)) (hb hby own_d219) 24 rfl (fun T141 h141 S141 W141 V141 R141 => ?_)
  have A : Arv Z h141 a k139 .char (3 : Int32) [.int c1, .int c2, .int 0] (.int 0) := V141
  have E := own_ext_wr E W141 ga
  refine g_iloadN S141.here hx (hb hby own_d202) rfl 25 rfl ?_
  refine g_iconst S141.here hx (hb hby own_d203) (2 : Int32) (by decide) 26 rfl ?_
  refine g_icmpF S141.here hx (hb hby own_d204) 3 2 (by decide) (by decide) (by show ¬ (3 ≤ 2); decide) 29 rfl ?_
  refine g_aload S141.here hx (hb hby own_d220) rfl rfl 31 rfl ?_
  refine g_iconst S141.here hx (hb hby own_d221) (2 : Int32) (by decide) 32 rfl ?_
  refine g_iloadN S141.here hx (hb hby own_d222) rfl 33 rfl ?_
  refine S141.stC hx A 2 ⟨by decide, by decide⟩ (by decide) (by simp) gz c3 (own_nar (own_b15 k3)) (hb hby own_d223) 34 rfl (fun T142 h142 S142 W142 V142 R142 => ?_)
  have A : Arv Z h142 a k139 .char (3 : Int32) [.int c1, .int c2, .int c3] (.int 0) := V142
  have E := own_ext_wr E W142 ga
  refine S142.new hx (own_q13 hw) (own_q14 hw) (own_q15 hw) (hb hby own_d205) (by decide) (by decide) 37 rfl (fun T143 h143 x S143 g143 E143 A143 D143 F143 R143 U143 => ?_)
  have ga143 : Z.heap.size ≤ x := by rw [g143]; exact S142.size
  have r : own_raw Z h143 x := ⟨A143, ⟨_, D143 (Or.inr (own_q41 hw)) (ty := .array .byte) (by decide)⟩, _, D143 (Or.inr (own_q39 hw)) (ty := .byte) (by decide)⟩
  have gx : h.size ≤ x := by rw [g143]; exact E.1
  have A := A.ext E143
  have E := own_ext_trans E E143
  refine g_dup S143.here hx (hb hby own_d206) rfl 38 rfl ?_
  refine g_aload S143.here hx (hb hby own_d207) rfl rfl 40 rfl ?_
  refine S143.callIN hx (W := 1) (a := x) rfl (own_q16 hw) (own_q17 hw) (own_q18 hw) (by decide) (ctBack (s := s.setVm s.vm) (ctN13 l Z a0 hw x a _ c1 c2 c3 h143 S143.old G H k1 k2 k3 A r ga143) S143.warm (own_q18 hw) (own_q15 hw) (by decide) (by decide)) (fun v h' Lc r => ⟨r.2.1, r.2.2.1, CHr.keep r.1.2.2 (fun y hy => by cases List.mem_singleton.mp hy; exact F143) S143.chr.1⟩) (by rw [hml]; rfl) [(.ref a)] [(.ref x)] (lenOf own_pd209 rfl) rfl rfl (Nat.le_refl _) (hb hby own_d208) (by decide) (by decide) 43 rfl (fun v144 T144 h144 Lc144 S144 Q144 R144 => ?_)
  obtain ⟨rfl, B, K⟩ := Q144.1
  show Goes _ _ _ _ T144 (mkF m 43 #[.val (.int (3 : Int32)), .val (.int c1), .val (.int c2), .val (.int c3), .val (.ref a)] [(.ref x)])
  have E := own_ext_keep E K (fun y hy => by cases List.mem_singleton.mp hy; exact gx)
  exact S144.aret hx hlk hret rfl rfl rfl (hb hby own_d210) ⟨x, rfl, B, E⟩ (by decide) (by decide)
def own_tk (n : Int32) (c1 c2 c3 : Int32) : List Int32 := if n = 0 then [] else if n = 1 then [c1] else if n = 2 then [c1, c2] else [c1, c2, c3]
theorem own_c4 {n : Int32} (h : 0 ≤ n.toInt ∧ n.toInt ≤ 3) : n = 0 ∨ n = 1 ∨ n = 2 ∨ n = 3 := by
  have e0 : (0 : Int32).toInt = 0 := by decide
  have e1 : (1 : Int32).toInt = 1 := by decide
  have e2 : (2 : Int32).toInt = 2 := by decide
  have e3 : (3 : Int32).toInt = 3 := by decide
  have : n.toInt = 0 ∨ n.toInt = 1 ∨ n.toInt = 2 ∨ n.toInt = 3 := by omega
  rcases this with q | q | q | q
  · exact Or.inl (Int32.toInt_inj.mp (q.trans e0.symm))
  · exact Or.inr (Or.inl (Int32.toInt_inj.mp (q.trans e1.symm)))
  · exact Or.inr (Or.inr (Or.inl (Int32.toInt_inj.mp (q.trans e2.symm))))
  · exact Or.inr (Or.inr (Or.inr (Int32.toInt_inj.mp (q.trans e3.symm))))
theorem ctStr (l : Launch) (Z : State) (a0 : Array Value) (hw : ∀ d ∈ tables_1, d.before a0 Z = true) (n c1 c2 c3 : Int32) (h : Heap) (O : Old Z Z.heap.size h) (G : own_cs Z) (H : own_h16 Z) (k1 : 0 ≤ c1.toInt ∧ c1.toInt ≤ 32767) (k2 : 0 ≤ c2.toInt ∧ c2.toInt ≤ 32767) (k3 : 0 ≤ c3.toInt ∧ c3.toInt ≤ 32767) (hn : 0 ≤ n.toInt ∧ n.toInt ≤ 3) :
    Ct 1 l Z consts_1 [] (⟨"com/example/wirecall/wirecall/FrameWireBytesPinLaw", "str", "(ICCC)Ljava/lang/String;"⟩ : MethodName) method_3_code 5 (some (.object "java/lang/String")) ({ frames := 6, cells := 6, slots := 16, locals := 110 } : Room) #[(.int n), (.int c1), (.int c2), (.int c3)] h (fun v h' => ∃ x : Addr, v = some (.ref x) ∧ own_txt Z h' x (own_tk n c1 c2 c3) ∧ Ext h h') := by
  rcases own_c4 hn with rfl | rfl | rfl | rfl
  · exact ctStr0 l Z a0 hw c1 c2 c3 h O G H k1 k2 k3
  · exact ctStr1 l Z a0 hw c1 c2 c3 h O G H k1 k2 k3
  · exact ctStr2 l Z a0 hw c1 c2 c3 h O G H k1 k2 k3
  · exact ctStr3 l Z a0 hw c1 c2 c3 h O G H k1 k2 k3
theorem own_ef224 (m : MethodId) (x0 : Addr) : entryFrame m #[(.ref x0)] 1 = mkF m 0 #[.val (.ref x0)] [] := by first | (simp [entryFrame, mkF, argsToLocals, Value.category]; done) | rfl
theorem own_d225 : decode jdk_42_method_152_code 0 = .ok (.getstatic 38, 3) := by decide +kernel
theorem own_d226 : decode jdk_42_method_152_code 3 = .ok (.ifCond .eq 10, 3) := by decide +kernel
theorem own_d227 : decode jdk_42_method_152_code 6 = .ok (.aload_n 0, 1) := by decide +kernel
theorem own_d228 : decode jdk_42_method_152_code 7 = .ok (.getfield 15, 3) := by decide +kernel
theorem own_d229 : decode jdk_42_method_152_code 10 = .ok (.goto 4, 3) := by decide +kernel
theorem own_d230 : decode jdk_42_method_152_code 14 = .ok (.ireturn, 1) := by decide +kernel
set_option maxRecDepth 65536 in
set_option maxHeartbeats 40000000 in
theorem ctCo0 (l : Launch) (Z : State) (a0 : Array Value) (hw : ∀ d ∈ tables_1, d.before a0 Z = true) (a : Addr) (h : Heap) (O : Old Z Z.heap.size h) (G : own_cs Z) (F : Fld Z h a "java/lang/String" "coder" "B" (.int 0)) :
    Ct 0 l Z [] [] (⟨"java/lang/String", "coder", "()B"⟩ : MethodName) jdk_42_method_152_code 1 (some .byte) ({ frames := 0, cells := 0, slots := 0, locals := 0 } : Room) #[(.ref a)] h (fun v h' => v = some (.int (0 : Int32)) ∧ h = h') := by
  refine Ct.intro (plainFor_of_name own_pn173) O (fun _ => rfl) ⟨a0, EW.nil⟩ ?_
  intro p e s m below meth c T0 hx hby hml hret hnm hlk hsf S0
  refine Goes.cast (own_ef224 m a) ?_
  obtain ⟨z, g1, g2⟩ := G
  refine S0.getS hx (host := "") (Or.inl (own_q26 hw)) Via.refl (g1.ext O.2) (hb hby own_d225) 3 rfl (fun T145 S145 => ?_)
  refine g_ifF S145.here hx (hb hby own_d226) z.toInt rfl (show ¬ (z.toInt = 0) from own_nz g2) 6 rfl ?_
  refine g_aloadN S145.here hx (hb hby own_d227) rfl rfl 7 rfl ?_
  refine S145.getF hx (host := "") (Or.inl (own_q38 hw)) Via.refl F (hb hby own_d228) 10 rfl (fun T146 S146 => ?_)
  refine g_goto S146.here hx (hb hby own_d229) 14 (by decide) (by decide) ?_
  exact S146.iret hx hlk hret (Or.inr (Or.inr (Or.inl rfl))) rfl (hb hby own_d230) ⟨rfl, rfl⟩ (by decide) (by decide)
set_option maxRecDepth 65536 in
set_option maxHeartbeats 40000000 in
theorem ctCo1 (l : Launch) (Z : State) (a0 : Array Value) (hw : ∀ d ∈ tables_1, d.before a0 Z = true) (a : Addr) (h : Heap) (O : Old Z Z.heap.size h) (G : own_cs Z) (F : Fld Z h a "java/lang/String" "coder" "B" (.int 1)) :
    Ct 0 l Z [] [] (⟨"java/lang/String", "coder", "()B"⟩ : MethodName) jdk_42_method_152_code 1 (some .byte) ({ frames := 0, cells := 0, slots := 0, locals := 0 } : Room) #[(.ref a)] h (fun v h' => v = some (.int (1 : Int32)) ∧ h = h') := by
  refine Ct.intro (plainFor_of_name own_pn173) O (fun _ => rfl) ⟨a0, EW.nil⟩ ?_
  intro p e s m below meth c T0 hx hby hml hret hnm hlk hsf S0
  refine Goes.cast (own_ef224 m a) ?_
  obtain ⟨z, g1, g2⟩ := G
  refine S0.getS hx (host := "") (Or.inl (own_q26 hw)) Via.refl (g1.ext O.2) (hb hby own_d225) 3 rfl (fun T147 S147 => ?_)
  refine g_ifF S147.here hx (hb hby own_d226) z.toInt rfl (show ¬ (z.toInt = 0) from own_nz g2) 6 rfl ?_
  refine g_aloadN S147.here hx (hb hby own_d227) rfl rfl 7 rfl ?_
  refine S147.getF hx (host := "") (Or.inl (own_q38 hw)) Via.refl F (hb hby own_d228) 10 rfl (fun T148 S148 => ?_)
  refine g_goto S148.here hx (hb hby own_d229) 14 (by decide) (by decide) ?_
  exact S148.iret hx hlk hret (Or.inr (Or.inr (Or.inl rfl))) rfl (hb hby own_d230) ⟨rfl, rfl⟩ (by decide) (by decide)
theorem own_ef231 (m : MethodId) (x0 : Int32) (x1 : Int32) : entryFrame m #[(.int x0), (.int x1)] 2 = mkF m 0 #[.val (.int x0), .val (.int x1)] [] := by first | (simp [entryFrame, mkF, argsToLocals, Value.category]; done) | rfl
theorem own_d232 : decode jdk_29_method_69_code 0 = .ok (.iload_n 0, 1) := by decide +kernel
theorem own_d233 : decode jdk_29_method_69_code 1 = .ok (.iload_n 1, 1) := by decide +kernel
theorem own_d234 : decode jdk_29_method_69_code 2 = .ok (.if_icmp .gt 7, 3) := by decide +kernel
theorem own_d235 : decode jdk_29_method_69_code 9 = .ok (.iload_n 1, 1) := by decide +kernel
theorem own_d236 : decode jdk_29_method_69_code 10 = .ok (.ireturn, 1) := by decide +kernel
theorem own_d237 : decode jdk_29_method_69_code 5 = .ok (.iload_n 0, 1) := by decide +kernel
theorem own_d238 : decode jdk_29_method_69_code 6 = .ok (.goto 4, 3) := by decide +kernel
set_option maxRecDepth 65536 in
set_option maxHeartbeats 40000000 in
theorem ctMin (l : Launch) (Z : State) (a0 : Array Value) (hw : ∀ d ∈ tables_1, d.before a0 Z = true) (p1 p2 : Int32) (h : Heap) (O : Old Z Z.heap.size h) (hp : p2.toInt ≤ p1.toInt) :
    Ct 0 l Z [] [] (⟨"java/lang/Math", "min", "(II)I"⟩ : MethodName) jdk_29_method_69_code 2 (some .int) ({ frames := 0, cells := 0, slots := 0, locals := 0 } : Room) #[(.int p1), (.int p2)] h (fun v h' => v = some (.int p2) ∧ h = h') := by
  refine Ct.intro (Jvm.Free.JP.mathPlain rfl (by decide +kernel)) O (fun _ => rfl) ⟨a0, EW.nil⟩ ?_
  intro p e s m below meth c T0 hx hby hml hret hnm hlk hsf S0
  refine Goes.cast (own_ef231 m p1 p2) ?_
  refine g_iloadN S0.here hx (hb hby own_d232) rfl 1 rfl ?_
  refine g_iloadN S0.here hx (hb hby own_d233) rfl 2 rfl ?_
  refine g_icmp S0.here hx (hb hby own_d234) p1.toInt p2.toInt rfl rfl 9 5 (by decide) (by decide) rfl (fun (hc2 : p2.toInt < p1.toInt) => ?_) (fun (hc2 : ¬ (p2.toInt < p1.toInt)) => ?_)
  · refine g_iloadN S0.here hx (hb hby own_d235) rfl 10 rfl ?_
    exact S0.iret hx hlk hret (Or.inl rfl) rfl (hb hby own_d236) ⟨rfl, rfl⟩ (by decide) (by decide)
  · refine g_iloadN S0.here hx (hb hby own_d237) rfl 6 rfl ?_
    refine g_goto S0.here hx (hb hby own_d238) 10 (by decide) (by decide) ?_
    exact S0.iret hx hlk hret (Or.inl rfl) rfl (hb hby own_d236) ⟨by rw [show p1 = p2 from Int32.toInt_inj.mp (by omega)], rfl⟩ (by decide) (by decide)
theorem own_d239 : decode jdk_89_method_16_code 0 = .ok (.iload_n 0, 1) := by decide +kernel
theorem own_d240 : decode jdk_89_method_16_code 1 = .ok (.ldc 75, 2) := by decide +kernel
theorem own_d241 : decode jdk_89_method_16_code 3 = .ok (.if_icmp .lt 13, 3) := by decide +kernel
theorem own_d242 : decode jdk_89_method_16_code 16 = .ok (.iconst 0, 1) := by decide +kernel
theorem own_d243 : decode jdk_89_method_16_code 17 = .ok (.ireturn, 1) := by decide +kernel
theorem own_pn244 : plainName "java/lang/Character" = true := by first | (simp [plainName, overriddenIn]; done) | decide +kernel
set_option maxRecDepth 65536 in
set_option maxHeartbeats 40000000 in
theorem ctSu (l : Launch) (Z : State) (a0 : Array Value) (hw : ∀ d ∈ tables_1, d.before a0 Z = true) (ch : Int32) (h : Heap) (O : Old Z Z.heap.size h) (k : ch.toInt ≤ 32767) :
    Ct 0 l Z [] [] (⟨"java/lang/Character", "isSurrogate", "(C)Z"⟩ : MethodName) jdk_89_method_16_code 1 (some .boolean) ({ frames := 0, cells := 0, slots := 0, locals := 0 } : Room) #[(.int ch)] h (fun v h' => v = some (.int (0 : Int32)) ∧ h = h') := by
  refine Ct.intro (plainFor_of_name own_pn244) O (fun _ => rfl) ⟨a0, EW.nil⟩ ?_
  intro p e s m below meth c T0 hx hby hml hret hnm hlk hsf S0
  refine Goes.cast (own_ef27 m ch) ?_
  refine g_iloadN S0.here hx (hb hby own_d239) rfl 1 rfl ?_
  refine S0.ldcI hx (own_q149 hw) (hb hby own_d240) 3 rfl ?_
  refine g_icmpT S0.here hx (hb hby own_d241) ch.toInt 55296 rfl (by decide) (show ch.toInt < 55296 from by omega) 16 (by decide) (by decide) ?_
  refine g_iconst S0.here hx (hb hby own_d242) (0 : Int32) (by decide) 17 rfl ?_
  exact S0.iret hx hlk hret (Or.inr (Or.inl rfl)) rfl (hb hby own_d243) ⟨rfl, rfl⟩ (by decide) (by decide)
theorem own_ef245 (m : MethodId) (x0 : Addr) (x1 : Int32) : entryFrame m #[(.ref x0), (.int x1)] 3 = mkF m 0 #[.val (.ref x0), .val (.int x1), .unset] [] := by first | (simp [entryFrame, mkF, argsToLocals, Value.category]; done) | rfl
theorem own_d246 : decode jdk_65_method_121_code 0 = .ok (.iload_n 1, 1) := by decide +kernel
theorem own_d247 : decode jdk_65_method_121_code 1 = .ok (.aload_n 0, 1) := by decide +kernel
theorem own_d248 : decode jdk_65_method_121_code 2 = .ok (.arraylength, 1) := by decide +kernel
theorem own_d249 : decode jdk_65_method_121_code 3 = .ok (.if_icmp .ne 11, 3) := by decide +kernel
theorem own_d250 : decode jdk_65_method_121_code 14 = .ok (.iload_n 1, 1) := by decide +kernel
theorem own_d251 : decode jdk_65_method_121_code 15 = .ok (.newarray .byte, 2) := by decide +kernel
theorem own_d252 : decode jdk_65_method_121_code 17 = .ok (.astore_n 2, 1) := by decide +kernel
theorem own_d253 : decode jdk_65_method_121_code 18 = .ok (.aload_n 0, 1) := by decide +kernel
theorem own_d254 : decode jdk_65_method_121_code 19 = .ok (.iconst 0, 1) := by decide +kernel
theorem own_d255 : decode jdk_65_method_121_code 20 = .ok (.aload_n 2, 1) := by decide +kernel
theorem own_d256 : decode jdk_65_method_121_code 21 = .ok (.iconst 0, 1) := by decide +kernel
theorem own_d257 : decode jdk_65_method_121_code 22 = .ok (.aload_n 0, 1) := by decide +kernel
theorem own_d258 : decode jdk_65_method_121_code 23 = .ok (.arraylength, 1) := by decide +kernel
theorem own_d259 : decode jdk_65_method_121_code 24 = .ok (.iload_n 1, 1) := by decide +kernel
theorem own_d260 : decode jdk_65_method_121_code 25 = .ok (.invokestatic 304, 3) := by decide +kernel
theorem own_pd261 : parseMethodDescriptor "(II)I" = some ⟨[.int, .int], some .int⟩ := by decide +kernel
theorem own_d262 : decode jdk_65_method_121_code 28 = .ok (.invokestatic 150, 3) := by decide +kernel
theorem own_d263 : decode jdk_65_method_121_code 31 = .ok (.aload_n 2, 1) := by decide +kernel
theorem own_d264 : decode jdk_65_method_121_code 32 = .ok (.areturn, 1) := by decide +kernel
theorem own_pn265 : plainName "java/util/Arrays" = true := by first | (simp [plainName, overriddenIn]; done) | decide +kernel
set_option maxRecDepth 65536 in
set_option maxHeartbeats 40000000 in
theorem ctCp (l : Launch) (Z : State) (a0 : Array Value) (hw : ∀ d ∈ tables_1, d.before a0 Z = true) (b : Addr) (kb : ClassId) (z d : Int32) (vs : List Value) (h : Heap) (O : Old Z Z.heap.size h) (B : Arv Z h b kb .byte z vs (.int 0)) (hd : 0 ≤ d.toInt ∧ d.toInt < z.toInt) (hz : z.toInt ≤ 9) :
    Ct 0 l Z [] [] (⟨"java/util/Arrays", "copyOf", "([BI)[B"⟩ : MethodName) jdk_65_method_121_code 3 (some (.array .byte)) ({ frames := 1, cells := 1, slots := 9, locals := 40 } : Room) #[(.ref b), (.int d)] h (fun v h' => ∃ t : Addr, v = some (.ref t) ∧ Ext h h' ∧ own_enc Z h' t d.toInt) := by
  refine Ct.intro (plainFor_of_name own_pn265) O (fun _ => rfl) ⟨a0, EW.nil⟩ ?_
  intro p e s m below meth c T0 hx hby hml hret hnm hlk hsf S0
  refine Goes.cast (own_ef245 m b d) ?_
  refine g_iloadN S0.here hx (hb hby own_d246) rfl 1 rfl ?_
  refine g_aloadN S0.here hx (hb hby own_d247) rfl rfl 2 rfl ?_
  refine S0.len hx B (hb hby own_d248) 3 rfl ?_
  refine g_icmpT S0.here hx (hb hby own_d249) d.toInt z.toInt rfl rfl (show ¬ d.toInt = z.toInt from by omega) 14 (by decide) (by decide) ?_
  refine g_iloadN S0.here hx (hb hby own_d250) rfl 15 rfl ?_
  have ed := own_clamp hd.1
  have ez := own_clamp (j := z) (by omega)
  have e0 : (0 : Int32).toNatClampNeg = 0 := by decide
  refine S0.newA (aty := .byte) hx (own_q31 hw) (n := d) (own_nn hd.1) (cap := d.toNatClampNeg) (Nat.le_refl _) (by omega) (hb hby own_d251) (by decide) (show 0 + d.toNatClampNeg ≤ 9 by omega) 17 rfl (fun T149 h149 t k149 S149 g149 E V F149 R149 => ?_)
  have S149 := S149.more (k := 1) (n := 9) (by decide) (by show 0 + d.toNatClampNeg ≤ 9; omega)
  have gt : Z.heap.size ≤ t := by rw [g149]; exact S0.size
  have B := B.ext E
  refine g_astoreN S149.here hx (hb hby own_d252) rfl #[.val (.ref b), .val (.int d), .val (.ref t)] rfl 18 rfl ?_
  refine g_aloadN S149.here hx (hb hby own_d253) rfl rfl 19 rfl ?_
  refine g_iconst S149.here hx (hb hby own_d254) (0 : Int32) (by decide) 20 rfl ?_
  refine g_aloadN S149.here hx (hb hby own_d255) rfl rfl 21 rfl ?_
  refine g_iconst S149.here hx (hb hby own_d256) (0 : Int32) (by decide) 22 rfl ?_
  refine g_aloadN S149.here hx (hb hby own_d257) rfl rfl 23 rfl ?_
  refine S149.len hx B (hb hby own_d258) 24 rfl ?_
  refine g_iloadN S149.here hx (hb hby own_d259) rfl 25 rfl ?_
  refine S149.callS hx (W := 4) (own_q162 hw) (own_q163 hw) (own_q164 hw) (own_q165 hw) (by decide) (ctMin l Z a0 hw z d h149 S149.old (by omega)) nosf (by decide) (by decide) (by rw [hml]; rfl) [(.int z), (.int d)] [(.int (0 : Int32)), (.ref t), (.int (0 : Int32)), (.ref b)] (lenOf own_pd261 rfl) rfl rfl (Nat.le_refl _) (hb hby own_d260) (by decide) (by decide) 28 rfl (fun v150 vm150 T150 h150 S150 Q150 R150 => ?_)
  obtain ⟨rfl, rfl⟩ := Q150
  show Goes _ _ _ _ T150 (mkF m 28 #[.val (.ref b), .val (.int d), .val (.ref t)] [(.int d), (.int (0 : Int32)), (.ref t), (.int (0 : Int32)), (.ref b)])
  refine S150.cpB hx (own_q166 hw) (own_q169 hw) (own_q167 hw) (own_q168 hw) B V (us := (List.range d.toNatClampNeg).map fun i => vs.getD ((0 : Int32).toNatClampNeg + i) (.int 0)) (by decide) (by decide) (own_nn hd.1) (by rw [e0]; omega) (by rw [e0]; omega) rfl (by rw [e0, List.length_replicate]; omega) gt safe_nil (by rw [hml]; rfl) [] (hb hby own_d262) (by decide) (W := 0) (by decide) (by decide) 31 rfl (fun T151 h151 S151 K1 V1 R151 => ?_)
  have X := own_ext_keep E K1 (fun x hx => by cases List.mem_singleton.mp hx; exact Nat.le_of_eq g149.symm)
  refine g_aloadN S151.here hx (hb hby own_d263) rfl rfl 32 rfl ?_
  exact S151.aret hx hlk hret rfl rfl rfl (hb hby own_d264) ⟨t, rfl, X, _, _, _, V1, rfl⟩ (by decide) (by decide)
theorem own_d266 : decode jdk_123_method_3_code 0 = .ok (.iload_n 1, 1) := by decide +kernel
theorem own_d267 : decode jdk_123_method_3_code 1 = .ok (.iload_n 2, 1) := by decide +kernel
theorem own_d268 : decode jdk_123_method_3_code 2 = .ok (.iadd, 1) := by decide +kernel
theorem own_d269 : decode jdk_123_method_3_code 3 = .ok (.istore_n 3, 1) := by decide +kernel
theorem own_d270 : decode jdk_123_method_3_code 4 = .ok (.iload_n 1, 1) := by decide +kernel
theorem own_d271 : decode jdk_123_method_3_code 5 = .ok (.istore 4, 2) := by decide +kernel
theorem own_d272 : decode jdk_123_method_3_code 7 = .ok (.iload 4, 2) := by decide +kernel
theorem own_d273 : decode jdk_123_method_3_code 9 = .ok (.iload_n 3, 1) := by decide +kernel
theorem own_d274 : decode jdk_123_method_3_code 10 = .ok (.if_icmp .ge 21, 3) := by decide +kernel
theorem own_d275 : decode jdk_123_method_3_code 31 = .ok (.iload_n 2, 1) := by decide +kernel
theorem own_d276 : decode jdk_123_method_3_code 32 = .ok (.ireturn, 1) := by decide +kernel
theorem own_pn277 : plainName "java/lang/StringCoding" = true := by first | (simp [plainName, overriddenIn]; done) | decide +kernel
set_option maxRecDepth 65536 in
set_option maxHeartbeats 40000000 in
theorem ctCP0 (l : Launch) (Z : State) (a0 : Array Value) (hw : ∀ d ∈ tables_1, d.before a0 Z = true) (t : Addr) (kt : ClassId)  (h : Heap) (O : Old Z Z.heap.size h)  (B : Arv Z h t kt .byte (0 : Int32) [] (.int 0)) :
    Ct 0 l Z [] [] (⟨"java/lang/StringCoding", "countPositives", "([BII)I"⟩ : MethodName) jdk_123_method_3_code 5 (some .int) ({ frames := 0, cells := 0, slots := 0, locals := 0 } : Room) #[(.ref t), (.int (0 : Int32)), (.int (0 : Int32))] h (fun v h' => (v = some (.int 0) ∧ True) ∧ h = h') := by
  refine Ct.intro (plainFor_of_name own_pn277) O (fun _ => rfl) ⟨a0, EW.nil⟩ ?_
  intro p e s m below meth c T0 hx hby hml hret hnm hlk hsf S0
  refine Goes.cast (own_ef90 m t (0 : Int32) (0 : Int32)) ?_
  refine g_iloadN S0.here hx (hb hby own_d266) rfl 1 rfl ?_
  refine g_iloadN S0.here hx (hb hby own_d267) rfl 2 rfl ?_
  refine g_iadd S0.here hx (hb hby own_d268) 3 rfl ?_
  rw [show ((0 : Int32) + (0 : Int32)) = (0 : Int32) from by decide]
  refine g_istoreN S0.here hx (hb hby own_d269) #[.val (.ref t), .val (.int (0 : Int32)), .val (.int (0 : Int32)), .val (.int (0 : Int32)), .unset] rfl 4 rfl ?_
  refine g_iloadN S0.here hx (hb hby own_d270) rfl 5 rfl ?_
  refine g_istore S0.here hx (hb hby own_d271) #[.val (.ref t), .val (.int (0 : Int32)), .val (.int (0 : Int32)), .val (.int (0 : Int32)), .val (.int (0 : Int32))] rfl 7 rfl ?_
  refine g_iload S0.here hx (hb hby own_d272) rfl 9 rfl ?_
  refine g_iloadN S0.here hx (hb hby own_d273) rfl 10 rfl ?_
  refine g_icmpT S0.here hx (hb hby own_d274) 0 0 (by decide) (by decide) (by show 0 ≤ 0; decide) 31 (by decide) (by decide) ?_
  refine g_iloadN S0.here hx (hb hby own_d275) rfl 32 rfl ?_
  exact S0.iret hx hlk hret (Or.inl rfl) rfl (hb hby own_d276) ⟨⟨rfl, trivial⟩, rfl⟩ (by decide) (by decide)
theorem own_d278 : decode jdk_123_method_2_code 0 = .ok (.aload_n 0, 1) := by decide +kernel
theorem own_d279 : decode jdk_123_method_2_code 1 = .ok (.iload_n 1, 1) := by decide +kernel
theorem own_d280 : decode jdk_123_method_2_code 2 = .ok (.iload_n 2, 1) := by decide +kernel
theorem own_d281 : decode jdk_123_method_2_code 3 = .ok (.invokestatic 7, 3) := by decide +kernel
theorem own_pd282 : parseMethodDescriptor "([BII)I" = some ⟨[(.array .byte), .int, .int], some .int⟩ := by decide +kernel
theorem own_d283 : decode jdk_123_method_2_code 6 = .ok (.iload_n 2, 1) := by decide +kernel
theorem own_d284 : decode jdk_123_method_2_code 7 = .ok (.if_icmp .eq 7, 3) := by decide +kernel
theorem own_d285 : decode jdk_123_method_2_code 14 = .ok (.iconst 0, 1) := by decide +kernel
theorem own_d286 : decode jdk_123_method_2_code 15 = .ok (.ireturn, 1) := by decide +kernel
set_option maxRecDepth 65536 in
set_option maxHeartbeats 40000000 in
theorem ctHN0 (l : Launch) (Z : State) (a0 : Array Value) (hw : ∀ d ∈ tables_1, d.before a0 Z = true) (t : Addr) (kt : ClassId)  (h : Heap) (O : Old Z Z.heap.size h)  (B : Arv Z h t kt .byte (0 : Int32) [] (.int 0)) :
    Ct 0 l Z [] [] (⟨"java/lang/StringCoding", "hasNegatives", "([BII)Z"⟩ : MethodName) jdk_123_method_2_code 3 (some .boolean) ({ frames := 1, cells := 0, slots := 0, locals := 16 } : Room) #[(.ref t), (.int (0 : Int32)), (.int (0 : Int32))] h (fun v h' => (v = some (.int 0) ∧ True) ∧ h = h') := by
  refine Ct.intro (plainFor_of_name own_pn277) O (fun _ => rfl) ⟨a0, EW.nil⟩ ?_
  intro p e s m below meth c T0 hx hby hml hret hnm hlk hsf S0
  refine Goes.cast (own_ef42 m t (0 : Int32) (0 : Int32)) ?_
  refine g_aloadN S0.here hx (hb hby own_d278) rfl rfl 1 rfl ?_
  refine g_iloadN S0.here hx (hb hby own_d279) rfl 2 rfl ?_
  refine g_iloadN S0.here hx (hb hby own_d280) rfl 3 rfl ?_
  refine S0.callS hx (W := 0) (own_q85 hw) (own_q86 hw) (own_q83 hw) (own_q87 hw) (by decide) (ctCP0 l Z a0 hw t kt  h O  B) nosf (by decide) (by decide) (by rw [hml]; rfl) [(.ref t), (.int (0 : Int32)), (.int (0 : Int32))] [] (lenOf own_pd282 rfl) rfl rfl (Nat.le_refl _) (hb hby own_d281) (by decide) (by decide) 6 rfl (fun v152 vm152 T152 h152 S152 Q152 R152 => ?_)
  obtain ⟨Q152, rfl⟩ := Q152
  rcases Q152 with ⟨rfl, sm⟩
  · show Goes _ _ _ _ T152 (mkF m 6 #[.val (.ref t), .val (.int (0 : Int32)), .val (.int (0 : Int32))] [(.int (0 : Int32))])
    refine g_iloadN S152.here hx (hb hby own_d283) rfl 7 rfl ?_
    refine g_icmpT S152.here hx (hb hby own_d284) 0 0 (by decide) (by decide) (by show 0 = 0; decide) 14 (by decide) (by decide) ?_
    refine g_iconst S152.here hx (hb hby own_d285) (0 : Int32) (by decide) 15 rfl ?_
    exact S152.iret hx hlk hret (Or.inr (Or.inl rfl)) rfl (hb hby own_d286) ⟨⟨rfl, sm⟩, rfl⟩ (by decide) (by decide)
theorem own_ef287 (m : MethodId) (x0 : Int32) (x1 : Addr) (x2 : Int32) : entryFrame m #[(.int x0), (.ref x1), (.int x2)] 9 = mkF m 0 #[.val (.int x0), .val (.ref x1), .val (.int x2), .unset, .unset, .unset, .unset, .unset, .unset] [] := by first | (simp [entryFrame, mkF, argsToLocals, Value.category]; done) | rfl
theorem own_d288 : decode jdk_42_method_46_code 0 = .ok (.iload_n 0, 1) := by decide +kernel
theorem own_d289 : decode jdk_42_method_46_code 1 = .ok (.iconst 1, 1) := by decide +kernel
theorem own_d290 : decode jdk_42_method_46_code 2 = .ok (.if_icmp .ne 9, 3) := by decide +kernel
theorem own_d291 : decode jdk_42_method_46_code 11 = .ok (.aload_n 1, 1) := by decide +kernel
theorem own_d292 : decode jdk_42_method_46_code 12 = .ok (.iconst 0, 1) := by decide +kernel
theorem own_d293 : decode jdk_42_method_46_code 13 = .ok (.aload_n 1, 1) := by decide +kernel
theorem own_d294 : decode jdk_42_method_46_code 14 = .ok (.arraylength, 1) := by decide +kernel
theorem own_d295 : decode jdk_42_method_46_code 15 = .ok (.invokestatic 128, 3) := by decide +kernel
theorem own_pd296 : parseMethodDescriptor "([BII)Z" = some ⟨[(.array .byte), .int, .int], some .boolean⟩ := by decide +kernel
theorem own_d297 : decode jdk_42_method_46_code 18 = .ok (.ifCond .ne 11, 3) := by decide +kernel
theorem own_d298 : decode jdk_42_method_46_code 21 = .ok (.aload_n 1, 1) := by decide +kernel
theorem own_d299 : decode jdk_42_method_46_code 22 = .ok (.invokevirtual 279, 3) := by decide +kernel
theorem own_d300 : decode jdk_42_method_46_code 25 = .ok (.checkcast 280, 3) := by decide +kernel
theorem own_d301 : decode jdk_42_method_46_code 28 = .ok (.areturn, 1) := by decide +kernel
set_option maxRecDepth 65536 in
set_option maxHeartbeats 40000000 in
theorem ctEL0 (l : Launch) (Z : State) (a0 : Array Value) (hw : ∀ d ∈ tables_1, d.before a0 Z = true) (t : Addr) (kt : ClassId)  (h : Heap) (O : Old Z Z.heap.size h)  (B : Arv Z h t kt .byte (0 : Int32) [] (.int 0)) (X : Exa Z h t "[B") :
    Ct 0 l Z [] [] (⟨"java/lang/String", "encodeUTF8", "(B[BZ)[B"⟩ : MethodName) jdk_42_method_46_code 9 (some (.array .byte)) ({ frames := 3, cells := 2, slots := 18, locals := 80 } : Room) #[(.int (0 : Int32)), (.ref t), (.int (1 : Int32))] h (fun v h' => ∃ t : Addr, v = some (.ref t) ∧ Ext h h' ∧ own_enc Z h' t (own_us [])) := by
  refine Ct.intro (plainFor_of_name own_pn173) O (fun _ => rfl) ⟨a0, EW.nil⟩ ?_
  intro p e s m below meth c T0 hx hby hml hret hnm hlk hsf S0
  refine Goes.cast (own_ef287 m (0 : Int32) t (1 : Int32)) ?_
  refine g_iloadN S0.here hx (hb hby own_d288) rfl 1 rfl ?_
  refine g_iconst S0.here hx (hb hby own_d289) (1 : Int32) (by decide) 2 rfl ?_
  refine g_icmpT S0.here hx (hb hby own_d290) 0 1 (by decide) (by decide) (by show ¬ 0 = 1; decide) 11 (by decide) (by decide) ?_
  refine g_aloadN S0.here hx (hb hby own_d291) rfl rfl 12 rfl ?_
  refine g_iconst S0.here hx (hb hby own_d292) (0 : Int32) (by decide) 13 rfl ?_
  refine g_aloadN S0.here hx (hb hby own_d293) rfl rfl 14 rfl ?_
  refine S0.len hx B (hb hby own_d294) 15 rfl ?_
  refine S0.callS hx (W := 0) (own_q81 hw) (own_q82 hw) (own_q83 hw) (own_q84 hw) (by decide) (ctHN0 l Z a0 hw t kt  h O  B) nosf (by decide) (by decide) (by rw [hml]; rfl) [(.ref t), (.int (0 : Int32)), (.int (0 : Int32))] [] (lenOf own_pd296 rfl) rfl rfl (Nat.le_refl _) (hb hby own_d295) (by decide) (by decide) 18 rfl (fun v153 vm153 T153 h153 S153 Q153 R153 => ?_)
  obtain ⟨Q153, rfl⟩ := Q153
  rcases Q153 with ⟨rfl, sm⟩
  · show Goes _ _ _ _ T153 (mkF m 18 #[.val (.int (0 : Int32)), .val (.ref t), .val (.int (1 : Int32)), .unset, .unset, .unset, .unset, .unset, .unset] [(.int (0 : Int32))])
    refine g_ifF S153.here hx (hb hby own_d297) 0 (by decide) (by show ¬ (¬ 0 = 0); decide) 21 rfl ?_
    refine g_aloadN S153.here hx (hb hby own_d298) rfl rfl 22 rfl ?_
    refine S153.clone hx (own_q88 hw) (own_q89 hw) (own_q93 hw) (own_q91 hw) (own_q92 hw) (own_q94 hw) B X (by rw [hml]; rfl) (W := 0) (cap := 0) (by decide) (by decide) (by decide) (by decide) (by decide) (by decide) (hb hby own_d299) 25 rfl (fun T154 h154 b S154 g154 E154 A154 B154 => ?_)
    refine S154.castY hx (own_q95 hw) (Ins.self B154) (hb hby own_d300) 28 rfl (fun T155 S155 => ?_)
    exact S155.aret hx hlk hret rfl rfl rfl (hb hby own_d301) ⟨b, rfl, E154, _, _, _, A154, by show _ = 0; decide⟩ (by decide) (by decide)
theorem own_ef302 (m : MethodId) (x0 : Addr) (x1 : Int32) (x2 : Addr) : entryFrame m #[(.ref x0), (.int x1), (.ref x2)] 3 = mkF m 0 #[.val (.ref x0), .val (.int x1), .val (.ref x2)] [] := by first | (simp [entryFrame, mkF, argsToLocals, Value.category]; done) | rfl
theorem own_d303 : decode jdk_42_method_18_code 0 = .ok (.aload_n 0, 1) := by decide +kernel
theorem own_d304 : decode jdk_42_method_18_code 1 = .ok (.getstatic 86, 3) := by decide +kernel
theorem own_d305 : decode jdk_42_method_18_code 4 = .ok (.if_acmp .ne 10, 3) := by decide +kernel
theorem own_d306 : decode jdk_42_method_18_code 7 = .ok (.iload_n 1, 1) := by decide +kernel
theorem own_d307 : decode jdk_42_method_18_code 8 = .ok (.aload_n 2, 1) := by decide +kernel
theorem own_d308 : decode jdk_42_method_18_code 9 = .ok (.iconst 1, 1) := by decide +kernel
theorem own_d309 : decode jdk_42_method_18_code 10 = .ok (.invokestatic 252, 3) := by decide +kernel
theorem own_pd310 : parseMethodDescriptor "(B[BZ)[B" = some ⟨[.byte, (.array .byte), .boolean], some (.array .byte)⟩ := by decide +kernel
theorem own_d311 : decode jdk_42_method_18_code 13 = .ok (.areturn, 1) := by decide +kernel
set_option maxRecDepth 65536 in
set_option maxHeartbeats 40000000 in
theorem ctEn00 (l : Launch) (Z : State) (a0 : Array Value) (hw : ∀ d ∈ tables_1, d.before a0 Z = true) (u8 t : Addr) (kt : ClassId)  (h : Heap) (O : Old Z Z.heap.size h) (U : Sta Z Z.heap "sun/nio/cs/UTF_8" "INSTANCE" "Lsun/nio/cs/UTF_8;" (.ref u8))  (B : Arv Z h t kt .byte (0 : Int32) [] (.int 0)) (X : Exa Z h t "[B") :
    Ct 0 l Z [] [] (⟨"java/lang/String", "encode", "(Ljava/nio/charset/Charset;B[B)[B"⟩ : MethodName) jdk_42_method_18_code 3 (some (.array .byte)) ({ frames := 4, cells := 2, slots := 18, locals := 100 } : Room) #[(.ref u8), (.int (0 : Int32)), (.ref t)] h (fun v h' => ∃ t : Addr, v = some (.ref t) ∧ Ext h h' ∧ own_enc Z h' t (own_us [])) := by
  refine Ct.intro (plainFor_of_name own_pn173) O (fun _ => rfl) ⟨a0, EW.nil⟩ ?_
  intro p e s m below meth c T0 hx hby hml hret hnm hlk hsf S0
  refine Goes.cast (own_ef302 m u8 (0 : Int32) t) ?_
  refine g_aloadN S0.here hx (hb hby own_d303) rfl rfl 1 rfl ?_
  refine S0.getS hx (host := "") (Or.inl (own_q76 hw)) Via.refl (U.ext O.2) (hb hby own_d304) 4 rfl (fun T156 S156 => ?_)
  refine S156.acmp hx (hb hby own_d305) rfl rfl true (decide_eq_true rfl) (by decide) 7 (by decide) ?_
  refine g_iloadN S156.here hx (hb hby own_d306) rfl 8 rfl ?_
  refine g_aloadN S156.here hx (hb hby own_d307) rfl rfl 9 rfl ?_
  refine g_iconst S156.here hx (hb hby own_d308) (1 : Int32) (by decide) 10 rfl ?_
  refine S156.callS hx (W := 0) (own_q78 hw) (own_q79 hw) (own_q15 hw) (own_q80 hw) (by decide) (ctEL0 l Z a0 hw t kt  h O  B X) nosf (by decide) (by decide) (by rw [hml]; rfl) [(.int (0 : Int32)), (.ref t), (.int (1 : Int32))] [] (lenOf own_pd310 rfl) rfl rfl (Nat.le_refl _) (hb hby own_d309) (by decide) (by decide) 13 rfl (fun v157 vm157 T157 h157 S157 Q157 R157 => ?_)
  obtain ⟨r, rfl, E, C⟩ := Q157
  show Goes _ _ _ _ T157 (mkF m 13 #[.val (.ref u8), .val (.int (0 : Int32)), .val (.ref t)] [(.ref r)])
  exact S157.aret hx hlk hret rfl rfl rfl (hb hby own_d311) ⟨r, rfl, E, C⟩ (by decide) (by decide)
theorem own_d312 : decode jdk_42_method_64_code 0 = .ok (.aload_n 1, 1) := by decide +kernel
theorem own_d313 : decode jdk_42_method_64_code 1 = .ok (.ifnonnull 11, 3) := by decide +kernel
theorem own_d314 : decode jdk_42_method_64_code 12 = .ok (.aload_n 1, 1) := by decide +kernel
theorem own_d315 : decode jdk_42_method_64_code 13 = .ok (.aload_n 0, 1) := by decide +kernel
theorem own_d316 : decode jdk_42_method_64_code 14 = .ok (.invokevirtual 335, 3) := by decide +kernel
theorem own_pd317 : parseMethodDescriptor "()B" = some ⟨[], some .byte⟩ := by decide +kernel
theorem own_d318 : decode jdk_42_method_64_code 17 = .ok (.aload_n 0, 1) := by decide +kernel
theorem own_d319 : decode jdk_42_method_64_code 18 = .ok (.getfield 9, 3) := by decide +kernel
theorem own_d320 : decode jdk_42_method_64_code 21 = .ok (.invokestatic 535, 3) := by decide +kernel
theorem own_pd321 : parseMethodDescriptor "(Ljava/nio/charset/Charset;B[B)[B" = some ⟨[(.object "java/nio/charset/Charset"), .byte, (.array .byte)], some (.array .byte)⟩ := by decide +kernel
theorem own_d322 : decode jdk_42_method_64_code 24 = .ok (.areturn, 1) := by decide +kernel
set_option maxRecDepth 65536 in
set_option maxHeartbeats 40000000 in
theorem ctGB00 (l : Launch) (Z : State) (a0 : Array Value) (hw : ∀ d ∈ tables_1, d.before a0 Z = true) (x u8 t : Addr) (kt : ClassId)  (h : Heap) (O : Old Z Z.heap.size h) (G : own_cs Z) (fx : Exa Z h x "java/lang/String") (fv : Fld Z h x "java/lang/String" "value" "[B" (.ref t)) (fc : Fld Z h x "java/lang/String" "coder" "B" (.int 0)) (U : Sta Z Z.heap "sun/nio/cs/UTF_8" "INSTANCE" "Lsun/nio/cs/UTF_8;" (.ref u8))  (B : Arv Z h t kt .byte (0 : Int32) [] (.int 0)) (X : Exa Z h t "[B") :
    Ct 0 l Z [] [] (⟨"java/lang/String", "getBytes", "(Ljava/nio/charset/Charset;)[B"⟩ : MethodName) jdk_42_method_64_code 2 (some (.array .byte)) ({ frames := 5, cells := 2, slots := 18, locals := 120 } : Room) #[(.ref x), (.ref u8)] h (fun v h' => ∃ t : Addr, v = some (.ref t) ∧ Ext h h' ∧ own_enc Z h' t (own_us [])) := by
  refine Ct.intro (plainFor_of_name own_pn173) O (fun _ => rfl) ⟨a0, EW.nil⟩ ?_
  intro p e s m below meth c T0 hx hby hml hret hnm hlk hsf S0
  refine Goes.cast (own_ef174 m x u8) ?_
  refine g_aloadN S0.here hx (hb hby own_d312) rfl rfl 1 rfl ?_
  refine g_ifnonnullT S0.here hx (hb hby own_d313) 12 (by decide) (by decide) ?_
  refine g_aloadN S0.here hx (hb hby own_d314) rfl rfl 13 rfl ?_
  refine g_aloadN S0.here hx (hb hby own_d315) rfl rfl 14 rfl ?_
  refine S0.callV hx (W := 1) (C := "java/lang/String") (own_q68 hw) (own_q69 hw) (notFace_of_selects (args := #[]) (mvT S0.warm (own_q71 hw))) (own_q71 hw) (own_q70 hw) (by decide) fx (own_q72 hw) (own_q15 hw) (ctCo0 l Z a0 hw x h O G fc) nosf (by decide) (by decide) (by rw [hml]; rfl) [] [(.ref u8)] (lenOf own_pd317 rfl) rfl rfl (Nat.le_refl _) (hb hby own_d316) (by decide) (by decide) 17 rfl (fun v158 vm158 T158 h158 S158 Q158 R158 => ?_)
  obtain ⟨rfl, rfl⟩ := Q158
  show Goes _ _ _ _ T158 (mkF m 17 #[.val (.ref x), .val (.ref u8)] [(.int (0 : Int32)), (.ref u8)])
  refine g_aloadN S158.here hx (hb hby own_d318) rfl rfl 18 rfl ?_
  refine S158.getF hx (host := "") (Or.inl (own_q40 hw)) Via.refl fv (hb hby own_d319) 21 rfl (fun T159 S159 => ?_)
  refine S159.callS hx (W := 0) (own_q73 hw) (own_q74 hw) (own_q15 hw) (own_q75 hw) (by decide) (ctEn00 l Z a0 hw u8 t kt  h O U  B X) nosf (by decide) (by decide) (by rw [hml]; rfl) [(.ref u8), (.int (0 : Int32)), (.ref t)] [] (lenOf own_pd321 rfl) rfl rfl (Nat.le_refl _) (hb hby own_d320) (by decide) (by decide) 24 rfl (fun v160 vm160 T160 h160 S160 Q160 R160 => ?_)
  obtain ⟨r, rfl, E, C⟩ := Q160
  show Goes _ _ _ _ T160 (mkF m 24 #[.val (.ref x), .val (.ref u8)] [(.ref r)])
  exact S160.aret hx hlk hret rfl rfl rfl (hb hby own_d322) ⟨r, rfl, E, C⟩ (by decide) (by decide)
theorem own_d323 : decode jdk_123_method_3_code 13 = .ok (.aload_n 0, 1) := by decide +kernel
theorem own_d324 : decode jdk_123_method_3_code 14 = .ok (.iload 4, 2) := by decide +kernel
theorem own_d325 : decode jdk_123_method_3_code 16 = .ok (.baload, 1) := by decide +kernel
theorem own_d326 : decode jdk_123_method_3_code 17 = .ok (.ifCond .ge 8, 3) := by decide +kernel
theorem own_d327 : decode jdk_123_method_3_code 25 = .ok (.iinc 4 1, 3) := by decide +kernel
theorem own_d328 : decode jdk_123_method_3_code 28 = .ok (.goto (-21), 3) := by decide +kernel
theorem own_d329 : decode jdk_123_method_3_code 20 = .ok (.iload 4, 2) := by decide +kernel
theorem own_d330 : decode jdk_123_method_3_code 22 = .ok (.iload_n 1, 1) := by decide +kernel
theorem own_d331 : decode jdk_123_method_3_code 23 = .ok (.isub, 1) := by decide +kernel
theorem own_d332 : decode jdk_123_method_3_code 24 = .ok (.ireturn, 1) := by decide +kernel
set_option maxRecDepth 65536 in
set_option maxHeartbeats 40000000 in
theorem ctCP1 (l : Launch) (Z : State) (a0 : Array Value) (hw : ∀ d ∈ tables_1, d.before a0 Z = true) (t : Addr) (kt : ClassId) (c1 : Int32) (h : Heap) (O : Old Z Z.heap.size h) (b1 : 0 ≤ c1.toInt ∧ c1.toInt ≤ 255) (B : Arv Z h t kt .byte (1 : Int32) [.int c1.toInt8.toInt32] (.int 0)) :
    Ct 0 l Z [] [] (⟨"java/lang/StringCoding", "countPositives", "([BII)I"⟩ : MethodName) jdk_123_method_3_code 5 (some .int) ({ frames := 0, cells := 0, slots := 0, locals := 0 } : Room) #[(.ref t), (.int (0 : Int32)), (.int (1 : Int32))] h (fun v h' => ((v = some (.int (1 : Int32)) ∧ c1.toInt < 128 ∧ True) ∨ ∃ i : Int32, v = some (.int i) ∧ ¬ i.toInt = 1) ∧ h = h') := by
  refine Ct.intro (plainFor_of_name own_pn277) O (fun _ => rfl) ⟨a0, EW.nil⟩ ?_
  intro p e s m below meth c T0 hx hby hml hret hnm hlk hsf S0
  refine Goes.cast (own_ef90 m t (0 : Int32) (1 : Int32)) ?_
  refine g_iloadN S0.here hx (hb hby own_d266) rfl 1 rfl ?_
  refine g_iloadN S0.here hx (hb hby own_d267) rfl 2 rfl ?_
  refine g_iadd S0.here hx (hb hby own_d268) 3 rfl ?_
  rw [show ((0 : Int32) + (1 : Int32)) = (1 : Int32) from by decide]
  refine g_istoreN S0.here hx (hb hby own_d269) #[.val (.ref t), .val (.int (0 : Int32)), .val (.int (1 : Int32)), .val (.int (1 : Int32)), .unset] rfl 4 rfl ?_
  refine g_iloadN S0.here hx (hb hby own_d270) rfl 5 rfl ?_
  refine g_istore S0.here hx (hb hby own_d271) #[.val (.ref t), .val (.int (0 : Int32)), .val (.int (1 : Int32)), .val (.int (1 : Int32)), .val (.int (0 : Int32))] rfl 7 rfl ?_
  refine g_iload S0.here hx (hb hby own_d272) rfl 9 rfl ?_
  refine g_iloadN S0.here hx (hb hby own_d273) rfl 10 rfl ?_
  refine g_icmpF S0.here hx (hb hby own_d274) 0 1 (by decide) (by decide) (by show ¬ (1 ≤ 0); decide) 13 rfl ?_
  refine g_aloadN S0.here hx (hb hby own_d323) rfl rfl 14 rfl ?_
  refine g_iload S0.here hx (hb hby own_d324) rfl 16 rfl ?_
  refine S0.bald hx B ⟨by decide, by decide⟩ (own_at (i := 0) (by decide) rfl) (hb hby own_d325) 17 rfl ?_
  have i8_1 := own_i8 c1 b1
  refine g_if S0.here hx (hb hby own_d326) (c1.toInt8.toInt32).toInt rfl 25 20 (by decide) (by decide) rfl (fun (hc17 : 0 ≤ (c1.toInt8.toInt32).toInt) => ?_) (fun (hc17 : ¬ (0 ≤ (c1.toInt8.toInt32).toInt)) => ?_)
  · refine g_iinc S0.here hx (hb hby own_d327) rfl #[.val (.ref t), .val (.int (0 : Int32)), .val (.int (1 : Int32)), .val (.int (1 : Int32)), .val (.int (1 : Int32))] (by rw [show (0 : Int32) + Int32.ofInt 1 = (1 : Int32) from by decide]; rfl) 28 rfl ?_
    refine g_goto S0.here hx (hb hby own_d328) 7 (by decide) (by decide) ?_
    refine g_iload S0.here hx (hb hby own_d272) rfl 9 rfl ?_
    refine g_iloadN S0.here hx (hb hby own_d273) rfl 10 rfl ?_
    refine g_icmpT S0.here hx (hb hby own_d274) 1 1 (by decide) (by decide) (by show 1 ≤ 1; decide) 31 (by decide) (by decide) ?_
    refine g_iloadN S0.here hx (hb hby own_d275) rfl 32 rfl ?_
    exact S0.iret hx hlk hret (Or.inl rfl) rfl (hb hby own_d276) ⟨Or.inl ⟨rfl, by omega, trivial⟩, rfl⟩ (by decide) (by decide)
  · refine g_iload S0.here hx (hb hby own_d329) rfl 22 rfl ?_
    refine g_iloadN S0.here hx (hb hby own_d330) rfl 23 rfl ?_
    refine g_isub S0.here hx (hb hby own_d331) 24 rfl ?_
    rw [show ((0 : Int32) - (0 : Int32)) = (0 : Int32) from by decide]
    exact S0.iret hx hlk hret (Or.inl rfl) rfl (hb hby own_d332) ⟨Or.inr ⟨_, rfl, by decide⟩, rfl⟩ (by decide) (by decide)
theorem own_d333 : decode jdk_123_method_2_code 10 = .ok (.iconst 1, 1) := by decide +kernel
theorem own_d334 : decode jdk_123_method_2_code 11 = .ok (.goto 4, 3) := by decide +kernel
set_option maxRecDepth 65536 in
set_option maxHeartbeats 40000000 in
theorem ctHN1 (l : Launch) (Z : State) (a0 : Array Value) (hw : ∀ d ∈ tables_1, d.before a0 Z = true) (t : Addr) (kt : ClassId) (c1 : Int32) (h : Heap) (O : Old Z Z.heap.size h) (b1 : 0 ≤ c1.toInt ∧ c1.toInt ≤ 255) (B : Arv Z h t kt .byte (1 : Int32) [.int c1.toInt8.toInt32] (.int 0)) :
    Ct 0 l Z [] [] (⟨"java/lang/StringCoding", "hasNegatives", "([BII)Z"⟩ : MethodName) jdk_123_method_2_code 3 (some .boolean) ({ frames := 1, cells := 0, slots := 0, locals := 16 } : Room) #[(.ref t), (.int (0 : Int32)), (.int (1 : Int32))] h (fun v h' => ((v = some (.int 0) ∧ c1.toInt < 128 ∧ True) ∨ v = some (.int 1)) ∧ h = h') := by
  refine Ct.intro (plainFor_of_name own_pn277) O (fun _ => rfl) ⟨a0, EW.nil⟩ ?_
  intro p e s m below meth c T0 hx hby hml hret hnm hlk hsf S0
  refine Goes.cast (own_ef42 m t (0 : Int32) (1 : Int32)) ?_
  refine g_aloadN S0.here hx (hb hby own_d278) rfl rfl 1 rfl ?_
  refine g_iloadN S0.here hx (hb hby own_d279) rfl 2 rfl ?_
  refine g_iloadN S0.here hx (hb hby own_d280) rfl 3 rfl ?_
  refine S0.callS hx (W := 0) (own_q85 hw) (own_q86 hw) (own_q83 hw) (own_q87 hw) (by decide) (ctCP1 l Z a0 hw t kt c1 h O b1 B) nosf (by decide) (by decide) (by rw [hml]; rfl) [(.ref t), (.int (0 : Int32)), (.int (1 : Int32))] [] (lenOf own_pd282 rfl) rfl rfl (Nat.le_refl _) (hb hby own_d281) (by decide) (by decide) 6 rfl (fun v161 vm161 T161 h161 S161 Q161 R161 => ?_)
  obtain ⟨Q161, rfl⟩ := Q161
  rcases Q161 with ⟨rfl, sm⟩ | ⟨i, rfl, hi⟩
  · show Goes _ _ _ _ T161 (mkF m 6 #[.val (.ref t), .val (.int (0 : Int32)), .val (.int (1 : Int32))] [(.int (1 : Int32))])
    refine g_iloadN S161.here hx (hb hby own_d283) rfl 7 rfl ?_
    refine g_icmpT S161.here hx (hb hby own_d284) 1 1 (by decide) (by decide) (by show 1 = 1; decide) 14 (by decide) (by decide) ?_
    refine g_iconst S161.here hx (hb hby own_d285) (0 : Int32) (by decide) 15 rfl ?_
    exact S161.iret hx hlk hret (Or.inr (Or.inl rfl)) rfl (hb hby own_d286) ⟨Or.inl ⟨rfl, sm⟩, rfl⟩ (by decide) (by decide)
  · show Goes _ _ _ _ T161 (mkF m 6 #[.val (.ref t), .val (.int (0 : Int32)), .val (.int (1 : Int32))] [(.int i)])
    refine g_iloadN S161.here hx (hb hby own_d283) rfl 7 rfl ?_
    refine g_icmpF S161.here hx (hb hby own_d284) i.toInt 1 rfl (by decide) (show ¬ (i.toInt = 1) from hi) 10 rfl ?_
    refine g_iconst S161.here hx (hb hby own_d333) (1 : Int32) (by decide) 11 rfl ?_
    refine g_goto S161.here hx (hb hby own_d334) 15 (by decide) (by decide) ?_
    exact S161.iret hx hlk hret (Or.inr (Or.inl rfl)) rfl (hb hby own_d286) ⟨Or.inr rfl, rfl⟩ (by decide) (by decide)
theorem own_d335 : decode jdk_42_method_46_code 29 = .ok (.iconst 0, 1) := by decide +kernel
theorem own_d336 : decode jdk_42_method_46_code 30 = .ok (.istore_n 3, 1) := by decide +kernel
theorem own_d337 : decode jdk_42_method_46_code 31 = .ok (.aload_n 1, 1) := by decide +kernel
theorem own_d338 : decode jdk_42_method_46_code 32 = .ok (.arraylength, 1) := by decide +kernel
theorem own_d339 : decode jdk_42_method_46_code 33 = .ok (.invokestatic 60, 3) := by decide +kernel
theorem own_d340 : decode jdk_42_method_46_code 36 = .ok (.astore 4, 2) := by decide +kernel
theorem own_d341 : decode jdk_42_method_46_code 38 = .ok (.aload_n 1, 1) := by decide +kernel
theorem own_d342 : decode jdk_42_method_46_code 39 = .ok (.astore 5, 2) := by decide +kernel
theorem own_d343 : decode jdk_42_method_46_code 41 = .ok (.aload 5, 2) := by decide +kernel
theorem own_d344 : decode jdk_42_method_46_code 43 = .ok (.arraylength, 1) := by decide +kernel
theorem own_d345 : decode jdk_42_method_46_code 44 = .ok (.istore 6, 2) := by decide +kernel
theorem own_d346 : decode jdk_42_method_46_code 46 = .ok (.iconst 0, 1) := by decide +kernel
theorem own_d347 : decode jdk_42_method_46_code 47 = .ok (.istore 7, 2) := by decide +kernel
theorem own_d348 : decode jdk_42_method_46_code 49 = .ok (.iload 7, 2) := by decide +kernel
theorem own_d349 : decode jdk_42_method_46_code 51 = .ok (.iload 6, 2) := by decide +kernel
theorem own_d350 : decode jdk_42_method_46_code 53 = .ok (.if_icmp .ge 71, 3) := by decide +kernel
theorem own_d351 : decode jdk_42_method_46_code 56 = .ok (.aload 5, 2) := by decide +kernel
theorem own_d352 : decode jdk_42_method_46_code 58 = .ok (.iload 7, 2) := by decide +kernel
theorem own_d353 : decode jdk_42_method_46_code 60 = .ok (.baload, 1) := by decide +kernel
theorem own_d354 : decode jdk_42_method_46_code 61 = .ok (.istore 8, 2) := by decide +kernel
theorem own_d355 : decode jdk_42_method_46_code 63 = .ok (.iload 8, 2) := by decide +kernel
theorem own_d356 : decode jdk_42_method_46_code 65 = .ok (.ifCond .ge 44, 3) := by decide +kernel
theorem own_d357 : decode jdk_42_method_46_code 109 = .ok (.aload 4, 2) := by decide +kernel
theorem own_d358 : decode jdk_42_method_46_code 111 = .ok (.iload_n 3, 1) := by decide +kernel
theorem own_d359 : decode jdk_42_method_46_code 112 = .ok (.iinc 3 1, 3) := by decide +kernel
theorem own_d360 : decode jdk_42_method_46_code 115 = .ok (.iload 8, 2) := by decide +kernel
theorem own_d361 : decode jdk_42_method_46_code 117 = .ok (.bastore, 1) := by decide +kernel
theorem own_d362 : decode jdk_42_method_46_code 118 = .ok (.iinc 7 1, 3) := by decide +kernel
theorem own_d363 : decode jdk_42_method_46_code 121 = .ok (.goto (-72), 3) := by decide +kernel
theorem own_d364 : decode jdk_42_method_46_code 124 = .ok (.iload_n 3, 1) := by decide +kernel
theorem own_d365 : decode jdk_42_method_46_code 125 = .ok (.aload 4, 2) := by decide +kernel
theorem own_d366 : decode jdk_42_method_46_code 127 = .ok (.arraylength, 1) := by decide +kernel
theorem own_d367 : decode jdk_42_method_46_code 128 = .ok (.if_icmp .ne 6, 3) := by decide +kernel
theorem own_d368 : decode jdk_42_method_46_code 134 = .ok (.aload 4, 2) := by decide +kernel
theorem own_d369 : decode jdk_42_method_46_code 136 = .ok (.iload_n 3, 1) := by decide +kernel
theorem own_d370 : decode jdk_42_method_46_code 137 = .ok (.invokestatic 102, 3) := by decide +kernel
theorem own_pd371 : parseMethodDescriptor "([BI)[B" = some ⟨[(.array .byte), .int], some (.array .byte)⟩ := by decide +kernel
theorem own_d372 : decode jdk_42_method_46_code 140 = .ok (.areturn, 1) := by decide +kernel
theorem own_d373 : decode jdk_42_method_46_code 68 = .ok (.aload 4, 2) := by decide +kernel
theorem own_d374 : decode jdk_42_method_46_code 70 = .ok (.iload_n 3, 1) := by decide +kernel
theorem own_d375 : decode jdk_42_method_46_code 71 = .ok (.iinc 3 1, 3) := by decide +kernel
theorem own_d376 : decode jdk_42_method_46_code 74 = .ok (.sipush 192, 3) := by decide +kernel
theorem own_d377 : decode jdk_42_method_46_code 77 = .ok (.iload 8, 2) := by decide +kernel
theorem own_d378 : decode jdk_42_method_46_code 79 = .ok (.sipush 255, 3) := by decide +kernel
theorem own_d379 : decode jdk_42_method_46_code 82 = .ok (.iand, 1) := by decide +kernel
theorem own_d380 : decode jdk_42_method_46_code 83 = .ok (.bipush 6, 2) := by decide +kernel
theorem own_d381 : decode jdk_42_method_46_code 85 = .ok (.ishr, 1) := by decide +kernel
theorem own_d382 : decode jdk_42_method_46_code 86 = .ok (.ior, 1) := by decide +kernel
theorem own_d383 : decode jdk_42_method_46_code 87 = .ok (.i2b, 1) := by decide +kernel
theorem own_d384 : decode jdk_42_method_46_code 88 = .ok (.bastore, 1) := by decide +kernel
theorem own_d385 : decode jdk_42_method_46_code 89 = .ok (.aload 4, 2) := by decide +kernel
theorem own_d386 : decode jdk_42_method_46_code 91 = .ok (.iload_n 3, 1) := by decide +kernel
theorem own_d387 : decode jdk_42_method_46_code 92 = .ok (.iinc 3 1, 3) := by decide +kernel
theorem own_d388 : decode jdk_42_method_46_code 95 = .ok (.sipush 128, 3) := by decide +kernel
theorem own_d389 : decode jdk_42_method_46_code 98 = .ok (.iload 8, 2) := by decide +kernel
theorem own_d390 : decode jdk_42_method_46_code 100 = .ok (.bipush 63, 2) := by decide +kernel
theorem own_d391 : decode jdk_42_method_46_code 102 = .ok (.iand, 1) := by decide +kernel
theorem own_d392 : decode jdk_42_method_46_code 103 = .ok (.ior, 1) := by decide +kernel
theorem own_d393 : decode jdk_42_method_46_code 104 = .ok (.i2b, 1) := by decide +kernel
theorem own_d394 : decode jdk_42_method_46_code 105 = .ok (.bastore, 1) := by decide +kernel
theorem own_d395 : decode jdk_42_method_46_code 106 = .ok (.goto 12, 3) := by decide +kernel
theorem own_d396 : decode jdk_42_method_46_code 131 = .ok (.aload 4, 2) := by decide +kernel
theorem own_d397 : decode jdk_42_method_46_code 133 = .ok (.areturn, 1) := by decide +kernel
set_option maxRecDepth 65536 in
set_option maxHeartbeats 40000000 in
theorem ctEL1 (l : Launch) (Z : State) (a0 : Array Value) (hw : ∀ d ∈ tables_1, d.before a0 Z = true) (t : Addr) (kt : ClassId) (c1 : Int32) (h : Heap) (O : Old Z Z.heap.size h) (b1 : 0 ≤ c1.toInt ∧ c1.toInt ≤ 255) (B : Arv Z h t kt .byte (1 : Int32) [.int c1.toInt8.toInt32] (.int 0)) (X : Exa Z h t "[B") :
    Ct 0 l Z [] [] (⟨"java/lang/String", "encodeUTF8", "(B[BZ)[B"⟩ : MethodName) jdk_42_method_46_code 9 (some (.array .byte)) ({ frames := 3, cells := 2, slots := 18, locals := 80 } : Room) #[(.int (0 : Int32)), (.ref t), (.int (1 : Int32))] h (fun v h' => ∃ t : Addr, v = some (.ref t) ∧ Ext h h' ∧ own_enc Z h' t (own_us [c1])) := by
  refine Ct.intro (plainFor_of_name own_pn173) O (fun _ => rfl) ⟨a0, EW.nil⟩ ?_
  intro p e s m below meth c T0 hx hby hml hret hnm hlk hsf S0
  refine Goes.cast (own_ef287 m (0 : Int32) t (1 : Int32)) ?_
  refine g_iloadN S0.here hx (hb hby own_d288) rfl 1 rfl ?_
  refine g_iconst S0.here hx (hb hby own_d289) (1 : Int32) (by decide) 2 rfl ?_
  refine g_icmpT S0.here hx (hb hby own_d290) 0 1 (by decide) (by decide) (by show ¬ 0 = 1; decide) 11 (by decide) (by decide) ?_
  refine g_aloadN S0.here hx (hb hby own_d291) rfl rfl 12 rfl ?_
  refine g_iconst S0.here hx (hb hby own_d292) (0 : Int32) (by decide) 13 rfl ?_
  refine g_aloadN S0.here hx (hb hby own_d293) rfl rfl 14 rfl ?_
  refine S0.len hx B (hb hby own_d294) 15 rfl ?_
  refine S0.callS hx (W := 0) (own_q81 hw) (own_q82 hw) (own_q83 hw) (own_q84 hw) (by decide) (ctHN1 l Z a0 hw t kt c1 h O b1 B) nosf (by decide) (by decide) (by rw [hml]; rfl) [(.ref t), (.int (0 : Int32)), (.int (1 : Int32))] [] (lenOf own_pd296 rfl) rfl rfl (Nat.le_refl _) (hb hby own_d295) (by decide) (by decide) 18 rfl (fun v162 vm162 T162 h162 S162 Q162 R162 => ?_)
  obtain ⟨Q162, rfl⟩ := Q162
  rcases Q162 with ⟨rfl, sm⟩ | rfl
  · show Goes _ _ _ _ T162 (mkF m 18 #[.val (.int (0 : Int32)), .val (.ref t), .val (.int (1 : Int32)), .unset, .unset, .unset, .unset, .unset, .unset] [(.int (0 : Int32))])
    refine g_ifF S162.here hx (hb hby own_d297) 0 (by decide) (by show ¬ (¬ 0 = 0); decide) 21 rfl ?_
    refine g_aloadN S162.here hx (hb hby own_d298) rfl rfl 22 rfl ?_
    refine S162.clone hx (own_q88 hw) (own_q89 hw) (own_q93 hw) (own_q91 hw) (own_q92 hw) (own_q94 hw) B X (by rw [hml]; rfl) (W := 0) (cap := 1) (by decide) (by decide) (by decide) (by decide) (by decide) (by decide) (hb hby own_d299) 25 rfl (fun T163 h163 b S163 g163 E163 A163 B163 => ?_)
    refine S163.castY hx (own_q95 hw) (Ins.self B163) (hb hby own_d300) 28 rfl (fun T164 S164 => ?_)
    exact S164.aret hx hlk hret rfl rfl rfl (hb hby own_d301) ⟨b, rfl, E163, _, _, _, A163, by show _ = own_u c1 + (0); obtain ⟨s1, -⟩ := sm; rw [own_u1 s1]; decide⟩ (by decide) (by decide)
  · show Goes _ _ _ _ T162 (mkF m 18 #[.val (.int (0 : Int32)), .val (.ref t), .val (.int (1 : Int32)), .unset, .unset, .unset, .unset, .unset, .unset] [(.int (1 : Int32))])
    refine g_ifT S162.here hx (hb hby own_d297) 1 (by decide) (by show ¬ 1 = 0; decide) 29 (by decide) (by decide) ?_
    refine g_iconst S162.here hx (hb hby own_d335) (0 : Int32) (by decide) 30 rfl ?_
    refine g_istoreN S162.here hx (hb hby own_d336) #[.val (.int (0 : Int32)), .val (.ref t), .val (.int (1 : Int32)), .val (.int (0 : Int32)), .unset, .unset, .unset, .unset, .unset] rfl 31 rfl ?_
    refine g_aloadN S162.here hx (hb hby own_d337) rfl rfl 32 rfl ?_
    refine S162.len hx B (hb hby own_d338) 33 rfl ?_
    refine S162.callS hx (W := 0) (own_q172 hw) (own_q126 hw) (own_q29 hw) (own_q127 hw) (by decide) (ctNF1 l Z a0 hw h O) nosf (by decide) (by decide) (by rw [hml]; rfl) [(.int (1 : Int32))] [] (lenOf own_pd93 rfl) rfl rfl (Nat.le_refl _) (hb hby own_d339) (by decide) (by decide) 36 rfl (fun v165 vm165 T165 h165 S165 Q165 R165 => ?_)
    obtain ⟨d, kd, rfl, gd, E, V⟩ := Q165
    show Goes _ _ _ _ T165 (mkF m 36 #[.val (.int (0 : Int32)), .val (.ref t), .val (.int (1 : Int32)), .val (.int (0 : Int32)), .unset, .unset, .unset, .unset, .unset] [(.ref d)])
    have nd : t ≠ d := fun q => by rw [q] at B; exact absurd B.lt (Nat.not_lt.mpr gd)
    have B := B.ext E
    have gz : Z.heap.size ≤ d := Nat.le_trans O.2.1 gd
    refine g_astore S165.here hx (hb hby own_d340) rfl #[.val (.int (0 : Int32)), .val (.ref t), .val (.int (1 : Int32)), .val (.int (0 : Int32)), .val (.ref d), .unset, .unset, .unset, .unset] rfl 38 rfl ?_
    refine g_aloadN S165.here hx (hb hby own_d341) rfl rfl 39 rfl ?_
    refine g_astore S165.here hx (hb hby own_d342) rfl #[.val (.int (0 : Int32)), .val (.ref t), .val (.int (1 : Int32)), .val (.int (0 : Int32)), .val (.ref d), .val (.ref t), .unset, .unset, .unset] rfl 41 rfl ?_
    refine g_aload S165.here hx (hb hby own_d343) rfl rfl 43 rfl ?_
    refine S165.len hx B (hb hby own_d344) 44 rfl ?_
    refine g_istore S165.here hx (hb hby own_d345) #[.val (.int (0 : Int32)), .val (.ref t), .val (.int (1 : Int32)), .val (.int (0 : Int32)), .val (.ref d), .val (.ref t), .val (.int (1 : Int32)), .unset, .unset] rfl 46 rfl ?_
    refine g_iconst S165.here hx (hb hby own_d346) (0 : Int32) (by decide) 47 rfl ?_
    refine g_istore S165.here hx (hb hby own_d347) #[.val (.int (0 : Int32)), .val (.ref t), .val (.int (1 : Int32)), .val (.int (0 : Int32)), .val (.ref d), .val (.ref t), .val (.int (1 : Int32)), .val (.int (0 : Int32)), .unset] rfl 49 rfl ?_
    refine g_iload S165.here hx (hb hby own_d348) rfl 51 rfl ?_
    refine g_iload S165.here hx (hb hby own_d349) rfl 53 rfl ?_
    refine g_icmpF S165.here hx (hb hby own_d350) 0 1 (by decide) (by decide) (by show ¬ (1 ≤ 0); decide) 56 rfl ?_
    refine g_aload S165.here hx (hb hby own_d351) rfl rfl 58 rfl ?_
    refine g_iload S165.here hx (hb hby own_d352) rfl 60 rfl ?_
    refine S165.bald hx B ⟨by decide, by decide⟩ (own_at (i := 0) (by decide) rfl) (hb hby own_d353) 61 rfl ?_
    have i8_1 := own_i8 c1 b1
    refine g_istore S165.here hx (hb hby own_d354) #[.val (.int (0 : Int32)), .val (.ref t), .val (.int (1 : Int32)), .val (.int (0 : Int32)), .val (.ref d), .val (.ref t), .val (.int (1 : Int32)), .val (.int (0 : Int32)), .val (.int (c1.toInt8.toInt32))] rfl 63 rfl ?_
    refine g_iload S165.here hx (hb hby own_d355) rfl 65 rfl ?_
    refine g_if S165.here hx (hb hby own_d356) (c1.toInt8.toInt32).toInt rfl 109 68 (by decide) (by decide) rfl (fun (hc65 : 0 ≤ (c1.toInt8.toInt32).toInt) => ?_) (fun (hc65 : ¬ (0 ≤ (c1.toInt8.toInt32).toInt)) => ?_)
    · have u1 := own_u1 (c := c1) (by omega)
      refine g_aload S165.here hx (hb hby own_d357) rfl rfl 111 rfl ?_
      refine g_iloadN S165.here hx (hb hby own_d358) rfl 112 rfl ?_
      refine g_iinc S165.here hx (hb hby own_d359) rfl #[.val (.int (0 : Int32)), .val (.ref t), .val (.int (1 : Int32)), .val (.int (1 : Int32)), .val (.ref d), .val (.ref t), .val (.int (1 : Int32)), .val (.int (0 : Int32)), .val (.int (c1.toInt8.toInt32))] (by rw [show (0 : Int32) + Int32.ofInt 1 = (1 : Int32) from by decide]; rfl) 115 rfl ?_
      refine g_iload S165.here hx (hb hby own_d360) rfl 117 rfl ?_
      refine S165.stB hx V 0 ⟨by decide, by decide⟩ (by decide) (by simp) gz safe_nil (hb hby own_d361) 118 rfl (fun T166 h166 S166 W166 V R166 => ?_)
      have B := B.other W166 nd
      have E := own_ext_wr E W166 gd
      refine g_iinc S166.here hx (hb hby own_d362) rfl #[.val (.int (0 : Int32)), .val (.ref t), .val (.int (1 : Int32)), .val (.int (1 : Int32)), .val (.ref d), .val (.ref t), .val (.int (1 : Int32)), .val (.int (1 : Int32)), .val (.int (c1.toInt8.toInt32))] (by rw [show (0 : Int32) + Int32.ofInt 1 = (1 : Int32) from by decide]; rfl) 121 rfl ?_
      refine g_goto S166.here hx (hb hby own_d363) 49 (by decide) (by decide) ?_
      refine g_iload S166.here hx (hb hby own_d348) rfl 51 rfl ?_
      refine g_iload S166.here hx (hb hby own_d349) rfl 53 rfl ?_
      refine g_icmpT S166.here hx (hb hby own_d350) 1 1 (by decide) (by decide) (by show 1 ≤ 1; decide) 124 (by decide) (by decide) ?_
      refine g_iloadN S166.here hx (hb hby own_d364) rfl 125 rfl ?_
      refine g_aload S166.here hx (hb hby own_d365) rfl rfl 127 rfl ?_
      refine S166.len hx V (hb hby own_d366) 128 rfl ?_
      refine g_icmpT S166.here hx (hb hby own_d367) 1 2 (by decide) (by decide) (by show ¬ 1 = 2; decide) 134 (by decide) (by decide) ?_
      refine g_aload S166.here hx (hb hby own_d368) rfl rfl 136 rfl ?_
      refine g_iloadN S166.here hx (hb hby own_d369) rfl 137 rfl ?_
      refine S166.callS hx (W := 0) (own_q158 hw) (own_q159 hw) (own_q160 hw) (own_q161 hw) (by decide) (ctCp l Z a0 hw d kd (2 : Int32) (1 : Int32) _ h166 S166.old V (by decide) (by decide)) nosf (by decide) (by decide) (by rw [hml]; rfl) [(.ref d), (.int (1 : Int32))] [] (lenOf own_pd371 rfl) rfl rfl (Nat.le_refl _) (hb hby own_d370) (by decide) (by decide) 140 rfl (fun v167 vm167 T167 h167 S167 Q167 R167 => ?_)
      obtain ⟨r, rfl, X2, C⟩ := Q167
      show Goes _ _ _ _ T167 (mkF m 140 #[.val (.int (0 : Int32)), .val (.ref t), .val (.int (1 : Int32)), .val (.int (1 : Int32)), .val (.ref d), .val (.ref t), .val (.int (1 : Int32)), .val (.int (1 : Int32)), .val (.int (c1.toInt8.toInt32))] [(.ref r)])
      have E := own_ext_trans E X2
      have C : own_enc Z h167 r (own_us [c1]) := by
        show own_enc Z _ r (own_u c1 + (0))
        rw [u1]; exact C
      exact S167.aret hx hlk hret rfl rfl rfl (hb hby own_d372) ⟨r, rfl, E, C⟩ (by decide) (by decide)
    · have u1 := own_u2 (c := c1) (by omega) (by omega)
      refine g_aload S165.here hx (hb hby own_d373) rfl rfl 70 rfl ?_
      refine g_iloadN S165.here hx (hb hby own_d374) rfl 71 rfl ?_
      refine g_iinc S165.here hx (hb hby own_d375) rfl #[.val (.int (0 : Int32)), .val (.ref t), .val (.int (1 : Int32)), .val (.int (1 : Int32)), .val (.ref d), .val (.ref t), .val (.int (1 : Int32)), .val (.int (0 : Int32)), .val (.int (c1.toInt8.toInt32))] (by rw [show (0 : Int32) + Int32.ofInt 1 = (1 : Int32) from by decide]; rfl) 74 rfl ?_
      refine g_sipush S165.here hx (hb hby own_d376) (192 : Int32) (by decide) 77 rfl ?_
      refine g_iload S165.here hx (hb hby own_d377) rfl 79 rfl ?_
      refine g_sipush S165.here hx (hb hby own_d378) (255 : Int32) (by decide) 82 rfl ?_
      refine g_iand S165.here hx (hb hby own_d379) 83 rfl ?_
      refine g_bipush S165.here hx (hb hby own_d380) (6 : Int32) (by decide) 85 rfl ?_
      refine g_ishr S165.here hx (hb hby own_d381) 86 rfl ?_
      refine g_ior S165.here hx (hb hby own_d382) 87 rfl ?_
      refine g_i2b S165.here hx (hb hby own_d383) 88 rfl ?_
      refine S165.stB hx V 0 ⟨by decide, by decide⟩ (by decide) (by simp) gz safe_nil (hb hby own_d384) 89 rfl (fun T168 h168 S168 W168 V R168 => ?_)
      have B := B.other W168 nd
      have E := own_ext_wr E W168 gd
      refine g_aload S168.here hx (hb hby own_d385) rfl rfl 91 rfl ?_
      refine g_iloadN S168.here hx (hb hby own_d386) rfl 92 rfl ?_
      refine g_iinc S168.here hx (hb hby own_d387) rfl #[.val (.int (0 : Int32)), .val (.ref t), .val (.int (1 : Int32)), .val (.int (2 : Int32)), .val (.ref d), .val (.ref t), .val (.int (1 : Int32)), .val (.int (0 : Int32)), .val (.int (c1.toInt8.toInt32))] (by rw [show (1 : Int32) + Int32.ofInt 1 = (2 : Int32) from by decide]; rfl) 95 rfl ?_
      refine g_sipush S168.here hx (hb hby own_d388) (128 : Int32) (by decide) 98 rfl ?_
      refine g_iload S168.here hx (hb hby own_d389) rfl 100 rfl ?_
      refine g_bipush S168.here hx (hb hby own_d390) (63 : Int32) (by decide) 102 rfl ?_
      refine g_iand S168.here hx (hb hby own_d391) 103 rfl ?_
      refine g_ior S168.here hx (hb hby own_d392) 104 rfl ?_
      refine g_i2b S168.here hx (hb hby own_d393) 105 rfl ?_
      refine S168.stB hx V 1 ⟨by decide, by decide⟩ (by decide) (by simp) gz safe_nil (hb hby own_d394) 106 rfl (fun T169 h169 S169 W169 V R169 => ?_)
      have B := B.other W169 nd
      have E := own_ext_wr E W169 gd
      refine g_goto S169.here hx (hb hby own_d395) 118 (by decide) (by decide) ?_
      refine g_iinc S169.here hx (hb hby own_d362) rfl #[.val (.int (0 : Int32)), .val (.ref t), .val (.int (1 : Int32)), .val (.int (2 : Int32)), .val (.ref d), .val (.ref t), .val (.int (1 : Int32)), .val (.int (1 : Int32)), .val (.int (c1.toInt8.toInt32))] (by rw [show (0 : Int32) + Int32.ofInt 1 = (1 : Int32) from by decide]; rfl) 121 rfl ?_
      refine g_goto S169.here hx (hb hby own_d363) 49 (by decide) (by decide) ?_
      refine g_iload S169.here hx (hb hby own_d348) rfl 51 rfl ?_
      refine g_iload S169.here hx (hb hby own_d349) rfl 53 rfl ?_
      refine g_icmpT S169.here hx (hb hby own_d350) 1 1 (by decide) (by decide) (by show 1 ≤ 1; decide) 124 (by decide) (by decide) ?_
      refine g_iloadN S169.here hx (hb hby own_d364) rfl 125 rfl ?_
      refine g_aload S169.here hx (hb hby own_d365) rfl rfl 127 rfl ?_
      refine S169.len hx V (hb hby own_d366) 128 rfl ?_
      refine g_icmpF S169.here hx (hb hby own_d367) 2 2 (by decide) (by decide) (by show ¬ (¬ 2 = 2); decide) 131 rfl ?_
      refine g_aload S169.here hx (hb hby own_d396) rfl rfl 133 rfl ?_
      exact S169.aret hx hlk hret rfl rfl rfl (hb hby own_d397) ⟨d, rfl, E, _, _, _, V, by show _ = own_u c1 + (0); rw [u1]; decide⟩ (by decide) (by decide)
theorem own_ef398 (m : MethodId) (x0 : Addr) (x1 : Int32) : entryFrame m #[(.ref x0), (.int x1)] 9 = mkF m 0 #[.val (.ref x0), .val (.int x1), .unset, .unset, .unset, .unset, .unset, .unset, .unset] [] := by first | (simp [entryFrame, mkF, argsToLocals, Value.category]; done) | rfl
theorem own_d399 : decode jdk_42_method_47_code 0 = .ok (.iconst 0, 1) := by decide +kernel
theorem own_d400 : decode jdk_42_method_47_code 1 = .ok (.istore_n 2, 1) := by decide +kernel
theorem own_d401 : decode jdk_42_method_47_code 2 = .ok (.iconst 0, 1) := by decide +kernel
theorem own_d402 : decode jdk_42_method_47_code 3 = .ok (.istore_n 3, 1) := by decide +kernel
theorem own_d403 : decode jdk_42_method_47_code 4 = .ok (.aload_n 0, 1) := by decide +kernel
theorem own_d404 : decode jdk_42_method_47_code 5 = .ok (.arraylength, 1) := by decide +kernel
theorem own_d405 : decode jdk_42_method_47_code 6 = .ok (.iconst 1, 1) := by decide +kernel
theorem own_d406 : decode jdk_42_method_47_code 7 = .ok (.ishr, 1) := by decide +kernel
theorem own_d407 : decode jdk_42_method_47_code 8 = .ok (.istore 4, 2) := by decide +kernel
theorem own_d408 : decode jdk_42_method_47_code 10 = .ok (.iload 4, 2) := by decide +kernel
theorem own_d409 : decode jdk_42_method_47_code 12 = .ok (.iconst 3, 1) := by decide +kernel
theorem own_d410 : decode jdk_42_method_47_code 13 = .ok (.imul, 1) := by decide +kernel
theorem own_d411 : decode jdk_42_method_47_code 14 = .ok (.newarray .byte, 2) := by decide +kernel
theorem own_d412 : decode jdk_42_method_47_code 16 = .ok (.astore 5, 2) := by decide +kernel
theorem own_d413 : decode jdk_42_method_47_code 58 = .ok (.iload_n 3, 1) := by decide +kernel
theorem own_d414 : decode jdk_42_method_47_code 59 = .ok (.iload 4, 2) := by decide +kernel
theorem own_d415 : decode jdk_42_method_47_code 61 = .ok (.if_icmp .ge 294, 3) := by decide +kernel
theorem own_d416 : decode jdk_42_method_47_code 355 = .ok (.iload_n 2, 1) := by decide +kernel
theorem own_d417 : decode jdk_42_method_47_code 356 = .ok (.aload 5, 2) := by decide +kernel
theorem own_d418 : decode jdk_42_method_47_code 358 = .ok (.arraylength, 1) := by decide +kernel
theorem own_d419 : decode jdk_42_method_47_code 359 = .ok (.if_icmp .ne 6, 3) := by decide +kernel
theorem own_d420 : decode jdk_42_method_47_code 365 = .ok (.aload 5, 2) := by decide +kernel
theorem own_d421 : decode jdk_42_method_47_code 367 = .ok (.iload_n 2, 1) := by decide +kernel
theorem own_d422 : decode jdk_42_method_47_code 368 = .ok (.invokestatic 102, 3) := by decide +kernel
theorem own_d423 : decode jdk_42_method_47_code 371 = .ok (.areturn, 1) := by decide +kernel
theorem own_d424 : decode jdk_42_method_47_code 362 = .ok (.aload 5, 2) := by decide +kernel
theorem own_d425 : decode jdk_42_method_47_code 364 = .ok (.areturn, 1) := by decide +kernel
theorem own_d426 : decode jdk_42_method_47_code 64 = .ok (.aload_n 0, 1) := by decide +kernel
theorem own_d427 : decode jdk_42_method_47_code 65 = .ok (.iload_n 3, 1) := by decide +kernel
theorem own_d428 : decode jdk_42_method_47_code 66 = .ok (.iinc 3 1, 3) := by decide +kernel
theorem own_d429 : decode jdk_42_method_47_code 69 = .ok (.invokestatic 360, 3) := by decide +kernel
theorem own_d430 : decode jdk_42_method_47_code 72 = .ok (.istore 6, 2) := by decide +kernel
theorem own_d431 : decode jdk_42_method_47_code 74 = .ok (.iload 6, 2) := by decide +kernel
theorem own_d432 : decode jdk_42_method_47_code 76 = .ok (.sipush 128, 3) := by decide +kernel
theorem own_d433 : decode jdk_42_method_47_code 79 = .ok (.if_icmp .ge 16, 3) := by decide +kernel
theorem own_d434 : decode jdk_42_method_47_code 95 = .ok (.iload 6, 2) := by decide +kernel
theorem own_d435 : decode jdk_42_method_47_code 97 = .ok (.sipush 2048, 3) := by decide +kernel
theorem own_d436 : decode jdk_42_method_47_code 100 = .ok (.if_icmp .ge 40, 3) := by decide +kernel
theorem own_d437 : decode jdk_42_method_47_code 140 = .ok (.iload 6, 2) := by decide +kernel
theorem own_d438 : decode jdk_42_method_47_code 142 = .ok (.invokestatic 404, 3) := by decide +kernel
theorem own_pd439 : parseMethodDescriptor "(C)Z" = some ⟨[.char], some .boolean⟩ := by decide +kernel
theorem own_d440 : decode jdk_42_method_47_code 145 = .ok (.ifCond .eq 153, 3) := by decide +kernel
theorem own_d441 : decode jdk_42_method_47_code 298 = .ok (.aload 5, 2) := by decide +kernel
theorem own_d442 : decode jdk_42_method_47_code 300 = .ok (.iload_n 2, 1) := by decide +kernel
theorem own_d443 : decode jdk_42_method_47_code 301 = .ok (.iinc 2 1, 3) := by decide +kernel
theorem own_d444 : decode jdk_42_method_47_code 304 = .ok (.sipush 224, 3) := by decide +kernel
theorem own_d445 : decode jdk_42_method_47_code 307 = .ok (.iload 6, 2) := by decide +kernel
theorem own_d446 : decode jdk_42_method_47_code 309 = .ok (.bipush 12, 2) := by decide +kernel
theorem own_d447 : decode jdk_42_method_47_code 311 = .ok (.ishr, 1) := by decide +kernel
theorem own_d448 : decode jdk_42_method_47_code 312 = .ok (.ior, 1) := by decide +kernel
theorem own_d449 : decode jdk_42_method_47_code 313 = .ok (.i2b, 1) := by decide +kernel
theorem own_d450 : decode jdk_42_method_47_code 314 = .ok (.bastore, 1) := by decide +kernel
theorem own_d451 : decode jdk_42_method_47_code 315 = .ok (.aload 5, 2) := by decide +kernel
theorem own_d452 : decode jdk_42_method_47_code 317 = .ok (.iload_n 2, 1) := by decide +kernel
theorem own_d453 : decode jdk_42_method_47_code 318 = .ok (.iinc 2 1, 3) := by decide +kernel
theorem own_d454 : decode jdk_42_method_47_code 321 = .ok (.sipush 128, 3) := by decide +kernel
theorem own_d455 : decode jdk_42_method_47_code 324 = .ok (.iload 6, 2) := by decide +kernel
theorem own_d456 : decode jdk_42_method_47_code 326 = .ok (.bipush 6, 2) := by decide +kernel
theorem own_d457 : decode jdk_42_method_47_code 328 = .ok (.ishr, 1) := by decide +kernel
theorem own_d458 : decode jdk_42_method_47_code 329 = .ok (.bipush 63, 2) := by decide +kernel
theorem own_d459 : decode jdk_42_method_47_code 331 = .ok (.iand, 1) := by decide +kernel
theorem own_d460 : decode jdk_42_method_47_code 332 = .ok (.ior, 1) := by decide +kernel
theorem own_d461 : decode jdk_42_method_47_code 333 = .ok (.i2b, 1) := by decide +kernel
theorem own_d462 : decode jdk_42_method_47_code 334 = .ok (.bastore, 1) := by decide +kernel
theorem own_d463 : decode jdk_42_method_47_code 335 = .ok (.aload 5, 2) := by decide +kernel
theorem own_d464 : decode jdk_42_method_47_code 337 = .ok (.iload_n 2, 1) := by decide +kernel
theorem own_d465 : decode jdk_42_method_47_code 338 = .ok (.iinc 2 1, 3) := by decide +kernel
theorem own_d466 : decode jdk_42_method_47_code 341 = .ok (.sipush 128, 3) := by decide +kernel
theorem own_d467 : decode jdk_42_method_47_code 344 = .ok (.iload 6, 2) := by decide +kernel
theorem own_d468 : decode jdk_42_method_47_code 346 = .ok (.bipush 63, 2) := by decide +kernel
theorem own_d469 : decode jdk_42_method_47_code 348 = .ok (.iand, 1) := by decide +kernel
theorem own_d470 : decode jdk_42_method_47_code 349 = .ok (.ior, 1) := by decide +kernel
theorem own_d471 : decode jdk_42_method_47_code 350 = .ok (.i2b, 1) := by decide +kernel
theorem own_d472 : decode jdk_42_method_47_code 351 = .ok (.bastore, 1) := by decide +kernel
theorem own_d473 : decode jdk_42_method_47_code 352 = .ok (.goto (-294), 3) := by decide +kernel
theorem own_d474 : decode jdk_42_method_47_code 103 = .ok (.aload 5, 2) := by decide +kernel
theorem own_d475 : decode jdk_42_method_47_code 105 = .ok (.iload_n 2, 1) := by decide +kernel
theorem own_d476 : decode jdk_42_method_47_code 106 = .ok (.iinc 2 1, 3) := by decide +kernel
theorem own_d477 : decode jdk_42_method_47_code 109 = .ok (.sipush 192, 3) := by decide +kernel
theorem own_d478 : decode jdk_42_method_47_code 112 = .ok (.iload 6, 2) := by decide +kernel
theorem own_d479 : decode jdk_42_method_47_code 114 = .ok (.bipush 6, 2) := by decide +kernel
theorem own_d480 : decode jdk_42_method_47_code 116 = .ok (.ishr, 1) := by decide +kernel
theorem own_d481 : decode jdk_42_method_47_code 117 = .ok (.ior, 1) := by decide +kernel
theorem own_d482 : decode jdk_42_method_47_code 118 = .ok (.i2b, 1) := by decide +kernel
theorem own_d483 : decode jdk_42_method_47_code 119 = .ok (.bastore, 1) := by decide +kernel
theorem own_d484 : decode jdk_42_method_47_code 120 = .ok (.aload 5, 2) := by decide +kernel
theorem own_d485 : decode jdk_42_method_47_code 122 = .ok (.iload_n 2, 1) := by decide +kernel
theorem own_d486 : decode jdk_42_method_47_code 123 = .ok (.iinc 2 1, 3) := by decide +kernel
theorem own_d487 : decode jdk_42_method_47_code 126 = .ok (.sipush 128, 3) := by decide +kernel
theorem own_d488 : decode jdk_42_method_47_code 129 = .ok (.iload 6, 2) := by decide +kernel
theorem own_d489 : decode jdk_42_method_47_code 131 = .ok (.bipush 63, 2) := by decide +kernel
theorem own_d490 : decode jdk_42_method_47_code 133 = .ok (.iand, 1) := by decide +kernel
theorem own_d491 : decode jdk_42_method_47_code 134 = .ok (.ior, 1) := by decide +kernel
theorem own_d492 : decode jdk_42_method_47_code 135 = .ok (.i2b, 1) := by decide +kernel
theorem own_d493 : decode jdk_42_method_47_code 136 = .ok (.bastore, 1) := by decide +kernel
theorem own_d494 : decode jdk_42_method_47_code 137 = .ok (.goto 215, 3) := by decide +kernel
theorem own_d495 : decode jdk_42_method_47_code 82 = .ok (.aload 5, 2) := by decide +kernel
theorem own_d496 : decode jdk_42_method_47_code 84 = .ok (.iload_n 2, 1) := by decide +kernel
theorem own_d497 : decode jdk_42_method_47_code 85 = .ok (.iinc 2 1, 3) := by decide +kernel
theorem own_d498 : decode jdk_42_method_47_code 88 = .ok (.iload 6, 2) := by decide +kernel
theorem own_d499 : decode jdk_42_method_47_code 90 = .ok (.i2b, 1) := by decide +kernel
theorem own_d500 : decode jdk_42_method_47_code 91 = .ok (.bastore, 1) := by decide +kernel
theorem own_d501 : decode jdk_42_method_47_code 92 = .ok (.goto 260, 3) := by decide +kernel
theorem own_d502 : decode jdk_42_method_47_code 18 = .ok (.iload_n 3, 1) := by decide +kernel
theorem own_d503 : decode jdk_42_method_47_code 19 = .ok (.iload 4, 2) := by decide +kernel
theorem own_d504 : decode jdk_42_method_47_code 21 = .ok (.if_icmp .ge 37, 3) := by decide +kernel
theorem own_d505 : decode jdk_42_method_47_code 24 = .ok (.aload_n 0, 1) := by decide +kernel
theorem own_d506 : decode jdk_42_method_47_code 25 = .ok (.iload_n 3, 1) := by decide +kernel
theorem own_d507 : decode jdk_42_method_47_code 26 = .ok (.invokestatic 360, 3) := by decide +kernel
theorem own_d508 : decode jdk_42_method_47_code 29 = .ok (.istore 6, 2) := by decide +kernel
theorem own_d509 : decode jdk_42_method_47_code 31 = .ok (.iload 6, 2) := by decide +kernel
theorem own_d510 : decode jdk_42_method_47_code 33 = .ok (.sipush 128, 3) := by decide +kernel
theorem own_d511 : decode jdk_42_method_47_code 36 = .ok (.if_icmp .lt 6, 3) := by decide +kernel
theorem own_d512 : decode jdk_42_method_47_code 42 = .ok (.aload 5, 2) := by decide +kernel
theorem own_d513 : decode jdk_42_method_47_code 44 = .ok (.iload_n 2, 1) := by decide +kernel
theorem own_d514 : decode jdk_42_method_47_code 45 = .ok (.iinc 2 1, 3) := by decide +kernel
theorem own_d515 : decode jdk_42_method_47_code 48 = .ok (.iload 6, 2) := by decide +kernel
theorem own_d516 : decode jdk_42_method_47_code 50 = .ok (.i2b, 1) := by decide +kernel
theorem own_d517 : decode jdk_42_method_47_code 51 = .ok (.bastore, 1) := by decide +kernel
theorem own_d518 : decode jdk_42_method_47_code 52 = .ok (.iinc 3 1, 3) := by decide +kernel
theorem own_d519 : decode jdk_42_method_47_code 55 = .ok (.goto (-37), 3) := by decide +kernel
theorem own_d520 : decode jdk_42_method_47_code 39 = .ok (.goto 19, 3) := by decide +kernel
set_option maxRecDepth 65536 in
set_option maxHeartbeats 40000000 in
theorem ctEU1 (l : Launch) (Z : State) (a0 : Array Value) (hw : ∀ d ∈ tables_1, d.before a0 Z = true) (t : Addr) (kt : ClassId) (c1 : Int32) (h : Heap) (O : Old Z Z.heap.size h) (H : own_h16 Z) (k1 : 0 ≤ c1.toInt ∧ c1.toInt ≤ 32767) (B : Arv Z h t kt .byte (2 : Int32) [.int (StrChars.lo8 c1), .int (StrChars.hi8 c1)] (.int 0)) :
    Ct 0 l Z [] [] (⟨"java/lang/String", "encodeUTF8_UTF16", "([BZ)[B"⟩ : MethodName) jdk_42_method_47_code 9 (some (.array .byte)) ({ frames := 2, cells := 2, slots := 18, locals := 60 } : Room) #[(.ref t), (.int (1 : Int32))] h (fun v h' => ∃ t : Addr, v = some (.ref t) ∧ Ext h h' ∧ own_enc Z h' t (own_us [c1])) := by
  refine Ct.intro (plainFor_of_name own_pn173) O (fun _ => rfl) ⟨a0, EW.nil⟩ ?_
  intro p e s m below meth c T0 hx hby hml hret hnm hlk hsf S0
  refine Goes.cast (own_ef398 m t (1 : Int32)) ?_
  have B0 := B
  refine g_iconst S0.here hx (hb hby own_d399) (0 : Int32) (by decide) 1 rfl ?_
  refine g_istoreN S0.here hx (hb hby own_d400) #[.val (.ref t), .val (.int (1 : Int32)), .val (.int (0 : Int32)), .unset, .unset, .unset, .unset, .unset, .unset] rfl 2 rfl ?_
  refine g_iconst S0.here hx (hb hby own_d401) (0 : Int32) (by decide) 3 rfl ?_
  refine g_istoreN S0.here hx (hb hby own_d402) #[.val (.ref t), .val (.int (1 : Int32)), .val (.int (0 : Int32)), .val (.int (0 : Int32)), .unset, .unset, .unset, .unset, .unset] rfl 4 rfl ?_
  refine g_aloadN S0.here hx (hb hby own_d403) rfl rfl 5 rfl ?_
  refine S0.len hx B (hb hby own_d404) 6 rfl ?_
  refine g_iconst S0.here hx (hb hby own_d405) (1 : Int32) (by decide) 7 rfl ?_
  refine g_ishr S0.here hx (hb hby own_d406) 8 rfl ?_
  rw [show ((2 : Int32) >>> ((1 : Int32) &&& 31)) = (1 : Int32) from by decide]
  refine g_istore S0.here hx (hb hby own_d407) #[.val (.ref t), .val (.int (1 : Int32)), .val (.int (0 : Int32)), .val (.int (0 : Int32)), .val (.int (1 : Int32)), .unset, .unset, .unset, .unset] rfl 10 rfl ?_
  refine g_iload S0.here hx (hb hby own_d408) rfl 12 rfl ?_
  refine g_iconst S0.here hx (hb hby own_d409) (3 : Int32) (by decide) 13 rfl ?_
  refine g_imul S0.here hx (hb hby own_d410) 14 rfl ?_
  rw [show ((1 : Int32) * (3 : Int32)) = (3 : Int32) from by decide]
  refine S0.newAE (aty := .byte) hx (own_q31 hw) (n := (3 : Int32)) (by decide) (cap := 3) (by decide) (by decide) (hb hby own_d411) (by decide) (by decide) (ad := "[B") (by decide) 16 rfl (fun T170 h170 D_b k170 S170 g170 E170 V170 D_x F170 R170 => ?_)
  have D : Arv Z h170 D_b k170 .byte (3 : Int32) [.int 0, .int 0, .int 0] (.int 0) := V170
  have D_z : Z.heap.size ≤ D_b := by rw [g170]; exact S0.size
  have D_g : h.size ≤ D_b := Nat.le_of_eq g170.symm
  refine g_astore S170.here hx (hb hby own_d412) rfl #[.val (.ref t), .val (.int (1 : Int32)), .val (.int (0 : Int32)), .val (.int (0 : Int32)), .val (.int (1 : Int32)), .val (.ref D_b), .unset, .unset, .unset] rfl 18 rfl ?_
  have B := B.ext E170
  have nd : t ≠ D_b := fun q => by rw [← q] at D_g; exact absurd B0.lt (Nat.not_lt.mpr D_g)
  have E := E170
  have kD : ∃ k : ClassId, k = k := ⟨0, rfl⟩
  have head1 : ∀ (vm : Vm) (T : State) (h1 : Heap) (d : Int32) (w6 : Slot) (kd : ClassId) (vs : List Value), One w6 → vs.length = 3 → St 0 p l e ({ frames := 2, cells := 2, slots := 18, locals := 60 } : Room) s m #[(.ref t), (.int (1 : Int32))] below meth c "java/lang/String" Z [] vm T h1 1 3 → Arv Z h1 t kt .byte (2 : Int32) [.int (StrChars.lo8 c1), .int (StrChars.hi8 c1)] (.int 0) → Arv Z h1 D_b kd .byte (3 : Int32) vs (.int 0) → Ext h h1 → d.toInt = (own_u c1) → Goes p.tables e below (Pof 0 Z [] s ({ frames := 2, cells := 2, slots := 18, locals := 60 } : Room) (fun v h' => ∃ t : Addr, v = some (.ref t) ∧ Ext h h' ∧ own_enc Z h' t (own_us [c1]))) T (mkF m 58 #[.val (.ref t), .val (.int (1 : Int32)), .val (.int d), .val (.int (1 : Int32)), .val (.int (1 : Int32)), .val (.ref D_b), w6, .unset, .unset] []) := by
    intro vm T h1 d w6 kd vs hw6 hl S1 B D E hd
    have z3 : (3 : Int32).toInt = 3 := by decide
    have ub1 := own_ub c1
    refine g_iloadN S1.here hx (hb hby own_d413) rfl 59 rfl ?_
    refine g_iload S1.here hx (hb hby own_d414) rfl 61 rfl ?_
    refine g_icmpT S1.here hx (hb hby own_d415) 1 1 (by decide) (by decide) (by show 1 ≤ 1; decide) 355 (by decide) (by decide) ?_
    refine g_iloadN S1.here hx (hb hby own_d416) rfl 356 rfl ?_
    refine g_aload S1.here hx (hb hby own_d417) rfl rfl 358 rfl ?_
    refine S1.len hx D (hb hby own_d418) 359 rfl ?_
    refine g_icmp S1.here hx (hb hby own_d419) d.toInt 3 rfl (by decide) 365 362 (by decide) (by decide) rfl (fun (hc359 : ¬ d.toInt = 3) => ?_) (fun (hc359 : ¬ (¬ d.toInt = 3)) => ?_)
    · refine g_aload S1.here hx (hb hby own_d420) rfl rfl 367 rfl ?_
      refine g_iloadN S1.here hx (hb hby own_d421) rfl 368 rfl ?_
      refine S1.callS hx (W := 0) (own_q158 hw) (own_q159 hw) (own_q160 hw) (own_q161 hw) (by decide) (ctCp l Z a0 hw D_b kd (3 : Int32) d vs h1 S1.old D (by omega) (by omega)) nosf (by decide) (by decide) (by rw [hml]; rfl) [(.ref D_b), (.int d)] [] (lenOf own_pd371 rfl) rfl rfl (Nat.le_refl _) (hb hby own_d422) (by decide) (by decide) 371 rfl (fun v171 vm171 T171 h171 S171 Q171 R171 => ?_)
      obtain ⟨r, rfl, X2, C⟩ := Q171
      show Goes _ _ _ _ T171 (mkF m 371 #[.val (.ref t), .val (.int (1 : Int32)), .val (.int d), .val (.int (1 : Int32)), .val (.int (1 : Int32)), .val (.ref D_b), w6, .unset, .unset] [(.ref r)])
      have E := own_ext_trans E X2
      rw [hd] at C
      exact S171.aret hx hlk hret rfl rfl rfl (hb hby own_d423) ⟨r, rfl, E, (show own_u c1 = own_us [c1] from by show _ = own_u c1 + (0); omega) ▸ C⟩ (by decide) (by decide)
    · refine g_aload S1.here hx (hb hby own_d424) rfl rfl 364 rfl ?_
      exact S1.aret hx hlk hret rfl rfl rfl (hb hby own_d425) ⟨D_b, rfl, E, _, _, _, D, by show _ = own_u c1 + (0); omega⟩ (by decide) (by decide)
  have head0 : ∀ (vm : Vm) (T : State) (h1 : Heap) (d : Int32) (w6 : Slot) (kd : ClassId) (vs : List Value), One w6 → vs.length = 3 → St 0 p l e ({ frames := 2, cells := 2, slots := 18, locals := 60 } : Room) s m #[(.ref t), (.int (1 : Int32))] below meth c "java/lang/String" Z [] vm T h1 1 3 → Arv Z h1 t kt .byte (2 : Int32) [.int (StrChars.lo8 c1), .int (StrChars.hi8 c1)] (.int 0) → Arv Z h1 D_b kd .byte (3 : Int32) vs (.int 0) → Ext h h1 → d.toInt = (0) → Goes p.tables e below (Pof 0 Z [] s ({ frames := 2, cells := 2, slots := 18, locals := 60 } : Room) (fun v h' => ∃ t : Addr, v = some (.ref t) ∧ Ext h h' ∧ own_enc Z h' t (own_us [c1]))) T (mkF m 58 #[.val (.ref t), .val (.int (1 : Int32)), .val (.int d), .val (.int (0 : Int32)), .val (.int (1 : Int32)), .val (.ref D_b), w6, .unset, .unset] []) := by
    intro vm T h1 d w6 kd vs hw6 hl S1 B D E hd
    have z3 : (3 : Int32).toInt = 3 := by decide
    have ub1 := own_ub c1
    refine g_iloadN S1.here hx (hb hby own_d413) rfl 59 rfl ?_
    refine g_iload S1.here hx (hb hby own_d414) rfl 61 rfl ?_
    refine g_icmpF S1.here hx (hb hby own_d415) 0 1 (by decide) (by decide) (by show ¬ (1 ≤ 0); decide) 64 rfl ?_
    refine g_aloadN S1.here hx (hb hby own_d426) rfl rfl 65 rfl ?_
    refine g_iloadN S1.here hx (hb hby own_d427) rfl 66 rfl ?_
    refine g_iinc S1.here hx (hb hby own_d428) rfl #[.val (.ref t), .val (.int (1 : Int32)), .val (.int d), .val (.int (1 : Int32)), .val (.int (1 : Int32)), .val (.ref D_b), w6, .unset, .unset] (by rw [show (0 : Int32) + Int32.ofInt 1 = (1 : Int32) from by decide]; rfl) 69 rfl ?_
    refine S1.callS hx (W := 0) (own_q144 hw) (own_q139 hw) (own_q29 hw) (own_q140 hw) (by decide) (ctGC10 l Z a0 hw t kt c1 _ h1 S1.old H k1 B rfl rfl) nosf (by decide) (by decide) (by rw [hml]; rfl) [(.ref t), (.int (0 : Int32))] [] (lenOf own_pd138 rfl) rfl rfl (Nat.le_refl _) (hb hby own_d429) (by decide) (by decide) 72 rfl (fun v172 vm172 T172 h172 S172 Q172 R172 => ?_)
    obtain ⟨rfl, rfl⟩ := Q172
    show Goes _ _ _ _ T172 (mkF m 72 #[.val (.ref t), .val (.int (1 : Int32)), .val (.int d), .val (.int (1 : Int32)), .val (.int (1 : Int32)), .val (.ref D_b), w6, .unset, .unset] [(.int c1)])
    refine g_istore S172.here hx (hb hby own_d430) #[.val (.ref t), .val (.int (1 : Int32)), .val (.int d), .val (.int (1 : Int32)), .val (.int (1 : Int32)), .val (.ref D_b), .val (.int c1), .unset, .unset] (by rw [XS.store1 (o := w6) rfl hw6 rfl]; rfl) 74 rfl ?_
    refine g_iload S172.here hx (hb hby own_d431) rfl 76 rfl ?_
    refine g_sipush S172.here hx (hb hby own_d432) (128 : Int32) (by decide) 79 rfl ?_
    refine g_icmp S172.here hx (hb hby own_d433) c1.toInt 128 rfl (by decide) 95 82 (by decide) (by decide) rfl (fun (hc79 : 128 ≤ c1.toInt) => ?_) (fun (hc79 : ¬ (128 ≤ c1.toInt)) => ?_)
    · refine g_iload S172.here hx (hb hby own_d434) rfl 97 rfl ?_
      refine g_sipush S172.here hx (hb hby own_d435) (2048 : Int32) (by decide) 100 rfl ?_
      refine g_icmp S172.here hx (hb hby own_d436) c1.toInt 2048 rfl (by decide) 140 103 (by decide) (by decide) rfl (fun (hc100 : 2048 ≤ c1.toInt) => ?_) (fun (hc100 : ¬ (2048 ≤ c1.toInt)) => ?_)
      · refine g_iload S172.here hx (hb hby own_d437) rfl 142 rfl ?_
        refine S172.callS hx (W := 0) (own_q145 hw) (own_q146 hw) (own_q147 hw) (own_q148 hw) (by decide) (ctSu l Z a0 hw c1 h1 S172.old (by omega)) nosf (by decide) (by decide) (by rw [hml]; rfl) [(.int c1)] [] (lenOf own_pd439 rfl) rfl rfl (Nat.le_refl _) (hb hby own_d438) (by decide) (by decide) 145 rfl (fun v173 vm173 T173 h173 S173 Q173 R173 => ?_)
        obtain ⟨rfl, rfl⟩ := Q173
        show Goes _ _ _ _ T173 (mkF m 145 #[.val (.ref t), .val (.int (1 : Int32)), .val (.int d), .val (.int (1 : Int32)), .val (.int (1 : Int32)), .val (.ref D_b), .val (.int c1), .unset, .unset] [(.int (0 : Int32))])
        refine g_ifT S173.here hx (hb hby own_d440) 0 (by decide) (by show 0 = 0; decide) 298 (by decide) (by decide) ?_
        have u := own_u3 (c := c1) (by omega)
        refine g_aload S173.here hx (hb hby own_d441) rfl rfl 300 rfl ?_
        refine g_iloadN S173.here hx (hb hby own_d442) rfl 301 rfl ?_
        have ea174 := own_add1 (j := d) (by omega)
        refine g_iinc S173.here hx (hb hby own_d443) rfl #[.val (.ref t), .val (.int (1 : Int32)), .val (.int (d + (1 : Int32))), .val (.int (1 : Int32)), .val (.int (1 : Int32)), .val (.ref D_b), .val (.int c1), .unset, .unset] rfl 304 rfl ?_
        refine g_sipush S173.here hx (hb hby own_d444) (224 : Int32) (by decide) 307 rfl ?_
        refine g_iload S173.here hx (hb hby own_d445) rfl 309 rfl ?_
        refine g_bipush S173.here hx (hb hby own_d446) (12 : Int32) (by decide) 311 rfl ?_
        refine g_ishr S173.here hx (hb hby own_d447) 312 rfl ?_
        refine g_ior S173.here hx (hb hby own_d448) 313 rfl ?_
        refine g_i2b S173.here hx (hb hby own_d449) 314 rfl ?_
        have ej := own_clamp (j := d) (by omega)
        refine S173.stB hx D (d).toNatClampNeg ⟨own_nn (by omega), own_lt (by omega)⟩ rfl (by (try simp only [List.length_set]); omega) D_z safe_nil (hb hby own_d450) 315 rfl (fun T175 h175 S175 W175 D R175 => ?_)
        have B := B.other W175 nd
        have E := own_ext_wr E W175 D_g
        refine g_aload S175.here hx (hb hby own_d451) rfl rfl 317 rfl ?_
        refine g_iloadN S175.here hx (hb hby own_d452) rfl 318 rfl ?_
        have ea176 := own_add1 (j := (d + (1 : Int32))) (by omega)
        refine g_iinc S175.here hx (hb hby own_d453) rfl #[.val (.ref t), .val (.int (1 : Int32)), .val (.int ((d + (1 : Int32)) + (1 : Int32))), .val (.int (1 : Int32)), .val (.int (1 : Int32)), .val (.ref D_b), .val (.int c1), .unset, .unset] rfl 321 rfl ?_
        refine g_sipush S175.here hx (hb hby own_d454) (128 : Int32) (by decide) 324 rfl ?_
        refine g_iload S175.here hx (hb hby own_d455) rfl 326 rfl ?_
        refine g_bipush S175.here hx (hb hby own_d456) (6 : Int32) (by decide) 328 rfl ?_
        refine g_ishr S175.here hx (hb hby own_d457) 329 rfl ?_
        refine g_bipush S175.here hx (hb hby own_d458) (63 : Int32) (by decide) 331 rfl ?_
        refine g_iand S175.here hx (hb hby own_d459) 332 rfl ?_
        refine g_ior S175.here hx (hb hby own_d460) 333 rfl ?_
        refine g_i2b S175.here hx (hb hby own_d461) 334 rfl ?_
        have ej := own_clamp (j := (d + (1 : Int32))) (by omega)
        refine S175.stB hx D ((d + (1 : Int32))).toNatClampNeg ⟨own_nn (by omega), own_lt (by omega)⟩ rfl (by (try simp only [List.length_set]); omega) D_z safe_nil (hb hby own_d462) 335 rfl (fun T177 h177 S177 W177 D R177 => ?_)
        have B := B.other W177 nd
        have E := own_ext_wr E W177 D_g
        refine g_aload S177.here hx (hb hby own_d463) rfl rfl 337 rfl ?_
        refine g_iloadN S177.here hx (hb hby own_d464) rfl 338 rfl ?_
        have ea178 := own_add1 (j := ((d + (1 : Int32)) + (1 : Int32))) (by omega)
        refine g_iinc S177.here hx (hb hby own_d465) rfl #[.val (.ref t), .val (.int (1 : Int32)), .val (.int (((d + (1 : Int32)) + (1 : Int32)) + (1 : Int32))), .val (.int (1 : Int32)), .val (.int (1 : Int32)), .val (.ref D_b), .val (.int c1), .unset, .unset] rfl 341 rfl ?_
        refine g_sipush S177.here hx (hb hby own_d466) (128 : Int32) (by decide) 344 rfl ?_
        refine g_iload S177.here hx (hb hby own_d467) rfl 346 rfl ?_
        refine g_bipush S177.here hx (hb hby own_d468) (63 : Int32) (by decide) 348 rfl ?_
        refine g_iand S177.here hx (hb hby own_d469) 349 rfl ?_
        refine g_ior S177.here hx (hb hby own_d470) 350 rfl ?_
        refine g_i2b S177.here hx (hb hby own_d471) 351 rfl ?_
        have ej := own_clamp (j := ((d + (1 : Int32)) + (1 : Int32))) (by omega)
        refine S177.stB hx D (((d + (1 : Int32)) + (1 : Int32))).toNatClampNeg ⟨own_nn (by omega), own_lt (by omega)⟩ rfl (by (try simp only [List.length_set]); omega) D_z safe_nil (hb hby own_d472) 352 rfl (fun T179 h179 S179 W179 D R179 => ?_)
        have B := B.other W179 nd
        have E := own_ext_wr E W179 D_g
        refine g_goto S179.here hx (hb hby own_d473) 58 (by decide) (by decide) ?_
        exact head1 _ _ _ _ _ _ _ (One.val rfl) (by first | exact hl | (simp only [List.length_set]; exact hl)) S179 B D E (by omega)
      · have u := own_u2 (c := c1) (by omega) (by omega)
        refine g_aload S172.here hx (hb hby own_d474) rfl rfl 105 rfl ?_
        refine g_iloadN S172.here hx (hb hby own_d475) rfl 106 rfl ?_
        have ea180 := own_add1 (j := d) (by omega)
        refine g_iinc S172.here hx (hb hby own_d476) rfl #[.val (.ref t), .val (.int (1 : Int32)), .val (.int (d + (1 : Int32))), .val (.int (1 : Int32)), .val (.int (1 : Int32)), .val (.ref D_b), .val (.int c1), .unset, .unset] rfl 109 rfl ?_
        refine g_sipush S172.here hx (hb hby own_d477) (192 : Int32) (by decide) 112 rfl ?_
        refine g_iload S172.here hx (hb hby own_d478) rfl 114 rfl ?_
        refine g_bipush S172.here hx (hb hby own_d479) (6 : Int32) (by decide) 116 rfl ?_
        refine g_ishr S172.here hx (hb hby own_d480) 117 rfl ?_
        refine g_ior S172.here hx (hb hby own_d481) 118 rfl ?_
        refine g_i2b S172.here hx (hb hby own_d482) 119 rfl ?_
        have ej := own_clamp (j := d) (by omega)
        refine S172.stB hx D (d).toNatClampNeg ⟨own_nn (by omega), own_lt (by omega)⟩ rfl (by (try simp only [List.length_set]); omega) D_z safe_nil (hb hby own_d483) 120 rfl (fun T181 h181 S181 W181 D R181 => ?_)
        have B := B.other W181 nd
        have E := own_ext_wr E W181 D_g
        refine g_aload S181.here hx (hb hby own_d484) rfl rfl 122 rfl ?_
        refine g_iloadN S181.here hx (hb hby own_d485) rfl 123 rfl ?_
        have ea182 := own_add1 (j := (d + (1 : Int32))) (by omega)
        refine g_iinc S181.here hx (hb hby own_d486) rfl #[.val (.ref t), .val (.int (1 : Int32)), .val (.int ((d + (1 : Int32)) + (1 : Int32))), .val (.int (1 : Int32)), .val (.int (1 : Int32)), .val (.ref D_b), .val (.int c1), .unset, .unset] rfl 126 rfl ?_
        refine g_sipush S181.here hx (hb hby own_d487) (128 : Int32) (by decide) 129 rfl ?_
        refine g_iload S181.here hx (hb hby own_d488) rfl 131 rfl ?_
        refine g_bipush S181.here hx (hb hby own_d489) (63 : Int32) (by decide) 133 rfl ?_
        refine g_iand S181.here hx (hb hby own_d490) 134 rfl ?_
        refine g_ior S181.here hx (hb hby own_d491) 135 rfl ?_
        refine g_i2b S181.here hx (hb hby own_d492) 136 rfl ?_
        have ej := own_clamp (j := (d + (1 : Int32))) (by omega)
        refine S181.stB hx D ((d + (1 : Int32))).toNatClampNeg ⟨own_nn (by omega), own_lt (by omega)⟩ rfl (by (try simp only [List.length_set]); omega) D_z safe_nil (hb hby own_d493) 137 rfl (fun T183 h183 S183 W183 D R183 => ?_)
        have B := B.other W183 nd
        have E := own_ext_wr E W183 D_g
        refine g_goto S183.here hx (hb hby own_d494) 352 (by decide) (by decide) ?_
        refine g_goto S183.here hx (hb hby own_d473) 58 (by decide) (by decide) ?_
        exact head1 _ _ _ _ _ _ _ (One.val rfl) (by first | exact hl | (simp only [List.length_set]; exact hl)) S183 B D E (by omega)
    · have u := own_u1 (c := c1) (by omega)
      refine g_aload S172.here hx (hb hby own_d495) rfl rfl 84 rfl ?_
      refine g_iloadN S172.here hx (hb hby own_d496) rfl 85 rfl ?_
      have ea184 := own_add1 (j := d) (by omega)
      refine g_iinc S172.here hx (hb hby own_d497) rfl #[.val (.ref t), .val (.int (1 : Int32)), .val (.int (d + (1 : Int32))), .val (.int (1 : Int32)), .val (.int (1 : Int32)), .val (.ref D_b), .val (.int c1), .unset, .unset] rfl 88 rfl ?_
      refine g_iload S172.here hx (hb hby own_d498) rfl 90 rfl ?_
      refine g_i2b S172.here hx (hb hby own_d499) 91 rfl ?_
      have ej := own_clamp (j := d) (by omega)
      refine S172.stB hx D (d).toNatClampNeg ⟨own_nn (by omega), own_lt (by omega)⟩ rfl (by (try simp only [List.length_set]); omega) D_z safe_nil (hb hby own_d500) 92 rfl (fun T185 h185 S185 W185 D R185 => ?_)
      have B := B.other W185 nd
      have E := own_ext_wr E W185 D_g
      refine g_goto S185.here hx (hb hby own_d501) 352 (by decide) (by decide) ?_
      refine g_goto S185.here hx (hb hby own_d473) 58 (by decide) (by decide) ?_
      exact head1 _ _ _ _ _ _ _ (One.val rfl) (by first | exact hl | (simp only [List.length_set]; exact hl)) S185 B D E (by omega)
  refine g_iloadN S170.here hx (hb hby own_d502) rfl 19 rfl ?_
  refine g_iload S170.here hx (hb hby own_d503) rfl 21 rfl ?_
  refine g_icmpF S170.here hx (hb hby own_d504) 0 1 (by decide) (by decide) (by show ¬ (1 ≤ 0); decide) 24 rfl ?_
  refine g_aloadN S170.here hx (hb hby own_d505) rfl rfl 25 rfl ?_
  refine g_iloadN S170.here hx (hb hby own_d506) rfl 26 rfl ?_
  refine S170.callS hx (W := 0) (own_q144 hw) (own_q139 hw) (own_q29 hw) (own_q140 hw) (by decide) (ctGC10 l Z a0 hw t kt c1 _ h170 S170.old H k1 B rfl rfl) nosf (by decide) (by decide) (by rw [hml]; rfl) [(.ref t), (.int (0 : Int32))] [] (lenOf own_pd138 rfl) rfl rfl (Nat.le_refl _) (hb hby own_d507) (by decide) (by decide) 29 rfl (fun v186 vm186 T186 h186 S186 Q186 R186 => ?_)
  obtain ⟨rfl, rfl⟩ := Q186
  show Goes _ _ _ _ T186 (mkF m 29 #[.val (.ref t), .val (.int (1 : Int32)), .val (.int (0 : Int32)), .val (.int (0 : Int32)), .val (.int (1 : Int32)), .val (.ref D_b), .unset, .unset, .unset] [(.int c1)])
  refine g_istore S186.here hx (hb hby own_d508) #[.val (.ref t), .val (.int (1 : Int32)), .val (.int (0 : Int32)), .val (.int (0 : Int32)), .val (.int (1 : Int32)), .val (.ref D_b), .val (.int c1), .unset, .unset] rfl 31 rfl ?_
  refine g_iload S186.here hx (hb hby own_d509) rfl 33 rfl ?_
  refine g_sipush S186.here hx (hb hby own_d510) (128 : Int32) (by decide) 36 rfl ?_
  refine g_icmp S186.here hx (hb hby own_d511) c1.toInt 128 rfl (by decide) 42 39 (by decide) (by decide) rfl (fun (hc36 : c1.toInt < 128) => ?_) (fun (hc36 : ¬ (c1.toInt < 128)) => ?_)
  · refine g_aload S186.here hx (hb hby own_d512) rfl rfl 44 rfl ?_
    refine g_iloadN S186.here hx (hb hby own_d513) rfl 45 rfl ?_
    refine g_iinc S186.here hx (hb hby own_d514) rfl #[.val (.ref t), .val (.int (1 : Int32)), .val (.int (1 : Int32)), .val (.int (0 : Int32)), .val (.int (1 : Int32)), .val (.ref D_b), .val (.int c1), .unset, .unset] (by rw [show (0 : Int32) + Int32.ofInt 1 = (1 : Int32) from by decide]; rfl) 48 rfl ?_
    refine g_iload S186.here hx (hb hby own_d515) rfl 50 rfl ?_
    refine g_i2b S186.here hx (hb hby own_d516) 51 rfl ?_
    refine S186.stB hx D 0 ⟨by decide, by decide⟩ (by decide) (by simp) D_z safe_nil (hb hby own_d517) 52 rfl (fun T187 h187 S187 W187 D R187 => ?_)
    have B := B.other W187 nd
    have E := own_ext_wr E W187 D_g
    refine g_iinc S187.here hx (hb hby own_d518) rfl #[.val (.ref t), .val (.int (1 : Int32)), .val (.int (1 : Int32)), .val (.int (1 : Int32)), .val (.int (1 : Int32)), .val (.ref D_b), .val (.int c1), .unset, .unset] (by rw [show (0 : Int32) + Int32.ofInt 1 = (1 : Int32) from by decide]; rfl) 55 rfl ?_
    refine g_goto S187.here hx (hb hby own_d519) 18 (by decide) (by decide) ?_
    refine g_iloadN S187.here hx (hb hby own_d502) rfl 19 rfl ?_
    refine g_iload S187.here hx (hb hby own_d503) rfl 21 rfl ?_
    refine g_icmpT S187.here hx (hb hby own_d504) 1 1 (by decide) (by decide) (by show 1 ≤ 1; decide) 58 (by decide) (by decide) ?_
    exact head1 _ _ _ _ _ _ _ (One.val rfl) (by first | rfl | (simp only [List.length_set]; rfl)) S187 B D E (by have u1 := own_u1 (c := c1) (by omega); rw [u1]; decide)
  · refine g_goto S186.here hx (hb hby own_d520) 58 (by decide) (by decide) ?_
    exact head0 _ _ _ _ _ _ _ (One.val rfl) (by first | rfl | (simp only [List.length_set]; rfl)) S186 B D E (by decide)
theorem own_d521 : decode jdk_42_method_46_code 5 = .ok (.aload_n 1, 1) := by decide +kernel
theorem own_d522 : decode jdk_42_method_46_code 6 = .ok (.iload_n 2, 1) := by decide +kernel
theorem own_d523 : decode jdk_42_method_46_code 7 = .ok (.invokestatic 473, 3) := by decide +kernel
theorem own_pd524 : parseMethodDescriptor "([BZ)[B" = some ⟨[(.array .byte), .boolean], some (.array .byte)⟩ := by decide +kernel
theorem own_d525 : decode jdk_42_method_46_code 10 = .ok (.areturn, 1) := by decide +kernel
set_option maxRecDepth 65536 in
set_option maxHeartbeats 40000000 in
theorem ctE81 (l : Launch) (Z : State) (a0 : Array Value) (hw : ∀ d ∈ tables_1, d.before a0 Z = true) (t : Addr) (kt : ClassId) (c1 : Int32) (h : Heap) (O : Old Z Z.heap.size h) (H : own_h16 Z) (k1 : 0 ≤ c1.toInt ∧ c1.toInt ≤ 32767) (B : Arv Z h t kt .byte (2 : Int32) [.int (StrChars.lo8 c1), .int (StrChars.hi8 c1)] (.int 0)) :
    Ct 0 l Z [] [] (⟨"java/lang/String", "encodeUTF8", "(B[BZ)[B"⟩ : MethodName) jdk_42_method_46_code 9 (some (.array .byte)) ({ frames := 3, cells := 2, slots := 18, locals := 80 } : Room) #[(.int (1 : Int32)), (.ref t), (.int (1 : Int32))] h (fun v h' => ∃ t : Addr, v = some (.ref t) ∧ Ext h h' ∧ own_enc Z h' t (own_us [c1])) := by
  refine Ct.intro (plainFor_of_name own_pn173) O (fun _ => rfl) ⟨a0, EW.nil⟩ ?_
  intro p e s m below meth c T0 hx hby hml hret hnm hlk hsf S0
  refine Goes.cast (own_ef287 m (1 : Int32) t (1 : Int32)) ?_
  refine g_iloadN S0.here hx (hb hby own_d288) rfl 1 rfl ?_
  refine g_iconst S0.here hx (hb hby own_d289) (1 : Int32) (by decide) 2 rfl ?_
  refine g_icmpF S0.here hx (hb hby own_d290) 1 1 (by decide) (by decide) (by show ¬ (¬ 1 = 1); decide) 5 rfl ?_
  refine g_aloadN S0.here hx (hb hby own_d521) rfl rfl 6 rfl ?_
  refine g_iloadN S0.here hx (hb hby own_d522) rfl 7 rfl ?_
  refine S0.callS hx (W := 0) (own_q141 hw) (own_q142 hw) (own_q15 hw) (own_q143 hw) (by decide) (ctEU1 l Z a0 hw t kt c1 h O H k1 B) nosf (by decide) (by decide) (by rw [hml]; rfl) [(.ref t), (.int (1 : Int32))] [] (lenOf own_pd524 rfl) rfl rfl (Nat.le_refl _) (hb hby own_d523) (by decide) (by decide) 10 rfl (fun v188 vm188 T188 h188 S188 Q188 R188 => ?_)
  obtain ⟨r, rfl, E, C⟩ := Q188
  show Goes _ _ _ _ T188 (mkF m 10 #[.val (.int (1 : Int32)), .val (.ref t), .val (.int (1 : Int32)), .unset, .unset, .unset, .unset, .unset, .unset] [(.ref r)])
  exact S188.aret hx hlk hret rfl rfl rfl (hb hby own_d525) ⟨r, rfl, E, C⟩ (by decide) (by decide)
set_option maxRecDepth 65536 in
set_option maxHeartbeats 40000000 in
theorem ctEn10 (l : Launch) (Z : State) (a0 : Array Value) (hw : ∀ d ∈ tables_1, d.before a0 Z = true) (u8 t : Addr) (kt : ClassId) (c1 : Int32) (h : Heap) (O : Old Z Z.heap.size h) (U : Sta Z Z.heap "sun/nio/cs/UTF_8" "INSTANCE" "Lsun/nio/cs/UTF_8;" (.ref u8)) (b1 : 0 ≤ c1.toInt ∧ c1.toInt ≤ 255) (B : Arv Z h t kt .byte (1 : Int32) [.int c1.toInt8.toInt32] (.int 0)) (X : Exa Z h t "[B") :
    Ct 0 l Z [] [] (⟨"java/lang/String", "encode", "(Ljava/nio/charset/Charset;B[B)[B"⟩ : MethodName) jdk_42_method_18_code 3 (some (.array .byte)) ({ frames := 4, cells := 2, slots := 18, locals := 100 } : Room) #[(.ref u8), (.int (0 : Int32)), (.ref t)] h (fun v h' => ∃ t : Addr, v = some (.ref t) ∧ Ext h h' ∧ own_enc Z h' t (own_us [c1])) := by
  refine Ct.intro (plainFor_of_name own_pn173) O (fun _ => rfl) ⟨a0, EW.nil⟩ ?_
  intro p e s m below meth c T0 hx hby hml hret hnm hlk hsf S0
  refine Goes.cast (own_ef302 m u8 (0 : Int32) t) ?_
  refine g_aloadN S0.here hx (hb hby own_d303) rfl rfl 1 rfl ?_
  refine S0.getS hx (host := "") (Or.inl (own_q76 hw)) Via.refl (U.ext O.2) (hb hby own_d304) 4 rfl (fun T189 S189 => ?_)
  refine S189.acmp hx (hb hby own_d305) rfl rfl true (decide_eq_true rfl) (by decide) 7 (by decide) ?_
  refine g_iloadN S189.here hx (hb hby own_d306) rfl 8 rfl ?_
  refine g_aloadN S189.here hx (hb hby own_d307) rfl rfl 9 rfl ?_
  refine g_iconst S189.here hx (hb hby own_d308) (1 : Int32) (by decide) 10 rfl ?_
  refine S189.callS hx (W := 0) (own_q78 hw) (own_q79 hw) (own_q15 hw) (own_q80 hw) (by decide) (ctEL1 l Z a0 hw t kt c1 h O b1 B X) nosf (by decide) (by decide) (by rw [hml]; rfl) [(.int (0 : Int32)), (.ref t), (.int (1 : Int32))] [] (lenOf own_pd310 rfl) rfl rfl (Nat.le_refl _) (hb hby own_d309) (by decide) (by decide) 13 rfl (fun v190 vm190 T190 h190 S190 Q190 R190 => ?_)
  obtain ⟨r, rfl, E, C⟩ := Q190
  show Goes _ _ _ _ T190 (mkF m 13 #[.val (.ref u8), .val (.int (0 : Int32)), .val (.ref t)] [(.ref r)])
  exact S190.aret hx hlk hret rfl rfl rfl (hb hby own_d311) ⟨r, rfl, E, C⟩ (by decide) (by decide)
set_option maxRecDepth 65536 in
set_option maxHeartbeats 40000000 in
theorem ctGB10 (l : Launch) (Z : State) (a0 : Array Value) (hw : ∀ d ∈ tables_1, d.before a0 Z = true) (x u8 t : Addr) (kt : ClassId) (c1 : Int32) (h : Heap) (O : Old Z Z.heap.size h) (G : own_cs Z) (fx : Exa Z h x "java/lang/String") (fv : Fld Z h x "java/lang/String" "value" "[B" (.ref t)) (fc : Fld Z h x "java/lang/String" "coder" "B" (.int 0)) (U : Sta Z Z.heap "sun/nio/cs/UTF_8" "INSTANCE" "Lsun/nio/cs/UTF_8;" (.ref u8)) (b1 : 0 ≤ c1.toInt ∧ c1.toInt ≤ 255) (B : Arv Z h t kt .byte (1 : Int32) [.int c1.toInt8.toInt32] (.int 0)) (X : Exa Z h t "[B") :
    Ct 0 l Z [] [] (⟨"java/lang/String", "getBytes", "(Ljava/nio/charset/Charset;)[B"⟩ : MethodName) jdk_42_method_64_code 2 (some (.array .byte)) ({ frames := 5, cells := 2, slots := 18, locals := 120 } : Room) #[(.ref x), (.ref u8)] h (fun v h' => ∃ t : Addr, v = some (.ref t) ∧ Ext h h' ∧ own_enc Z h' t (own_us [c1])) := by
  refine Ct.intro (plainFor_of_name own_pn173) O (fun _ => rfl) ⟨a0, EW.nil⟩ ?_
  intro p e s m below meth c T0 hx hby hml hret hnm hlk hsf S0
  refine Goes.cast (own_ef174 m x u8) ?_
  refine g_aloadN S0.here hx (hb hby own_d312) rfl rfl 1 rfl ?_
  refine g_ifnonnullT S0.here hx (hb hby own_d313) 12 (by decide) (by decide) ?_
  refine g_aloadN S0.here hx (hb hby own_d314) rfl rfl 13 rfl ?_
  refine g_aloadN S0.here hx (hb hby own_d315) rfl rfl 14 rfl ?_
  refine S0.callV hx (W := 1) (C := "java/lang/String") (own_q68 hw) (own_q69 hw) (notFace_of_selects (args := #[]) (mvT S0.warm (own_q71 hw))) (own_q71 hw) (own_q70 hw) (by decide) fx (own_q72 hw) (own_q15 hw) (ctCo0 l Z a0 hw x h O G fc) nosf (by decide) (by decide) (by rw [hml]; rfl) [] [(.ref u8)] (lenOf own_pd317 rfl) rfl rfl (Nat.le_refl _) (hb hby own_d316) (by decide) (by decide) 17 rfl (fun v191 vm191 T191 h191 S191 Q191 R191 => ?_)
  obtain ⟨rfl, rfl⟩ := Q191
  show Goes _ _ _ _ T191 (mkF m 17 #[.val (.ref x), .val (.ref u8)] [(.int (0 : Int32)), (.ref u8)])
  refine g_aloadN S191.here hx (hb hby own_d318) rfl rfl 18 rfl ?_
  refine S191.getF hx (host := "") (Or.inl (own_q40 hw)) Via.refl fv (hb hby own_d319) 21 rfl (fun T192 S192 => ?_)
  refine S192.callS hx (W := 0) (own_q73 hw) (own_q74 hw) (own_q15 hw) (own_q75 hw) (by decide) (ctEn10 l Z a0 hw u8 t kt c1 h O U b1 B X) nosf (by decide) (by decide) (by rw [hml]; rfl) [(.ref u8), (.int (0 : Int32)), (.ref t)] [] (lenOf own_pd321 rfl) rfl rfl (Nat.le_refl _) (hb hby own_d320) (by decide) (by decide) 24 rfl (fun v193 vm193 T193 h193 S193 Q193 R193 => ?_)
  obtain ⟨r, rfl, E, C⟩ := Q193
  show Goes _ _ _ _ T193 (mkF m 24 #[.val (.ref x), .val (.ref u8)] [(.ref r)])
  exact S193.aret hx hlk hret rfl rfl rfl (hb hby own_d322) ⟨r, rfl, E, C⟩ (by decide) (by decide)
set_option maxRecDepth 65536 in
set_option maxHeartbeats 40000000 in
theorem ctEn11 (l : Launch) (Z : State) (a0 : Array Value) (hw : ∀ d ∈ tables_1, d.before a0 Z = true) (u8 t : Addr) (kt : ClassId) (c1 : Int32) (h : Heap) (O : Old Z Z.heap.size h) (U : Sta Z Z.heap "sun/nio/cs/UTF_8" "INSTANCE" "Lsun/nio/cs/UTF_8;" (.ref u8)) (H : own_h16 Z) (k1 : 0 ≤ c1.toInt ∧ c1.toInt ≤ 32767) (B : Arv Z h t kt .byte (2 : Int32) [.int (StrChars.lo8 c1), .int (StrChars.hi8 c1)] (.int 0)) :
    Ct 0 l Z [] [] (⟨"java/lang/String", "encode", "(Ljava/nio/charset/Charset;B[B)[B"⟩ : MethodName) jdk_42_method_18_code 3 (some (.array .byte)) ({ frames := 4, cells := 2, slots := 18, locals := 100 } : Room) #[(.ref u8), (.int (1 : Int32)), (.ref t)] h (fun v h' => ∃ t : Addr, v = some (.ref t) ∧ Ext h h' ∧ own_enc Z h' t (own_us [c1])) := by
  refine Ct.intro (plainFor_of_name own_pn173) O (fun _ => rfl) ⟨a0, EW.nil⟩ ?_
  intro p e s m below meth c T0 hx hby hml hret hnm hlk hsf S0
  refine Goes.cast (own_ef302 m u8 (1 : Int32) t) ?_
  refine g_aloadN S0.here hx (hb hby own_d303) rfl rfl 1 rfl ?_
  refine S0.getS hx (host := "") (Or.inl (own_q76 hw)) Via.refl (U.ext O.2) (hb hby own_d304) 4 rfl (fun T194 S194 => ?_)
  refine S194.acmp hx (hb hby own_d305) rfl rfl true (decide_eq_true rfl) (by decide) 7 (by decide) ?_
  refine g_iloadN S194.here hx (hb hby own_d306) rfl 8 rfl ?_
  refine g_aloadN S194.here hx (hb hby own_d307) rfl rfl 9 rfl ?_
  refine g_iconst S194.here hx (hb hby own_d308) (1 : Int32) (by decide) 10 rfl ?_
  refine S194.callS hx (W := 0) (own_q78 hw) (own_q79 hw) (own_q15 hw) (own_q80 hw) (by decide) (ctE81 l Z a0 hw t kt c1 h O H k1 B) nosf (by decide) (by decide) (by rw [hml]; rfl) [(.int (1 : Int32)), (.ref t), (.int (1 : Int32))] [] (lenOf own_pd310 rfl) rfl rfl (Nat.le_refl _) (hb hby own_d309) (by decide) (by decide) 13 rfl (fun v195 vm195 T195 h195 S195 Q195 R195 => ?_)
  obtain ⟨r, rfl, E, C⟩ := Q195
  show Goes _ _ _ _ T195 (mkF m 13 #[.val (.ref u8), .val (.int (1 : Int32)), .val (.ref t)] [(.ref r)])
  exact S195.aret hx hlk hret rfl rfl rfl (hb hby own_d311) ⟨r, rfl, E, C⟩ (by decide) (by decide)
set_option maxRecDepth 65536 in
set_option maxHeartbeats 40000000 in
theorem ctGB11 (l : Launch) (Z : State) (a0 : Array Value) (hw : ∀ d ∈ tables_1, d.before a0 Z = true) (x u8 t : Addr) (kt : ClassId) (c1 : Int32) (h : Heap) (O : Old Z Z.heap.size h) (G : own_cs Z) (fx : Exa Z h x "java/lang/String") (fv : Fld Z h x "java/lang/String" "value" "[B" (.ref t)) (fc : Fld Z h x "java/lang/String" "coder" "B" (.int 1)) (U : Sta Z Z.heap "sun/nio/cs/UTF_8" "INSTANCE" "Lsun/nio/cs/UTF_8;" (.ref u8)) (H : own_h16 Z) (k1 : 0 ≤ c1.toInt ∧ c1.toInt ≤ 32767) (B : Arv Z h t kt .byte (2 : Int32) [.int (StrChars.lo8 c1), .int (StrChars.hi8 c1)] (.int 0)) :
    Ct 0 l Z [] [] (⟨"java/lang/String", "getBytes", "(Ljava/nio/charset/Charset;)[B"⟩ : MethodName) jdk_42_method_64_code 2 (some (.array .byte)) ({ frames := 5, cells := 2, slots := 18, locals := 120 } : Room) #[(.ref x), (.ref u8)] h (fun v h' => ∃ t : Addr, v = some (.ref t) ∧ Ext h h' ∧ own_enc Z h' t (own_us [c1])) := by
  refine Ct.intro (plainFor_of_name own_pn173) O (fun _ => rfl) ⟨a0, EW.nil⟩ ?_
  intro p e s m below meth c T0 hx hby hml hret hnm hlk hsf S0
  refine Goes.cast (own_ef174 m x u8) ?_
  refine g_aloadN S0.here hx (hb hby own_d312) rfl rfl 1 rfl ?_
  refine g_ifnonnullT S0.here hx (hb hby own_d313) 12 (by decide) (by decide) ?_
  refine g_aloadN S0.here hx (hb hby own_d314) rfl rfl 13 rfl ?_
  refine g_aloadN S0.here hx (hb hby own_d315) rfl rfl 14 rfl ?_
  refine S0.callV hx (W := 1) (C := "java/lang/String") (own_q68 hw) (own_q69 hw) (notFace_of_selects (args := #[]) (mvT S0.warm (own_q71 hw))) (own_q71 hw) (own_q70 hw) (by decide) fx (own_q72 hw) (own_q15 hw) (ctCo1 l Z a0 hw x h O G fc) nosf (by decide) (by decide) (by rw [hml]; rfl) [] [(.ref u8)] (lenOf own_pd317 rfl) rfl rfl (Nat.le_refl _) (hb hby own_d316) (by decide) (by decide) 17 rfl (fun v196 vm196 T196 h196 S196 Q196 R196 => ?_)
  obtain ⟨rfl, rfl⟩ := Q196
  show Goes _ _ _ _ T196 (mkF m 17 #[.val (.ref x), .val (.ref u8)] [(.int (1 : Int32)), (.ref u8)])
  refine g_aloadN S196.here hx (hb hby own_d318) rfl rfl 18 rfl ?_
  refine S196.getF hx (host := "") (Or.inl (own_q40 hw)) Via.refl fv (hb hby own_d319) 21 rfl (fun T197 S197 => ?_)
  refine S197.callS hx (W := 0) (own_q73 hw) (own_q74 hw) (own_q15 hw) (own_q75 hw) (by decide) (ctEn11 l Z a0 hw u8 t kt c1 h O U H k1 B) nosf (by decide) (by decide) (by rw [hml]; rfl) [(.ref u8), (.int (1 : Int32)), (.ref t)] [] (lenOf own_pd321 rfl) rfl rfl (Nat.le_refl _) (hb hby own_d320) (by decide) (by decide) 24 rfl (fun v198 vm198 T198 h198 S198 Q198 R198 => ?_)
  obtain ⟨r, rfl, E, C⟩ := Q198
  show Goes _ _ _ _ T198 (mkF m 24 #[.val (.ref x), .val (.ref u8)] [(.ref r)])
  exact S198.aret hx hlk hret rfl rfl rfl (hb hby own_d322) ⟨r, rfl, E, C⟩ (by decide) (by decide)
set_option maxRecDepth 65536 in
set_option maxHeartbeats 40000000 in
theorem ctCP2 (l : Launch) (Z : State) (a0 : Array Value) (hw : ∀ d ∈ tables_1, d.before a0 Z = true) (t : Addr) (kt : ClassId) (c1 c2 : Int32) (h : Heap) (O : Old Z Z.heap.size h) (b1 : 0 ≤ c1.toInt ∧ c1.toInt ≤ 255) (b2 : 0 ≤ c2.toInt ∧ c2.toInt ≤ 255) (B : Arv Z h t kt .byte (2 : Int32) [.int c1.toInt8.toInt32, .int c2.toInt8.toInt32] (.int 0)) :
    Ct 0 l Z [] [] (⟨"java/lang/StringCoding", "countPositives", "([BII)I"⟩ : MethodName) jdk_123_method_3_code 5 (some .int) ({ frames := 0, cells := 0, slots := 0, locals := 0 } : Room) #[(.ref t), (.int (0 : Int32)), (.int (2 : Int32))] h (fun v h' => ((v = some (.int (2 : Int32)) ∧ c1.toInt < 128 ∧ c2.toInt < 128 ∧ True) ∨ ∃ i : Int32, v = some (.int i) ∧ ¬ i.toInt = 2) ∧ h = h') := by
  refine Ct.intro (plainFor_of_name own_pn277) O (fun _ => rfl) ⟨a0, EW.nil⟩ ?_
  intro p e s m below meth c T0 hx hby hml hret hnm hlk hsf S0
  refine Goes.cast (own_ef90 m t (0 : Int32) (2 : Int32)) ?_
  refine g_iloadN S0.here hx (hb hby own_d266) rfl 1 rfl ?_
  refine g_iloadN S0.here hx (hb hby own_d267) rfl 2 rfl ?_
  refine g_iadd S0.here hx (hb hby own_d268) 3 rfl ?_
  rw [show ((0 : Int32) + (2 : Int32)) = (2 : Int32) from by decide]
  refine g_istoreN S0.here hx (hb hby own_d269) #[.val (.ref t), .val (.int (0 : Int32)), .val (.int (2 : Int32)), .val (.int (2 : Int32)), .unset] rfl 4 rfl ?_
  refine g_iloadN S0.here hx (hb hby own_d270) rfl 5 rfl ?_
  refine g_istore S0.here hx (hb hby own_d271) #[.val (.ref t), .val (.int (0 : Int32)), .val (.int (2 : Int32)), .val (.int (2 : Int32)), .val (.int (0 : Int32))] rfl 7 rfl ?_
  refine g_iload S0.here hx (hb hby own_d272) rfl 9 rfl ?_
  refine g_iloadN S0.here hx (hb hby own_d273) rfl 10 rfl ?_
  refine g_icmpF S0.here hx (hb hby own_d274) 0 2 (by decide) (by decide) (by show ¬ (2 ≤ 0); decide) 13 rfl ?_
  refine g_aloadN S0.here hx (hb hby own_d323) rfl rfl 14 rfl ?_
  refine g_iload S0.here hx (hb hby own_d324) rfl 16 rfl ?_
  refine S0.bald hx B ⟨by decide, by decide⟩ (own_at (i := 0) (by decide) rfl) (hb hby own_d325) 17 rfl ?_
  have i8_1 := own_i8 c1 b1
  refine g_if S0.here hx (hb hby own_d326) (c1.toInt8.toInt32).toInt rfl 25 20 (by decide) (by decide) rfl (fun (hc17 : 0 ≤ (c1.toInt8.toInt32).toInt) => ?_) (fun (hc17 : ¬ (0 ≤ (c1.toInt8.toInt32).toInt)) => ?_)
  · refine g_iinc S0.here hx (hb hby own_d327) rfl #[.val (.ref t), .val (.int (0 : Int32)), .val (.int (2 : Int32)), .val (.int (2 : Int32)), .val (.int (1 : Int32))] (by rw [show (0 : Int32) + Int32.ofInt 1 = (1 : Int32) from by decide]; rfl) 28 rfl ?_
    refine g_goto S0.here hx (hb hby own_d328) 7 (by decide) (by decide) ?_
    refine g_iload S0.here hx (hb hby own_d272) rfl 9 rfl ?_
    refine g_iloadN S0.here hx (hb hby own_d273) rfl 10 rfl ?_
    refine g_icmpF S0.here hx (hb hby own_d274) 1 2 (by decide) (by decide) (by show ¬ (2 ≤ 1); decide) 13 rfl ?_
    refine g_aloadN S0.here hx (hb hby own_d323) rfl rfl 14 rfl ?_
    refine g_iload S0.here hx (hb hby own_d324) rfl 16 rfl ?_
    refine S0.bald hx B ⟨by decide, by decide⟩ (own_at (i := 1) (by decide) rfl) (hb hby own_d325) 17 rfl ?_
    have i8_2 := own_i8 c2 b2
    refine g_if S0.here hx (hb hby own_d326) (c2.toInt8.toInt32).toInt rfl 25 20 (by decide) (by decide) rfl (fun (hc17 : 0 ≤ (c2.toInt8.toInt32).toInt) => ?_) (fun (hc17 : ¬ (0 ≤ (c2.toInt8.toInt32).toInt)) => ?_)
    · refine g_iinc S0.here hx (hb hby own_d327) rfl #[.val (.ref t), .val (.int (0 : Int32)), .val (.int (2 : Int32)), .val (.int (2 : Int32)), .val (.int (2 : Int32))] (by rw [show (1 : Int32) + Int32.ofInt 1 = (2 : Int32) from by decide]; rfl) 28 rfl ?_
      refine g_goto S0.here hx (hb hby own_d328) 7 (by decide) (by decide) ?_
      refine g_iload S0.here hx (hb hby own_d272) rfl 9 rfl ?_
      refine g_iloadN S0.here hx (hb hby own_d273) rfl 10 rfl ?_
      refine g_icmpT S0.here hx (hb hby own_d274) 2 2 (by decide) (by decide) (by show 2 ≤ 2; decide) 31 (by decide) (by decide) ?_
      refine g_iloadN S0.here hx (hb hby own_d275) rfl 32 rfl ?_
      exact S0.iret hx hlk hret (Or.inl rfl) rfl (hb hby own_d276) ⟨Or.inl ⟨rfl, by omega, by omega, trivial⟩, rfl⟩ (by decide) (by decide)
    · refine g_iload S0.here hx (hb hby own_d329) rfl 22 rfl ?_
      refine g_iloadN S0.here hx (hb hby own_d330) rfl 23 rfl ?_
      refine g_isub S0.here hx (hb hby own_d331) 24 rfl ?_
      rw [show ((1 : Int32) - (0 : Int32)) = (1 : Int32) from by decide]
      exact S0.iret hx hlk hret (Or.inl rfl) rfl (hb hby own_d332) ⟨Or.inr ⟨_, rfl, by decide⟩, rfl⟩ (by decide) (by decide)
  · refine g_iload S0.here hx (hb hby own_d329) rfl 22 rfl ?_
    refine g_iloadN S0.here hx (hb hby own_d330) rfl 23 rfl ?_
    refine g_isub S0.here hx (hb hby own_d331) 24 rfl ?_
    rw [show ((0 : Int32) - (0 : Int32)) = (0 : Int32) from by decide]
    exact S0.iret hx hlk hret (Or.inl rfl) rfl (hb hby own_d332) ⟨Or.inr ⟨_, rfl, by decide⟩, rfl⟩ (by decide) (by decide)
set_option maxRecDepth 65536 in
set_option maxHeartbeats 40000000 in
theorem ctHN2 (l : Launch) (Z : State) (a0 : Array Value) (hw : ∀ d ∈ tables_1, d.before a0 Z = true) (t : Addr) (kt : ClassId) (c1 c2 : Int32) (h : Heap) (O : Old Z Z.heap.size h) (b1 : 0 ≤ c1.toInt ∧ c1.toInt ≤ 255) (b2 : 0 ≤ c2.toInt ∧ c2.toInt ≤ 255) (B : Arv Z h t kt .byte (2 : Int32) [.int c1.toInt8.toInt32, .int c2.toInt8.toInt32] (.int 0)) :
    Ct 0 l Z [] [] (⟨"java/lang/StringCoding", "hasNegatives", "([BII)Z"⟩ : MethodName) jdk_123_method_2_code 3 (some .boolean) ({ frames := 1, cells := 0, slots := 0, locals := 16 } : Room) #[(.ref t), (.int (0 : Int32)), (.int (2 : Int32))] h (fun v h' => ((v = some (.int 0) ∧ c1.toInt < 128 ∧ c2.toInt < 128 ∧ True) ∨ v = some (.int 1)) ∧ h = h') := by
  refine Ct.intro (plainFor_of_name own_pn277) O (fun _ => rfl) ⟨a0, EW.nil⟩ ?_
  intro p e s m below meth c T0 hx hby hml hret hnm hlk hsf S0
  refine Goes.cast (own_ef42 m t (0 : Int32) (2 : Int32)) ?_
  refine g_aloadN S0.here hx (hb hby own_d278) rfl rfl 1 rfl ?_
  refine g_iloadN S0.here hx (hb hby own_d279) rfl 2 rfl ?_
  refine g_iloadN S0.here hx (hb hby own_d280) rfl 3 rfl ?_
  refine S0.callS hx (W := 0) (own_q85 hw) (own_q86 hw) (own_q83 hw) (own_q87 hw) (by decide) (ctCP2 l Z a0 hw t kt c1 c2 h O b1 b2 B) nosf (by decide) (by decide) (by rw [hml]; rfl) [(.ref t), (.int (0 : Int32)), (.int (2 : Int32))] [] (lenOf own_pd282 rfl) rfl rfl (Nat.le_refl _) (hb hby own_d281) (by decide) (by decide) 6 rfl (fun v199 vm199 T199 h199 S199 Q199 R199 => ?_)
  obtain ⟨Q199, rfl⟩ := Q199
  rcases Q199 with ⟨rfl, sm⟩ | ⟨i, rfl, hi⟩
  · show Goes _ _ _ _ T199 (mkF m 6 #[.val (.ref t), .val (.int (0 : Int32)), .val (.int (2 : Int32))] [(.int (2 : Int32))])
    refine g_iloadN S199.here hx (hb hby own_d283) rfl 7 rfl ?_
    refine g_icmpT S199.here hx (hb hby own_d284) 2 2 (by decide) (by decide) (by show 2 = 2; decide) 14 (by decide) (by decide) ?_
    refine g_iconst S199.here hx (hb hby own_d285) (0 : Int32) (by decide) 15 rfl ?_
    exact S199.iret hx hlk hret (Or.inr (Or.inl rfl)) rfl (hb hby own_d286) ⟨Or.inl ⟨rfl, sm⟩, rfl⟩ (by decide) (by decide)
  · show Goes _ _ _ _ T199 (mkF m 6 #[.val (.ref t), .val (.int (0 : Int32)), .val (.int (2 : Int32))] [(.int i)])
    refine g_iloadN S199.here hx (hb hby own_d283) rfl 7 rfl ?_
    refine g_icmpF S199.here hx (hb hby own_d284) i.toInt 2 rfl (by decide) (show ¬ (i.toInt = 2) from hi) 10 rfl ?_
    refine g_iconst S199.here hx (hb hby own_d333) (1 : Int32) (by decide) 11 rfl ?_
    refine g_goto S199.here hx (hb hby own_d334) 15 (by decide) (by decide) ?_
    exact S199.iret hx hlk hret (Or.inr (Or.inl rfl)) rfl (hb hby own_d286) ⟨Or.inr rfl, rfl⟩ (by decide) (by decide)
set_option maxRecDepth 65536 in
set_option maxHeartbeats 40000000 in
theorem ctEL2 (l : Launch) (Z : State) (a0 : Array Value) (hw : ∀ d ∈ tables_1, d.before a0 Z = true) (t : Addr) (kt : ClassId) (c1 c2 : Int32) (h : Heap) (O : Old Z Z.heap.size h) (b1 : 0 ≤ c1.toInt ∧ c1.toInt ≤ 255) (b2 : 0 ≤ c2.toInt ∧ c2.toInt ≤ 255) (B : Arv Z h t kt .byte (2 : Int32) [.int c1.toInt8.toInt32, .int c2.toInt8.toInt32] (.int 0)) (X : Exa Z h t "[B") :
    Ct 0 l Z [] [] (⟨"java/lang/String", "encodeUTF8", "(B[BZ)[B"⟩ : MethodName) jdk_42_method_46_code 9 (some (.array .byte)) ({ frames := 3, cells := 2, slots := 18, locals := 80 } : Room) #[(.int (0 : Int32)), (.ref t), (.int (1 : Int32))] h (fun v h' => ∃ t : Addr, v = some (.ref t) ∧ Ext h h' ∧ own_enc Z h' t (own_us [c1, c2])) := by
  refine Ct.intro (plainFor_of_name own_pn173) O (fun _ => rfl) ⟨a0, EW.nil⟩ ?_
  intro p e s m below meth c T0 hx hby hml hret hnm hlk hsf S0
  refine Goes.cast (own_ef287 m (0 : Int32) t (1 : Int32)) ?_
  refine g_iloadN S0.here hx (hb hby own_d288) rfl 1 rfl ?_
  refine g_iconst S0.here hx (hb hby own_d289) (1 : Int32) (by decide) 2 rfl ?_
  refine g_icmpT S0.here hx (hb hby own_d290) 0 1 (by decide) (by decide) (by show ¬ 0 = 1; decide) 11 (by decide) (by decide) ?_
  refine g_aloadN S0.here hx (hb hby own_d291) rfl rfl 12 rfl ?_
  refine g_iconst S0.here hx (hb hby own_d292) (0 : Int32) (by decide) 13 rfl ?_
  refine g_aloadN S0.here hx (hb hby own_d293) rfl rfl 14 rfl ?_
  refine S0.len hx B (hb hby own_d294) 15 rfl ?_
  refine S0.callS hx (W := 0) (own_q81 hw) (own_q82 hw) (own_q83 hw) (own_q84 hw) (by decide) (ctHN2 l Z a0 hw t kt c1 c2 h O b1 b2 B) nosf (by decide) (by decide) (by rw [hml]; rfl) [(.ref t), (.int (0 : Int32)), (.int (2 : Int32))] [] (lenOf own_pd296 rfl) rfl rfl (Nat.le_refl _) (hb hby own_d295) (by decide) (by decide) 18 rfl (fun v200 vm200 T200 h200 S200 Q200 R200 => ?_)
  obtain ⟨Q200, rfl⟩ := Q200
  rcases Q200 with ⟨rfl, sm⟩ | rfl
  · show Goes _ _ _ _ T200 (mkF m 18 #[.val (.int (0 : Int32)), .val (.ref t), .val (.int (1 : Int32)), .unset, .unset, .unset, .unset, .unset, .unset] [(.int (0 : Int32))])
    refine g_ifF S200.here hx (hb hby own_d297) 0 (by decide) (by show ¬ (¬ 0 = 0); decide) 21 rfl ?_
    refine g_aloadN S200.here hx (hb hby own_d298) rfl rfl 22 rfl ?_
    refine S200.clone hx (own_q88 hw) (own_q89 hw) (own_q93 hw) (own_q91 hw) (own_q92 hw) (own_q94 hw) B X (by rw [hml]; rfl) (W := 0) (cap := 2) (by decide) (by decide) (by decide) (by decide) (by decide) (by decide) (hb hby own_d299) 25 rfl (fun T201 h201 b S201 g201 E201 A201 B201 => ?_)
    refine S201.castY hx (own_q95 hw) (Ins.self B201) (hb hby own_d300) 28 rfl (fun T202 S202 => ?_)
    exact S202.aret hx hlk hret rfl rfl rfl (hb hby own_d301) ⟨b, rfl, E201, _, _, _, A201, by show _ = own_u c1 + (own_u c2 + (0)); obtain ⟨s1, s2, -⟩ := sm; rw [own_u1 s1, own_u1 s2]; decide⟩ (by decide) (by decide)
  · show Goes _ _ _ _ T200 (mkF m 18 #[.val (.int (0 : Int32)), .val (.ref t), .val (.int (1 : Int32)), .unset, .unset, .unset, .unset, .unset, .unset] [(.int (1 : Int32))])
    refine g_ifT S200.here hx (hb hby own_d297) 1 (by decide) (by show ¬ 1 = 0; decide) 29 (by decide) (by decide) ?_
    refine g_iconst S200.here hx (hb hby own_d335) (0 : Int32) (by decide) 30 rfl ?_
    refine g_istoreN S200.here hx (hb hby own_d336) #[.val (.int (0 : Int32)), .val (.ref t), .val (.int (1 : Int32)), .val (.int (0 : Int32)), .unset, .unset, .unset, .unset, .unset] rfl 31 rfl ?_
    refine g_aloadN S200.here hx (hb hby own_d337) rfl rfl 32 rfl ?_
    refine S200.len hx B (hb hby own_d338) 33 rfl ?_
    refine S200.callS hx (W := 0) (own_q172 hw) (own_q126 hw) (own_q29 hw) (own_q127 hw) (by decide) (ctNF2 l Z a0 hw h O) nosf (by decide) (by decide) (by rw [hml]; rfl) [(.int (2 : Int32))] [] (lenOf own_pd93 rfl) rfl rfl (Nat.le_refl _) (hb hby own_d339) (by decide) (by decide) 36 rfl (fun v203 vm203 T203 h203 S203 Q203 R203 => ?_)
    obtain ⟨d, kd, rfl, gd, E, V⟩ := Q203
    show Goes _ _ _ _ T203 (mkF m 36 #[.val (.int (0 : Int32)), .val (.ref t), .val (.int (1 : Int32)), .val (.int (0 : Int32)), .unset, .unset, .unset, .unset, .unset] [(.ref d)])
    have nd : t ≠ d := fun q => by rw [q] at B; exact absurd B.lt (Nat.not_lt.mpr gd)
    have B := B.ext E
    have gz : Z.heap.size ≤ d := Nat.le_trans O.2.1 gd
    refine g_astore S203.here hx (hb hby own_d340) rfl #[.val (.int (0 : Int32)), .val (.ref t), .val (.int (1 : Int32)), .val (.int (0 : Int32)), .val (.ref d), .unset, .unset, .unset, .unset] rfl 38 rfl ?_
    refine g_aloadN S203.here hx (hb hby own_d341) rfl rfl 39 rfl ?_
    refine g_astore S203.here hx (hb hby own_d342) rfl #[.val (.int (0 : Int32)), .val (.ref t), .val (.int (1 : Int32)), .val (.int (0 : Int32)), .val (.ref d), .val (.ref t), .unset, .unset, .unset] rfl 41 rfl ?_
    refine g_aload S203.here hx (hb hby own_d343) rfl rfl 43 rfl ?_
    refine S203.len hx B (hb hby own_d344) 44 rfl ?_
    refine g_istore S203.here hx (hb hby own_d345) #[.val (.int (0 : Int32)), .val (.ref t), .val (.int (1 : Int32)), .val (.int (0 : Int32)), .val (.ref d), .val (.ref t), .val (.int (2 : Int32)), .unset, .unset] rfl 46 rfl ?_
    refine g_iconst S203.here hx (hb hby own_d346) (0 : Int32) (by decide) 47 rfl ?_
    refine g_istore S203.here hx (hb hby own_d347) #[.val (.int (0 : Int32)), .val (.ref t), .val (.int (1 : Int32)), .val (.int (0 : Int32)), .val (.ref d), .val (.ref t), .val (.int (2 : Int32)), .val (.int (0 : Int32)), .unset] rfl 49 rfl ?_
    refine g_iload S203.here hx (hb hby own_d348) rfl 51 rfl ?_
    refine g_iload S203.here hx (hb hby own_d349) rfl 53 rfl ?_
    refine g_icmpF S203.here hx (hb hby own_d350) 0 2 (by decide) (by decide) (by show ¬ (2 ≤ 0); decide) 56 rfl ?_
    refine g_aload S203.here hx (hb hby own_d351) rfl rfl 58 rfl ?_
    refine g_iload S203.here hx (hb hby own_d352) rfl 60 rfl ?_
    refine S203.bald hx B ⟨by decide, by decide⟩ (own_at (i := 0) (by decide) rfl) (hb hby own_d353) 61 rfl ?_
    have i8_1 := own_i8 c1 b1
    refine g_istore S203.here hx (hb hby own_d354) #[.val (.int (0 : Int32)), .val (.ref t), .val (.int (1 : Int32)), .val (.int (0 : Int32)), .val (.ref d), .val (.ref t), .val (.int (2 : Int32)), .val (.int (0 : Int32)), .val (.int (c1.toInt8.toInt32))] rfl 63 rfl ?_
    refine g_iload S203.here hx (hb hby own_d355) rfl 65 rfl ?_
    refine g_if S203.here hx (hb hby own_d356) (c1.toInt8.toInt32).toInt rfl 109 68 (by decide) (by decide) rfl (fun (hc65 : 0 ≤ (c1.toInt8.toInt32).toInt) => ?_) (fun (hc65 : ¬ (0 ≤ (c1.toInt8.toInt32).toInt)) => ?_)
    · have u1 := own_u1 (c := c1) (by omega)
      refine g_aload S203.here hx (hb hby own_d357) rfl rfl 111 rfl ?_
      refine g_iloadN S203.here hx (hb hby own_d358) rfl 112 rfl ?_
      refine g_iinc S203.here hx (hb hby own_d359) rfl #[.val (.int (0 : Int32)), .val (.ref t), .val (.int (1 : Int32)), .val (.int (1 : Int32)), .val (.ref d), .val (.ref t), .val (.int (2 : Int32)), .val (.int (0 : Int32)), .val (.int (c1.toInt8.toInt32))] (by rw [show (0 : Int32) + Int32.ofInt 1 = (1 : Int32) from by decide]; rfl) 115 rfl ?_
      refine g_iload S203.here hx (hb hby own_d360) rfl 117 rfl ?_
      refine S203.stB hx V 0 ⟨by decide, by decide⟩ (by decide) (by simp) gz safe_nil (hb hby own_d361) 118 rfl (fun T204 h204 S204 W204 V R204 => ?_)
      have B := B.other W204 nd
      have E := own_ext_wr E W204 gd
      refine g_iinc S204.here hx (hb hby own_d362) rfl #[.val (.int (0 : Int32)), .val (.ref t), .val (.int (1 : Int32)), .val (.int (1 : Int32)), .val (.ref d), .val (.ref t), .val (.int (2 : Int32)), .val (.int (1 : Int32)), .val (.int (c1.toInt8.toInt32))] (by rw [show (0 : Int32) + Int32.ofInt 1 = (1 : Int32) from by decide]; rfl) 121 rfl ?_
      refine g_goto S204.here hx (hb hby own_d363) 49 (by decide) (by decide) ?_
      refine g_iload S204.here hx (hb hby own_d348) rfl 51 rfl ?_
      refine g_iload S204.here hx (hb hby own_d349) rfl 53 rfl ?_
      refine g_icmpF S204.here hx (hb hby own_d350) 1 2 (by decide) (by decide) (by show ¬ (2 ≤ 1); decide) 56 rfl ?_
      refine g_aload S204.here hx (hb hby own_d351) rfl rfl 58 rfl ?_
      refine g_iload S204.here hx (hb hby own_d352) rfl 60 rfl ?_
      refine S204.bald hx B ⟨by decide, by decide⟩ (own_at (i := 1) (by decide) rfl) (hb hby own_d353) 61 rfl ?_
      have i8_2 := own_i8 c2 b2
      refine g_istore S204.here hx (hb hby own_d354) #[.val (.int (0 : Int32)), .val (.ref t), .val (.int (1 : Int32)), .val (.int (1 : Int32)), .val (.ref d), .val (.ref t), .val (.int (2 : Int32)), .val (.int (1 : Int32)), .val (.int (c2.toInt8.toInt32))] rfl 63 rfl ?_
      refine g_iload S204.here hx (hb hby own_d355) rfl 65 rfl ?_
      refine g_if S204.here hx (hb hby own_d356) (c2.toInt8.toInt32).toInt rfl 109 68 (by decide) (by decide) rfl (fun (hc65 : 0 ≤ (c2.toInt8.toInt32).toInt) => ?_) (fun (hc65 : ¬ (0 ≤ (c2.toInt8.toInt32).toInt)) => ?_)
      · have u2 := own_u1 (c := c2) (by omega)
        refine g_aload S204.here hx (hb hby own_d357) rfl rfl 111 rfl ?_
        refine g_iloadN S204.here hx (hb hby own_d358) rfl 112 rfl ?_
        refine g_iinc S204.here hx (hb hby own_d359) rfl #[.val (.int (0 : Int32)), .val (.ref t), .val (.int (1 : Int32)), .val (.int (2 : Int32)), .val (.ref d), .val (.ref t), .val (.int (2 : Int32)), .val (.int (1 : Int32)), .val (.int (c2.toInt8.toInt32))] (by rw [show (1 : Int32) + Int32.ofInt 1 = (2 : Int32) from by decide]; rfl) 115 rfl ?_
        refine g_iload S204.here hx (hb hby own_d360) rfl 117 rfl ?_
        refine S204.stB hx V 1 ⟨by decide, by decide⟩ (by decide) (by simp) gz safe_nil (hb hby own_d361) 118 rfl (fun T205 h205 S205 W205 V R205 => ?_)
        have B := B.other W205 nd
        have E := own_ext_wr E W205 gd
        refine g_iinc S205.here hx (hb hby own_d362) rfl #[.val (.int (0 : Int32)), .val (.ref t), .val (.int (1 : Int32)), .val (.int (2 : Int32)), .val (.ref d), .val (.ref t), .val (.int (2 : Int32)), .val (.int (2 : Int32)), .val (.int (c2.toInt8.toInt32))] (by rw [show (1 : Int32) + Int32.ofInt 1 = (2 : Int32) from by decide]; rfl) 121 rfl ?_
        refine g_goto S205.here hx (hb hby own_d363) 49 (by decide) (by decide) ?_
        refine g_iload S205.here hx (hb hby own_d348) rfl 51 rfl ?_
        refine g_iload S205.here hx (hb hby own_d349) rfl 53 rfl ?_
        refine g_icmpT S205.here hx (hb hby own_d350) 2 2 (by decide) (by decide) (by show 2 ≤ 2; decide) 124 (by decide) (by decide) ?_
        refine g_iloadN S205.here hx (hb hby own_d364) rfl 125 rfl ?_
        refine g_aload S205.here hx (hb hby own_d365) rfl rfl 127 rfl ?_
        refine S205.len hx V (hb hby own_d366) 128 rfl ?_
        refine g_icmpT S205.here hx (hb hby own_d367) 2 4 (by decide) (by decide) (by show ¬ 2 = 4; decide) 134 (by decide) (by decide) ?_
        refine g_aload S205.here hx (hb hby own_d368) rfl rfl 136 rfl ?_
        refine g_iloadN S205.here hx (hb hby own_d369) rfl 137 rfl ?_
        refine S205.callS hx (W := 0) (own_q158 hw) (own_q159 hw) (own_q160 hw) (own_q161 hw) (by decide) (ctCp l Z a0 hw d kd (4 : Int32) (2 : Int32) _ h205 S205.old V (by decide) (by decide)) nosf (by decide) (by decide) (by rw [hml]; rfl) [(.ref d), (.int (2 : Int32))] [] (lenOf own_pd371 rfl) rfl rfl (Nat.le_refl _) (hb hby own_d370) (by decide) (by decide) 140 rfl (fun v206 vm206 T206 h206 S206 Q206 R206 => ?_)
        obtain ⟨r, rfl, X2, C⟩ := Q206
        show Goes _ _ _ _ T206 (mkF m 140 #[.val (.int (0 : Int32)), .val (.ref t), .val (.int (1 : Int32)), .val (.int (2 : Int32)), .val (.ref d), .val (.ref t), .val (.int (2 : Int32)), .val (.int (2 : Int32)), .val (.int (c2.toInt8.toInt32))] [(.ref r)])
        have E := own_ext_trans E X2
        have C : own_enc Z h206 r (own_us [c1, c2]) := by
          show own_enc Z _ r (own_u c1 + (own_u c2 + (0)))
          rw [u1, u2]; exact C
        exact S206.aret hx hlk hret rfl rfl rfl (hb hby own_d372) ⟨r, rfl, E, C⟩ (by decide) (by decide)
      · have u2 := own_u2 (c := c2) (by omega) (by omega)
        refine g_aload S204.here hx (hb hby own_d373) rfl rfl 70 rfl ?_
        refine g_iloadN S204.here hx (hb hby own_d374) rfl 71 rfl ?_
        refine g_iinc S204.here hx (hb hby own_d375) rfl #[.val (.int (0 : Int32)), .val (.ref t), .val (.int (1 : Int32)), .val (.int (2 : Int32)), .val (.ref d), .val (.ref t), .val (.int (2 : Int32)), .val (.int (1 : Int32)), .val (.int (c2.toInt8.toInt32))] (by rw [show (1 : Int32) + Int32.ofInt 1 = (2 : Int32) from by decide]; rfl) 74 rfl ?_
        refine g_sipush S204.here hx (hb hby own_d376) (192 : Int32) (by decide) 77 rfl ?_
        refine g_iload S204.here hx (hb hby own_d377) rfl 79 rfl ?_
        refine g_sipush S204.here hx (hb hby own_d378) (255 : Int32) (by decide) 82 rfl ?_
        refine g_iand S204.here hx (hb hby own_d379) 83 rfl ?_
        refine g_bipush S204.here hx (hb hby own_d380) (6 : Int32) (by decide) 85 rfl ?_
        refine g_ishr S204.here hx (hb hby own_d381) 86 rfl ?_
        refine g_ior S204.here hx (hb hby own_d382) 87 rfl ?_
        refine g_i2b S204.here hx (hb hby own_d383) 88 rfl ?_
        refine S204.stB hx V 1 ⟨by decide, by decide⟩ (by decide) (by simp) gz safe_nil (hb hby own_d384) 89 rfl (fun T207 h207 S207 W207 V R207 => ?_)
        have B := B.other W207 nd
        have E := own_ext_wr E W207 gd
        refine g_aload S207.here hx (hb hby own_d385) rfl rfl 91 rfl ?_
        refine g_iloadN S207.here hx (hb hby own_d386) rfl 92 rfl ?_
        refine g_iinc S207.here hx (hb hby own_d387) rfl #[.val (.int (0 : Int32)), .val (.ref t), .val (.int (1 : Int32)), .val (.int (3 : Int32)), .val (.ref d), .val (.ref t), .val (.int (2 : Int32)), .val (.int (1 : Int32)), .val (.int (c2.toInt8.toInt32))] (by rw [show (2 : Int32) + Int32.ofInt 1 = (3 : Int32) from by decide]; rfl) 95 rfl ?_
        refine g_sipush S207.here hx (hb hby own_d388) (128 : Int32) (by decide) 98 rfl ?_
        refine g_iload S207.here hx (hb hby own_d389) rfl 100 rfl ?_
        refine g_bipush S207.here hx (hb hby own_d390) (63 : Int32) (by decide) 102 rfl ?_
        refine g_iand S207.here hx (hb hby own_d391) 103 rfl ?_
        refine g_ior S207.here hx (hb hby own_d392) 104 rfl ?_
        refine g_i2b S207.here hx (hb hby own_d393) 105 rfl ?_
        refine S207.stB hx V 2 ⟨by decide, by decide⟩ (by decide) (by simp) gz safe_nil (hb hby own_d394) 106 rfl (fun T208 h208 S208 W208 V R208 => ?_)
        have B := B.other W208 nd
        have E := own_ext_wr E W208 gd
        refine g_goto S208.here hx (hb hby own_d395) 118 (by decide) (by decide) ?_
        refine g_iinc S208.here hx (hb hby own_d362) rfl #[.val (.int (0 : Int32)), .val (.ref t), .val (.int (1 : Int32)), .val (.int (3 : Int32)), .val (.ref d), .val (.ref t), .val (.int (2 : Int32)), .val (.int (2 : Int32)), .val (.int (c2.toInt8.toInt32))] (by rw [show (1 : Int32) + Int32.ofInt 1 = (2 : Int32) from by decide]; rfl) 121 rfl ?_
        refine g_goto S208.here hx (hb hby own_d363) 49 (by decide) (by decide) ?_
        refine g_iload S208.here hx (hb hby own_d348) rfl 51 rfl ?_
        refine g_iload S208.here hx (hb hby own_d349) rfl 53 rfl ?_
        refine g_icmpT S208.here hx (hb hby own_d350) 2 2 (by decide) (by decide) (by show 2 ≤ 2; decide) 124 (by decide) (by decide) ?_
        refine g_iloadN S208.here hx (hb hby own_d364) rfl 125 rfl ?_
        refine g_aload S208.here hx (hb hby own_d365) rfl rfl 127 rfl ?_
        refine S208.len hx V (hb hby own_d366) 128 rfl ?_
        refine g_icmpT S208.here hx (hb hby own_d367) 3 4 (by decide) (by decide) (by show ¬ 3 = 4; decide) 134 (by decide) (by decide) ?_
        refine g_aload S208.here hx (hb hby own_d368) rfl rfl 136 rfl ?_
        refine g_iloadN S208.here hx (hb hby own_d369) rfl 137 rfl ?_
        refine S208.callS hx (W := 0) (own_q158 hw) (own_q159 hw) (own_q160 hw) (own_q161 hw) (by decide) (ctCp l Z a0 hw d kd (4 : Int32) (3 : Int32) _ h208 S208.old V (by decide) (by decide)) nosf (by decide) (by decide) (by rw [hml]; rfl) [(.ref d), (.int (3 : Int32))] [] (lenOf own_pd371 rfl) rfl rfl (Nat.le_refl _) (hb hby own_d370) (by decide) (by decide) 140 rfl (fun v209 vm209 T209 h209 S209 Q209 R209 => ?_)
        obtain ⟨r, rfl, X2, C⟩ := Q209
        show Goes _ _ _ _ T209 (mkF m 140 #[.val (.int (0 : Int32)), .val (.ref t), .val (.int (1 : Int32)), .val (.int (3 : Int32)), .val (.ref d), .val (.ref t), .val (.int (2 : Int32)), .val (.int (2 : Int32)), .val (.int (c2.toInt8.toInt32))] [(.ref r)])
        have E := own_ext_trans E X2
        have C : own_enc Z h209 r (own_us [c1, c2]) := by
          show own_enc Z _ r (own_u c1 + (own_u c2 + (0)))
          rw [u1, u2]; exact C
        exact S209.aret hx hlk hret rfl rfl rfl (hb hby own_d372) ⟨r, rfl, E, C⟩ (by decide) (by decide)
    · have u1 := own_u2 (c := c1) (by omega) (by omega)
      refine g_aload S203.here hx (hb hby own_d373) rfl rfl 70 rfl ?_
      refine g_iloadN S203.here hx (hb hby own_d374) rfl 71 rfl ?_
      refine g_iinc S203.here hx (hb hby own_d375) rfl #[.val (.int (0 : Int32)), .val (.ref t), .val (.int (1 : Int32)), .val (.int (1 : Int32)), .val (.ref d), .val (.ref t), .val (.int (2 : Int32)), .val (.int (0 : Int32)), .val (.int (c1.toInt8.toInt32))] (by rw [show (0 : Int32) + Int32.ofInt 1 = (1 : Int32) from by decide]; rfl) 74 rfl ?_
      refine g_sipush S203.here hx (hb hby own_d376) (192 : Int32) (by decide) 77 rfl ?_
      refine g_iload S203.here hx (hb hby own_d377) rfl 79 rfl ?_
      refine g_sipush S203.here hx (hb hby own_d378) (255 : Int32) (by decide) 82 rfl ?_
      refine g_iand S203.here hx (hb hby own_d379) 83 rfl ?_
      refine g_bipush S203.here hx (hb hby own_d380) (6 : Int32) (by decide) 85 rfl ?_
      refine g_ishr S203.here hx (hb hby own_d381) 86 rfl ?_
      refine g_ior S203.here hx (hb hby own_d382) 87 rfl ?_
      refine g_i2b S203.here hx (hb hby own_d383) 88 rfl ?_
      refine S203.stB hx V 0 ⟨by decide, by decide⟩ (by decide) (by simp) gz safe_nil (hb hby own_d384) 89 rfl (fun T210 h210 S210 W210 V R210 => ?_)
      have B := B.other W210 nd
      have E := own_ext_wr E W210 gd
      refine g_aload S210.here hx (hb hby own_d385) rfl rfl 91 rfl ?_
      refine g_iloadN S210.here hx (hb hby own_d386) rfl 92 rfl ?_
      refine g_iinc S210.here hx (hb hby own_d387) rfl #[.val (.int (0 : Int32)), .val (.ref t), .val (.int (1 : Int32)), .val (.int (2 : Int32)), .val (.ref d), .val (.ref t), .val (.int (2 : Int32)), .val (.int (0 : Int32)), .val (.int (c1.toInt8.toInt32))] (by rw [show (1 : Int32) + Int32.ofInt 1 = (2 : Int32) from by decide]; rfl) 95 rfl ?_
      refine g_sipush S210.here hx (hb hby own_d388) (128 : Int32) (by decide) 98 rfl ?_
      refine g_iload S210.here hx (hb hby own_d389) rfl 100 rfl ?_
      refine g_bipush S210.here hx (hb hby own_d390) (63 : Int32) (by decide) 102 rfl ?_
      refine g_iand S210.here hx (hb hby own_d391) 103 rfl ?_
      refine g_ior S210.here hx (hb hby own_d392) 104 rfl ?_
      refine g_i2b S210.here hx (hb hby own_d393) 105 rfl ?_
      refine S210.stB hx V 1 ⟨by decide, by decide⟩ (by decide) (by simp) gz safe_nil (hb hby own_d394) 106 rfl (fun T211 h211 S211 W211 V R211 => ?_)
      have B := B.other W211 nd
      have E := own_ext_wr E W211 gd
      refine g_goto S211.here hx (hb hby own_d395) 118 (by decide) (by decide) ?_
      refine g_iinc S211.here hx (hb hby own_d362) rfl #[.val (.int (0 : Int32)), .val (.ref t), .val (.int (1 : Int32)), .val (.int (2 : Int32)), .val (.ref d), .val (.ref t), .val (.int (2 : Int32)), .val (.int (1 : Int32)), .val (.int (c1.toInt8.toInt32))] (by rw [show (0 : Int32) + Int32.ofInt 1 = (1 : Int32) from by decide]; rfl) 121 rfl ?_
      refine g_goto S211.here hx (hb hby own_d363) 49 (by decide) (by decide) ?_
      refine g_iload S211.here hx (hb hby own_d348) rfl 51 rfl ?_
      refine g_iload S211.here hx (hb hby own_d349) rfl 53 rfl ?_
      refine g_icmpF S211.here hx (hb hby own_d350) 1 2 (by decide) (by decide) (by show ¬ (2 ≤ 1); decide) 56 rfl ?_
      refine g_aload S211.here hx (hb hby own_d351) rfl rfl 58 rfl ?_
      refine g_iload S211.here hx (hb hby own_d352) rfl 60 rfl ?_
      refine S211.bald hx B ⟨by decide, by decide⟩ (own_at (i := 1) (by decide) rfl) (hb hby own_d353) 61 rfl ?_
      have i8_2 := own_i8 c2 b2
      refine g_istore S211.here hx (hb hby own_d354) #[.val (.int (0 : Int32)), .val (.ref t), .val (.int (1 : Int32)), .val (.int (2 : Int32)), .val (.ref d), .val (.ref t), .val (.int (2 : Int32)), .val (.int (1 : Int32)), .val (.int (c2.toInt8.toInt32))] rfl 63 rfl ?_
      refine g_iload S211.here hx (hb hby own_d355) rfl 65 rfl ?_
      refine g_if S211.here hx (hb hby own_d356) (c2.toInt8.toInt32).toInt rfl 109 68 (by decide) (by decide) rfl (fun (hc65 : 0 ≤ (c2.toInt8.toInt32).toInt) => ?_) (fun (hc65 : ¬ (0 ≤ (c2.toInt8.toInt32).toInt)) => ?_)
      · have u2 := own_u1 (c := c2) (by omega)
        refine g_aload S211.here hx (hb hby own_d357) rfl rfl 111 rfl ?_
        refine g_iloadN S211.here hx (hb hby own_d358) rfl 112 rfl ?_
        refine g_iinc S211.here hx (hb hby own_d359) rfl #[.val (.int (0 : Int32)), .val (.ref t), .val (.int (1 : Int32)), .val (.int (3 : Int32)), .val (.ref d), .val (.ref t), .val (.int (2 : Int32)), .val (.int (1 : Int32)), .val (.int (c2.toInt8.toInt32))] (by rw [show (2 : Int32) + Int32.ofInt 1 = (3 : Int32) from by decide]; rfl) 115 rfl ?_
        refine g_iload S211.here hx (hb hby own_d360) rfl 117 rfl ?_
        refine S211.stB hx V 2 ⟨by decide, by decide⟩ (by decide) (by simp) gz safe_nil (hb hby own_d361) 118 rfl (fun T212 h212 S212 W212 V R212 => ?_)
        have B := B.other W212 nd
        have E := own_ext_wr E W212 gd
        refine g_iinc S212.here hx (hb hby own_d362) rfl #[.val (.int (0 : Int32)), .val (.ref t), .val (.int (1 : Int32)), .val (.int (3 : Int32)), .val (.ref d), .val (.ref t), .val (.int (2 : Int32)), .val (.int (2 : Int32)), .val (.int (c2.toInt8.toInt32))] (by rw [show (1 : Int32) + Int32.ofInt 1 = (2 : Int32) from by decide]; rfl) 121 rfl ?_
        refine g_goto S212.here hx (hb hby own_d363) 49 (by decide) (by decide) ?_
        refine g_iload S212.here hx (hb hby own_d348) rfl 51 rfl ?_
        refine g_iload S212.here hx (hb hby own_d349) rfl 53 rfl ?_
        refine g_icmpT S212.here hx (hb hby own_d350) 2 2 (by decide) (by decide) (by show 2 ≤ 2; decide) 124 (by decide) (by decide) ?_
        refine g_iloadN S212.here hx (hb hby own_d364) rfl 125 rfl ?_
        refine g_aload S212.here hx (hb hby own_d365) rfl rfl 127 rfl ?_
        refine S212.len hx V (hb hby own_d366) 128 rfl ?_
        refine g_icmpT S212.here hx (hb hby own_d367) 3 4 (by decide) (by decide) (by show ¬ 3 = 4; decide) 134 (by decide) (by decide) ?_
        refine g_aload S212.here hx (hb hby own_d368) rfl rfl 136 rfl ?_
        refine g_iloadN S212.here hx (hb hby own_d369) rfl 137 rfl ?_
        refine S212.callS hx (W := 0) (own_q158 hw) (own_q159 hw) (own_q160 hw) (own_q161 hw) (by decide) (ctCp l Z a0 hw d kd (4 : Int32) (3 : Int32) _ h212 S212.old V (by decide) (by decide)) nosf (by decide) (by decide) (by rw [hml]; rfl) [(.ref d), (.int (3 : Int32))] [] (lenOf own_pd371 rfl) rfl rfl (Nat.le_refl _) (hb hby own_d370) (by decide) (by decide) 140 rfl (fun v213 vm213 T213 h213 S213 Q213 R213 => ?_)
        obtain ⟨r, rfl, X2, C⟩ := Q213
        show Goes _ _ _ _ T213 (mkF m 140 #[.val (.int (0 : Int32)), .val (.ref t), .val (.int (1 : Int32)), .val (.int (3 : Int32)), .val (.ref d), .val (.ref t), .val (.int (2 : Int32)), .val (.int (2 : Int32)), .val (.int (c2.toInt8.toInt32))] [(.ref r)])
        have E := own_ext_trans E X2
        have C : own_enc Z h213 r (own_us [c1, c2]) := by
          show own_enc Z _ r (own_u c1 + (own_u c2 + (0)))
          rw [u1, u2]; exact C
        exact S213.aret hx hlk hret rfl rfl rfl (hb hby own_d372) ⟨r, rfl, E, C⟩ (by decide) (by decide)
      · have u2 := own_u2 (c := c2) (by omega) (by omega)
        refine g_aload S211.here hx (hb hby own_d373) rfl rfl 70 rfl ?_
        refine g_iloadN S211.here hx (hb hby own_d374) rfl 71 rfl ?_
        refine g_iinc S211.here hx (hb hby own_d375) rfl #[.val (.int (0 : Int32)), .val (.ref t), .val (.int (1 : Int32)), .val (.int (3 : Int32)), .val (.ref d), .val (.ref t), .val (.int (2 : Int32)), .val (.int (1 : Int32)), .val (.int (c2.toInt8.toInt32))] (by rw [show (2 : Int32) + Int32.ofInt 1 = (3 : Int32) from by decide]; rfl) 74 rfl ?_
        refine g_sipush S211.here hx (hb hby own_d376) (192 : Int32) (by decide) 77 rfl ?_
        refine g_iload S211.here hx (hb hby own_d377) rfl 79 rfl ?_
        refine g_sipush S211.here hx (hb hby own_d378) (255 : Int32) (by decide) 82 rfl ?_
        refine g_iand S211.here hx (hb hby own_d379) 83 rfl ?_
        refine g_bipush S211.here hx (hb hby own_d380) (6 : Int32) (by decide) 85 rfl ?_
        refine g_ishr S211.here hx (hb hby own_d381) 86 rfl ?_
        refine g_ior S211.here hx (hb hby own_d382) 87 rfl ?_
        refine g_i2b S211.here hx (hb hby own_d383) 88 rfl ?_
        refine S211.stB hx V 2 ⟨by decide, by decide⟩ (by decide) (by simp) gz safe_nil (hb hby own_d384) 89 rfl (fun T214 h214 S214 W214 V R214 => ?_)
        have B := B.other W214 nd
        have E := own_ext_wr E W214 gd
        refine g_aload S214.here hx (hb hby own_d385) rfl rfl 91 rfl ?_
        refine g_iloadN S214.here hx (hb hby own_d386) rfl 92 rfl ?_
        refine g_iinc S214.here hx (hb hby own_d387) rfl #[.val (.int (0 : Int32)), .val (.ref t), .val (.int (1 : Int32)), .val (.int (4 : Int32)), .val (.ref d), .val (.ref t), .val (.int (2 : Int32)), .val (.int (1 : Int32)), .val (.int (c2.toInt8.toInt32))] (by rw [show (3 : Int32) + Int32.ofInt 1 = (4 : Int32) from by decide]; rfl) 95 rfl ?_
        refine g_sipush S214.here hx (hb hby own_d388) (128 : Int32) (by decide) 98 rfl ?_
        refine g_iload S214.here hx (hb hby own_d389) rfl 100 rfl ?_
        refine g_bipush S214.here hx (hb hby own_d390) (63 : Int32) (by decide) 102 rfl ?_
        refine g_iand S214.here hx (hb hby own_d391) 103 rfl ?_
        refine g_ior S214.here hx (hb hby own_d392) 104 rfl ?_
        refine g_i2b S214.here hx (hb hby own_d393) 105 rfl ?_
        refine S214.stB hx V 3 ⟨by decide, by decide⟩ (by decide) (by simp) gz safe_nil (hb hby own_d394) 106 rfl (fun T215 h215 S215 W215 V R215 => ?_)
        have B := B.other W215 nd
        have E := own_ext_wr E W215 gd
        refine g_goto S215.here hx (hb hby own_d395) 118 (by decide) (by decide) ?_
        refine g_iinc S215.here hx (hb hby own_d362) rfl #[.val (.int (0 : Int32)), .val (.ref t), .val (.int (1 : Int32)), .val (.int (4 : Int32)), .val (.ref d), .val (.ref t), .val (.int (2 : Int32)), .val (.int (2 : Int32)), .val (.int (c2.toInt8.toInt32))] (by rw [show (1 : Int32) + Int32.ofInt 1 = (2 : Int32) from by decide]; rfl) 121 rfl ?_
        refine g_goto S215.here hx (hb hby own_d363) 49 (by decide) (by decide) ?_
        refine g_iload S215.here hx (hb hby own_d348) rfl 51 rfl ?_
        refine g_iload S215.here hx (hb hby own_d349) rfl 53 rfl ?_
        refine g_icmpT S215.here hx (hb hby own_d350) 2 2 (by decide) (by decide) (by show 2 ≤ 2; decide) 124 (by decide) (by decide) ?_
        refine g_iloadN S215.here hx (hb hby own_d364) rfl 125 rfl ?_
        refine g_aload S215.here hx (hb hby own_d365) rfl rfl 127 rfl ?_
        refine S215.len hx V (hb hby own_d366) 128 rfl ?_
        refine g_icmpF S215.here hx (hb hby own_d367) 4 4 (by decide) (by decide) (by show ¬ (¬ 4 = 4); decide) 131 rfl ?_
        refine g_aload S215.here hx (hb hby own_d396) rfl rfl 133 rfl ?_
        exact S215.aret hx hlk hret rfl rfl rfl (hb hby own_d397) ⟨d, rfl, E, _, _, _, V, by show _ = own_u c1 + (own_u c2 + (0)); rw [u1, u2]; decide⟩ (by decide) (by decide)
set_option maxRecDepth 65536 in
set_option maxHeartbeats 40000000 in
theorem ctEU2 (l : Launch) (Z : State) (a0 : Array Value) (hw : ∀ d ∈ tables_1, d.before a0 Z = true) (t : Addr) (kt : ClassId) (c1 c2 : Int32) (h : Heap) (O : Old Z Z.heap.size h) (H : own_h16 Z) (k1 : 0 ≤ c1.toInt ∧ c1.toInt ≤ 32767) (k2 : 0 ≤ c2.toInt ∧ c2.toInt ≤ 32767) (B : Arv Z h t kt .byte (4 : Int32) [.int (StrChars.lo8 c1), .int (StrChars.hi8 c1), .int (StrChars.lo8 c2), .int (StrChars.hi8 c2)] (.int 0)) :
    Ct 0 l Z [] [] (⟨"java/lang/String", "encodeUTF8_UTF16", "([BZ)[B"⟩ : MethodName) jdk_42_method_47_code 9 (some (.array .byte)) ({ frames := 2, cells := 2, slots := 18, locals := 60 } : Room) #[(.ref t), (.int (1 : Int32))] h (fun v h' => ∃ t : Addr, v = some (.ref t) ∧ Ext h h' ∧ own_enc Z h' t (own_us [c1, c2])) := by
  refine Ct.intro (plainFor_of_name own_pn173) O (fun _ => rfl) ⟨a0, EW.nil⟩ ?_
  intro p e s m below meth c T0 hx hby hml hret hnm hlk hsf S0
  refine Goes.cast (own_ef398 m t (1 : Int32)) ?_
  have B0 := B
  refine g_iconst S0.here hx (hb hby own_d399) (0 : Int32) (by decide) 1 rfl ?_
  refine g_istoreN S0.here hx (hb hby own_d400) #[.val (.ref t), .val (.int (1 : Int32)), .val (.int (0 : Int32)), .unset, .unset, .unset, .unset, .unset, .unset] rfl 2 rfl ?_
  refine g_iconst S0.here hx (hb hby own_d401) (0 : Int32) (by decide) 3 rfl ?_
  refine g_istoreN S0.here hx (hb hby own_d402) #[.val (.ref t), .val (.int (1 : Int32)), .val (.int (0 : Int32)), .val (.int (0 : Int32)), .unset, .unset, .unset, .unset, .unset] rfl 4 rfl ?_
  refine g_aloadN S0.here hx (hb hby own_d403) rfl rfl 5 rfl ?_
  refine S0.len hx B (hb hby own_d404) 6 rfl ?_
  refine g_iconst S0.here hx (hb hby own_d405) (1 : Int32) (by decide) 7 rfl ?_
  refine g_ishr S0.here hx (hb hby own_d406) 8 rfl ?_
  rw [show ((4 : Int32) >>> ((1 : Int32) &&& 31)) = (2 : Int32) from by decide]
  refine g_istore S0.here hx (hb hby own_d407) #[.val (.ref t), .val (.int (1 : Int32)), .val (.int (0 : Int32)), .val (.int (0 : Int32)), .val (.int (2 : Int32)), .unset, .unset, .unset, .unset] rfl 10 rfl ?_
  refine g_iload S0.here hx (hb hby own_d408) rfl 12 rfl ?_
  refine g_iconst S0.here hx (hb hby own_d409) (3 : Int32) (by decide) 13 rfl ?_
  refine g_imul S0.here hx (hb hby own_d410) 14 rfl ?_
  rw [show ((2 : Int32) * (3 : Int32)) = (6 : Int32) from by decide]
  refine S0.newAE (aty := .byte) hx (own_q31 hw) (n := (6 : Int32)) (by decide) (cap := 6) (by decide) (by decide) (hb hby own_d411) (by decide) (by decide) (ad := "[B") (by decide) 16 rfl (fun T216 h216 D_b k216 S216 g216 E216 V216 D_x F216 R216 => ?_)
  have D : Arv Z h216 D_b k216 .byte (6 : Int32) [.int 0, .int 0, .int 0, .int 0, .int 0, .int 0] (.int 0) := V216
  have D_z : Z.heap.size ≤ D_b := by rw [g216]; exact S0.size
  have D_g : h.size ≤ D_b := Nat.le_of_eq g216.symm
  refine g_astore S216.here hx (hb hby own_d412) rfl #[.val (.ref t), .val (.int (1 : Int32)), .val (.int (0 : Int32)), .val (.int (0 : Int32)), .val (.int (2 : Int32)), .val (.ref D_b), .unset, .unset, .unset] rfl 18 rfl ?_
  have B := B.ext E216
  have nd : t ≠ D_b := fun q => by rw [← q] at D_g; exact absurd B0.lt (Nat.not_lt.mpr D_g)
  have E := E216
  have kD : ∃ k : ClassId, k = k := ⟨0, rfl⟩
  have head2 : ∀ (vm : Vm) (T : State) (h1 : Heap) (d : Int32) (w6 : Slot) (kd : ClassId) (vs : List Value), One w6 → vs.length = 6 → St 0 p l e ({ frames := 2, cells := 2, slots := 18, locals := 60 } : Room) s m #[(.ref t), (.int (1 : Int32))] below meth c "java/lang/String" Z [] vm T h1 1 6 → Arv Z h1 t kt .byte (4 : Int32) [.int (StrChars.lo8 c1), .int (StrChars.hi8 c1), .int (StrChars.lo8 c2), .int (StrChars.hi8 c2)] (.int 0) → Arv Z h1 D_b kd .byte (6 : Int32) vs (.int 0) → Ext h h1 → d.toInt = (own_u c1 + own_u c2) → Goes p.tables e below (Pof 0 Z [] s ({ frames := 2, cells := 2, slots := 18, locals := 60 } : Room) (fun v h' => ∃ t : Addr, v = some (.ref t) ∧ Ext h h' ∧ own_enc Z h' t (own_us [c1, c2]))) T (mkF m 58 #[.val (.ref t), .val (.int (1 : Int32)), .val (.int d), .val (.int (2 : Int32)), .val (.int (2 : Int32)), .val (.ref D_b), w6, .unset, .unset] []) := by
    intro vm T h1 d w6 kd vs hw6 hl S1 B D E hd
    have z3 : (6 : Int32).toInt = 6 := by decide
    have ub1 := own_ub c1
    have ub2 := own_ub c2
    refine g_iloadN S1.here hx (hb hby own_d413) rfl 59 rfl ?_
    refine g_iload S1.here hx (hb hby own_d414) rfl 61 rfl ?_
    refine g_icmpT S1.here hx (hb hby own_d415) 2 2 (by decide) (by decide) (by show 2 ≤ 2; decide) 355 (by decide) (by decide) ?_
    refine g_iloadN S1.here hx (hb hby own_d416) rfl 356 rfl ?_
    refine g_aload S1.here hx (hb hby own_d417) rfl rfl 358 rfl ?_
    refine S1.len hx D (hb hby own_d418) 359 rfl ?_
    refine g_icmp S1.here hx (hb hby own_d419) d.toInt 6 rfl (by decide) 365 362 (by decide) (by decide) rfl (fun (hc359 : ¬ d.toInt = 6) => ?_) (fun (hc359 : ¬ (¬ d.toInt = 6)) => ?_)
    · refine g_aload S1.here hx (hb hby own_d420) rfl rfl 367 rfl ?_
      refine g_iloadN S1.here hx (hb hby own_d421) rfl 368 rfl ?_
      refine S1.callS hx (W := 0) (own_q158 hw) (own_q159 hw) (own_q160 hw) (own_q161 hw) (by decide) (ctCp l Z a0 hw D_b kd (6 : Int32) d vs h1 S1.old D (by omega) (by omega)) nosf (by decide) (by decide) (by rw [hml]; rfl) [(.ref D_b), (.int d)] [] (lenOf own_pd371 rfl) rfl rfl (Nat.le_refl _) (hb hby own_d422) (by decide) (by decide) 371 rfl (fun v217 vm217 T217 h217 S217 Q217 R217 => ?_)
      obtain ⟨r, rfl, X2, C⟩ := Q217
      show Goes _ _ _ _ T217 (mkF m 371 #[.val (.ref t), .val (.int (1 : Int32)), .val (.int d), .val (.int (2 : Int32)), .val (.int (2 : Int32)), .val (.ref D_b), w6, .unset, .unset] [(.ref r)])
      have E := own_ext_trans E X2
      rw [hd] at C
      exact S217.aret hx hlk hret rfl rfl rfl (hb hby own_d423) ⟨r, rfl, E, (show own_u c1 + own_u c2 = own_us [c1, c2] from by show _ = own_u c1 + (own_u c2 + (0)); omega) ▸ C⟩ (by decide) (by decide)
    · refine g_aload S1.here hx (hb hby own_d424) rfl rfl 364 rfl ?_
      exact S1.aret hx hlk hret rfl rfl rfl (hb hby own_d425) ⟨D_b, rfl, E, _, _, _, D, by show _ = own_u c1 + (own_u c2 + (0)); omega⟩ (by decide) (by decide)
  have head1 : ∀ (vm : Vm) (T : State) (h1 : Heap) (d : Int32) (w6 : Slot) (kd : ClassId) (vs : List Value), One w6 → vs.length = 6 → St 0 p l e ({ frames := 2, cells := 2, slots := 18, locals := 60 } : Room) s m #[(.ref t), (.int (1 : Int32))] below meth c "java/lang/String" Z [] vm T h1 1 6 → Arv Z h1 t kt .byte (4 : Int32) [.int (StrChars.lo8 c1), .int (StrChars.hi8 c1), .int (StrChars.lo8 c2), .int (StrChars.hi8 c2)] (.int 0) → Arv Z h1 D_b kd .byte (6 : Int32) vs (.int 0) → Ext h h1 → d.toInt = (own_u c1) → Goes p.tables e below (Pof 0 Z [] s ({ frames := 2, cells := 2, slots := 18, locals := 60 } : Room) (fun v h' => ∃ t : Addr, v = some (.ref t) ∧ Ext h h' ∧ own_enc Z h' t (own_us [c1, c2]))) T (mkF m 58 #[.val (.ref t), .val (.int (1 : Int32)), .val (.int d), .val (.int (1 : Int32)), .val (.int (2 : Int32)), .val (.ref D_b), w6, .unset, .unset] []) := by
    intro vm T h1 d w6 kd vs hw6 hl S1 B D E hd
    have z3 : (6 : Int32).toInt = 6 := by decide
    have ub1 := own_ub c1
    have ub2 := own_ub c2
    refine g_iloadN S1.here hx (hb hby own_d413) rfl 59 rfl ?_
    refine g_iload S1.here hx (hb hby own_d414) rfl 61 rfl ?_
    refine g_icmpF S1.here hx (hb hby own_d415) 1 2 (by decide) (by decide) (by show ¬ (2 ≤ 1); decide) 64 rfl ?_
    refine g_aloadN S1.here hx (hb hby own_d426) rfl rfl 65 rfl ?_
    refine g_iloadN S1.here hx (hb hby own_d427) rfl 66 rfl ?_
    refine g_iinc S1.here hx (hb hby own_d428) rfl #[.val (.ref t), .val (.int (1 : Int32)), .val (.int d), .val (.int (2 : Int32)), .val (.int (2 : Int32)), .val (.ref D_b), w6, .unset, .unset] (by rw [show (1 : Int32) + Int32.ofInt 1 = (2 : Int32) from by decide]; rfl) 69 rfl ?_
    refine S1.callS hx (W := 0) (own_q144 hw) (own_q139 hw) (own_q29 hw) (own_q140 hw) (by decide) (ctGC21 l Z a0 hw t kt c2 _ h1 S1.old H k2 B rfl rfl) nosf (by decide) (by decide) (by rw [hml]; rfl) [(.ref t), (.int (1 : Int32))] [] (lenOf own_pd138 rfl) rfl rfl (Nat.le_refl _) (hb hby own_d429) (by decide) (by decide) 72 rfl (fun v218 vm218 T218 h218 S218 Q218 R218 => ?_)
    obtain ⟨rfl, rfl⟩ := Q218
    show Goes _ _ _ _ T218 (mkF m 72 #[.val (.ref t), .val (.int (1 : Int32)), .val (.int d), .val (.int (2 : Int32)), .val (.int (2 : Int32)), .val (.ref D_b), w6, .unset, .unset] [(.int c2)])
    refine g_istore S218.here hx (hb hby own_d430) #[.val (.ref t), .val (.int (1 : Int32)), .val (.int d), .val (.int (2 : Int32)), .val (.int (2 : Int32)), .val (.ref D_b), .val (.int c2), .unset, .unset] (by rw [XS.store1 (o := w6) rfl hw6 rfl]; rfl) 74 rfl ?_
    refine g_iload S218.here hx (hb hby own_d431) rfl 76 rfl ?_
    refine g_sipush S218.here hx (hb hby own_d432) (128 : Int32) (by decide) 79 rfl ?_
    refine g_icmp S218.here hx (hb hby own_d433) c2.toInt 128 rfl (by decide) 95 82 (by decide) (by decide) rfl (fun (hc79 : 128 ≤ c2.toInt) => ?_) (fun (hc79 : ¬ (128 ≤ c2.toInt)) => ?_)
    · refine g_iload S218.here hx (hb hby own_d434) rfl 97 rfl ?_
      refine g_sipush S218.here hx (hb hby own_d435) (2048 : Int32) (by decide) 100 rfl ?_
      refine g_icmp S218.here hx (hb hby own_d436) c2.toInt 2048 rfl (by decide) 140 103 (by decide) (by decide) rfl (fun (hc100 : 2048 ≤ c2.toInt) => ?_) (fun (hc100 : ¬ (2048 ≤ c2.toInt)) => ?_)
      · refine g_iload S218.here hx (hb hby own_d437) rfl 142 rfl ?_
        refine S218.callS hx (W := 0) (own_q145 hw) (own_q146 hw) (own_q147 hw) (own_q148 hw) (by decide) (ctSu l Z a0 hw c2 h1 S218.old (by omega)) nosf (by decide) (by decide) (by rw [hml]; rfl) [(.int c2)] [] (lenOf own_pd439 rfl) rfl rfl (Nat.le_refl _) (hb hby own_d438) (by decide) (by decide) 145 rfl (fun v219 vm219 T219 h219 S219 Q219 R219 => ?_)
        obtain ⟨rfl, rfl⟩ := Q219
        show Goes _ _ _ _ T219 (mkF m 145 #[.val (.ref t), .val (.int (1 : Int32)), .val (.int d), .val (.int (2 : Int32)), .val (.int (2 : Int32)), .val (.ref D_b), .val (.int c2), .unset, .unset] [(.int (0 : Int32))])
        refine g_ifT S219.here hx (hb hby own_d440) 0 (by decide) (by show 0 = 0; decide) 298 (by decide) (by decide) ?_
        have u := own_u3 (c := c2) (by omega)
        refine g_aload S219.here hx (hb hby own_d441) rfl rfl 300 rfl ?_
        refine g_iloadN S219.here hx (hb hby own_d442) rfl 301 rfl ?_
        have ea220 := own_add1 (j := d) (by omega)
        refine g_iinc S219.here hx (hb hby own_d443) rfl #[.val (.ref t), .val (.int (1 : Int32)), .val (.int (d + (1 : Int32))), .val (.int (2 : Int32)), .val (.int (2 : Int32)), .val (.ref D_b), .val (.int c2), .unset, .unset] rfl 304 rfl ?_
        refine g_sipush S219.here hx (hb hby own_d444) (224 : Int32) (by decide) 307 rfl ?_
        refine g_iload S219.here hx (hb hby own_d445) rfl 309 rfl ?_
        refine g_bipush S219.here hx (hb hby own_d446) (12 : Int32) (by decide) 311 rfl ?_
        refine g_ishr S219.here hx (hb hby own_d447) 312 rfl ?_
        refine g_ior S219.here hx (hb hby own_d448) 313 rfl ?_
        refine g_i2b S219.here hx (hb hby own_d449) 314 rfl ?_
        have ej := own_clamp (j := d) (by omega)
        refine S219.stB hx D (d).toNatClampNeg ⟨own_nn (by omega), own_lt (by omega)⟩ rfl (by (try simp only [List.length_set]); omega) D_z safe_nil (hb hby own_d450) 315 rfl (fun T221 h221 S221 W221 D R221 => ?_)
        have B := B.other W221 nd
        have E := own_ext_wr E W221 D_g
        refine g_aload S221.here hx (hb hby own_d451) rfl rfl 317 rfl ?_
        refine g_iloadN S221.here hx (hb hby own_d452) rfl 318 rfl ?_
        have ea222 := own_add1 (j := (d + (1 : Int32))) (by omega)
        refine g_iinc S221.here hx (hb hby own_d453) rfl #[.val (.ref t), .val (.int (1 : Int32)), .val (.int ((d + (1 : Int32)) + (1 : Int32))), .val (.int (2 : Int32)), .val (.int (2 : Int32)), .val (.ref D_b), .val (.int c2), .unset, .unset] rfl 321 rfl ?_
        refine g_sipush S221.here hx (hb hby own_d454) (128 : Int32) (by decide) 324 rfl ?_
        refine g_iload S221.here hx (hb hby own_d455) rfl 326 rfl ?_
        refine g_bipush S221.here hx (hb hby own_d456) (6 : Int32) (by decide) 328 rfl ?_
        refine g_ishr S221.here hx (hb hby own_d457) 329 rfl ?_
        refine g_bipush S221.here hx (hb hby own_d458) (63 : Int32) (by decide) 331 rfl ?_
        refine g_iand S221.here hx (hb hby own_d459) 332 rfl ?_
        refine g_ior S221.here hx (hb hby own_d460) 333 rfl ?_
        refine g_i2b S221.here hx (hb hby own_d461) 334 rfl ?_
        have ej := own_clamp (j := (d + (1 : Int32))) (by omega)
        refine S221.stB hx D ((d + (1 : Int32))).toNatClampNeg ⟨own_nn (by omega), own_lt (by omega)⟩ rfl (by (try simp only [List.length_set]); omega) D_z safe_nil (hb hby own_d462) 335 rfl (fun T223 h223 S223 W223 D R223 => ?_)
        have B := B.other W223 nd
        have E := own_ext_wr E W223 D_g
        refine g_aload S223.here hx (hb hby own_d463) rfl rfl 337 rfl ?_
        refine g_iloadN S223.here hx (hb hby own_d464) rfl 338 rfl ?_
        have ea224 := own_add1 (j := ((d + (1 : Int32)) + (1 : Int32))) (by omega)
        refine g_iinc S223.here hx (hb hby own_d465) rfl #[.val (.ref t), .val (.int (1 : Int32)), .val (.int (((d + (1 : Int32)) + (1 : Int32)) + (1 : Int32))), .val (.int (2 : Int32)), .val (.int (2 : Int32)), .val (.ref D_b), .val (.int c2), .unset, .unset] rfl 341 rfl ?_
        refine g_sipush S223.here hx (hb hby own_d466) (128 : Int32) (by decide) 344 rfl ?_
        refine g_iload S223.here hx (hb hby own_d467) rfl 346 rfl ?_
        refine g_bipush S223.here hx (hb hby own_d468) (63 : Int32) (by decide) 348 rfl ?_
        refine g_iand S223.here hx (hb hby own_d469) 349 rfl ?_
        refine g_ior S223.here hx (hb hby own_d470) 350 rfl ?_
        refine g_i2b S223.here hx (hb hby own_d471) 351 rfl ?_
        have ej := own_clamp (j := ((d + (1 : Int32)) + (1 : Int32))) (by omega)
        refine S223.stB hx D (((d + (1 : Int32)) + (1 : Int32))).toNatClampNeg ⟨own_nn (by omega), own_lt (by omega)⟩ rfl (by (try simp only [List.length_set]); omega) D_z safe_nil (hb hby own_d472) 352 rfl (fun T225 h225 S225 W225 D R225 => ?_)
        have B := B.other W225 nd
        have E := own_ext_wr E W225 D_g
        refine g_goto S225.here hx (hb hby own_d473) 58 (by decide) (by decide) ?_
        exact head2 _ _ _ _ _ _ _ (One.val rfl) (by first | exact hl | (simp only [List.length_set]; exact hl)) S225 B D E (by omega)
      · have u := own_u2 (c := c2) (by omega) (by omega)
        refine g_aload S218.here hx (hb hby own_d474) rfl rfl 105 rfl ?_
        refine g_iloadN S218.here hx (hb hby own_d475) rfl 106 rfl ?_
        have ea226 := own_add1 (j := d) (by omega)
        refine g_iinc S218.here hx (hb hby own_d476) rfl #[.val (.ref t), .val (.int (1 : Int32)), .val (.int (d + (1 : Int32))), .val (.int (2 : Int32)), .val (.int (2 : Int32)), .val (.ref D_b), .val (.int c2), .unset, .unset] rfl 109 rfl ?_
        refine g_sipush S218.here hx (hb hby own_d477) (192 : Int32) (by decide) 112 rfl ?_
        refine g_iload S218.here hx (hb hby own_d478) rfl 114 rfl ?_
        refine g_bipush S218.here hx (hb hby own_d479) (6 : Int32) (by decide) 116 rfl ?_
        refine g_ishr S218.here hx (hb hby own_d480) 117 rfl ?_
        refine g_ior S218.here hx (hb hby own_d481) 118 rfl ?_
        refine g_i2b S218.here hx (hb hby own_d482) 119 rfl ?_
        have ej := own_clamp (j := d) (by omega)
        refine S218.stB hx D (d).toNatClampNeg ⟨own_nn (by omega), own_lt (by omega)⟩ rfl (by (try simp only [List.length_set]); omega) D_z safe_nil (hb hby own_d483) 120 rfl (fun T227 h227 S227 W227 D R227 => ?_)
        have B := B.other W227 nd
        have E := own_ext_wr E W227 D_g
        refine g_aload S227.here hx (hb hby own_d484) rfl rfl 122 rfl ?_
        refine g_iloadN S227.here hx (hb hby own_d485) rfl 123 rfl ?_
        have ea228 := own_add1 (j := (d + (1 : Int32))) (by omega)
        refine g_iinc S227.here hx (hb hby own_d486) rfl #[.val (.ref t), .val (.int (1 : Int32)), .val (.int ((d + (1 : Int32)) + (1 : Int32))), .val (.int (2 : Int32)), .val (.int (2 : Int32)), .val (.ref D_b), .val (.int c2), .unset, .unset] rfl 126 rfl ?_
        refine g_sipush S227.here hx (hb hby own_d487) (128 : Int32) (by decide) 129 rfl ?_
        refine g_iload S227.here hx (hb hby own_d488) rfl 131 rfl ?_
        refine g_bipush S227.here hx (hb hby own_d489) (63 : Int32) (by decide) 133 rfl ?_
        refine g_iand S227.here hx (hb hby own_d490) 134 rfl ?_
        refine g_ior S227.here hx (hb hby own_d491) 135 rfl ?_
        refine g_i2b S227.here hx (hb hby own_d492) 136 rfl ?_
        have ej := own_clamp (j := (d + (1 : Int32))) (by omega)
        refine S227.stB hx D ((d + (1 : Int32))).toNatClampNeg ⟨own_nn (by omega), own_lt (by omega)⟩ rfl (by (try simp only [List.length_set]); omega) D_z safe_nil (hb hby own_d493) 137 rfl (fun T229 h229 S229 W229 D R229 => ?_)
        have B := B.other W229 nd
        have E := own_ext_wr E W229 D_g
        refine g_goto S229.here hx (hb hby own_d494) 352 (by decide) (by decide) ?_
        refine g_goto S229.here hx (hb hby own_d473) 58 (by decide) (by decide) ?_
        exact head2 _ _ _ _ _ _ _ (One.val rfl) (by first | exact hl | (simp only [List.length_set]; exact hl)) S229 B D E (by omega)
    · have u := own_u1 (c := c2) (by omega)
      refine g_aload S218.here hx (hb hby own_d495) rfl rfl 84 rfl ?_
      refine g_iloadN S218.here hx (hb hby own_d496) rfl 85 rfl ?_
      have ea230 := own_add1 (j := d) (by omega)
      refine g_iinc S218.here hx (hb hby own_d497) rfl #[.val (.ref t), .val (.int (1 : Int32)), .val (.int (d + (1 : Int32))), .val (.int (2 : Int32)), .val (.int (2 : Int32)), .val (.ref D_b), .val (.int c2), .unset, .unset] rfl 88 rfl ?_
      refine g_iload S218.here hx (hb hby own_d498) rfl 90 rfl ?_
      refine g_i2b S218.here hx (hb hby own_d499) 91 rfl ?_
      have ej := own_clamp (j := d) (by omega)
      refine S218.stB hx D (d).toNatClampNeg ⟨own_nn (by omega), own_lt (by omega)⟩ rfl (by (try simp only [List.length_set]); omega) D_z safe_nil (hb hby own_d500) 92 rfl (fun T231 h231 S231 W231 D R231 => ?_)
      have B := B.other W231 nd
      have E := own_ext_wr E W231 D_g
      refine g_goto S231.here hx (hb hby own_d501) 352 (by decide) (by decide) ?_
      refine g_goto S231.here hx (hb hby own_d473) 58 (by decide) (by decide) ?_
      exact head2 _ _ _ _ _ _ _ (One.val rfl) (by first | exact hl | (simp only [List.length_set]; exact hl)) S231 B D E (by omega)
  have head0 : ∀ (vm : Vm) (T : State) (h1 : Heap) (d : Int32) (w6 : Slot) (kd : ClassId) (vs : List Value), One w6 → vs.length = 6 → St 0 p l e ({ frames := 2, cells := 2, slots := 18, locals := 60 } : Room) s m #[(.ref t), (.int (1 : Int32))] below meth c "java/lang/String" Z [] vm T h1 1 6 → Arv Z h1 t kt .byte (4 : Int32) [.int (StrChars.lo8 c1), .int (StrChars.hi8 c1), .int (StrChars.lo8 c2), .int (StrChars.hi8 c2)] (.int 0) → Arv Z h1 D_b kd .byte (6 : Int32) vs (.int 0) → Ext h h1 → d.toInt = (0) → Goes p.tables e below (Pof 0 Z [] s ({ frames := 2, cells := 2, slots := 18, locals := 60 } : Room) (fun v h' => ∃ t : Addr, v = some (.ref t) ∧ Ext h h' ∧ own_enc Z h' t (own_us [c1, c2]))) T (mkF m 58 #[.val (.ref t), .val (.int (1 : Int32)), .val (.int d), .val (.int (0 : Int32)), .val (.int (2 : Int32)), .val (.ref D_b), w6, .unset, .unset] []) := by
    intro vm T h1 d w6 kd vs hw6 hl S1 B D E hd
    have z3 : (6 : Int32).toInt = 6 := by decide
    have ub1 := own_ub c1
    have ub2 := own_ub c2
    refine g_iloadN S1.here hx (hb hby own_d413) rfl 59 rfl ?_
    refine g_iload S1.here hx (hb hby own_d414) rfl 61 rfl ?_
    refine g_icmpF S1.here hx (hb hby own_d415) 0 2 (by decide) (by decide) (by show ¬ (2 ≤ 0); decide) 64 rfl ?_
    refine g_aloadN S1.here hx (hb hby own_d426) rfl rfl 65 rfl ?_
    refine g_iloadN S1.here hx (hb hby own_d427) rfl 66 rfl ?_
    refine g_iinc S1.here hx (hb hby own_d428) rfl #[.val (.ref t), .val (.int (1 : Int32)), .val (.int d), .val (.int (1 : Int32)), .val (.int (2 : Int32)), .val (.ref D_b), w6, .unset, .unset] (by rw [show (0 : Int32) + Int32.ofInt 1 = (1 : Int32) from by decide]; rfl) 69 rfl ?_
    refine S1.callS hx (W := 0) (own_q144 hw) (own_q139 hw) (own_q29 hw) (own_q140 hw) (by decide) (ctGC20 l Z a0 hw t kt c1 _ h1 S1.old H k1 B rfl rfl) nosf (by decide) (by decide) (by rw [hml]; rfl) [(.ref t), (.int (0 : Int32))] [] (lenOf own_pd138 rfl) rfl rfl (Nat.le_refl _) (hb hby own_d429) (by decide) (by decide) 72 rfl (fun v232 vm232 T232 h232 S232 Q232 R232 => ?_)
    obtain ⟨rfl, rfl⟩ := Q232
    show Goes _ _ _ _ T232 (mkF m 72 #[.val (.ref t), .val (.int (1 : Int32)), .val (.int d), .val (.int (1 : Int32)), .val (.int (2 : Int32)), .val (.ref D_b), w6, .unset, .unset] [(.int c1)])
    refine g_istore S232.here hx (hb hby own_d430) #[.val (.ref t), .val (.int (1 : Int32)), .val (.int d), .val (.int (1 : Int32)), .val (.int (2 : Int32)), .val (.ref D_b), .val (.int c1), .unset, .unset] (by rw [XS.store1 (o := w6) rfl hw6 rfl]; rfl) 74 rfl ?_
    refine g_iload S232.here hx (hb hby own_d431) rfl 76 rfl ?_
    refine g_sipush S232.here hx (hb hby own_d432) (128 : Int32) (by decide) 79 rfl ?_
    refine g_icmp S232.here hx (hb hby own_d433) c1.toInt 128 rfl (by decide) 95 82 (by decide) (by decide) rfl (fun (hc79 : 128 ≤ c1.toInt) => ?_) (fun (hc79 : ¬ (128 ≤ c1.toInt)) => ?_)
    · refine g_iload S232.here hx (hb hby own_d434) rfl 97 rfl ?_
      refine g_sipush S232.here hx (hb hby own_d435) (2048 : Int32) (by decide) 100 rfl ?_
      refine g_icmp S232.here hx (hb hby own_d436) c1.toInt 2048 rfl (by decide) 140 103 (by decide) (by decide) rfl (fun (hc100 : 2048 ≤ c1.toInt) => ?_) (fun (hc100 : ¬ (2048 ≤ c1.toInt)) => ?_)
      · refine g_iload S232.here hx (hb hby own_d437) rfl 142 rfl ?_
        refine S232.callS hx (W := 0) (own_q145 hw) (own_q146 hw) (own_q147 hw) (own_q148 hw) (by decide) (ctSu l Z a0 hw c1 h1 S232.old (by omega)) nosf (by decide) (by decide) (by rw [hml]; rfl) [(.int c1)] [] (lenOf own_pd439 rfl) rfl rfl (Nat.le_refl _) (hb hby own_d438) (by decide) (by decide) 145 rfl (fun v233 vm233 T233 h233 S233 Q233 R233 => ?_)
        obtain ⟨rfl, rfl⟩ := Q233
        show Goes _ _ _ _ T233 (mkF m 145 #[.val (.ref t), .val (.int (1 : Int32)), .val (.int d), .val (.int (1 : Int32)), .val (.int (2 : Int32)), .val (.ref D_b), .val (.int c1), .unset, .unset] [(.int (0 : Int32))])
        refine g_ifT S233.here hx (hb hby own_d440) 0 (by decide) (by show 0 = 0; decide) 298 (by decide) (by decide) ?_
        have u := own_u3 (c := c1) (by omega)
        refine g_aload S233.here hx (hb hby own_d441) rfl rfl 300 rfl ?_
        refine g_iloadN S233.here hx (hb hby own_d442) rfl 301 rfl ?_
        have ea234 := own_add1 (j := d) (by omega)
        refine g_iinc S233.here hx (hb hby own_d443) rfl #[.val (.ref t), .val (.int (1 : Int32)), .val (.int (d + (1 : Int32))), .val (.int (1 : Int32)), .val (.int (2 : Int32)), .val (.ref D_b), .val (.int c1), .unset, .unset] rfl 304 rfl ?_
        refine g_sipush S233.here hx (hb hby own_d444) (224 : Int32) (by decide) 307 rfl ?_
        refine g_iload S233.here hx (hb hby own_d445) rfl 309 rfl ?_
        refine g_bipush S233.here hx (hb hby own_d446) (12 : Int32) (by decide) 311 rfl ?_
        refine g_ishr S233.here hx (hb hby own_d447) 312 rfl ?_
        refine g_ior S233.here hx (hb hby own_d448) 313 rfl ?_
        refine g_i2b S233.here hx (hb hby own_d449) 314 rfl ?_
        have ej := own_clamp (j := d) (by omega)
        refine S233.stB hx D (d).toNatClampNeg ⟨own_nn (by omega), own_lt (by omega)⟩ rfl (by (try simp only [List.length_set]); omega) D_z safe_nil (hb hby own_d450) 315 rfl (fun T235 h235 S235 W235 D R235 => ?_)
        have B := B.other W235 nd
        have E := own_ext_wr E W235 D_g
        refine g_aload S235.here hx (hb hby own_d451) rfl rfl 317 rfl ?_
        refine g_iloadN S235.here hx (hb hby own_d452) rfl 318 rfl ?_
        have ea236 := own_add1 (j := (d + (1 : Int32))) (by omega)
        refine g_iinc S235.here hx (hb hby own_d453) rfl #[.val (.ref t), .val (.int (1 : Int32)), .val (.int ((d + (1 : Int32)) + (1 : Int32))), .val (.int (1 : Int32)), .val (.int (2 : Int32)), .val (.ref D_b), .val (.int c1), .unset, .unset] rfl 321 rfl ?_
        refine g_sipush S235.here hx (hb hby own_d454) (128 : Int32) (by decide) 324 rfl ?_
        refine g_iload S235.here hx (hb hby own_d455) rfl 326 rfl ?_
        refine g_bipush S235.here hx (hb hby own_d456) (6 : Int32) (by decide) 328 rfl ?_
        refine g_ishr S235.here hx (hb hby own_d457) 329 rfl ?_
        refine g_bipush S235.here hx (hb hby own_d458) (63 : Int32) (by decide) 331 rfl ?_
        refine g_iand S235.here hx (hb hby own_d459) 332 rfl ?_
        refine g_ior S235.here hx (hb hby own_d460) 333 rfl ?_
        refine g_i2b S235.here hx (hb hby own_d461) 334 rfl ?_
        have ej := own_clamp (j := (d + (1 : Int32))) (by omega)
        refine S235.stB hx D ((d + (1 : Int32))).toNatClampNeg ⟨own_nn (by omega), own_lt (by omega)⟩ rfl (by (try simp only [List.length_set]); omega) D_z safe_nil (hb hby own_d462) 335 rfl (fun T237 h237 S237 W237 D R237 => ?_)
        have B := B.other W237 nd
        have E := own_ext_wr E W237 D_g
        refine g_aload S237.here hx (hb hby own_d463) rfl rfl 337 rfl ?_
        refine g_iloadN S237.here hx (hb hby own_d464) rfl 338 rfl ?_
        have ea238 := own_add1 (j := ((d + (1 : Int32)) + (1 : Int32))) (by omega)
        refine g_iinc S237.here hx (hb hby own_d465) rfl #[.val (.ref t), .val (.int (1 : Int32)), .val (.int (((d + (1 : Int32)) + (1 : Int32)) + (1 : Int32))), .val (.int (1 : Int32)), .val (.int (2 : Int32)), .val (.ref D_b), .val (.int c1), .unset, .unset] rfl 341 rfl ?_
        refine g_sipush S237.here hx (hb hby own_d466) (128 : Int32) (by decide) 344 rfl ?_
        refine g_iload S237.here hx (hb hby own_d467) rfl 346 rfl ?_
        refine g_bipush S237.here hx (hb hby own_d468) (63 : Int32) (by decide) 348 rfl ?_
        refine g_iand S237.here hx (hb hby own_d469) 349 rfl ?_
        refine g_ior S237.here hx (hb hby own_d470) 350 rfl ?_
        refine g_i2b S237.here hx (hb hby own_d471) 351 rfl ?_
        have ej := own_clamp (j := ((d + (1 : Int32)) + (1 : Int32))) (by omega)
        refine S237.stB hx D (((d + (1 : Int32)) + (1 : Int32))).toNatClampNeg ⟨own_nn (by omega), own_lt (by omega)⟩ rfl (by (try simp only [List.length_set]); omega) D_z safe_nil (hb hby own_d472) 352 rfl (fun T239 h239 S239 W239 D R239 => ?_)
        have B := B.other W239 nd
        have E := own_ext_wr E W239 D_g
        refine g_goto S239.here hx (hb hby own_d473) 58 (by decide) (by decide) ?_
        exact head1 _ _ _ _ _ _ _ (One.val rfl) (by first | exact hl | (simp only [List.length_set]; exact hl)) S239 B D E (by omega)
      · have u := own_u2 (c := c1) (by omega) (by omega)
        refine g_aload S232.here hx (hb hby own_d474) rfl rfl 105 rfl ?_
        refine g_iloadN S232.here hx (hb hby own_d475) rfl 106 rfl ?_
        have ea240 := own_add1 (j := d) (by omega)
        refine g_iinc S232.here hx (hb hby own_d476) rfl #[.val (.ref t), .val (.int (1 : Int32)), .val (.int (d + (1 : Int32))), .val (.int (1 : Int32)), .val (.int (2 : Int32)), .val (.ref D_b), .val (.int c1), .unset, .unset] rfl 109 rfl ?_
        refine g_sipush S232.here hx (hb hby own_d477) (192 : Int32) (by decide) 112 rfl ?_
        refine g_iload S232.here hx (hb hby own_d478) rfl 114 rfl ?_
        refine g_bipush S232.here hx (hb hby own_d479) (6 : Int32) (by decide) 116 rfl ?_
        refine g_ishr S232.here hx (hb hby own_d480) 117 rfl ?_
        refine g_ior S232.here hx (hb hby own_d481) 118 rfl ?_
        refine g_i2b S232.here hx (hb hby own_d482) 119 rfl ?_
        have ej := own_clamp (j := d) (by omega)
        refine S232.stB hx D (d).toNatClampNeg ⟨own_nn (by omega), own_lt (by omega)⟩ rfl (by (try simp only [List.length_set]); omega) D_z safe_nil (hb hby own_d483) 120 rfl (fun T241 h241 S241 W241 D R241 => ?_)
        have B := B.other W241 nd
        have E := own_ext_wr E W241 D_g
        refine g_aload S241.here hx (hb hby own_d484) rfl rfl 122 rfl ?_
        refine g_iloadN S241.here hx (hb hby own_d485) rfl 123 rfl ?_
        have ea242 := own_add1 (j := (d + (1 : Int32))) (by omega)
        refine g_iinc S241.here hx (hb hby own_d486) rfl #[.val (.ref t), .val (.int (1 : Int32)), .val (.int ((d + (1 : Int32)) + (1 : Int32))), .val (.int (1 : Int32)), .val (.int (2 : Int32)), .val (.ref D_b), .val (.int c1), .unset, .unset] rfl 126 rfl ?_
        refine g_sipush S241.here hx (hb hby own_d487) (128 : Int32) (by decide) 129 rfl ?_
        refine g_iload S241.here hx (hb hby own_d488) rfl 131 rfl ?_
        refine g_bipush S241.here hx (hb hby own_d489) (63 : Int32) (by decide) 133 rfl ?_
        refine g_iand S241.here hx (hb hby own_d490) 134 rfl ?_
        refine g_ior S241.here hx (hb hby own_d491) 135 rfl ?_
        refine g_i2b S241.here hx (hb hby own_d492) 136 rfl ?_
        have ej := own_clamp (j := (d + (1 : Int32))) (by omega)
        refine S241.stB hx D ((d + (1 : Int32))).toNatClampNeg ⟨own_nn (by omega), own_lt (by omega)⟩ rfl (by (try simp only [List.length_set]); omega) D_z safe_nil (hb hby own_d493) 137 rfl (fun T243 h243 S243 W243 D R243 => ?_)
        have B := B.other W243 nd
        have E := own_ext_wr E W243 D_g
        refine g_goto S243.here hx (hb hby own_d494) 352 (by decide) (by decide) ?_
        refine g_goto S243.here hx (hb hby own_d473) 58 (by decide) (by decide) ?_
        exact head1 _ _ _ _ _ _ _ (One.val rfl) (by first | exact hl | (simp only [List.length_set]; exact hl)) S243 B D E (by omega)
    · have u := own_u1 (c := c1) (by omega)
      refine g_aload S232.here hx (hb hby own_d495) rfl rfl 84 rfl ?_
      refine g_iloadN S232.here hx (hb hby own_d496) rfl 85 rfl ?_
      have ea244 := own_add1 (j := d) (by omega)
      refine g_iinc S232.here hx (hb hby own_d497) rfl #[.val (.ref t), .val (.int (1 : Int32)), .val (.int (d + (1 : Int32))), .val (.int (1 : Int32)), .val (.int (2 : Int32)), .val (.ref D_b), .val (.int c1), .unset, .unset] rfl 88 rfl ?_
      refine g_iload S232.here hx (hb hby own_d498) rfl 90 rfl ?_
      refine g_i2b S232.here hx (hb hby own_d499) 91 rfl ?_
      have ej := own_clamp (j := d) (by omega)
      refine S232.stB hx D (d).toNatClampNeg ⟨own_nn (by omega), own_lt (by omega)⟩ rfl (by (try simp only [List.length_set]); omega) D_z safe_nil (hb hby own_d500) 92 rfl (fun T245 h245 S245 W245 D R245 => ?_)
      have B := B.other W245 nd
      have E := own_ext_wr E W245 D_g
      refine g_goto S245.here hx (hb hby own_d501) 352 (by decide) (by decide) ?_
      refine g_goto S245.here hx (hb hby own_d473) 58 (by decide) (by decide) ?_
      exact head1 _ _ _ _ _ _ _ (One.val rfl) (by first | exact hl | (simp only [List.length_set]; exact hl)) S245 B D E (by omega)
  refine g_iloadN S216.here hx (hb hby own_d502) rfl 19 rfl ?_
  refine g_iload S216.here hx (hb hby own_d503) rfl 21 rfl ?_
  refine g_icmpF S216.here hx (hb hby own_d504) 0 2 (by decide) (by decide) (by show ¬ (2 ≤ 0); decide) 24 rfl ?_
  refine g_aloadN S216.here hx (hb hby own_d505) rfl rfl 25 rfl ?_
  refine g_iloadN S216.here hx (hb hby own_d506) rfl 26 rfl ?_
  refine S216.callS hx (W := 0) (own_q144 hw) (own_q139 hw) (own_q29 hw) (own_q140 hw) (by decide) (ctGC20 l Z a0 hw t kt c1 _ h216 S216.old H k1 B rfl rfl) nosf (by decide) (by decide) (by rw [hml]; rfl) [(.ref t), (.int (0 : Int32))] [] (lenOf own_pd138 rfl) rfl rfl (Nat.le_refl _) (hb hby own_d507) (by decide) (by decide) 29 rfl (fun v246 vm246 T246 h246 S246 Q246 R246 => ?_)
  obtain ⟨rfl, rfl⟩ := Q246
  show Goes _ _ _ _ T246 (mkF m 29 #[.val (.ref t), .val (.int (1 : Int32)), .val (.int (0 : Int32)), .val (.int (0 : Int32)), .val (.int (2 : Int32)), .val (.ref D_b), .unset, .unset, .unset] [(.int c1)])
  refine g_istore S246.here hx (hb hby own_d508) #[.val (.ref t), .val (.int (1 : Int32)), .val (.int (0 : Int32)), .val (.int (0 : Int32)), .val (.int (2 : Int32)), .val (.ref D_b), .val (.int c1), .unset, .unset] rfl 31 rfl ?_
  refine g_iload S246.here hx (hb hby own_d509) rfl 33 rfl ?_
  refine g_sipush S246.here hx (hb hby own_d510) (128 : Int32) (by decide) 36 rfl ?_
  refine g_icmp S246.here hx (hb hby own_d511) c1.toInt 128 rfl (by decide) 42 39 (by decide) (by decide) rfl (fun (hc36 : c1.toInt < 128) => ?_) (fun (hc36 : ¬ (c1.toInt < 128)) => ?_)
  · refine g_aload S246.here hx (hb hby own_d512) rfl rfl 44 rfl ?_
    refine g_iloadN S246.here hx (hb hby own_d513) rfl 45 rfl ?_
    refine g_iinc S246.here hx (hb hby own_d514) rfl #[.val (.ref t), .val (.int (1 : Int32)), .val (.int (1 : Int32)), .val (.int (0 : Int32)), .val (.int (2 : Int32)), .val (.ref D_b), .val (.int c1), .unset, .unset] (by rw [show (0 : Int32) + Int32.ofInt 1 = (1 : Int32) from by decide]; rfl) 48 rfl ?_
    refine g_iload S246.here hx (hb hby own_d515) rfl 50 rfl ?_
    refine g_i2b S246.here hx (hb hby own_d516) 51 rfl ?_
    refine S246.stB hx D 0 ⟨by decide, by decide⟩ (by decide) (by simp) D_z safe_nil (hb hby own_d517) 52 rfl (fun T247 h247 S247 W247 D R247 => ?_)
    have B := B.other W247 nd
    have E := own_ext_wr E W247 D_g
    refine g_iinc S247.here hx (hb hby own_d518) rfl #[.val (.ref t), .val (.int (1 : Int32)), .val (.int (1 : Int32)), .val (.int (1 : Int32)), .val (.int (2 : Int32)), .val (.ref D_b), .val (.int c1), .unset, .unset] (by rw [show (0 : Int32) + Int32.ofInt 1 = (1 : Int32) from by decide]; rfl) 55 rfl ?_
    refine g_goto S247.here hx (hb hby own_d519) 18 (by decide) (by decide) ?_
    refine g_iloadN S247.here hx (hb hby own_d502) rfl 19 rfl ?_
    refine g_iload S247.here hx (hb hby own_d503) rfl 21 rfl ?_
    refine g_icmpF S247.here hx (hb hby own_d504) 1 2 (by decide) (by decide) (by show ¬ (2 ≤ 1); decide) 24 rfl ?_
    refine g_aloadN S247.here hx (hb hby own_d505) rfl rfl 25 rfl ?_
    refine g_iloadN S247.here hx (hb hby own_d506) rfl 26 rfl ?_
    refine S247.callS hx (W := 0) (own_q144 hw) (own_q139 hw) (own_q29 hw) (own_q140 hw) (by decide) (ctGC21 l Z a0 hw t kt c2 _ h247 S247.old H k2 B rfl rfl) nosf (by decide) (by decide) (by rw [hml]; rfl) [(.ref t), (.int (1 : Int32))] [] (lenOf own_pd138 rfl) rfl rfl (Nat.le_refl _) (hb hby own_d507) (by decide) (by decide) 29 rfl (fun v248 vm248 T248 h248 S248 Q248 R248 => ?_)
    obtain ⟨rfl, rfl⟩ := Q248
    show Goes _ _ _ _ T248 (mkF m 29 #[.val (.ref t), .val (.int (1 : Int32)), .val (.int (1 : Int32)), .val (.int (1 : Int32)), .val (.int (2 : Int32)), .val (.ref D_b), .val (.int c1), .unset, .unset] [(.int c2)])
    refine g_istore S248.here hx (hb hby own_d508) #[.val (.ref t), .val (.int (1 : Int32)), .val (.int (1 : Int32)), .val (.int (1 : Int32)), .val (.int (2 : Int32)), .val (.ref D_b), .val (.int c2), .unset, .unset] rfl 31 rfl ?_
    refine g_iload S248.here hx (hb hby own_d509) rfl 33 rfl ?_
    refine g_sipush S248.here hx (hb hby own_d510) (128 : Int32) (by decide) 36 rfl ?_
    refine g_icmp S248.here hx (hb hby own_d511) c2.toInt 128 rfl (by decide) 42 39 (by decide) (by decide) rfl (fun (hc36 : c2.toInt < 128) => ?_) (fun (hc36 : ¬ (c2.toInt < 128)) => ?_)
    · refine g_aload S248.here hx (hb hby own_d512) rfl rfl 44 rfl ?_
      refine g_iloadN S248.here hx (hb hby own_d513) rfl 45 rfl ?_
      refine g_iinc S248.here hx (hb hby own_d514) rfl #[.val (.ref t), .val (.int (1 : Int32)), .val (.int (2 : Int32)), .val (.int (1 : Int32)), .val (.int (2 : Int32)), .val (.ref D_b), .val (.int c2), .unset, .unset] (by rw [show (1 : Int32) + Int32.ofInt 1 = (2 : Int32) from by decide]; rfl) 48 rfl ?_
      refine g_iload S248.here hx (hb hby own_d515) rfl 50 rfl ?_
      refine g_i2b S248.here hx (hb hby own_d516) 51 rfl ?_
      refine S248.stB hx D 1 ⟨by decide, by decide⟩ (by decide) (by simp) D_z safe_nil (hb hby own_d517) 52 rfl (fun T249 h249 S249 W249 D R249 => ?_)
      have B := B.other W249 nd
      have E := own_ext_wr E W249 D_g
      refine g_iinc S249.here hx (hb hby own_d518) rfl #[.val (.ref t), .val (.int (1 : Int32)), .val (.int (2 : Int32)), .val (.int (2 : Int32)), .val (.int (2 : Int32)), .val (.ref D_b), .val (.int c2), .unset, .unset] (by rw [show (1 : Int32) + Int32.ofInt 1 = (2 : Int32) from by decide]; rfl) 55 rfl ?_
      refine g_goto S249.here hx (hb hby own_d519) 18 (by decide) (by decide) ?_
      refine g_iloadN S249.here hx (hb hby own_d502) rfl 19 rfl ?_
      refine g_iload S249.here hx (hb hby own_d503) rfl 21 rfl ?_
      refine g_icmpT S249.here hx (hb hby own_d504) 2 2 (by decide) (by decide) (by show 2 ≤ 2; decide) 58 (by decide) (by decide) ?_
      exact head2 _ _ _ _ _ _ _ (One.val rfl) (by first | rfl | (simp only [List.length_set]; rfl)) S249 B D E (by have u1 := own_u1 (c := c1) (by omega); have u2 := own_u1 (c := c2) (by omega); rw [u1, u2]; decide)
    · refine g_goto S248.here hx (hb hby own_d520) 58 (by decide) (by decide) ?_
      exact head1 _ _ _ _ _ _ _ (One.val rfl) (by first | rfl | (simp only [List.length_set]; rfl)) S248 B D E (by have u1 := own_u1 (c := c1) (by omega); rw [u1]; decide)
  · refine g_goto S246.here hx (hb hby own_d520) 58 (by decide) (by decide) ?_
    exact head0 _ _ _ _ _ _ _ (One.val rfl) (by first | rfl | (simp only [List.length_set]; rfl)) S246 B D E (by decide)
set_option maxRecDepth 65536 in
set_option maxHeartbeats 40000000 in
theorem ctE82 (l : Launch) (Z : State) (a0 : Array Value) (hw : ∀ d ∈ tables_1, d.before a0 Z = true) (t : Addr) (kt : ClassId) (c1 c2 : Int32) (h : Heap) (O : Old Z Z.heap.size h) (H : own_h16 Z) (k1 : 0 ≤ c1.toInt ∧ c1.toInt ≤ 32767) (k2 : 0 ≤ c2.toInt ∧ c2.toInt ≤ 32767) (B : Arv Z h t kt .byte (4 : Int32) [.int (StrChars.lo8 c1), .int (StrChars.hi8 c1), .int (StrChars.lo8 c2), .int (StrChars.hi8 c2)] (.int 0)) :
    Ct 0 l Z [] [] (⟨"java/lang/String", "encodeUTF8", "(B[BZ)[B"⟩ : MethodName) jdk_42_method_46_code 9 (some (.array .byte)) ({ frames := 3, cells := 2, slots := 18, locals := 80 } : Room) #[(.int (1 : Int32)), (.ref t), (.int (1 : Int32))] h (fun v h' => ∃ t : Addr, v = some (.ref t) ∧ Ext h h' ∧ own_enc Z h' t (own_us [c1, c2])) := by
  refine Ct.intro (plainFor_of_name own_pn173) O (fun _ => rfl) ⟨a0, EW.nil⟩ ?_
  intro p e s m below meth c T0 hx hby hml hret hnm hlk hsf S0
  refine Goes.cast (own_ef287 m (1 : Int32) t (1 : Int32)) ?_
  refine g_iloadN S0.here hx (hb hby own_d288) rfl 1 rfl ?_
  refine g_iconst S0.here hx (hb hby own_d289) (1 : Int32) (by decide) 2 rfl ?_
  refine g_icmpF S0.here hx (hb hby own_d290) 1 1 (by decide) (by decide) (by show ¬ (¬ 1 = 1); decide) 5 rfl ?_
  refine g_aloadN S0.here hx (hb hby own_d521) rfl rfl 6 rfl ?_
  refine g_iloadN S0.here hx (hb hby own_d522) rfl 7 rfl ?_
  refine S0.callS hx (W := 0) (own_q141 hw) (own_q142 hw) (own_q15 hw) (own_q143 hw) (by decide) (ctEU2 l Z a0 hw t kt c1 c2 h O H k1 k2 B) nosf (by decide) (by decide) (by rw [hml]; rfl) [(.ref t), (.int (1 : Int32))] [] (lenOf own_pd524 rfl) rfl rfl (Nat.le_refl _) (hb hby own_d523) (by decide) (by decide) 10 rfl (fun v250 vm250 T250 h250 S250 Q250 R250 => ?_)
  obtain ⟨r, rfl, E, C⟩ := Q250
  show Goes _ _ _ _ T250 (mkF m 10 #[.val (.int (1 : Int32)), .val (.ref t), .val (.int (1 : Int32)), .unset, .unset, .unset, .unset, .unset, .unset] [(.ref r)])
  exact S250.aret hx hlk hret rfl rfl rfl (hb hby own_d525) ⟨r, rfl, E, C⟩ (by decide) (by decide)
set_option maxRecDepth 65536 in
set_option maxHeartbeats 40000000 in
theorem ctEn20 (l : Launch) (Z : State) (a0 : Array Value) (hw : ∀ d ∈ tables_1, d.before a0 Z = true) (u8 t : Addr) (kt : ClassId) (c1 c2 : Int32) (h : Heap) (O : Old Z Z.heap.size h) (U : Sta Z Z.heap "sun/nio/cs/UTF_8" "INSTANCE" "Lsun/nio/cs/UTF_8;" (.ref u8)) (b1 : 0 ≤ c1.toInt ∧ c1.toInt ≤ 255) (b2 : 0 ≤ c2.toInt ∧ c2.toInt ≤ 255) (B : Arv Z h t kt .byte (2 : Int32) [.int c1.toInt8.toInt32, .int c2.toInt8.toInt32] (.int 0)) (X : Exa Z h t "[B") :
    Ct 0 l Z [] [] (⟨"java/lang/String", "encode", "(Ljava/nio/charset/Charset;B[B)[B"⟩ : MethodName) jdk_42_method_18_code 3 (some (.array .byte)) ({ frames := 4, cells := 2, slots := 18, locals := 100 } : Room) #[(.ref u8), (.int (0 : Int32)), (.ref t)] h (fun v h' => ∃ t : Addr, v = some (.ref t) ∧ Ext h h' ∧ own_enc Z h' t (own_us [c1, c2])) := by
  refine Ct.intro (plainFor_of_name own_pn173) O (fun _ => rfl) ⟨a0, EW.nil⟩ ?_
  intro p e s m below meth c T0 hx hby hml hret hnm hlk hsf S0
  refine Goes.cast (own_ef302 m u8 (0 : Int32) t) ?_
  refine g_aloadN S0.here hx (hb hby own_d303) rfl rfl 1 rfl ?_
  refine S0.getS hx (host := "") (Or.inl (own_q76 hw)) Via.refl (U.ext O.2) (hb hby own_d304) 4 rfl (fun T251 S251 => ?_)
  refine S251.acmp hx (hb hby own_d305) rfl rfl true (decide_eq_true rfl) (by decide) 7 (by decide) ?_
  refine g_iloadN S251.here hx (hb hby own_d306) rfl 8 rfl ?_
  refine g_aloadN S251.here hx (hb hby own_d307) rfl rfl 9 rfl ?_
  refine g_iconst S251.here hx (hb hby own_d308) (1 : Int32) (by decide) 10 rfl ?_
  refine S251.callS hx (W := 0) (own_q78 hw) (own_q79 hw) (own_q15 hw) (own_q80 hw) (by decide) (ctEL2 l Z a0 hw t kt c1 c2 h O b1 b2 B X) nosf (by decide) (by decide) (by rw [hml]; rfl) [(.int (0 : Int32)), (.ref t), (.int (1 : Int32))] [] (lenOf own_pd310 rfl) rfl rfl (Nat.le_refl _) (hb hby own_d309) (by decide) (by decide) 13 rfl (fun v252 vm252 T252 h252 S252 Q252 R252 => ?_)
  obtain ⟨r, rfl, E, C⟩ := Q252
  show Goes _ _ _ _ T252 (mkF m 13 #[.val (.ref u8), .val (.int (0 : Int32)), .val (.ref t)] [(.ref r)])
  exact S252.aret hx hlk hret rfl rfl rfl (hb hby own_d311) ⟨r, rfl, E, C⟩ (by decide) (by decide)
set_option maxRecDepth 65536 in
set_option maxHeartbeats 40000000 in
theorem ctGB20 (l : Launch) (Z : State) (a0 : Array Value) (hw : ∀ d ∈ tables_1, d.before a0 Z = true) (x u8 t : Addr) (kt : ClassId) (c1 c2 : Int32) (h : Heap) (O : Old Z Z.heap.size h) (G : own_cs Z) (fx : Exa Z h x "java/lang/String") (fv : Fld Z h x "java/lang/String" "value" "[B" (.ref t)) (fc : Fld Z h x "java/lang/String" "coder" "B" (.int 0)) (U : Sta Z Z.heap "sun/nio/cs/UTF_8" "INSTANCE" "Lsun/nio/cs/UTF_8;" (.ref u8)) (b1 : 0 ≤ c1.toInt ∧ c1.toInt ≤ 255) (b2 : 0 ≤ c2.toInt ∧ c2.toInt ≤ 255) (B : Arv Z h t kt .byte (2 : Int32) [.int c1.toInt8.toInt32, .int c2.toInt8.toInt32] (.int 0)) (X : Exa Z h t "[B") :
    Ct 0 l Z [] [] (⟨"java/lang/String", "getBytes", "(Ljava/nio/charset/Charset;)[B"⟩ : MethodName) jdk_42_method_64_code 2 (some (.array .byte)) ({ frames := 5, cells := 2, slots := 18, locals := 120 } : Room) #[(.ref x), (.ref u8)] h (fun v h' => ∃ t : Addr, v = some (.ref t) ∧ Ext h h' ∧ own_enc Z h' t (own_us [c1, c2])) := by
  refine Ct.intro (plainFor_of_name own_pn173) O (fun _ => rfl) ⟨a0, EW.nil⟩ ?_
  intro p e s m below meth c T0 hx hby hml hret hnm hlk hsf S0
  refine Goes.cast (own_ef174 m x u8) ?_
  refine g_aloadN S0.here hx (hb hby own_d312) rfl rfl 1 rfl ?_
  refine g_ifnonnullT S0.here hx (hb hby own_d313) 12 (by decide) (by decide) ?_
  refine g_aloadN S0.here hx (hb hby own_d314) rfl rfl 13 rfl ?_
  refine g_aloadN S0.here hx (hb hby own_d315) rfl rfl 14 rfl ?_
  refine S0.callV hx (W := 1) (C := "java/lang/String") (own_q68 hw) (own_q69 hw) (notFace_of_selects (args := #[]) (mvT S0.warm (own_q71 hw))) (own_q71 hw) (own_q70 hw) (by decide) fx (own_q72 hw) (own_q15 hw) (ctCo0 l Z a0 hw x h O G fc) nosf (by decide) (by decide) (by rw [hml]; rfl) [] [(.ref u8)] (lenOf own_pd317 rfl) rfl rfl (Nat.le_refl _) (hb hby own_d316) (by decide) (by decide) 17 rfl (fun v253 vm253 T253 h253 S253 Q253 R253 => ?_)
  obtain ⟨rfl, rfl⟩ := Q253
  show Goes _ _ _ _ T253 (mkF m 17 #[.val (.ref x), .val (.ref u8)] [(.int (0 : Int32)), (.ref u8)])
  refine g_aloadN S253.here hx (hb hby own_d318) rfl rfl 18 rfl ?_
  refine S253.getF hx (host := "") (Or.inl (own_q40 hw)) Via.refl fv (hb hby own_d319) 21 rfl (fun T254 S254 => ?_)
  refine S254.callS hx (W := 0) (own_q73 hw) (own_q74 hw) (own_q15 hw) (own_q75 hw) (by decide) (ctEn20 l Z a0 hw u8 t kt c1 c2 h O U b1 b2 B X) nosf (by decide) (by decide) (by rw [hml]; rfl) [(.ref u8), (.int (0 : Int32)), (.ref t)] [] (lenOf own_pd321 rfl) rfl rfl (Nat.le_refl _) (hb hby own_d320) (by decide) (by decide) 24 rfl (fun v255 vm255 T255 h255 S255 Q255 R255 => ?_)
  obtain ⟨r, rfl, E, C⟩ := Q255
  show Goes _ _ _ _ T255 (mkF m 24 #[.val (.ref x), .val (.ref u8)] [(.ref r)])
  exact S255.aret hx hlk hret rfl rfl rfl (hb hby own_d322) ⟨r, rfl, E, C⟩ (by decide) (by decide)
set_option maxRecDepth 65536 in
set_option maxHeartbeats 40000000 in
theorem ctEn21 (l : Launch) (Z : State) (a0 : Array Value) (hw : ∀ d ∈ tables_1, d.before a0 Z = true) (u8 t : Addr) (kt : ClassId) (c1 c2 : Int32) (h : Heap) (O : Old Z Z.heap.size h) (U : Sta Z Z.heap "sun/nio/cs/UTF_8" "INSTANCE" "Lsun/nio/cs/UTF_8;" (.ref u8)) (H : own_h16 Z) (k1 : 0 ≤ c1.toInt ∧ c1.toInt ≤ 32767) (k2 : 0 ≤ c2.toInt ∧ c2.toInt ≤ 32767) (B : Arv Z h t kt .byte (4 : Int32) [.int (StrChars.lo8 c1), .int (StrChars.hi8 c1), .int (StrChars.lo8 c2), .int (StrChars.hi8 c2)] (.int 0)) :
    Ct 0 l Z [] [] (⟨"java/lang/String", "encode", "(Ljava/nio/charset/Charset;B[B)[B"⟩ : MethodName) jdk_42_method_18_code 3 (some (.array .byte)) ({ frames := 4, cells := 2, slots := 18, locals := 100 } : Room) #[(.ref u8), (.int (1 : Int32)), (.ref t)] h (fun v h' => ∃ t : Addr, v = some (.ref t) ∧ Ext h h' ∧ own_enc Z h' t (own_us [c1, c2])) := by
  refine Ct.intro (plainFor_of_name own_pn173) O (fun _ => rfl) ⟨a0, EW.nil⟩ ?_
  intro p e s m below meth c T0 hx hby hml hret hnm hlk hsf S0
  refine Goes.cast (own_ef302 m u8 (1 : Int32) t) ?_
  refine g_aloadN S0.here hx (hb hby own_d303) rfl rfl 1 rfl ?_
  refine S0.getS hx (host := "") (Or.inl (own_q76 hw)) Via.refl (U.ext O.2) (hb hby own_d304) 4 rfl (fun T256 S256 => ?_)
  refine S256.acmp hx (hb hby own_d305) rfl rfl true (decide_eq_true rfl) (by decide) 7 (by decide) ?_
  refine g_iloadN S256.here hx (hb hby own_d306) rfl 8 rfl ?_
  refine g_aloadN S256.here hx (hb hby own_d307) rfl rfl 9 rfl ?_
  refine g_iconst S256.here hx (hb hby own_d308) (1 : Int32) (by decide) 10 rfl ?_
  refine S256.callS hx (W := 0) (own_q78 hw) (own_q79 hw) (own_q15 hw) (own_q80 hw) (by decide) (ctE82 l Z a0 hw t kt c1 c2 h O H k1 k2 B) nosf (by decide) (by decide) (by rw [hml]; rfl) [(.int (1 : Int32)), (.ref t), (.int (1 : Int32))] [] (lenOf own_pd310 rfl) rfl rfl (Nat.le_refl _) (hb hby own_d309) (by decide) (by decide) 13 rfl (fun v257 vm257 T257 h257 S257 Q257 R257 => ?_)
  obtain ⟨r, rfl, E, C⟩ := Q257
  show Goes _ _ _ _ T257 (mkF m 13 #[.val (.ref u8), .val (.int (1 : Int32)), .val (.ref t)] [(.ref r)])
  exact S257.aret hx hlk hret rfl rfl rfl (hb hby own_d311) ⟨r, rfl, E, C⟩ (by decide) (by decide)
set_option maxRecDepth 65536 in
set_option maxHeartbeats 40000000 in
theorem ctGB21 (l : Launch) (Z : State) (a0 : Array Value) (hw : ∀ d ∈ tables_1, d.before a0 Z = true) (x u8 t : Addr) (kt : ClassId) (c1 c2 : Int32) (h : Heap) (O : Old Z Z.heap.size h) (G : own_cs Z) (fx : Exa Z h x "java/lang/String") (fv : Fld Z h x "java/lang/String" "value" "[B" (.ref t)) (fc : Fld Z h x "java/lang/String" "coder" "B" (.int 1)) (U : Sta Z Z.heap "sun/nio/cs/UTF_8" "INSTANCE" "Lsun/nio/cs/UTF_8;" (.ref u8)) (H : own_h16 Z) (k1 : 0 ≤ c1.toInt ∧ c1.toInt ≤ 32767) (k2 : 0 ≤ c2.toInt ∧ c2.toInt ≤ 32767) (B : Arv Z h t kt .byte (4 : Int32) [.int (StrChars.lo8 c1), .int (StrChars.hi8 c1), .int (StrChars.lo8 c2), .int (StrChars.hi8 c2)] (.int 0)) :
    Ct 0 l Z [] [] (⟨"java/lang/String", "getBytes", "(Ljava/nio/charset/Charset;)[B"⟩ : MethodName) jdk_42_method_64_code 2 (some (.array .byte)) ({ frames := 5, cells := 2, slots := 18, locals := 120 } : Room) #[(.ref x), (.ref u8)] h (fun v h' => ∃ t : Addr, v = some (.ref t) ∧ Ext h h' ∧ own_enc Z h' t (own_us [c1, c2])) := by
  refine Ct.intro (plainFor_of_name own_pn173) O (fun _ => rfl) ⟨a0, EW.nil⟩ ?_
  intro p e s m below meth c T0 hx hby hml hret hnm hlk hsf S0
  refine Goes.cast (own_ef174 m x u8) ?_
  refine g_aloadN S0.here hx (hb hby own_d312) rfl rfl 1 rfl ?_
  refine g_ifnonnullT S0.here hx (hb hby own_d313) 12 (by decide) (by decide) ?_
  refine g_aloadN S0.here hx (hb hby own_d314) rfl rfl 13 rfl ?_
  refine g_aloadN S0.here hx (hb hby own_d315) rfl rfl 14 rfl ?_
  refine S0.callV hx (W := 1) (C := "java/lang/String") (own_q68 hw) (own_q69 hw) (notFace_of_selects (args := #[]) (mvT S0.warm (own_q71 hw))) (own_q71 hw) (own_q70 hw) (by decide) fx (own_q72 hw) (own_q15 hw) (ctCo1 l Z a0 hw x h O G fc) nosf (by decide) (by decide) (by rw [hml]; rfl) [] [(.ref u8)] (lenOf own_pd317 rfl) rfl rfl (Nat.le_refl _) (hb hby own_d316) (by decide) (by decide) 17 rfl (fun v258 vm258 T258 h258 S258 Q258 R258 => ?_)
  obtain ⟨rfl, rfl⟩ := Q258
  show Goes _ _ _ _ T258 (mkF m 17 #[.val (.ref x), .val (.ref u8)] [(.int (1 : Int32)), (.ref u8)])
  refine g_aloadN S258.here hx (hb hby own_d318) rfl rfl 18 rfl ?_
  refine S258.getF hx (host := "") (Or.inl (own_q40 hw)) Via.refl fv (hb hby own_d319) 21 rfl (fun T259 S259 => ?_)
  refine S259.callS hx (W := 0) (own_q73 hw) (own_q74 hw) (own_q15 hw) (own_q75 hw) (by decide) (ctEn21 l Z a0 hw u8 t kt c1 c2 h O U H k1 k2 B) nosf (by decide) (by decide) (by rw [hml]; rfl) [(.ref u8), (.int (1 : Int32)), (.ref t)] [] (lenOf own_pd321 rfl) rfl rfl (Nat.le_refl _) (hb hby own_d320) (by decide) (by decide) 24 rfl (fun v260 vm260 T260 h260 S260 Q260 R260 => ?_)
  obtain ⟨r, rfl, E, C⟩ := Q260
  show Goes _ _ _ _ T260 (mkF m 24 #[.val (.ref x), .val (.ref u8)] [(.ref r)])
  exact S260.aret hx hlk hret rfl rfl rfl (hb hby own_d322) ⟨r, rfl, E, C⟩ (by decide) (by decide)
set_option maxRecDepth 65536 in
set_option maxHeartbeats 40000000 in
theorem ctCP3 (l : Launch) (Z : State) (a0 : Array Value) (hw : ∀ d ∈ tables_1, d.before a0 Z = true) (t : Addr) (kt : ClassId) (c1 c2 c3 : Int32) (h : Heap) (O : Old Z Z.heap.size h) (b1 : 0 ≤ c1.toInt ∧ c1.toInt ≤ 255) (b2 : 0 ≤ c2.toInt ∧ c2.toInt ≤ 255) (b3 : 0 ≤ c3.toInt ∧ c3.toInt ≤ 255) (B : Arv Z h t kt .byte (3 : Int32) [.int c1.toInt8.toInt32, .int c2.toInt8.toInt32, .int c3.toInt8.toInt32] (.int 0)) :
    Ct 0 l Z [] [] (⟨"java/lang/StringCoding", "countPositives", "([BII)I"⟩ : MethodName) jdk_123_method_3_code 5 (some .int) ({ frames := 0, cells := 0, slots := 0, locals := 0 } : Room) #[(.ref t), (.int (0 : Int32)), (.int (3 : Int32))] h (fun v h' => ((v = some (.int (3 : Int32)) ∧ c1.toInt < 128 ∧ c2.toInt < 128 ∧ c3.toInt < 128 ∧ True) ∨ ∃ i : Int32, v = some (.int i) ∧ ¬ i.toInt = 3) ∧ h = h') := by
  refine Ct.intro (plainFor_of_name own_pn277) O (fun _ => rfl) ⟨a0, EW.nil⟩ ?_
  intro p e s m below meth c T0 hx hby hml hret hnm hlk hsf S0
  refine Goes.cast (own_ef90 m t (0 : Int32) (3 : Int32)) ?_
  refine g_iloadN S0.here hx (hb hby own_d266) rfl 1 rfl ?_
  refine g_iloadN S0.here hx (hb hby own_d267) rfl 2 rfl ?_
  refine g_iadd S0.here hx (hb hby own_d268) 3 rfl ?_
  rw [show ((0 : Int32) + (3 : Int32)) = (3 : Int32) from by decide]
  refine g_istoreN S0.here hx (hb hby own_d269) #[.val (.ref t), .val (.int (0 : Int32)), .val (.int (3 : Int32)), .val (.int (3 : Int32)), .unset] rfl 4 rfl ?_
  refine g_iloadN S0.here hx (hb hby own_d270) rfl 5 rfl ?_
  refine g_istore S0.here hx (hb hby own_d271) #[.val (.ref t), .val (.int (0 : Int32)), .val (.int (3 : Int32)), .val (.int (3 : Int32)), .val (.int (0 : Int32))] rfl 7 rfl ?_
  refine g_iload S0.here hx (hb hby own_d272) rfl 9 rfl ?_
  refine g_iloadN S0.here hx (hb hby own_d273) rfl 10 rfl ?_
  refine g_icmpF S0.here hx (hb hby own_d274) 0 3 (by decide) (by decide) (by show ¬ (3 ≤ 0); decide) 13 rfl ?_
  refine g_aloadN S0.here hx (hb hby own_d323) rfl rfl 14 rfl ?_
  refine g_iload S0.here hx (hb hby own_d324) rfl 16 rfl ?_
  refine S0.bald hx B ⟨by decide, by decide⟩ (own_at (i := 0) (by decide) rfl) (hb hby own_d325) 17 rfl ?_
  have i8_1 := own_i8 c1 b1
  refine g_if S0.here hx (hb hby own_d326) (c1.toInt8.toInt32).toInt rfl 25 20 (by decide) (by decide) rfl (fun (hc17 : 0 ≤ (c1.toInt8.toInt32).toInt) => ?_) (fun (hc17 : ¬ (0 ≤ (c1.toInt8.toInt32).toInt)) => ?_)
  · refine g_iinc S0.here hx (hb hby own_d327) rfl #[.val (.ref t), .val (.int (0 : Int32)), .val (.int (3 : Int32)), .val (.int (3 : Int32)), .val (.int (1 : Int32))] (by rw [show (0 : Int32) + Int32.ofInt 1 = (1 : Int32) from by decide]; rfl) 28 rfl ?_
    refine g_goto S0.here hx (hb hby own_d328) 7 (by decide) (by decide) ?_
    refine g_iload S0.here hx (hb hby own_d272) rfl 9 rfl ?_
    refine g_iloadN S0.here hx (hb hby own_d273) rfl 10 rfl ?_
    refine g_icmpF S0.here hx (hb hby own_d274) 1 3 (by decide) (by decide) (by show ¬ (3 ≤ 1); decide) 13 rfl ?_
    refine g_aloadN S0.here hx (hb hby own_d323) rfl rfl 14 rfl ?_
    refine g_iload S0.here hx (hb hby own_d324) rfl 16 rfl ?_
    refine S0.bald hx B ⟨by decide, by decide⟩ (own_at (i := 1) (by decide) rfl) (hb hby own_d325) 17 rfl ?_
    have i8_2 := own_i8 c2 b2
    refine g_if S0.here hx (hb hby own_d326) (c2.toInt8.toInt32).toInt rfl 25 20 (by decide) (by decide) rfl (fun (hc17 : 0 ≤ (c2.toInt8.toInt32).toInt) => ?_) (fun (hc17 : ¬ (0 ≤ (c2.toInt8.toInt32).toInt)) => ?_)
    · refine g_iinc S0.here hx (hb hby own_d327) rfl #[.val (.ref t), .val (.int (0 : Int32)), .val (.int (3 : Int32)), .val (.int (3 : Int32)), .val (.int (2 : Int32))] (by rw [show (1 : Int32) + Int32.ofInt 1 = (2 : Int32) from by decide]; rfl) 28 rfl ?_
      refine g_goto S0.here hx (hb hby own_d328) 7 (by decide) (by decide) ?_
      refine g_iload S0.here hx (hb hby own_d272) rfl 9 rfl ?_
      refine g_iloadN S0.here hx (hb hby own_d273) rfl 10 rfl ?_
      refine g_icmpF S0.here hx (hb hby own_d274) 2 3 (by decide) (by decide) (by show ¬ (3 ≤ 2); decide) 13 rfl ?_
      refine g_aloadN S0.here hx (hb hby own_d323) rfl rfl 14 rfl ?_
      refine g_iload S0.here hx (hb hby own_d324) rfl 16 rfl ?_
      refine S0.bald hx B ⟨by decide, by decide⟩ (own_at (i := 2) (by decide) rfl) (hb hby own_d325) 17 rfl ?_
      have i8_3 := own_i8 c3 b3
      refine g_if S0.here hx (hb hby own_d326) (c3.toInt8.toInt32).toInt rfl 25 20 (by decide) (by decide) rfl (fun (hc17 : 0 ≤ (c3.toInt8.toInt32).toInt) => ?_) (fun (hc17 : ¬ (0 ≤ (c3.toInt8.toInt32).toInt)) => ?_)
      · refine g_iinc S0.here hx (hb hby own_d327) rfl #[.val (.ref t), .val (.int (0 : Int32)), .val (.int (3 : Int32)), .val (.int (3 : Int32)), .val (.int (3 : Int32))] (by rw [show (2 : Int32) + Int32.ofInt 1 = (3 : Int32) from by decide]; rfl) 28 rfl ?_
        refine g_goto S0.here hx (hb hby own_d328) 7 (by decide) (by decide) ?_
        refine g_iload S0.here hx (hb hby own_d272) rfl 9 rfl ?_
        refine g_iloadN S0.here hx (hb hby own_d273) rfl 10 rfl ?_
        refine g_icmpT S0.here hx (hb hby own_d274) 3 3 (by decide) (by decide) (by show 3 ≤ 3; decide) 31 (by decide) (by decide) ?_
        refine g_iloadN S0.here hx (hb hby own_d275) rfl 32 rfl ?_
        exact S0.iret hx hlk hret (Or.inl rfl) rfl (hb hby own_d276) ⟨Or.inl ⟨rfl, by omega, by omega, by omega, trivial⟩, rfl⟩ (by decide) (by decide)
      · refine g_iload S0.here hx (hb hby own_d329) rfl 22 rfl ?_
        refine g_iloadN S0.here hx (hb hby own_d330) rfl 23 rfl ?_
        refine g_isub S0.here hx (hb hby own_d331) 24 rfl ?_
        rw [show ((2 : Int32) - (0 : Int32)) = (2 : Int32) from by decide]
        exact S0.iret hx hlk hret (Or.inl rfl) rfl (hb hby own_d332) ⟨Or.inr ⟨_, rfl, by decide⟩, rfl⟩ (by decide) (by decide)
    · refine g_iload S0.here hx (hb hby own_d329) rfl 22 rfl ?_
      refine g_iloadN S0.here hx (hb hby own_d330) rfl 23 rfl ?_
      refine g_isub S0.here hx (hb hby own_d331) 24 rfl ?_
      rw [show ((1 : Int32) - (0 : Int32)) = (1 : Int32) from by decide]
      exact S0.iret hx hlk hret (Or.inl rfl) rfl (hb hby own_d332) ⟨Or.inr ⟨_, rfl, by decide⟩, rfl⟩ (by decide) (by decide)
  · refine g_iload S0.here hx (hb hby own_d329) rfl 22 rfl ?_
    refine g_iloadN S0.here hx (hb hby own_d330) rfl 23 rfl ?_
    refine g_isub S0.here hx (hb hby own_d331) 24 rfl ?_
    rw [show ((0 : Int32) - (0 : Int32)) = (0 : Int32) from by decide]
    exact S0.iret hx hlk hret (Or.inl rfl) rfl (hb hby own_d332) ⟨Or.inr ⟨_, rfl, by decide⟩, rfl⟩ (by decide) (by decide)
set_option maxRecDepth 65536 in
set_option maxHeartbeats 40000000 in
theorem ctHN3 (l : Launch) (Z : State) (a0 : Array Value) (hw : ∀ d ∈ tables_1, d.before a0 Z = true) (t : Addr) (kt : ClassId) (c1 c2 c3 : Int32) (h : Heap) (O : Old Z Z.heap.size h) (b1 : 0 ≤ c1.toInt ∧ c1.toInt ≤ 255) (b2 : 0 ≤ c2.toInt ∧ c2.toInt ≤ 255) (b3 : 0 ≤ c3.toInt ∧ c3.toInt ≤ 255) (B : Arv Z h t kt .byte (3 : Int32) [.int c1.toInt8.toInt32, .int c2.toInt8.toInt32, .int c3.toInt8.toInt32] (.int 0)) :
    Ct 0 l Z [] [] (⟨"java/lang/StringCoding", "hasNegatives", "([BII)Z"⟩ : MethodName) jdk_123_method_2_code 3 (some .boolean) ({ frames := 1, cells := 0, slots := 0, locals := 16 } : Room) #[(.ref t), (.int (0 : Int32)), (.int (3 : Int32))] h (fun v h' => ((v = some (.int 0) ∧ c1.toInt < 128 ∧ c2.toInt < 128 ∧ c3.toInt < 128 ∧ True) ∨ v = some (.int 1)) ∧ h = h') := by
  refine Ct.intro (plainFor_of_name own_pn277) O (fun _ => rfl) ⟨a0, EW.nil⟩ ?_
  intro p e s m below meth c T0 hx hby hml hret hnm hlk hsf S0
  refine Goes.cast (own_ef42 m t (0 : Int32) (3 : Int32)) ?_
  refine g_aloadN S0.here hx (hb hby own_d278) rfl rfl 1 rfl ?_
  refine g_iloadN S0.here hx (hb hby own_d279) rfl 2 rfl ?_
  refine g_iloadN S0.here hx (hb hby own_d280) rfl 3 rfl ?_
  refine S0.callS hx (W := 0) (own_q85 hw) (own_q86 hw) (own_q83 hw) (own_q87 hw) (by decide) (ctCP3 l Z a0 hw t kt c1 c2 c3 h O b1 b2 b3 B) nosf (by decide) (by decide) (by rw [hml]; rfl) [(.ref t), (.int (0 : Int32)), (.int (3 : Int32))] [] (lenOf own_pd282 rfl) rfl rfl (Nat.le_refl _) (hb hby own_d281) (by decide) (by decide) 6 rfl (fun v261 vm261 T261 h261 S261 Q261 R261 => ?_)
  obtain ⟨Q261, rfl⟩ := Q261
  rcases Q261 with ⟨rfl, sm⟩ | ⟨i, rfl, hi⟩
  · show Goes _ _ _ _ T261 (mkF m 6 #[.val (.ref t), .val (.int (0 : Int32)), .val (.int (3 : Int32))] [(.int (3 : Int32))])
    refine g_iloadN S261.here hx (hb hby own_d283) rfl 7 rfl ?_
    refine g_icmpT S261.here hx (hb hby own_d284) 3 3 (by decide) (by decide) (by show 3 = 3; decide) 14 (by decide) (by decide) ?_
    refine g_iconst S261.here hx (hb hby own_d285) (0 : Int32) (by decide) 15 rfl ?_
    exact S261.iret hx hlk hret (Or.inr (Or.inl rfl)) rfl (hb hby own_d286) ⟨Or.inl ⟨rfl, sm⟩, rfl⟩ (by decide) (by decide)
  · show Goes _ _ _ _ T261 (mkF m 6 #[.val (.ref t), .val (.int (0 : Int32)), .val (.int (3 : Int32))] [(.int i)])
    refine g_iloadN S261.here hx (hb hby own_d283) rfl 7 rfl ?_
    refine g_icmpF S261.here hx (hb hby own_d284) i.toInt 3 rfl (by decide) (show ¬ (i.toInt = 3) from hi) 10 rfl ?_
    refine g_iconst S261.here hx (hb hby own_d333) (1 : Int32) (by decide) 11 rfl ?_
    refine g_goto S261.here hx (hb hby own_d334) 15 (by decide) (by decide) ?_
    exact S261.iret hx hlk hret (Or.inr (Or.inl rfl)) rfl (hb hby own_d286) ⟨Or.inr rfl, rfl⟩ (by decide) (by decide)
set_option maxRecDepth 65536 in
set_option maxHeartbeats 40000000 in
theorem ctEL3 (l : Launch) (Z : State) (a0 : Array Value) (hw : ∀ d ∈ tables_1, d.before a0 Z = true) (t : Addr) (kt : ClassId) (c1 c2 c3 : Int32) (h : Heap) (O : Old Z Z.heap.size h) (b1 : 0 ≤ c1.toInt ∧ c1.toInt ≤ 255) (b2 : 0 ≤ c2.toInt ∧ c2.toInt ≤ 255) (b3 : 0 ≤ c3.toInt ∧ c3.toInt ≤ 255) (B : Arv Z h t kt .byte (3 : Int32) [.int c1.toInt8.toInt32, .int c2.toInt8.toInt32, .int c3.toInt8.toInt32] (.int 0)) (X : Exa Z h t "[B") :
    Ct 0 l Z [] [] (⟨"java/lang/String", "encodeUTF8", "(B[BZ)[B"⟩ : MethodName) jdk_42_method_46_code 9 (some (.array .byte)) ({ frames := 3, cells := 2, slots := 18, locals := 80 } : Room) #[(.int (0 : Int32)), (.ref t), (.int (1 : Int32))] h (fun v h' => ∃ t : Addr, v = some (.ref t) ∧ Ext h h' ∧ own_enc Z h' t (own_us [c1, c2, c3])) := by
  refine Ct.intro (plainFor_of_name own_pn173) O (fun _ => rfl) ⟨a0, EW.nil⟩ ?_
  intro p e s m below meth c T0 hx hby hml hret hnm hlk hsf S0
  refine Goes.cast (own_ef287 m (0 : Int32) t (1 : Int32)) ?_
  refine g_iloadN S0.here hx (hb hby own_d288) rfl 1 rfl ?_
  refine g_iconst S0.here hx (hb hby own_d289) (1 : Int32) (by decide) 2 rfl ?_
  refine g_icmpT S0.here hx (hb hby own_d290) 0 1 (by decide) (by decide) (by show ¬ 0 = 1; decide) 11 (by decide) (by decide) ?_
  refine g_aloadN S0.here hx (hb hby own_d291) rfl rfl 12 rfl ?_
  refine g_iconst S0.here hx (hb hby own_d292) (0 : Int32) (by decide) 13 rfl ?_
  refine g_aloadN S0.here hx (hb hby own_d293) rfl rfl 14 rfl ?_
  refine S0.len hx B (hb hby own_d294) 15 rfl ?_
  refine S0.callS hx (W := 0) (own_q81 hw) (own_q82 hw) (own_q83 hw) (own_q84 hw) (by decide) (ctHN3 l Z a0 hw t kt c1 c2 c3 h O b1 b2 b3 B) nosf (by decide) (by decide) (by rw [hml]; rfl) [(.ref t), (.int (0 : Int32)), (.int (3 : Int32))] [] (lenOf own_pd296 rfl) rfl rfl (Nat.le_refl _) (hb hby own_d295) (by decide) (by decide) 18 rfl (fun v262 vm262 T262 h262 S262 Q262 R262 => ?_)
  obtain ⟨Q262, rfl⟩ := Q262
  rcases Q262 with ⟨rfl, sm⟩ | rfl
  · show Goes _ _ _ _ T262 (mkF m 18 #[.val (.int (0 : Int32)), .val (.ref t), .val (.int (1 : Int32)), .unset, .unset, .unset, .unset, .unset, .unset] [(.int (0 : Int32))])
    refine g_ifF S262.here hx (hb hby own_d297) 0 (by decide) (by show ¬ (¬ 0 = 0); decide) 21 rfl ?_
    refine g_aloadN S262.here hx (hb hby own_d298) rfl rfl 22 rfl ?_
    refine S262.clone hx (own_q88 hw) (own_q89 hw) (own_q93 hw) (own_q91 hw) (own_q92 hw) (own_q94 hw) B X (by rw [hml]; rfl) (W := 0) (cap := 3) (by decide) (by decide) (by decide) (by decide) (by decide) (by decide) (hb hby own_d299) 25 rfl (fun T263 h263 b S263 g263 E263 A263 B263 => ?_)
    refine S263.castY hx (own_q95 hw) (Ins.self B263) (hb hby own_d300) 28 rfl (fun T264 S264 => ?_)
    exact S264.aret hx hlk hret rfl rfl rfl (hb hby own_d301) ⟨b, rfl, E263, _, _, _, A263, by show _ = own_u c1 + (own_u c2 + (own_u c3 + (0))); obtain ⟨s1, s2, s3, -⟩ := sm; rw [own_u1 s1, own_u1 s2, own_u1 s3]; decide⟩ (by decide) (by decide)
  · show Goes _ _ _ _ T262 (mkF m 18 #[.val (.int (0 : Int32)), .val (.ref t), .val (.int (1 : Int32)), .unset, .unset, .unset, .unset, .unset, .unset] [(.int (1 : Int32))])
    refine g_ifT S262.here hx (hb hby own_d297) 1 (by decide) (by show ¬ 1 = 0; decide) 29 (by decide) (by decide) ?_
    refine g_iconst S262.here hx (hb hby own_d335) (0 : Int32) (by decide) 30 rfl ?_
    refine g_istoreN S262.here hx (hb hby own_d336) #[.val (.int (0 : Int32)), .val (.ref t), .val (.int (1 : Int32)), .val (.int (0 : Int32)), .unset, .unset, .unset, .unset, .unset] rfl 31 rfl ?_
    refine g_aloadN S262.here hx (hb hby own_d337) rfl rfl 32 rfl ?_
    refine S262.len hx B (hb hby own_d338) 33 rfl ?_
    refine S262.callS hx (W := 0) (own_q172 hw) (own_q126 hw) (own_q29 hw) (own_q127 hw) (by decide) (ctNF3 l Z a0 hw h O) nosf (by decide) (by decide) (by rw [hml]; rfl) [(.int (3 : Int32))] [] (lenOf own_pd93 rfl) rfl rfl (Nat.le_refl _) (hb hby own_d339) (by decide) (by decide) 36 rfl (fun v265 vm265 T265 h265 S265 Q265 R265 => ?_)
    obtain ⟨d, kd, rfl, gd, E, V⟩ := Q265
    show Goes _ _ _ _ T265 (mkF m 36 #[.val (.int (0 : Int32)), .val (.ref t), .val (.int (1 : Int32)), .val (.int (0 : Int32)), .unset, .unset, .unset, .unset, .unset] [(.ref d)])
    have nd : t ≠ d := fun q => by rw [q] at B; exact absurd B.lt (Nat.not_lt.mpr gd)
    have B := B.ext E
    have gz : Z.heap.size ≤ d := Nat.le_trans O.2.1 gd
    refine g_astore S265.here hx (hb hby own_d340) rfl #[.val (.int (0 : Int32)), .val (.ref t), .val (.int (1 : Int32)), .val (.int (0 : Int32)), .val (.ref d), .unset, .unset, .unset, .unset] rfl 38 rfl ?_
    refine g_aloadN S265.here hx (hb hby own_d341) rfl rfl 39 rfl ?_
    refine g_astore S265.here hx (hb hby own_d342) rfl #[.val (.int (0 : Int32)), .val (.ref t), .val (.int (1 : Int32)), .val (.int (0 : Int32)), .val (.ref d), .val (.ref t), .unset, .unset, .unset] rfl 41 rfl ?_
    refine g_aload S265.here hx (hb hby own_d343) rfl rfl 43 rfl ?_
    refine S265.len hx B (hb hby own_d344) 44 rfl ?_
    refine g_istore S265.here hx (hb hby own_d345) #[.val (.int (0 : Int32)), .val (.ref t), .val (.int (1 : Int32)), .val (.int (0 : Int32)), .val (.ref d), .val (.ref t), .val (.int (3 : Int32)), .unset, .unset] rfl 46 rfl ?_
    refine g_iconst S265.here hx (hb hby own_d346) (0 : Int32) (by decide) 47 rfl ?_
    refine g_istore S265.here hx (hb hby own_d347) #[.val (.int (0 : Int32)), .val (.ref t), .val (.int (1 : Int32)), .val (.int (0 : Int32)), .val (.ref d), .val (.ref t), .val (.int (3 : Int32)), .val (.int (0 : Int32)), .unset] rfl 49 rfl ?_
    refine g_iload S265.here hx (hb hby own_d348) rfl 51 rfl ?_
    refine g_iload S265.here hx (hb hby own_d349) rfl 53 rfl ?_
    refine g_icmpF S265.here hx (hb hby own_d350) 0 3 (by decide) (by decide) (by show ¬ (3 ≤ 0); decide) 56 rfl ?_
    refine g_aload S265.here hx (hb hby own_d351) rfl rfl 58 rfl ?_
    refine g_iload S265.here hx (hb hby own_d352) rfl 60 rfl ?_
    refine S265.bald hx B ⟨by decide, by decide⟩ (own_at (i := 0) (by decide) rfl) (hb hby own_d353) 61 rfl ?_
    have i8_1 := own_i8 c1 b1
    refine g_istore S265.here hx (hb hby own_d354) #[.val (.int (0 : Int32)), .val (.ref t), .val (.int (1 : Int32)), .val (.int (0 : Int32)), .val (.ref d), .val (.ref t), .val (.int (3 : Int32)), .val (.int (0 : Int32)), .val (.int (c1.toInt8.toInt32))] rfl 63 rfl ?_
    refine g_iload S265.here hx (hb hby own_d355) rfl 65 rfl ?_
    refine g_if S265.here hx (hb hby own_d356) (c1.toInt8.toInt32).toInt rfl 109 68 (by decide) (by decide) rfl (fun (hc65 : 0 ≤ (c1.toInt8.toInt32).toInt) => ?_) (fun (hc65 : ¬ (0 ≤ (c1.toInt8.toInt32).toInt)) => ?_)
    · have u1 := own_u1 (c := c1) (by omega)
      refine g_aload S265.here hx (hb hby own_d357) rfl rfl 111 rfl ?_
      refine g_iloadN S265.here hx (hb hby own_d358) rfl 112 rfl ?_
      refine g_iinc S265.here hx (hb hby own_d359) rfl #[.val (.int (0 : Int32)), .val (.ref t), .val (.int (1 : Int32)), .val (.int (1 : Int32)), .val (.ref d), .val (.ref t), .val (.int (3 : Int32)), .val (.int (0 : Int32)), .val (.int (c1.toInt8.toInt32))] (by rw [show (0 : Int32) + Int32.ofInt 1 = (1 : Int32) from by decide]; rfl) 115 rfl ?_
      refine g_iload S265.here hx (hb hby own_d360) rfl 117 rfl ?_
      refine S265.stB hx V 0 ⟨by decide, by decide⟩ (by decide) (by simp) gz safe_nil (hb hby own_d361) 118 rfl (fun T266 h266 S266 W266 V R266 => ?_)
      have B := B.other W266 nd
      have E := own_ext_wr E W266 gd
      refine g_iinc S266.here hx (hb hby own_d362) rfl #[.val (.int (0 : Int32)), .val (.ref t), .val (.int (1 : Int32)), .val (.int (1 : Int32)), .val (.ref d), .val (.ref t), .val (.int (3 : Int32)), .val (.int (1 : Int32)), .val (.int (c1.toInt8.toInt32))] (by rw [show (0 : Int32) + Int32.ofInt 1 = (1 : Int32) from by decide]; rfl) 121 rfl ?_
      refine g_goto S266.here hx (hb hby own_d363) 49 (by decide) (by decide) ?_
      refine g_iload S266.here hx (hb hby own_d348) rfl 51 rfl ?_
      refine g_iload S266.here hx (hb hby own_d349) rfl 53 rfl ?_
      refine g_icmpF S266.here hx (hb hby own_d350) 1 3 (by decide) (by decide) (by show ¬ (3 ≤ 1); decide) 56 rfl ?_
      refine g_aload S266.here hx (hb hby own_d351) rfl rfl 58 rfl ?_
      refine g_iload S266.here hx (hb hby own_d352) rfl 60 rfl ?_
      refine S266.bald hx B ⟨by decide, by decide⟩ (own_at (i := 1) (by decide) rfl) (hb hby own_d353) 61 rfl ?_
      have i8_2 := own_i8 c2 b2
      refine g_istore S266.here hx (hb hby own_d354) #[.val (.int (0 : Int32)), .val (.ref t), .val (.int (1 : Int32)), .val (.int (1 : Int32)), .val (.ref d), .val (.ref t), .val (.int (3 : Int32)), .val (.int (1 : Int32)), .val (.int (c2.toInt8.toInt32))] rfl 63 rfl ?_
      refine g_iload S266.here hx (hb hby own_d355) rfl 65 rfl ?_
      refine g_if S266.here hx (hb hby own_d356) (c2.toInt8.toInt32).toInt rfl 109 68 (by decide) (by decide) rfl (fun (hc65 : 0 ≤ (c2.toInt8.toInt32).toInt) => ?_) (fun (hc65 : ¬ (0 ≤ (c2.toInt8.toInt32).toInt)) => ?_)
      · have u2 := own_u1 (c := c2) (by omega)
        refine g_aload S266.here hx (hb hby own_d357) rfl rfl 111 rfl ?_
        refine g_iloadN S266.here hx (hb hby own_d358) rfl 112 rfl ?_
        refine g_iinc S266.here hx (hb hby own_d359) rfl #[.val (.int (0 : Int32)), .val (.ref t), .val (.int (1 : Int32)), .val (.int (2 : Int32)), .val (.ref d), .val (.ref t), .val (.int (3 : Int32)), .val (.int (1 : Int32)), .val (.int (c2.toInt8.toInt32))] (by rw [show (1 : Int32) + Int32.ofInt 1 = (2 : Int32) from by decide]; rfl) 115 rfl ?_
        refine g_iload S266.here hx (hb hby own_d360) rfl 117 rfl ?_
        refine S266.stB hx V 1 ⟨by decide, by decide⟩ (by decide) (by simp) gz safe_nil (hb hby own_d361) 118 rfl (fun T267 h267 S267 W267 V R267 => ?_)
        have B := B.other W267 nd
        have E := own_ext_wr E W267 gd
        refine g_iinc S267.here hx (hb hby own_d362) rfl #[.val (.int (0 : Int32)), .val (.ref t), .val (.int (1 : Int32)), .val (.int (2 : Int32)), .val (.ref d), .val (.ref t), .val (.int (3 : Int32)), .val (.int (2 : Int32)), .val (.int (c2.toInt8.toInt32))] (by rw [show (1 : Int32) + Int32.ofInt 1 = (2 : Int32) from by decide]; rfl) 121 rfl ?_
        refine g_goto S267.here hx (hb hby own_d363) 49 (by decide) (by decide) ?_
        refine g_iload S267.here hx (hb hby own_d348) rfl 51 rfl ?_
        refine g_iload S267.here hx (hb hby own_d349) rfl 53 rfl ?_
        refine g_icmpF S267.here hx (hb hby own_d350) 2 3 (by decide) (by decide) (by show ¬ (3 ≤ 2); decide) 56 rfl ?_
        refine g_aload S267.here hx (hb hby own_d351) rfl rfl 58 rfl ?_
        refine g_iload S267.here hx (hb hby own_d352) rfl 60 rfl ?_
        refine S267.bald hx B ⟨by decide, by decide⟩ (own_at (i := 2) (by decide) rfl) (hb hby own_d353) 61 rfl ?_
        have i8_3 := own_i8 c3 b3
        refine g_istore S267.here hx (hb hby own_d354) #[.val (.int (0 : Int32)), .val (.ref t), .val (.int (1 : Int32)), .val (.int (2 : Int32)), .val (.ref d), .val (.ref t), .val (.int (3 : Int32)), .val (.int (2 : Int32)), .val (.int (c3.toInt8.toInt32))] rfl 63 rfl ?_
        refine g_iload S267.here hx (hb hby own_d355) rfl 65 rfl ?_
        refine g_if S267.here hx (hb hby own_d356) (c3.toInt8.toInt32).toInt rfl 109 68 (by decide) (by decide) rfl (fun (hc65 : 0 ≤ (c3.toInt8.toInt32).toInt) => ?_) (fun (hc65 : ¬ (0 ≤ (c3.toInt8.toInt32).toInt)) => ?_)
        · have u3 := own_u1 (c := c3) (by omega)
          refine g_aload S267.here hx (hb hby own_d357) rfl rfl 111 rfl ?_
          refine g_iloadN S267.here hx (hb hby own_d358) rfl 112 rfl ?_
          refine g_iinc S267.here hx (hb hby own_d359) rfl #[.val (.int (0 : Int32)), .val (.ref t), .val (.int (1 : Int32)), .val (.int (3 : Int32)), .val (.ref d), .val (.ref t), .val (.int (3 : Int32)), .val (.int (2 : Int32)), .val (.int (c3.toInt8.toInt32))] (by rw [show (2 : Int32) + Int32.ofInt 1 = (3 : Int32) from by decide]; rfl) 115 rfl ?_
          refine g_iload S267.here hx (hb hby own_d360) rfl 117 rfl ?_
          refine S267.stB hx V 2 ⟨by decide, by decide⟩ (by decide) (by simp) gz safe_nil (hb hby own_d361) 118 rfl (fun T268 h268 S268 W268 V R268 => ?_)
          have B := B.other W268 nd
          have E := own_ext_wr E W268 gd
          refine g_iinc S268.here hx (hb hby own_d362) rfl #[.val (.int (0 : Int32)), .val (.ref t), .val (.int (1 : Int32)), .val (.int (3 : Int32)), .val (.ref d), .val (.ref t), .val (.int (3 : Int32)), .val (.int (3 : Int32)), .val (.int (c3.toInt8.toInt32))] (by rw [show (2 : Int32) + Int32.ofInt 1 = (3 : Int32) from by decide]; rfl) 121 rfl ?_
          refine g_goto S268.here hx (hb hby own_d363) 49 (by decide) (by decide) ?_
          refine g_iload S268.here hx (hb hby own_d348) rfl 51 rfl ?_
          refine g_iload S268.here hx (hb hby own_d349) rfl 53 rfl ?_
          refine g_icmpT S268.here hx (hb hby own_d350) 3 3 (by decide) (by decide) (by show 3 ≤ 3; decide) 124 (by decide) (by decide) ?_
          refine g_iloadN S268.here hx (hb hby own_d364) rfl 125 rfl ?_
          refine g_aload S268.here hx (hb hby own_d365) rfl rfl 127 rfl ?_
          refine S268.len hx V (hb hby own_d366) 128 rfl ?_
          refine g_icmpT S268.here hx (hb hby own_d367) 3 6 (by decide) (by decide) (by show ¬ 3 = 6; decide) 134 (by decide) (by decide) ?_
          refine g_aload S268.here hx (hb hby own_d368) rfl rfl 136 rfl ?_
          refine g_iloadN S268.here hx (hb hby own_d369) rfl 137 rfl ?_
          refine S268.callS hx (W := 0) (own_q158 hw) (own_q159 hw) (own_q160 hw) (own_q161 hw) (by decide) (ctCp l Z a0 hw d kd (6 : Int32) (3 : Int32) _ h268 S268.old V (by decide) (by decide)) nosf (by decide) (by decide) (by rw [hml]; rfl) [(.ref d), (.int (3 : Int32))] [] (lenOf own_pd371 rfl) rfl rfl (Nat.le_refl _) (hb hby own_d370) (by decide) (by decide) 140 rfl (fun v269 vm269 T269 h269 S269 Q269 R269 => ?_)
          obtain ⟨r, rfl, X2, C⟩ := Q269
          show Goes _ _ _ _ T269 (mkF m 140 #[.val (.int (0 : Int32)), .val (.ref t), .val (.int (1 : Int32)), .val (.int (3 : Int32)), .val (.ref d), .val (.ref t), .val (.int (3 : Int32)), .val (.int (3 : Int32)), .val (.int (c3.toInt8.toInt32))] [(.ref r)])
          have E := own_ext_trans E X2
          have C : own_enc Z h269 r (own_us [c1, c2, c3]) := by
            show own_enc Z _ r (own_u c1 + (own_u c2 + (own_u c3 + (0))))
            rw [u1, u2, u3]; exact C
          exact S269.aret hx hlk hret rfl rfl rfl (hb hby own_d372) ⟨r, rfl, E, C⟩ (by decide) (by decide)
        · have u3 := own_u2 (c := c3) (by omega) (by omega)
          refine g_aload S267.here hx (hb hby own_d373) rfl rfl 70 rfl ?_
          refine g_iloadN S267.here hx (hb hby own_d374) rfl 71 rfl ?_
          refine g_iinc S267.here hx (hb hby own_d375) rfl #[.val (.int (0 : Int32)), .val (.ref t), .val (.int (1 : Int32)), .val (.int (3 : Int32)), .val (.ref d), .val (.ref t), .val (.int (3 : Int32)), .val (.int (2 : Int32)), .val (.int (c3.toInt8.toInt32))] (by rw [show (2 : Int32) + Int32.ofInt 1 = (3 : Int32) from by decide]; rfl) 74 rfl ?_
          refine g_sipush S267.here hx (hb hby own_d376) (192 : Int32) (by decide) 77 rfl ?_
          refine g_iload S267.here hx (hb hby own_d377) rfl 79 rfl ?_
          refine g_sipush S267.here hx (hb hby own_d378) (255 : Int32) (by decide) 82 rfl ?_
          refine g_iand S267.here hx (hb hby own_d379) 83 rfl ?_
          refine g_bipush S267.here hx (hb hby own_d380) (6 : Int32) (by decide) 85 rfl ?_
          refine g_ishr S267.here hx (hb hby own_d381) 86 rfl ?_
          refine g_ior S267.here hx (hb hby own_d382) 87 rfl ?_
          refine g_i2b S267.here hx (hb hby own_d383) 88 rfl ?_
          refine S267.stB hx V 2 ⟨by decide, by decide⟩ (by decide) (by simp) gz safe_nil (hb hby own_d384) 89 rfl (fun T270 h270 S270 W270 V R270 => ?_)
          have B := B.other W270 nd
          have E := own_ext_wr E W270 gd
          refine g_aload S270.here hx (hb hby own_d385) rfl rfl 91 rfl ?_
          refine g_iloadN S270.here hx (hb hby own_d386) rfl 92 rfl ?_
          refine g_iinc S270.here hx (hb hby own_d387) rfl #[.val (.int (0 : Int32)), .val (.ref t), .val (.int (1 : Int32)), .val (.int (4 : Int32)), .val (.ref d), .val (.ref t), .val (.int (3 : Int32)), .val (.int (2 : Int32)), .val (.int (c3.toInt8.toInt32))] (by rw [show (3 : Int32) + Int32.ofInt 1 = (4 : Int32) from by decide]; rfl) 95 rfl ?_
          refine g_sipush S270.here hx (hb hby own_d388) (128 : Int32) (by decide) 98 rfl ?_
          refine g_iload S270.here hx (hb hby own_d389) rfl 100 rfl ?_
          refine g_bipush S270.here hx (hb hby own_d390) (63 : Int32) (by decide) 102 rfl ?_
          refine g_iand S270.here hx (hb hby own_d391) 103 rfl ?_
          refine g_ior S270.here hx (hb hby own_d392) 104 rfl ?_
          refine g_i2b S270.here hx (hb hby own_d393) 105 rfl ?_
          refine S270.stB hx V 3 ⟨by decide, by decide⟩ (by decide) (by simp) gz safe_nil (hb hby own_d394) 106 rfl (fun T271 h271 S271 W271 V R271 => ?_)
          have B := B.other W271 nd
          have E := own_ext_wr E W271 gd
          refine g_goto S271.here hx (hb hby own_d395) 118 (by decide) (by decide) ?_
          refine g_iinc S271.here hx (hb hby own_d362) rfl #[.val (.int (0 : Int32)), .val (.ref t), .val (.int (1 : Int32)), .val (.int (4 : Int32)), .val (.ref d), .val (.ref t), .val (.int (3 : Int32)), .val (.int (3 : Int32)), .val (.int (c3.toInt8.toInt32))] (by rw [show (2 : Int32) + Int32.ofInt 1 = (3 : Int32) from by decide]; rfl) 121 rfl ?_
          refine g_goto S271.here hx (hb hby own_d363) 49 (by decide) (by decide) ?_
          refine g_iload S271.here hx (hb hby own_d348) rfl 51 rfl ?_
          refine g_iload S271.here hx (hb hby own_d349) rfl 53 rfl ?_
          refine g_icmpT S271.here hx (hb hby own_d350) 3 3 (by decide) (by decide) (by show 3 ≤ 3; decide) 124 (by decide) (by decide) ?_
          refine g_iloadN S271.here hx (hb hby own_d364) rfl 125 rfl ?_
          refine g_aload S271.here hx (hb hby own_d365) rfl rfl 127 rfl ?_
          refine S271.len hx V (hb hby own_d366) 128 rfl ?_
          refine g_icmpT S271.here hx (hb hby own_d367) 4 6 (by decide) (by decide) (by show ¬ 4 = 6; decide) 134 (by decide) (by decide) ?_
          refine g_aload S271.here hx (hb hby own_d368) rfl rfl 136 rfl ?_
          refine g_iloadN S271.here hx (hb hby own_d369) rfl 137 rfl ?_
          refine S271.callS hx (W := 0) (own_q158 hw) (own_q159 hw) (own_q160 hw) (own_q161 hw) (by decide) (ctCp l Z a0 hw d kd (6 : Int32) (4 : Int32) _ h271 S271.old V (by decide) (by decide)) nosf (by decide) (by decide) (by rw [hml]; rfl) [(.ref d), (.int (4 : Int32))] [] (lenOf own_pd371 rfl) rfl rfl (Nat.le_refl _) (hb hby own_d370) (by decide) (by decide) 140 rfl (fun v272 vm272 T272 h272 S272 Q272 R272 => ?_)
          obtain ⟨r, rfl, X2, C⟩ := Q272
          show Goes _ _ _ _ T272 (mkF m 140 #[.val (.int (0 : Int32)), .val (.ref t), .val (.int (1 : Int32)), .val (.int (4 : Int32)), .val (.ref d), .val (.ref t), .val (.int (3 : Int32)), .val (.int (3 : Int32)), .val (.int (c3.toInt8.toInt32))] [(.ref r)])
          have E := own_ext_trans E X2
          have C : own_enc Z h272 r (own_us [c1, c2, c3]) := by
            show own_enc Z _ r (own_u c1 + (own_u c2 + (own_u c3 + (0))))
            rw [u1, u2, u3]; exact C
          exact S272.aret hx hlk hret rfl rfl rfl (hb hby own_d372) ⟨r, rfl, E, C⟩ (by decide) (by decide)
      · have u2 := own_u2 (c := c2) (by omega) (by omega)
        refine g_aload S266.here hx (hb hby own_d373) rfl rfl 70 rfl ?_
        refine g_iloadN S266.here hx (hb hby own_d374) rfl 71 rfl ?_
        refine g_iinc S266.here hx (hb hby own_d375) rfl #[.val (.int (0 : Int32)), .val (.ref t), .val (.int (1 : Int32)), .val (.int (2 : Int32)), .val (.ref d), .val (.ref t), .val (.int (3 : Int32)), .val (.int (1 : Int32)), .val (.int (c2.toInt8.toInt32))] (by rw [show (1 : Int32) + Int32.ofInt 1 = (2 : Int32) from by decide]; rfl) 74 rfl ?_
        refine g_sipush S266.here hx (hb hby own_d376) (192 : Int32) (by decide) 77 rfl ?_
        refine g_iload S266.here hx (hb hby own_d377) rfl 79 rfl ?_
        refine g_sipush S266.here hx (hb hby own_d378) (255 : Int32) (by decide) 82 rfl ?_
        refine g_iand S266.here hx (hb hby own_d379) 83 rfl ?_
        refine g_bipush S266.here hx (hb hby own_d380) (6 : Int32) (by decide) 85 rfl ?_
        refine g_ishr S266.here hx (hb hby own_d381) 86 rfl ?_
        refine g_ior S266.here hx (hb hby own_d382) 87 rfl ?_
        refine g_i2b S266.here hx (hb hby own_d383) 88 rfl ?_
        refine S266.stB hx V 1 ⟨by decide, by decide⟩ (by decide) (by simp) gz safe_nil (hb hby own_d384) 89 rfl (fun T273 h273 S273 W273 V R273 => ?_)
        have B := B.other W273 nd
        have E := own_ext_wr E W273 gd
        refine g_aload S273.here hx (hb hby own_d385) rfl rfl 91 rfl ?_
        refine g_iloadN S273.here hx (hb hby own_d386) rfl 92 rfl ?_
        refine g_iinc S273.here hx (hb hby own_d387) rfl #[.val (.int (0 : Int32)), .val (.ref t), .val (.int (1 : Int32)), .val (.int (3 : Int32)), .val (.ref d), .val (.ref t), .val (.int (3 : Int32)), .val (.int (1 : Int32)), .val (.int (c2.toInt8.toInt32))] (by rw [show (2 : Int32) + Int32.ofInt 1 = (3 : Int32) from by decide]; rfl) 95 rfl ?_
        refine g_sipush S273.here hx (hb hby own_d388) (128 : Int32) (by decide) 98 rfl ?_
        refine g_iload S273.here hx (hb hby own_d389) rfl 100 rfl ?_
        refine g_bipush S273.here hx (hb hby own_d390) (63 : Int32) (by decide) 102 rfl ?_
        refine g_iand S273.here hx (hb hby own_d391) 103 rfl ?_
        refine g_ior S273.here hx (hb hby own_d392) 104 rfl ?_
        refine g_i2b S273.here hx (hb hby own_d393) 105 rfl ?_
        refine S273.stB hx V 2 ⟨by decide, by decide⟩ (by decide) (by simp) gz safe_nil (hb hby own_d394) 106 rfl (fun T274 h274 S274 W274 V R274 => ?_)
        have B := B.other W274 nd
        have E := own_ext_wr E W274 gd
        refine g_goto S274.here hx (hb hby own_d395) 118 (by decide) (by decide) ?_
        refine g_iinc S274.here hx (hb hby own_d362) rfl #[.val (.int (0 : Int32)), .val (.ref t), .val (.int (1 : Int32)), .val (.int (3 : Int32)), .val (.ref d), .val (.ref t), .val (.int (3 : Int32)), .val (.int (2 : Int32)), .val (.int (c2.toInt8.toInt32))] (by rw [show (1 : Int32) + Int32.ofInt 1 = (2 : Int32) from by decide]; rfl) 121 rfl ?_
        refine g_goto S274.here hx (hb hby own_d363) 49 (by decide) (by decide) ?_
        refine g_iload S274.here hx (hb hby own_d348) rfl 51 rfl ?_
        refine g_iload S274.here hx (hb hby own_d349) rfl 53 rfl ?_
        refine g_icmpF S274.here hx (hb hby own_d350) 2 3 (by decide) (by decide) (by show ¬ (3 ≤ 2); decide) 56 rfl ?_
        refine g_aload S274.here hx (hb hby own_d351) rfl rfl 58 rfl ?_
        refine g_iload S274.here hx (hb hby own_d352) rfl 60 rfl ?_
        refine S274.bald hx B ⟨by decide, by decide⟩ (own_at (i := 2) (by decide) rfl) (hb hby own_d353) 61 rfl ?_
        have i8_3 := own_i8 c3 b3
        refine g_istore S274.here hx (hb hby own_d354) #[.val (.int (0 : Int32)), .val (.ref t), .val (.int (1 : Int32)), .val (.int (3 : Int32)), .val (.ref d), .val (.ref t), .val (.int (3 : Int32)), .val (.int (2 : Int32)), .val (.int (c3.toInt8.toInt32))] rfl 63 rfl ?_
        refine g_iload S274.here hx (hb hby own_d355) rfl 65 rfl ?_
        refine g_if S274.here hx (hb hby own_d356) (c3.toInt8.toInt32).toInt rfl 109 68 (by decide) (by decide) rfl (fun (hc65 : 0 ≤ (c3.toInt8.toInt32).toInt) => ?_) (fun (hc65 : ¬ (0 ≤ (c3.toInt8.toInt32).toInt)) => ?_)
        · have u3 := own_u1 (c := c3) (by omega)
          refine g_aload S274.here hx (hb hby own_d357) rfl rfl 111 rfl ?_
          refine g_iloadN S274.here hx (hb hby own_d358) rfl 112 rfl ?_
          refine g_iinc S274.here hx (hb hby own_d359) rfl #[.val (.int (0 : Int32)), .val (.ref t), .val (.int (1 : Int32)), .val (.int (4 : Int32)), .val (.ref d), .val (.ref t), .val (.int (3 : Int32)), .val (.int (2 : Int32)), .val (.int (c3.toInt8.toInt32))] (by rw [show (3 : Int32) + Int32.ofInt 1 = (4 : Int32) from by decide]; rfl) 115 rfl ?_
          refine g_iload S274.here hx (hb hby own_d360) rfl 117 rfl ?_
          refine S274.stB hx V 3 ⟨by decide, by decide⟩ (by decide) (by simp) gz safe_nil (hb hby own_d361) 118 rfl (fun T275 h275 S275 W275 V R275 => ?_)
          have B := B.other W275 nd
          have E := own_ext_wr E W275 gd
          refine g_iinc S275.here hx (hb hby own_d362) rfl #[.val (.int (0 : Int32)), .val (.ref t), .val (.int (1 : Int32)), .val (.int (4 : Int32)), .val (.ref d), .val (.ref t), .val (.int (3 : Int32)), .val (.int (3 : Int32)), .val (.int (c3.toInt8.toInt32))] (by rw [show (2 : Int32) + Int32.ofInt 1 = (3 : Int32) from by decide]; rfl) 121 rfl ?_
          refine g_goto S275.here hx (hb hby own_d363) 49 (by decide) (by decide) ?_
          refine g_iload S275.here hx (hb hby own_d348) rfl 51 rfl ?_
          refine g_iload S275.here hx (hb hby own_d349) rfl 53 rfl ?_
          refine g_icmpT S275.here hx (hb hby own_d350) 3 3 (by decide) (by decide) (by show 3 ≤ 3; decide) 124 (by decide) (by decide) ?_
          refine g_iloadN S275.here hx (hb hby own_d364) rfl 125 rfl ?_
          refine g_aload S275.here hx (hb hby own_d365) rfl rfl 127 rfl ?_
          refine S275.len hx V (hb hby own_d366) 128 rfl ?_
          refine g_icmpT S275.here hx (hb hby own_d367) 4 6 (by decide) (by decide) (by show ¬ 4 = 6; decide) 134 (by decide) (by decide) ?_
          refine g_aload S275.here hx (hb hby own_d368) rfl rfl 136 rfl ?_
          refine g_iloadN S275.here hx (hb hby own_d369) rfl 137 rfl ?_
          refine S275.callS hx (W := 0) (own_q158 hw) (own_q159 hw) (own_q160 hw) (own_q161 hw) (by decide) (ctCp l Z a0 hw d kd (6 : Int32) (4 : Int32) _ h275 S275.old V (by decide) (by decide)) nosf (by decide) (by decide) (by rw [hml]; rfl) [(.ref d), (.int (4 : Int32))] [] (lenOf own_pd371 rfl) rfl rfl (Nat.le_refl _) (hb hby own_d370) (by decide) (by decide) 140 rfl (fun v276 vm276 T276 h276 S276 Q276 R276 => ?_)
          obtain ⟨r, rfl, X2, C⟩ := Q276
          show Goes _ _ _ _ T276 (mkF m 140 #[.val (.int (0 : Int32)), .val (.ref t), .val (.int (1 : Int32)), .val (.int (4 : Int32)), .val (.ref d), .val (.ref t), .val (.int (3 : Int32)), .val (.int (3 : Int32)), .val (.int (c3.toInt8.toInt32))] [(.ref r)])
          have E := own_ext_trans E X2
          have C : own_enc Z h276 r (own_us [c1, c2, c3]) := by
            show own_enc Z _ r (own_u c1 + (own_u c2 + (own_u c3 + (0))))
            rw [u1, u2, u3]; exact C
          exact S276.aret hx hlk hret rfl rfl rfl (hb hby own_d372) ⟨r, rfl, E, C⟩ (by decide) (by decide)
        · have u3 := own_u2 (c := c3) (by omega) (by omega)
          refine g_aload S274.here hx (hb hby own_d373) rfl rfl 70 rfl ?_
          refine g_iloadN S274.here hx (hb hby own_d374) rfl 71 rfl ?_
          refine g_iinc S274.here hx (hb hby own_d375) rfl #[.val (.int (0 : Int32)), .val (.ref t), .val (.int (1 : Int32)), .val (.int (4 : Int32)), .val (.ref d), .val (.ref t), .val (.int (3 : Int32)), .val (.int (2 : Int32)), .val (.int (c3.toInt8.toInt32))] (by rw [show (3 : Int32) + Int32.ofInt 1 = (4 : Int32) from by decide]; rfl) 74 rfl ?_
          refine g_sipush S274.here hx (hb hby own_d376) (192 : Int32) (by decide) 77 rfl ?_
          refine g_iload S274.here hx (hb hby own_d377) rfl 79 rfl ?_
          refine g_sipush S274.here hx (hb hby own_d378) (255 : Int32) (by decide) 82 rfl ?_
          refine g_iand S274.here hx (hb hby own_d379) 83 rfl ?_
          refine g_bipush S274.here hx (hb hby own_d380) (6 : Int32) (by decide) 85 rfl ?_
          refine g_ishr S274.here hx (hb hby own_d381) 86 rfl ?_
          refine g_ior S274.here hx (hb hby own_d382) 87 rfl ?_
          refine g_i2b S274.here hx (hb hby own_d383) 88 rfl ?_
          refine S274.stB hx V 3 ⟨by decide, by decide⟩ (by decide) (by simp) gz safe_nil (hb hby own_d384) 89 rfl (fun T277 h277 S277 W277 V R277 => ?_)
          have B := B.other W277 nd
          have E := own_ext_wr E W277 gd
          refine g_aload S277.here hx (hb hby own_d385) rfl rfl 91 rfl ?_
          refine g_iloadN S277.here hx (hb hby own_d386) rfl 92 rfl ?_
          refine g_iinc S277.here hx (hb hby own_d387) rfl #[.val (.int (0 : Int32)), .val (.ref t), .val (.int (1 : Int32)), .val (.int (5 : Int32)), .val (.ref d), .val (.ref t), .val (.int (3 : Int32)), .val (.int (2 : Int32)), .val (.int (c3.toInt8.toInt32))] (by rw [show (4 : Int32) + Int32.ofInt 1 = (5 : Int32) from by decide]; rfl) 95 rfl ?_
          refine g_sipush S277.here hx (hb hby own_d388) (128 : Int32) (by decide) 98 rfl ?_
          refine g_iload S277.here hx (hb hby own_d389) rfl 100 rfl ?_
          refine g_bipush S277.here hx (hb hby own_d390) (63 : Int32) (by decide) 102 rfl ?_
          refine g_iand S277.here hx (hb hby own_d391) 103 rfl ?_
          refine g_ior S277.here hx (hb hby own_d392) 104 rfl ?_
          refine g_i2b S277.here hx (hb hby own_d393) 105 rfl ?_
          refine S277.stB hx V 4 ⟨by decide, by decide⟩ (by decide) (by simp) gz safe_nil (hb hby own_d394) 106 rfl (fun T278 h278 S278 W278 V R278 => ?_)
          have B := B.other W278 nd
          have E := own_ext_wr E W278 gd
          refine g_goto S278.here hx (hb hby own_d395) 118 (by decide) (by decide) ?_
          refine g_iinc S278.here hx (hb hby own_d362) rfl #[.val (.int (0 : Int32)), .val (.ref t), .val (.int (1 : Int32)), .val (.int (5 : Int32)), .val (.ref d), .val (.ref t), .val (.int (3 : Int32)), .val (.int (3 : Int32)), .val (.int (c3.toInt8.toInt32))] (by rw [show (2 : Int32) + Int32.ofInt 1 = (3 : Int32) from by decide]; rfl) 121 rfl ?_
          refine g_goto S278.here hx (hb hby own_d363) 49 (by decide) (by decide) ?_
          refine g_iload S278.here hx (hb hby own_d348) rfl 51 rfl ?_
          refine g_iload S278.here hx (hb hby own_d349) rfl 53 rfl ?_
          refine g_icmpT S278.here hx (hb hby own_d350) 3 3 (by decide) (by decide) (by show 3 ≤ 3; decide) 124 (by decide) (by decide) ?_
          refine g_iloadN S278.here hx (hb hby own_d364) rfl 125 rfl ?_
          refine g_aload S278.here hx (hb hby own_d365) rfl rfl 127 rfl ?_
          refine S278.len hx V (hb hby own_d366) 128 rfl ?_
          refine g_icmpT S278.here hx (hb hby own_d367) 5 6 (by decide) (by decide) (by show ¬ 5 = 6; decide) 134 (by decide) (by decide) ?_
          refine g_aload S278.here hx (hb hby own_d368) rfl rfl 136 rfl ?_
          refine g_iloadN S278.here hx (hb hby own_d369) rfl 137 rfl ?_
          refine S278.callS hx (W := 0) (own_q158 hw) (own_q159 hw) (own_q160 hw) (own_q161 hw) (by decide) (ctCp l Z a0 hw d kd (6 : Int32) (5 : Int32) _ h278 S278.old V (by decide) (by decide)) nosf (by decide) (by decide) (by rw [hml]; rfl) [(.ref d), (.int (5 : Int32))] [] (lenOf own_pd371 rfl) rfl rfl (Nat.le_refl _) (hb hby own_d370) (by decide) (by decide) 140 rfl (fun v279 vm279 T279 h279 S279 Q279 R279 => ?_)
          obtain ⟨r, rfl, X2, C⟩ := Q279
          show Goes _ _ _ _ T279 (mkF m 140 #[.val (.int (0 : Int32)), .val (.ref t), .val (.int (1 : Int32)), .val (.int (5 : Int32)), .val (.ref d), .val (.ref t), .val (.int (3 : Int32)), .val (.int (3 : Int32)), .val (.int (c3.toInt8.toInt32))] [(.ref r)])
          have E := own_ext_trans E X2
          have C : own_enc Z h279 r (own_us [c1, c2, c3]) := by
            show own_enc Z _ r (own_u c1 + (own_u c2 + (own_u c3 + (0))))
            rw [u1, u2, u3]; exact C
          exact S279.aret hx hlk hret rfl rfl rfl (hb hby own_d372) ⟨r, rfl, E, C⟩ (by decide) (by decide)
    · have u1 := own_u2 (c := c1) (by omega) (by omega)
      refine g_aload S265.here hx (hb hby own_d373) rfl rfl 70 rfl ?_
      refine g_iloadN S265.here hx (hb hby own_d374) rfl 71 rfl ?_
      refine g_iinc S265.here hx (hb hby own_d375) rfl #[.val (.int (0 : Int32)), .val (.ref t), .val (.int (1 : Int32)), .val (.int (1 : Int32)), .val (.ref d), .val (.ref t), .val (.int (3 : Int32)), .val (.int (0 : Int32)), .val (.int (c1.toInt8.toInt32))] (by rw [show (0 : Int32) + Int32.ofInt 1 = (1 : Int32) from by decide]; rfl) 74 rfl ?_
      refine g_sipush S265.here hx (hb hby own_d376) (192 : Int32) (by decide) 77 rfl ?_
      refine g_iload S265.here hx (hb hby own_d377) rfl 79 rfl ?_
      refine g_sipush S265.here hx (hb hby own_d378) (255 : Int32) (by decide) 82 rfl ?_
      refine g_iand S265.here hx (hb hby own_d379) 83 rfl ?_
      refine g_bipush S265.here hx (hb hby own_d380) (6 : Int32) (by decide) 85 rfl ?_
      refine g_ishr S265.here hx (hb hby own_d381) 86 rfl ?_
      refine g_ior S265.here hx (hb hby own_d382) 87 rfl ?_
      refine g_i2b S265.here hx (hb hby own_d383) 88 rfl ?_
      refine S265.stB hx V 0 ⟨by decide, by decide⟩ (by decide) (by simp) gz safe_nil (hb hby own_d384) 89 rfl (fun T280 h280 S280 W280 V R280 => ?_)
      have B := B.other W280 nd
      have E := own_ext_wr E W280 gd
      refine g_aload S280.here hx (hb hby own_d385) rfl rfl 91 rfl ?_
      refine g_iloadN S280.here hx (hb hby own_d386) rfl 92 rfl ?_
      refine g_iinc S280.here hx (hb hby own_d387) rfl #[.val (.int (0 : Int32)), .val (.ref t), .val (.int (1 : Int32)), .val (.int (2 : Int32)), .val (.ref d), .val (.ref t), .val (.int (3 : Int32)), .val (.int (0 : Int32)), .val (.int (c1.toInt8.toInt32))] (by rw [show (1 : Int32) + Int32.ofInt 1 = (2 : Int32) from by decide]; rfl) 95 rfl ?_
      refine g_sipush S280.here hx (hb hby own_d388) (128 : Int32) (by decide) 98 rfl ?_
      refine g_iload S280.here hx (hb hby own_d389) rfl 100 rfl ?_
      refine g_bipush S280.here hx (hb hby own_d390) (63 : Int32) (by decide) 102 rfl ?_
      refine g_iand S280.here hx (hb hby own_d391) 103 rfl ?_
      refine g_ior S280.here hx (hb hby own_d392) 104 rfl ?_
      refine g_i2b S280.here hx (hb hby own_d393) 105 rfl ?_
      refine S280.stB hx V 1 ⟨by decide, by decide⟩ (by decide) (by simp) gz safe_nil (hb hby own_d394) 106 rfl (fun T281 h281 S281 W281 V R281 => ?_)
      have B := B.other W281 nd
      have E := own_ext_wr E W281 gd
      refine g_goto S281.here hx (hb hby own_d395) 118 (by decide) (by decide) ?_
      refine g_iinc S281.here hx (hb hby own_d362) rfl #[.val (.int (0 : Int32)), .val (.ref t), .val (.int (1 : Int32)), .val (.int (2 : Int32)), .val (.ref d), .val (.ref t), .val (.int (3 : Int32)), .val (.int (1 : Int32)), .val (.int (c1.toInt8.toInt32))] (by rw [show (0 : Int32) + Int32.ofInt 1 = (1 : Int32) from by decide]; rfl) 121 rfl ?_
      refine g_goto S281.here hx (hb hby own_d363) 49 (by decide) (by decide) ?_
      refine g_iload S281.here hx (hb hby own_d348) rfl 51 rfl ?_
      refine g_iload S281.here hx (hb hby own_d349) rfl 53 rfl ?_
      refine g_icmpF S281.here hx (hb hby own_d350) 1 3 (by decide) (by decide) (by show ¬ (3 ≤ 1); decide) 56 rfl ?_
      refine g_aload S281.here hx (hb hby own_d351) rfl rfl 58 rfl ?_
      refine g_iload S281.here hx (hb hby own_d352) rfl 60 rfl ?_
      refine S281.bald hx B ⟨by decide, by decide⟩ (own_at (i := 1) (by decide) rfl) (hb hby own_d353) 61 rfl ?_
      have i8_2 := own_i8 c2 b2
      refine g_istore S281.here hx (hb hby own_d354) #[.val (.int (0 : Int32)), .val (.ref t), .val (.int (1 : Int32)), .val (.int (2 : Int32)), .val (.ref d), .val (.ref t), .val (.int (3 : Int32)), .val (.int (1 : Int32)), .val (.int (c2.toInt8.toInt32))] rfl 63 rfl ?_
      refine g_iload S281.here hx (hb hby own_d355) rfl 65 rfl ?_
      refine g_if S281.here hx (hb hby own_d356) (c2.toInt8.toInt32).toInt rfl 109 68 (by decide) (by decide) rfl (fun (hc65 : 0 ≤ (c2.toInt8.toInt32).toInt) => ?_) (fun (hc65 : ¬ (0 ≤ (c2.toInt8.toInt32).toInt)) => ?_)
      · have u2 := own_u1 (c := c2) (by omega)
        refine g_aload S281.here hx (hb hby own_d357) rfl rfl 111 rfl ?_
        refine g_iloadN S281.here hx (hb hby own_d358) rfl 112 rfl ?_
        refine g_iinc S281.here hx (hb hby own_d359) rfl #[.val (.int (0 : Int32)), .val (.ref t), .val (.int (1 : Int32)), .val (.int (3 : Int32)), .val (.ref d), .val (.ref t), .val (.int (3 : Int32)), .val (.int (1 : Int32)), .val (.int (c2.toInt8.toInt32))] (by rw [show (2 : Int32) + Int32.ofInt 1 = (3 : Int32) from by decide]; rfl) 115 rfl ?_
        refine g_iload S281.here hx (hb hby own_d360) rfl 117 rfl ?_
        refine S281.stB hx V 2 ⟨by decide, by decide⟩ (by decide) (by simp) gz safe_nil (hb hby own_d361) 118 rfl (fun T282 h282 S282 W282 V R282 => ?_)
        have B := B.other W282 nd
        have E := own_ext_wr E W282 gd
        refine g_iinc S282.here hx (hb hby own_d362) rfl #[.val (.int (0 : Int32)), .val (.ref t), .val (.int (1 : Int32)), .val (.int (3 : Int32)), .val (.ref d), .val (.ref t), .val (.int (3 : Int32)), .val (.int (2 : Int32)), .val (.int (c2.toInt8.toInt32))] (by rw [show (1 : Int32) + Int32.ofInt 1 = (2 : Int32) from by decide]; rfl) 121 rfl ?_
        refine g_goto S282.here hx (hb hby own_d363) 49 (by decide) (by decide) ?_
        refine g_iload S282.here hx (hb hby own_d348) rfl 51 rfl ?_
        refine g_iload S282.here hx (hb hby own_d349) rfl 53 rfl ?_
        refine g_icmpF S282.here hx (hb hby own_d350) 2 3 (by decide) (by decide) (by show ¬ (3 ≤ 2); decide) 56 rfl ?_
        refine g_aload S282.here hx (hb hby own_d351) rfl rfl 58 rfl ?_
        refine g_iload S282.here hx (hb hby own_d352) rfl 60 rfl ?_
        refine S282.bald hx B ⟨by decide, by decide⟩ (own_at (i := 2) (by decide) rfl) (hb hby own_d353) 61 rfl ?_
        have i8_3 := own_i8 c3 b3
        refine g_istore S282.here hx (hb hby own_d354) #[.val (.int (0 : Int32)), .val (.ref t), .val (.int (1 : Int32)), .val (.int (3 : Int32)), .val (.ref d), .val (.ref t), .val (.int (3 : Int32)), .val (.int (2 : Int32)), .val (.int (c3.toInt8.toInt32))] rfl 63 rfl ?_
        refine g_iload S282.here hx (hb hby own_d355) rfl 65 rfl ?_
        refine g_if S282.here hx (hb hby own_d356) (c3.toInt8.toInt32).toInt rfl 109 68 (by decide) (by decide) rfl (fun (hc65 : 0 ≤ (c3.toInt8.toInt32).toInt) => ?_) (fun (hc65 : ¬ (0 ≤ (c3.toInt8.toInt32).toInt)) => ?_)
        · have u3 := own_u1 (c := c3) (by omega)
          refine g_aload S282.here hx (hb hby own_d357) rfl rfl 111 rfl ?_
          refine g_iloadN S282.here hx (hb hby own_d358) rfl 112 rfl ?_
          refine g_iinc S282.here hx (hb hby own_d359) rfl #[.val (.int (0 : Int32)), .val (.ref t), .val (.int (1 : Int32)), .val (.int (4 : Int32)), .val (.ref d), .val (.ref t), .val (.int (3 : Int32)), .val (.int (2 : Int32)), .val (.int (c3.toInt8.toInt32))] (by rw [show (3 : Int32) + Int32.ofInt 1 = (4 : Int32) from by decide]; rfl) 115 rfl ?_
          refine g_iload S282.here hx (hb hby own_d360) rfl 117 rfl ?_
          refine S282.stB hx V 3 ⟨by decide, by decide⟩ (by decide) (by simp) gz safe_nil (hb hby own_d361) 118 rfl (fun T283 h283 S283 W283 V R283 => ?_)
          have B := B.other W283 nd
          have E := own_ext_wr E W283 gd
          refine g_iinc S283.here hx (hb hby own_d362) rfl #[.val (.int (0 : Int32)), .val (.ref t), .val (.int (1 : Int32)), .val (.int (4 : Int32)), .val (.ref d), .val (.ref t), .val (.int (3 : Int32)), .val (.int (3 : Int32)), .val (.int (c3.toInt8.toInt32))] (by rw [show (2 : Int32) + Int32.ofInt 1 = (3 : Int32) from by decide]; rfl) 121 rfl ?_
          refine g_goto S283.here hx (hb hby own_d363) 49 (by decide) (by decide) ?_
          refine g_iload S283.here hx (hb hby own_d348) rfl 51 rfl ?_
          refine g_iload S283.here hx (hb hby own_d349) rfl 53 rfl ?_
          refine g_icmpT S283.here hx (hb hby own_d350) 3 3 (by decide) (by decide) (by show 3 ≤ 3; decide) 124 (by decide) (by decide) ?_
          refine g_iloadN S283.here hx (hb hby own_d364) rfl 125 rfl ?_
          refine g_aload S283.here hx (hb hby own_d365) rfl rfl 127 rfl ?_
          refine S283.len hx V (hb hby own_d366) 128 rfl ?_
          refine g_icmpT S283.here hx (hb hby own_d367) 4 6 (by decide) (by decide) (by show ¬ 4 = 6; decide) 134 (by decide) (by decide) ?_
          refine g_aload S283.here hx (hb hby own_d368) rfl rfl 136 rfl ?_
          refine g_iloadN S283.here hx (hb hby own_d369) rfl 137 rfl ?_
          refine S283.callS hx (W := 0) (own_q158 hw) (own_q159 hw) (own_q160 hw) (own_q161 hw) (by decide) (ctCp l Z a0 hw d kd (6 : Int32) (4 : Int32) _ h283 S283.old V (by decide) (by decide)) nosf (by decide) (by decide) (by rw [hml]; rfl) [(.ref d), (.int (4 : Int32))] [] (lenOf own_pd371 rfl) rfl rfl (Nat.le_refl _) (hb hby own_d370) (by decide) (by decide) 140 rfl (fun v284 vm284 T284 h284 S284 Q284 R284 => ?_)
          obtain ⟨r, rfl, X2, C⟩ := Q284
          show Goes _ _ _ _ T284 (mkF m 140 #[.val (.int (0 : Int32)), .val (.ref t), .val (.int (1 : Int32)), .val (.int (4 : Int32)), .val (.ref d), .val (.ref t), .val (.int (3 : Int32)), .val (.int (3 : Int32)), .val (.int (c3.toInt8.toInt32))] [(.ref r)])
          have E := own_ext_trans E X2
          have C : own_enc Z h284 r (own_us [c1, c2, c3]) := by
            show own_enc Z _ r (own_u c1 + (own_u c2 + (own_u c3 + (0))))
            rw [u1, u2, u3]; exact C
          exact S284.aret hx hlk hret rfl rfl rfl (hb hby own_d372) ⟨r, rfl, E, C⟩ (by decide) (by decide)
        · have u3 := own_u2 (c := c3) (by omega) (by omega)
          refine g_aload S282.here hx (hb hby own_d373) rfl rfl 70 rfl ?_
          refine g_iloadN S282.here hx (hb hby own_d374) rfl 71 rfl ?_
          refine g_iinc S282.here hx (hb hby own_d375) rfl #[.val (.int (0 : Int32)), .val (.ref t), .val (.int (1 : Int32)), .val (.int (4 : Int32)), .val (.ref d), .val (.ref t), .val (.int (3 : Int32)), .val (.int (2 : Int32)), .val (.int (c3.toInt8.toInt32))] (by rw [show (3 : Int32) + Int32.ofInt 1 = (4 : Int32) from by decide]; rfl) 74 rfl ?_
          refine g_sipush S282.here hx (hb hby own_d376) (192 : Int32) (by decide) 77 rfl ?_
          refine g_iload S282.here hx (hb hby own_d377) rfl 79 rfl ?_
          refine g_sipush S282.here hx (hb hby own_d378) (255 : Int32) (by decide) 82 rfl ?_
          refine g_iand S282.here hx (hb hby own_d379) 83 rfl ?_
          refine g_bipush S282.here hx (hb hby own_d380) (6 : Int32) (by decide) 85 rfl ?_
          refine g_ishr S282.here hx (hb hby own_d381) 86 rfl ?_
          refine g_ior S282.here hx (hb hby own_d382) 87 rfl ?_
          refine g_i2b S282.here hx (hb hby own_d383) 88 rfl ?_
          refine S282.stB hx V 3 ⟨by decide, by decide⟩ (by decide) (by simp) gz safe_nil (hb hby own_d384) 89 rfl (fun T285 h285 S285 W285 V R285 => ?_)
          have B := B.other W285 nd
          have E := own_ext_wr E W285 gd
          refine g_aload S285.here hx (hb hby own_d385) rfl rfl 91 rfl ?_
          refine g_iloadN S285.here hx (hb hby own_d386) rfl 92 rfl ?_
          refine g_iinc S285.here hx (hb hby own_d387) rfl #[.val (.int (0 : Int32)), .val (.ref t), .val (.int (1 : Int32)), .val (.int (5 : Int32)), .val (.ref d), .val (.ref t), .val (.int (3 : Int32)), .val (.int (2 : Int32)), .val (.int (c3.toInt8.toInt32))] (by rw [show (4 : Int32) + Int32.ofInt 1 = (5 : Int32) from by decide]; rfl) 95 rfl ?_
          refine g_sipush S285.here hx (hb hby own_d388) (128 : Int32) (by decide) 98 rfl ?_
          refine g_iload S285.here hx (hb hby own_d389) rfl 100 rfl ?_
          refine g_bipush S285.here hx (hb hby own_d390) (63 : Int32) (by decide) 102 rfl ?_
          refine g_iand S285.here hx (hb hby own_d391) 103 rfl ?_
          refine g_ior S285.here hx (hb hby own_d392) 104 rfl ?_
          refine g_i2b S285.here hx (hb hby own_d393) 105 rfl ?_
          refine S285.stB hx V 4 ⟨by decide, by decide⟩ (by decide) (by simp) gz safe_nil (hb hby own_d394) 106 rfl (fun T286 h286 S286 W286 V R286 => ?_)
          have B := B.other W286 nd
          have E := own_ext_wr E W286 gd
          refine g_goto S286.here hx (hb hby own_d395) 118 (by decide) (by decide) ?_
          refine g_iinc S286.here hx (hb hby own_d362) rfl #[.val (.int (0 : Int32)), .val (.ref t), .val (.int (1 : Int32)), .val (.int (5 : Int32)), .val (.ref d), .val (.ref t), .val (.int (3 : Int32)), .val (.int (3 : Int32)), .val (.int (c3.toInt8.toInt32))] (by rw [show (2 : Int32) + Int32.ofInt 1 = (3 : Int32) from by decide]; rfl) 121 rfl ?_
          refine g_goto S286.here hx (hb hby own_d363) 49 (by decide) (by decide) ?_
          refine g_iload S286.here hx (hb hby own_d348) rfl 51 rfl ?_
          refine g_iload S286.here hx (hb hby own_d349) rfl 53 rfl ?_
          refine g_icmpT S286.here hx (hb hby own_d350) 3 3 (by decide) (by decide) (by show 3 ≤ 3; decide) 124 (by decide) (by decide) ?_
          refine g_iloadN S286.here hx (hb hby own_d364) rfl 125 rfl ?_
          refine g_aload S286.here hx (hb hby own_d365) rfl rfl 127 rfl ?_
          refine S286.len hx V (hb hby own_d366) 128 rfl ?_
          refine g_icmpT S286.here hx (hb hby own_d367) 5 6 (by decide) (by decide) (by show ¬ 5 = 6; decide) 134 (by decide) (by decide) ?_
          refine g_aload S286.here hx (hb hby own_d368) rfl rfl 136 rfl ?_
          refine g_iloadN S286.here hx (hb hby own_d369) rfl 137 rfl ?_
          refine S286.callS hx (W := 0) (own_q158 hw) (own_q159 hw) (own_q160 hw) (own_q161 hw) (by decide) (ctCp l Z a0 hw d kd (6 : Int32) (5 : Int32) _ h286 S286.old V (by decide) (by decide)) nosf (by decide) (by decide) (by rw [hml]; rfl) [(.ref d), (.int (5 : Int32))] [] (lenOf own_pd371 rfl) rfl rfl (Nat.le_refl _) (hb hby own_d370) (by decide) (by decide) 140 rfl (fun v287 vm287 T287 h287 S287 Q287 R287 => ?_)
          obtain ⟨r, rfl, X2, C⟩ := Q287
          show Goes _ _ _ _ T287 (mkF m 140 #[.val (.int (0 : Int32)), .val (.ref t), .val (.int (1 : Int32)), .val (.int (5 : Int32)), .val (.ref d), .val (.ref t), .val (.int (3 : Int32)), .val (.int (3 : Int32)), .val (.int (c3.toInt8.toInt32))] [(.ref r)])
          have E := own_ext_trans E X2
          have C : own_enc Z h287 r (own_us [c1, c2, c3]) := by
            show own_enc Z _ r (own_u c1 + (own_u c2 + (own_u c3 + (0))))
            rw [u1, u2, u3]; exact C
          exact S287.aret hx hlk hret rfl rfl rfl (hb hby own_d372) ⟨r, rfl, E, C⟩ (by decide) (by decide)
      · have u2 := own_u2 (c := c2) (by omega) (by omega)
        refine g_aload S281.here hx (hb hby own_d373) rfl rfl 70 rfl ?_
        refine g_iloadN S281.here hx (hb hby own_d374) rfl 71 rfl ?_
        refine g_iinc S281.here hx (hb hby own_d375) rfl #[.val (.int (0 : Int32)), .val (.ref t), .val (.int (1 : Int32)), .val (.int (3 : Int32)), .val (.ref d), .val (.ref t), .val (.int (3 : Int32)), .val (.int (1 : Int32)), .val (.int (c2.toInt8.toInt32))] (by rw [show (2 : Int32) + Int32.ofInt 1 = (3 : Int32) from by decide]; rfl) 74 rfl ?_
        refine g_sipush S281.here hx (hb hby own_d376) (192 : Int32) (by decide) 77 rfl ?_
        refine g_iload S281.here hx (hb hby own_d377) rfl 79 rfl ?_
        refine g_sipush S281.here hx (hb hby own_d378) (255 : Int32) (by decide) 82 rfl ?_
        refine g_iand S281.here hx (hb hby own_d379) 83 rfl ?_
        refine g_bipush S281.here hx (hb hby own_d380) (6 : Int32) (by decide) 85 rfl ?_
        refine g_ishr S281.here hx (hb hby own_d381) 86 rfl ?_
        refine g_ior S281.here hx (hb hby own_d382) 87 rfl ?_
        refine g_i2b S281.here hx (hb hby own_d383) 88 rfl ?_
        refine S281.stB hx V 2 ⟨by decide, by decide⟩ (by decide) (by simp) gz safe_nil (hb hby own_d384) 89 rfl (fun T288 h288 S288 W288 V R288 => ?_)
        have B := B.other W288 nd
        have E := own_ext_wr E W288 gd
        refine g_aload S288.here hx (hb hby own_d385) rfl rfl 91 rfl ?_
        refine g_iloadN S288.here hx (hb hby own_d386) rfl 92 rfl ?_
        refine g_iinc S288.here hx (hb hby own_d387) rfl #[.val (.int (0 : Int32)), .val (.ref t), .val (.int (1 : Int32)), .val (.int (4 : Int32)), .val (.ref d), .val (.ref t), .val (.int (3 : Int32)), .val (.int (1 : Int32)), .val (.int (c2.toInt8.toInt32))] (by rw [show (3 : Int32) + Int32.ofInt 1 = (4 : Int32) from by decide]; rfl) 95 rfl ?_
        refine g_sipush S288.here hx (hb hby own_d388) (128 : Int32) (by decide) 98 rfl ?_
        refine g_iload S288.here hx (hb hby own_d389) rfl 100 rfl ?_
        refine g_bipush S288.here hx (hb hby own_d390) (63 : Int32) (by decide) 102 rfl ?_
        refine g_iand S288.here hx (hb hby own_d391) 103 rfl ?_
        refine g_ior S288.here hx (hb hby own_d392) 104 rfl ?_
        refine g_i2b S288.here hx (hb hby own_d393) 105 rfl ?_
        refine S288.stB hx V 3 ⟨by decide, by decide⟩ (by decide) (by simp) gz safe_nil (hb hby own_d394) 106 rfl (fun T289 h289 S289 W289 V R289 => ?_)
        have B := B.other W289 nd
        have E := own_ext_wr E W289 gd
        refine g_goto S289.here hx (hb hby own_d395) 118 (by decide) (by decide) ?_
        refine g_iinc S289.here hx (hb hby own_d362) rfl #[.val (.int (0 : Int32)), .val (.ref t), .val (.int (1 : Int32)), .val (.int (4 : Int32)), .val (.ref d), .val (.ref t), .val (.int (3 : Int32)), .val (.int (2 : Int32)), .val (.int (c2.toInt8.toInt32))] (by rw [show (1 : Int32) + Int32.ofInt 1 = (2 : Int32) from by decide]; rfl) 121 rfl ?_
        refine g_goto S289.here hx (hb hby own_d363) 49 (by decide) (by decide) ?_
        refine g_iload S289.here hx (hb hby own_d348) rfl 51 rfl ?_
        refine g_iload S289.here hx (hb hby own_d349) rfl 53 rfl ?_
        refine g_icmpF S289.here hx (hb hby own_d350) 2 3 (by decide) (by decide) (by show ¬ (3 ≤ 2); decide) 56 rfl ?_
        refine g_aload S289.here hx (hb hby own_d351) rfl rfl 58 rfl ?_
        refine g_iload S289.here hx (hb hby own_d352) rfl 60 rfl ?_
        refine S289.bald hx B ⟨by decide, by decide⟩ (own_at (i := 2) (by decide) rfl) (hb hby own_d353) 61 rfl ?_
        have i8_3 := own_i8 c3 b3
        refine g_istore S289.here hx (hb hby own_d354) #[.val (.int (0 : Int32)), .val (.ref t), .val (.int (1 : Int32)), .val (.int (4 : Int32)), .val (.ref d), .val (.ref t), .val (.int (3 : Int32)), .val (.int (2 : Int32)), .val (.int (c3.toInt8.toInt32))] rfl 63 rfl ?_
        refine g_iload S289.here hx (hb hby own_d355) rfl 65 rfl ?_
        refine g_if S289.here hx (hb hby own_d356) (c3.toInt8.toInt32).toInt rfl 109 68 (by decide) (by decide) rfl (fun (hc65 : 0 ≤ (c3.toInt8.toInt32).toInt) => ?_) (fun (hc65 : ¬ (0 ≤ (c3.toInt8.toInt32).toInt)) => ?_)
        · have u3 := own_u1 (c := c3) (by omega)
          refine g_aload S289.here hx (hb hby own_d357) rfl rfl 111 rfl ?_
          refine g_iloadN S289.here hx (hb hby own_d358) rfl 112 rfl ?_
          refine g_iinc S289.here hx (hb hby own_d359) rfl #[.val (.int (0 : Int32)), .val (.ref t), .val (.int (1 : Int32)), .val (.int (5 : Int32)), .val (.ref d), .val (.ref t), .val (.int (3 : Int32)), .val (.int (2 : Int32)), .val (.int (c3.toInt8.toInt32))] (by rw [show (4 : Int32) + Int32.ofInt 1 = (5 : Int32) from by decide]; rfl) 115 rfl ?_
          refine g_iload S289.here hx (hb hby own_d360) rfl 117 rfl ?_
          refine S289.stB hx V 4 ⟨by decide, by decide⟩ (by decide) (by simp) gz safe_nil (hb hby own_d361) 118 rfl (fun T290 h290 S290 W290 V R290 => ?_)
          have B := B.other W290 nd
          have E := own_ext_wr E W290 gd
          refine g_iinc S290.here hx (hb hby own_d362) rfl #[.val (.int (0 : Int32)), .val (.ref t), .val (.int (1 : Int32)), .val (.int (5 : Int32)), .val (.ref d), .val (.ref t), .val (.int (3 : Int32)), .val (.int (3 : Int32)), .val (.int (c3.toInt8.toInt32))] (by rw [show (2 : Int32) + Int32.ofInt 1 = (3 : Int32) from by decide]; rfl) 121 rfl ?_
          refine g_goto S290.here hx (hb hby own_d363) 49 (by decide) (by decide) ?_
          refine g_iload S290.here hx (hb hby own_d348) rfl 51 rfl ?_
          refine g_iload S290.here hx (hb hby own_d349) rfl 53 rfl ?_
          refine g_icmpT S290.here hx (hb hby own_d350) 3 3 (by decide) (by decide) (by show 3 ≤ 3; decide) 124 (by decide) (by decide) ?_
          refine g_iloadN S290.here hx (hb hby own_d364) rfl 125 rfl ?_
          refine g_aload S290.here hx (hb hby own_d365) rfl rfl 127 rfl ?_
          refine S290.len hx V (hb hby own_d366) 128 rfl ?_
          refine g_icmpT S290.here hx (hb hby own_d367) 5 6 (by decide) (by decide) (by show ¬ 5 = 6; decide) 134 (by decide) (by decide) ?_
          refine g_aload S290.here hx (hb hby own_d368) rfl rfl 136 rfl ?_
          refine g_iloadN S290.here hx (hb hby own_d369) rfl 137 rfl ?_
          refine S290.callS hx (W := 0) (own_q158 hw) (own_q159 hw) (own_q160 hw) (own_q161 hw) (by decide) (ctCp l Z a0 hw d kd (6 : Int32) (5 : Int32) _ h290 S290.old V (by decide) (by decide)) nosf (by decide) (by decide) (by rw [hml]; rfl) [(.ref d), (.int (5 : Int32))] [] (lenOf own_pd371 rfl) rfl rfl (Nat.le_refl _) (hb hby own_d370) (by decide) (by decide) 140 rfl (fun v291 vm291 T291 h291 S291 Q291 R291 => ?_)
          obtain ⟨r, rfl, X2, C⟩ := Q291
          show Goes _ _ _ _ T291 (mkF m 140 #[.val (.int (0 : Int32)), .val (.ref t), .val (.int (1 : Int32)), .val (.int (5 : Int32)), .val (.ref d), .val (.ref t), .val (.int (3 : Int32)), .val (.int (3 : Int32)), .val (.int (c3.toInt8.toInt32))] [(.ref r)])
          have E := own_ext_trans E X2
          have C : own_enc Z h291 r (own_us [c1, c2, c3]) := by
            show own_enc Z _ r (own_u c1 + (own_u c2 + (own_u c3 + (0))))
            rw [u1, u2, u3]; exact C
          exact S291.aret hx hlk hret rfl rfl rfl (hb hby own_d372) ⟨r, rfl, E, C⟩ (by decide) (by decide)
        · have u3 := own_u2 (c := c3) (by omega) (by omega)
          refine g_aload S289.here hx (hb hby own_d373) rfl rfl 70 rfl ?_
          refine g_iloadN S289.here hx (hb hby own_d374) rfl 71 rfl ?_
          refine g_iinc S289.here hx (hb hby own_d375) rfl #[.val (.int (0 : Int32)), .val (.ref t), .val (.int (1 : Int32)), .val (.int (5 : Int32)), .val (.ref d), .val (.ref t), .val (.int (3 : Int32)), .val (.int (2 : Int32)), .val (.int (c3.toInt8.toInt32))] (by rw [show (4 : Int32) + Int32.ofInt 1 = (5 : Int32) from by decide]; rfl) 74 rfl ?_
          refine g_sipush S289.here hx (hb hby own_d376) (192 : Int32) (by decide) 77 rfl ?_
          refine g_iload S289.here hx (hb hby own_d377) rfl 79 rfl ?_
          refine g_sipush S289.here hx (hb hby own_d378) (255 : Int32) (by decide) 82 rfl ?_
          refine g_iand S289.here hx (hb hby own_d379) 83 rfl ?_
          refine g_bipush S289.here hx (hb hby own_d380) (6 : Int32) (by decide) 85 rfl ?_
          refine g_ishr S289.here hx (hb hby own_d381) 86 rfl ?_
          refine g_ior S289.here hx (hb hby own_d382) 87 rfl ?_
          refine g_i2b S289.here hx (hb hby own_d383) 88 rfl ?_
          refine S289.stB hx V 4 ⟨by decide, by decide⟩ (by decide) (by simp) gz safe_nil (hb hby own_d384) 89 rfl (fun T292 h292 S292 W292 V R292 => ?_)
          have B := B.other W292 nd
          have E := own_ext_wr E W292 gd
          refine g_aload S292.here hx (hb hby own_d385) rfl rfl 91 rfl ?_
          refine g_iloadN S292.here hx (hb hby own_d386) rfl 92 rfl ?_
          refine g_iinc S292.here hx (hb hby own_d387) rfl #[.val (.int (0 : Int32)), .val (.ref t), .val (.int (1 : Int32)), .val (.int (6 : Int32)), .val (.ref d), .val (.ref t), .val (.int (3 : Int32)), .val (.int (2 : Int32)), .val (.int (c3.toInt8.toInt32))] (by rw [show (5 : Int32) + Int32.ofInt 1 = (6 : Int32) from by decide]; rfl) 95 rfl ?_
          refine g_sipush S292.here hx (hb hby own_d388) (128 : Int32) (by decide) 98 rfl ?_
          refine g_iload S292.here hx (hb hby own_d389) rfl 100 rfl ?_
          refine g_bipush S292.here hx (hb hby own_d390) (63 : Int32) (by decide) 102 rfl ?_
          refine g_iand S292.here hx (hb hby own_d391) 103 rfl ?_
          refine g_ior S292.here hx (hb hby own_d392) 104 rfl ?_
          refine g_i2b S292.here hx (hb hby own_d393) 105 rfl ?_
          refine S292.stB hx V 5 ⟨by decide, by decide⟩ (by decide) (by simp) gz safe_nil (hb hby own_d394) 106 rfl (fun T293 h293 S293 W293 V R293 => ?_)
          have B := B.other W293 nd
          have E := own_ext_wr E W293 gd
          refine g_goto S293.here hx (hb hby own_d395) 118 (by decide) (by decide) ?_
          refine g_iinc S293.here hx (hb hby own_d362) rfl #[.val (.int (0 : Int32)), .val (.ref t), .val (.int (1 : Int32)), .val (.int (6 : Int32)), .val (.ref d), .val (.ref t), .val (.int (3 : Int32)), .val (.int (3 : Int32)), .val (.int (c3.toInt8.toInt32))] (by rw [show (2 : Int32) + Int32.ofInt 1 = (3 : Int32) from by decide]; rfl) 121 rfl ?_
          refine g_goto S293.here hx (hb hby own_d363) 49 (by decide) (by decide) ?_
          refine g_iload S293.here hx (hb hby own_d348) rfl 51 rfl ?_
          refine g_iload S293.here hx (hb hby own_d349) rfl 53 rfl ?_
          refine g_icmpT S293.here hx (hb hby own_d350) 3 3 (by decide) (by decide) (by show 3 ≤ 3; decide) 124 (by decide) (by decide) ?_
          refine g_iloadN S293.here hx (hb hby own_d364) rfl 125 rfl ?_
          refine g_aload S293.here hx (hb hby own_d365) rfl rfl 127 rfl ?_
          refine S293.len hx V (hb hby own_d366) 128 rfl ?_
          refine g_icmpF S293.here hx (hb hby own_d367) 6 6 (by decide) (by decide) (by show ¬ (¬ 6 = 6); decide) 131 rfl ?_
          refine g_aload S293.here hx (hb hby own_d396) rfl rfl 133 rfl ?_
          exact S293.aret hx hlk hret rfl rfl rfl (hb hby own_d397) ⟨d, rfl, E, _, _, _, V, by show _ = own_u c1 + (own_u c2 + (own_u c3 + (0))); rw [u1, u2, u3]; decide⟩ (by decide) (by decide)
set_option maxRecDepth 65536 in
set_option maxHeartbeats 40000000 in
theorem ctEU3 (l : Launch) (Z : State) (a0 : Array Value) (hw : ∀ d ∈ tables_1, d.before a0 Z = true) (t : Addr) (kt : ClassId) (c1 c2 c3 : Int32) (h : Heap) (O : Old Z Z.heap.size h) (H : own_h16 Z) (k1 : 0 ≤ c1.toInt ∧ c1.toInt ≤ 32767) (k2 : 0 ≤ c2.toInt ∧ c2.toInt ≤ 32767) (k3 : 0 ≤ c3.toInt ∧ c3.toInt ≤ 32767) (B : Arv Z h t kt .byte (6 : Int32) [.int (StrChars.lo8 c1), .int (StrChars.hi8 c1), .int (StrChars.lo8 c2), .int (StrChars.hi8 c2), .int (StrChars.lo8 c3), .int (StrChars.hi8 c3)] (.int 0)) :
    Ct 0 l Z [] [] (⟨"java/lang/String", "encodeUTF8_UTF16", "([BZ)[B"⟩ : MethodName) jdk_42_method_47_code 9 (some (.array .byte)) ({ frames := 2, cells := 2, slots := 18, locals := 60 } : Room) #[(.ref t), (.int (1 : Int32))] h (fun v h' => ∃ t : Addr, v = some (.ref t) ∧ Ext h h' ∧ own_enc Z h' t (own_us [c1, c2, c3])) := by
  refine Ct.intro (plainFor_of_name own_pn173) O (fun _ => rfl) ⟨a0, EW.nil⟩ ?_
  intro p e s m below meth c T0 hx hby hml hret hnm hlk hsf S0
  refine Goes.cast (own_ef398 m t (1 : Int32)) ?_
  have B0 := B
  refine g_iconst S0.here hx (hb hby own_d399) (0 : Int32) (by decide) 1 rfl ?_
  refine g_istoreN S0.here hx (hb hby own_d400) #[.val (.ref t), .val (.int (1 : Int32)), .val (.int (0 : Int32)), .unset, .unset, .unset, .unset, .unset, .unset] rfl 2 rfl ?_
  refine g_iconst S0.here hx (hb hby own_d401) (0 : Int32) (by decide) 3 rfl ?_
  refine g_istoreN S0.here hx (hb hby own_d402) #[.val (.ref t), .val (.int (1 : Int32)), .val (.int (0 : Int32)), .val (.int (0 : Int32)), .unset, .unset, .unset, .unset, .unset] rfl 4 rfl ?_
  refine g_aloadN S0.here hx (hb hby own_d403) rfl rfl 5 rfl ?_
  refine S0.len hx B (hb hby own_d404) 6 rfl ?_
  refine g_iconst S0.here hx (hb hby own_d405) (1 : Int32) (by decide) 7 rfl ?_
  refine g_ishr S0.here hx (hb hby own_d406) 8 rfl ?_
  rw [show ((6 : Int32) >>> ((1 : Int32) &&& 31)) = (3 : Int32) from by decide]
  refine g_istore S0.here hx (hb hby own_d407) #[.val (.ref t), .val (.int (1 : Int32)), .val (.int (0 : Int32)), .val (.int (0 : Int32)), .val (.int (3 : Int32)), .unset, .unset, .unset, .unset] rfl 10 rfl ?_
  refine g_iload S0.here hx (hb hby own_d408) rfl 12 rfl ?_
  refine g_iconst S0.here hx (hb hby own_d409) (3 : Int32) (by decide) 13 rfl ?_
  refine g_imul S0.here hx (hb hby own_d410) 14 rfl ?_
  rw [show ((3 : Int32) * (3 : Int32)) = (9 : Int32) from by decide]
  refine S0.newAE (aty := .byte) hx (own_q31 hw) (n := (9 : Int32)) (by decide) (cap := 9) (by decide) (by decide) (hb hby own_d411) (by decide) (by decide) (ad := "[B") (by decide) 16 rfl (fun T294 h294 D_b k294 S294 g294 E294 V294 D_x F294 R294 => ?_)
  have D : Arv Z h294 D_b k294 .byte (9 : Int32) [.int 0, .int 0, .int 0, .int 0, .int 0, .int 0, .int 0, .int 0, .int 0] (.int 0) := V294
  have D_z : Z.heap.size ≤ D_b := by rw [g294]; exact S0.size
  have D_g : h.size ≤ D_b := Nat.le_of_eq g294.symm
  refine g_astore S294.here hx (hb hby own_d412) rfl #[.val (.ref t), .val (.int (1 : Int32)), .val (.int (0 : Int32)), .val (.int (0 : Int32)), .val (.int (3 : Int32)), .val (.ref D_b), .unset, .unset, .unset] rfl 18 rfl ?_
  have B := B.ext E294
  have nd : t ≠ D_b := fun q => by rw [← q] at D_g; exact absurd B0.lt (Nat.not_lt.mpr D_g)
  have E := E294
  have kD : ∃ k : ClassId, k = k := ⟨0, rfl⟩
  have head3 : ∀ (vm : Vm) (T : State) (h1 : Heap) (d : Int32) (w6 : Slot) (kd : ClassId) (vs : List Value), One w6 → vs.length = 9 → St 0 p l e ({ frames := 2, cells := 2, slots := 18, locals := 60 } : Room) s m #[(.ref t), (.int (1 : Int32))] below meth c "java/lang/String" Z [] vm T h1 1 9 → Arv Z h1 t kt .byte (6 : Int32) [.int (StrChars.lo8 c1), .int (StrChars.hi8 c1), .int (StrChars.lo8 c2), .int (StrChars.hi8 c2), .int (StrChars.lo8 c3), .int (StrChars.hi8 c3)] (.int 0) → Arv Z h1 D_b kd .byte (9 : Int32) vs (.int 0) → Ext h h1 → d.toInt = (own_u c1 + own_u c2 + own_u c3) → Goes p.tables e below (Pof 0 Z [] s ({ frames := 2, cells := 2, slots := 18, locals := 60 } : Room) (fun v h' => ∃ t : Addr, v = some (.ref t) ∧ Ext h h' ∧ own_enc Z h' t (own_us [c1, c2, c3]))) T (mkF m 58 #[.val (.ref t), .val (.int (1 : Int32)), .val (.int d), .val (.int (3 : Int32)), .val (.int (3 : Int32)), .val (.ref D_b), w6, .unset, .unset] []) := by
    intro vm T h1 d w6 kd vs hw6 hl S1 B D E hd
    have z3 : (9 : Int32).toInt = 9 := by decide
    have ub1 := own_ub c1
    have ub2 := own_ub c2
    have ub3 := own_ub c3
    refine g_iloadN S1.here hx (hb hby own_d413) rfl 59 rfl ?_
    refine g_iload S1.here hx (hb hby own_d414) rfl 61 rfl ?_
    refine g_icmpT S1.here hx (hb hby own_d415) 3 3 (by decide) (by decide) (by show 3 ≤ 3; decide) 355 (by decide) (by decide) ?_
    refine g_iloadN S1.here hx (hb hby own_d416) rfl 356 rfl ?_
    refine g_aload S1.here hx (hb hby own_d417) rfl rfl 358 rfl ?_
    refine S1.len hx D (hb hby own_d418) 359 rfl ?_
    refine g_icmp S1.here hx (hb hby own_d419) d.toInt 9 rfl (by decide) 365 362 (by decide) (by decide) rfl (fun (hc359 : ¬ d.toInt = 9) => ?_) (fun (hc359 : ¬ (¬ d.toInt = 9)) => ?_)
    · refine g_aload S1.here hx (hb hby own_d420) rfl rfl 367 rfl ?_
      refine g_iloadN S1.here hx (hb hby own_d421) rfl 368 rfl ?_
      refine S1.callS hx (W := 0) (own_q158 hw) (own_q159 hw) (own_q160 hw) (own_q161 hw) (by decide) (ctCp l Z a0 hw D_b kd (9 : Int32) d vs h1 S1.old D (by omega) (by omega)) nosf (by decide) (by decide) (by rw [hml]; rfl) [(.ref D_b), (.int d)] [] (lenOf own_pd371 rfl) rfl rfl (Nat.le_refl _) (hb hby own_d422) (by decide) (by decide) 371 rfl (fun v295 vm295 T295 h295 S295 Q295 R295 => ?_)
      obtain ⟨r, rfl, X2, C⟩ := Q295
      show Goes _ _ _ _ T295 (mkF m 371 #[.val (.ref t), .val (.int (1 : Int32)), .val (.int d), .val (.int (3 : Int32)), .val (.int (3 : Int32)), .val (.ref D_b), w6, .unset, .unset] [(.ref r)])
      have E := own_ext_trans E X2
      rw [hd] at C
      exact S295.aret hx hlk hret rfl rfl rfl (hb hby own_d423) ⟨r, rfl, E, (show own_u c1 + own_u c2 + own_u c3 = own_us [c1, c2, c3] from by show _ = own_u c1 + (own_u c2 + (own_u c3 + (0))); omega) ▸ C⟩ (by decide) (by decide)
    · refine g_aload S1.here hx (hb hby own_d424) rfl rfl 364 rfl ?_
      exact S1.aret hx hlk hret rfl rfl rfl (hb hby own_d425) ⟨D_b, rfl, E, _, _, _, D, by show _ = own_u c1 + (own_u c2 + (own_u c3 + (0))); omega⟩ (by decide) (by decide)
  have head2 : ∀ (vm : Vm) (T : State) (h1 : Heap) (d : Int32) (w6 : Slot) (kd : ClassId) (vs : List Value), One w6 → vs.length = 9 → St 0 p l e ({ frames := 2, cells := 2, slots := 18, locals := 60 } : Room) s m #[(.ref t), (.int (1 : Int32))] below meth c "java/lang/String" Z [] vm T h1 1 9 → Arv Z h1 t kt .byte (6 : Int32) [.int (StrChars.lo8 c1), .int (StrChars.hi8 c1), .int (StrChars.lo8 c2), .int (StrChars.hi8 c2), .int (StrChars.lo8 c3), .int (StrChars.hi8 c3)] (.int 0) → Arv Z h1 D_b kd .byte (9 : Int32) vs (.int 0) → Ext h h1 → d.toInt = (own_u c1 + own_u c2) → Goes p.tables e below (Pof 0 Z [] s ({ frames := 2, cells := 2, slots := 18, locals := 60 } : Room) (fun v h' => ∃ t : Addr, v = some (.ref t) ∧ Ext h h' ∧ own_enc Z h' t (own_us [c1, c2, c3]))) T (mkF m 58 #[.val (.ref t), .val (.int (1 : Int32)), .val (.int d), .val (.int (2 : Int32)), .val (.int (3 : Int32)), .val (.ref D_b), w6, .unset, .unset] []) := by
    intro vm T h1 d w6 kd vs hw6 hl S1 B D E hd
    have z3 : (9 : Int32).toInt = 9 := by decide
    have ub1 := own_ub c1
    have ub2 := own_ub c2
    have ub3 := own_ub c3
    refine g_iloadN S1.here hx (hb hby own_d413) rfl 59 rfl ?_
    refine g_iload S1.here hx (hb hby own_d414) rfl 61 rfl ?_
    refine g_icmpF S1.here hx (hb hby own_d415) 2 3 (by decide) (by decide) (by show ¬ (3 ≤ 2); decide) 64 rfl ?_
    refine g_aloadN S1.here hx (hb hby own_d426) rfl rfl 65 rfl ?_
    refine g_iloadN S1.here hx (hb hby own_d427) rfl 66 rfl ?_
    refine g_iinc S1.here hx (hb hby own_d428) rfl #[.val (.ref t), .val (.int (1 : Int32)), .val (.int d), .val (.int (3 : Int32)), .val (.int (3 : Int32)), .val (.ref D_b), w6, .unset, .unset] (by rw [show (2 : Int32) + Int32.ofInt 1 = (3 : Int32) from by decide]; rfl) 69 rfl ?_
    refine S1.callS hx (W := 0) (own_q144 hw) (own_q139 hw) (own_q29 hw) (own_q140 hw) (by decide) (ctGC32 l Z a0 hw t kt c3 _ h1 S1.old H k3 B rfl rfl) nosf (by decide) (by decide) (by rw [hml]; rfl) [(.ref t), (.int (2 : Int32))] [] (lenOf own_pd138 rfl) rfl rfl (Nat.le_refl _) (hb hby own_d429) (by decide) (by decide) 72 rfl (fun v296 vm296 T296 h296 S296 Q296 R296 => ?_)
    obtain ⟨rfl, rfl⟩ := Q296
    show Goes _ _ _ _ T296 (mkF m 72 #[.val (.ref t), .val (.int (1 : Int32)), .val (.int d), .val (.int (3 : Int32)), .val (.int (3 : Int32)), .val (.ref D_b), w6, .unset, .unset] [(.int c3)])
    refine g_istore S296.here hx (hb hby own_d430) #[.val (.ref t), .val (.int (1 : Int32)), .val (.int d), .val (.int (3 : Int32)), .val (.int (3 : Int32)), .val (.ref D_b), .val (.int c3), .unset, .unset] (by rw [XS.store1 (o := w6) rfl hw6 rfl]; rfl) 74 rfl ?_
    refine g_iload S296.here hx (hb hby own_d431) rfl 76 rfl ?_
    refine g_sipush S296.here hx (hb hby own_d432) (128 : Int32) (by decide) 79 rfl ?_
    refine g_icmp S296.here hx (hb hby own_d433) c3.toInt 128 rfl (by decide) 95 82 (by decide) (by decide) rfl (fun (hc79 : 128 ≤ c3.toInt) => ?_) (fun (hc79 : ¬ (128 ≤ c3.toInt)) => ?_)
    · refine g_iload S296.here hx (hb hby own_d434) rfl 97 rfl ?_
      refine g_sipush S296.here hx (hb hby own_d435) (2048 : Int32) (by decide) 100 rfl ?_
      refine g_icmp S296.here hx (hb hby own_d436) c3.toInt 2048 rfl (by decide) 140 103 (by decide) (by decide) rfl (fun (hc100 : 2048 ≤ c3.toInt) => ?_) (fun (hc100 : ¬ (2048 ≤ c3.toInt)) => ?_)
      · refine g_iload S296.here hx (hb hby own_d437) rfl 142 rfl ?_
        refine S296.callS hx (W := 0) (own_q145 hw) (own_q146 hw) (own_q147 hw) (own_q148 hw) (by decide) (ctSu l Z a0 hw c3 h1 S296.old (by omega)) nosf (by decide) (by decide) (by rw [hml]; rfl) [(.int c3)] [] (lenOf own_pd439 rfl) rfl rfl (Nat.le_refl _) (hb hby own_d438) (by decide) (by decide) 145 rfl (fun v297 vm297 T297 h297 S297 Q297 R297 => ?_)
        obtain ⟨rfl, rfl⟩ := Q297
        show Goes _ _ _ _ T297 (mkF m 145 #[.val (.ref t), .val (.int (1 : Int32)), .val (.int d), .val (.int (3 : Int32)), .val (.int (3 : Int32)), .val (.ref D_b), .val (.int c3), .unset, .unset] [(.int (0 : Int32))])
        refine g_ifT S297.here hx (hb hby own_d440) 0 (by decide) (by show 0 = 0; decide) 298 (by decide) (by decide) ?_
        have u := own_u3 (c := c3) (by omega)
        refine g_aload S297.here hx (hb hby own_d441) rfl rfl 300 rfl ?_
        refine g_iloadN S297.here hx (hb hby own_d442) rfl 301 rfl ?_
        have ea298 := own_add1 (j := d) (by omega)
        refine g_iinc S297.here hx (hb hby own_d443) rfl #[.val (.ref t), .val (.int (1 : Int32)), .val (.int (d + (1 : Int32))), .val (.int (3 : Int32)), .val (.int (3 : Int32)), .val (.ref D_b), .val (.int c3), .unset, .unset] rfl 304 rfl ?_
        refine g_sipush S297.here hx (hb hby own_d444) (224 : Int32) (by decide) 307 rfl ?_
        refine g_iload S297.here hx (hb hby own_d445) rfl 309 rfl ?_
        refine g_bipush S297.here hx (hb hby own_d446) (12 : Int32) (by decide) 311 rfl ?_
        refine g_ishr S297.here hx (hb hby own_d447) 312 rfl ?_
        refine g_ior S297.here hx (hb hby own_d448) 313 rfl ?_
        refine g_i2b S297.here hx (hb hby own_d449) 314 rfl ?_
        have ej := own_clamp (j := d) (by omega)
        refine S297.stB hx D (d).toNatClampNeg ⟨own_nn (by omega), own_lt (by omega)⟩ rfl (by (try simp only [List.length_set]); omega) D_z safe_nil (hb hby own_d450) 315 rfl (fun T299 h299 S299 W299 D R299 => ?_)
        have B := B.other W299 nd
        have E := own_ext_wr E W299 D_g
        refine g_aload S299.here hx (hb hby own_d451) rfl rfl 317 rfl ?_
        refine g_iloadN S299.here hx (hb hby own_d452) rfl 318 rfl ?_
        have ea300 := own_add1 (j := (d + (1 : Int32))) (by omega)
        refine g_iinc S299.here hx (hb hby own_d453) rfl #[.val (.ref t), .val (.int (1 : Int32)), .val (.int ((d + (1 : Int32)) + (1 : Int32))), .val (.int (3 : Int32)), .val (.int (3 : Int32)), .val (.ref D_b), .val (.int c3), .unset, .unset] rfl 321 rfl ?_
        refine g_sipush S299.here hx (hb hby own_d454) (128 : Int32) (by decide) 324 rfl ?_
        refine g_iload S299.here hx (hb hby own_d455) rfl 326 rfl ?_
        refine g_bipush S299.here hx (hb hby own_d456) (6 : Int32) (by decide) 328 rfl ?_
        refine g_ishr S299.here hx (hb hby own_d457) 329 rfl ?_
        refine g_bipush S299.here hx (hb hby own_d458) (63 : Int32) (by decide) 331 rfl ?_
        refine g_iand S299.here hx (hb hby own_d459) 332 rfl ?_
        refine g_ior S299.here hx (hb hby own_d460) 333 rfl ?_
        refine g_i2b S299.here hx (hb hby own_d461) 334 rfl ?_
        have ej := own_clamp (j := (d + (1 : Int32))) (by omega)
        refine S299.stB hx D ((d + (1 : Int32))).toNatClampNeg ⟨own_nn (by omega), own_lt (by omega)⟩ rfl (by (try simp only [List.length_set]); omega) D_z safe_nil (hb hby own_d462) 335 rfl (fun T301 h301 S301 W301 D R301 => ?_)
        have B := B.other W301 nd
        have E := own_ext_wr E W301 D_g
        refine g_aload S301.here hx (hb hby own_d463) rfl rfl 337 rfl ?_
        refine g_iloadN S301.here hx (hb hby own_d464) rfl 338 rfl ?_
        have ea302 := own_add1 (j := ((d + (1 : Int32)) + (1 : Int32))) (by omega)
        refine g_iinc S301.here hx (hb hby own_d465) rfl #[.val (.ref t), .val (.int (1 : Int32)), .val (.int (((d + (1 : Int32)) + (1 : Int32)) + (1 : Int32))), .val (.int (3 : Int32)), .val (.int (3 : Int32)), .val (.ref D_b), .val (.int c3), .unset, .unset] rfl 341 rfl ?_
        refine g_sipush S301.here hx (hb hby own_d466) (128 : Int32) (by decide) 344 rfl ?_
        refine g_iload S301.here hx (hb hby own_d467) rfl 346 rfl ?_
        refine g_bipush S301.here hx (hb hby own_d468) (63 : Int32) (by decide) 348 rfl ?_
        refine g_iand S301.here hx (hb hby own_d469) 349 rfl ?_
        refine g_ior S301.here hx (hb hby own_d470) 350 rfl ?_
        refine g_i2b S301.here hx (hb hby own_d471) 351 rfl ?_
        have ej := own_clamp (j := ((d + (1 : Int32)) + (1 : Int32))) (by omega)
        refine S301.stB hx D (((d + (1 : Int32)) + (1 : Int32))).toNatClampNeg ⟨own_nn (by omega), own_lt (by omega)⟩ rfl (by (try simp only [List.length_set]); omega) D_z safe_nil (hb hby own_d472) 352 rfl (fun T303 h303 S303 W303 D R303 => ?_)
        have B := B.other W303 nd
        have E := own_ext_wr E W303 D_g
        refine g_goto S303.here hx (hb hby own_d473) 58 (by decide) (by decide) ?_
        exact head3 _ _ _ _ _ _ _ (One.val rfl) (by first | exact hl | (simp only [List.length_set]; exact hl)) S303 B D E (by omega)
      · have u := own_u2 (c := c3) (by omega) (by omega)
        refine g_aload S296.here hx (hb hby own_d474) rfl rfl 105 rfl ?_
        refine g_iloadN S296.here hx (hb hby own_d475) rfl 106 rfl ?_
        have ea304 := own_add1 (j := d) (by omega)
        refine g_iinc S296.here hx (hb hby own_d476) rfl #[.val (.ref t), .val (.int (1 : Int32)), .val (.int (d + (1 : Int32))), .val (.int (3 : Int32)), .val (.int (3 : Int32)), .val (.ref D_b), .val (.int c3), .unset, .unset] rfl 109 rfl ?_
        refine g_sipush S296.here hx (hb hby own_d477) (192 : Int32) (by decide) 112 rfl ?_
        refine g_iload S296.here hx (hb hby own_d478) rfl 114 rfl ?_
        refine g_bipush S296.here hx (hb hby own_d479) (6 : Int32) (by decide) 116 rfl ?_
        refine g_ishr S296.here hx (hb hby own_d480) 117 rfl ?_
        refine g_ior S296.here hx (hb hby own_d481) 118 rfl ?_
        refine g_i2b S296.here hx (hb hby own_d482) 119 rfl ?_
        have ej := own_clamp (j := d) (by omega)
        refine S296.stB hx D (d).toNatClampNeg ⟨own_nn (by omega), own_lt (by omega)⟩ rfl (by (try simp only [List.length_set]); omega) D_z safe_nil (hb hby own_d483) 120 rfl (fun T305 h305 S305 W305 D R305 => ?_)
        have B := B.other W305 nd
        have E := own_ext_wr E W305 D_g
        refine g_aload S305.here hx (hb hby own_d484) rfl rfl 122 rfl ?_
        refine g_iloadN S305.here hx (hb hby own_d485) rfl 123 rfl ?_
        have ea306 := own_add1 (j := (d + (1 : Int32))) (by omega)
        refine g_iinc S305.here hx (hb hby own_d486) rfl #[.val (.ref t), .val (.int (1 : Int32)), .val (.int ((d + (1 : Int32)) + (1 : Int32))), .val (.int (3 : Int32)), .val (.int (3 : Int32)), .val (.ref D_b), .val (.int c3), .unset, .unset] rfl 126 rfl ?_
        refine g_sipush S305.here hx (hb hby own_d487) (128 : Int32) (by decide) 129 rfl ?_
        refine g_iload S305.here hx (hb hby own_d488) rfl 131 rfl ?_
        refine g_bipush S305.here hx (hb hby own_d489) (63 : Int32) (by decide) 133 rfl ?_
        refine g_iand S305.here hx (hb hby own_d490) 134 rfl ?_
        refine g_ior S305.here hx (hb hby own_d491) 135 rfl ?_
        refine g_i2b S305.here hx (hb hby own_d492) 136 rfl ?_
        have ej := own_clamp (j := (d + (1 : Int32))) (by omega)
        refine S305.stB hx D ((d + (1 : Int32))).toNatClampNeg ⟨own_nn (by omega), own_lt (by omega)⟩ rfl (by (try simp only [List.length_set]); omega) D_z safe_nil (hb hby own_d493) 137 rfl (fun T307 h307 S307 W307 D R307 => ?_)
        have B := B.other W307 nd
        have E := own_ext_wr E W307 D_g
        refine g_goto S307.here hx (hb hby own_d494) 352 (by decide) (by decide) ?_
        refine g_goto S307.here hx (hb hby own_d473) 58 (by decide) (by decide) ?_
        exact head3 _ _ _ _ _ _ _ (One.val rfl) (by first | exact hl | (simp only [List.length_set]; exact hl)) S307 B D E (by omega)
    · have u := own_u1 (c := c3) (by omega)
      refine g_aload S296.here hx (hb hby own_d495) rfl rfl 84 rfl ?_
      refine g_iloadN S296.here hx (hb hby own_d496) rfl 85 rfl ?_
      have ea308 := own_add1 (j := d) (by omega)
      refine g_iinc S296.here hx (hb hby own_d497) rfl #[.val (.ref t), .val (.int (1 : Int32)), .val (.int (d + (1 : Int32))), .val (.int (3 : Int32)), .val (.int (3 : Int32)), .val (.ref D_b), .val (.int c3), .unset, .unset] rfl 88 rfl ?_
      refine g_iload S296.here hx (hb hby own_d498) rfl 90 rfl ?_
      refine g_i2b S296.here hx (hb hby own_d499) 91 rfl ?_
      have ej := own_clamp (j := d) (by omega)
      refine S296.stB hx D (d).toNatClampNeg ⟨own_nn (by omega), own_lt (by omega)⟩ rfl (by (try simp only [List.length_set]); omega) D_z safe_nil (hb hby own_d500) 92 rfl (fun T309 h309 S309 W309 D R309 => ?_)
      have B := B.other W309 nd
      have E := own_ext_wr E W309 D_g
      refine g_goto S309.here hx (hb hby own_d501) 352 (by decide) (by decide) ?_
      refine g_goto S309.here hx (hb hby own_d473) 58 (by decide) (by decide) ?_
      exact head3 _ _ _ _ _ _ _ (One.val rfl) (by first | exact hl | (simp only [List.length_set]; exact hl)) S309 B D E (by omega)
  have head1 : ∀ (vm : Vm) (T : State) (h1 : Heap) (d : Int32) (w6 : Slot) (kd : ClassId) (vs : List Value), One w6 → vs.length = 9 → St 0 p l e ({ frames := 2, cells := 2, slots := 18, locals := 60 } : Room) s m #[(.ref t), (.int (1 : Int32))] below meth c "java/lang/String" Z [] vm T h1 1 9 → Arv Z h1 t kt .byte (6 : Int32) [.int (StrChars.lo8 c1), .int (StrChars.hi8 c1), .int (StrChars.lo8 c2), .int (StrChars.hi8 c2), .int (StrChars.lo8 c3), .int (StrChars.hi8 c3)] (.int 0) → Arv Z h1 D_b kd .byte (9 : Int32) vs (.int 0) → Ext h h1 → d.toInt = (own_u c1) → Goes p.tables e below (Pof 0 Z [] s ({ frames := 2, cells := 2, slots := 18, locals := 60 } : Room) (fun v h' => ∃ t : Addr, v = some (.ref t) ∧ Ext h h' ∧ own_enc Z h' t (own_us [c1, c2, c3]))) T (mkF m 58 #[.val (.ref t), .val (.int (1 : Int32)), .val (.int d), .val (.int (1 : Int32)), .val (.int (3 : Int32)), .val (.ref D_b), w6, .unset, .unset] []) := by
    intro vm T h1 d w6 kd vs hw6 hl S1 B D E hd
    have z3 : (9 : Int32).toInt = 9 := by decide
    have ub1 := own_ub c1
    have ub2 := own_ub c2
    have ub3 := own_ub c3
    refine g_iloadN S1.here hx (hb hby own_d413) rfl 59 rfl ?_
    refine g_iload S1.here hx (hb hby own_d414) rfl 61 rfl ?_
    refine g_icmpF S1.here hx (hb hby own_d415) 1 3 (by decide) (by decide) (by show ¬ (3 ≤ 1); decide) 64 rfl ?_
    refine g_aloadN S1.here hx (hb hby own_d426) rfl rfl 65 rfl ?_
    refine g_iloadN S1.here hx (hb hby own_d427) rfl 66 rfl ?_
    refine g_iinc S1.here hx (hb hby own_d428) rfl #[.val (.ref t), .val (.int (1 : Int32)), .val (.int d), .val (.int (2 : Int32)), .val (.int (3 : Int32)), .val (.ref D_b), w6, .unset, .unset] (by rw [show (1 : Int32) + Int32.ofInt 1 = (2 : Int32) from by decide]; rfl) 69 rfl ?_
    refine S1.callS hx (W := 0) (own_q144 hw) (own_q139 hw) (own_q29 hw) (own_q140 hw) (by decide) (ctGC31 l Z a0 hw t kt c2 _ h1 S1.old H k2 B rfl rfl) nosf (by decide) (by decide) (by rw [hml]; rfl) [(.ref t), (.int (1 : Int32))] [] (lenOf own_pd138 rfl) rfl rfl (Nat.le_refl _) (hb hby own_d429) (by decide) (by decide) 72 rfl (fun v310 vm310 T310 h310 S310 Q310 R310 => ?_)
    obtain ⟨rfl, rfl⟩ := Q310
    show Goes _ _ _ _ T310 (mkF m 72 #[.val (.ref t), .val (.int (1 : Int32)), .val (.int d), .val (.int (2 : Int32)), .val (.int (3 : Int32)), .val (.ref D_b), w6, .unset, .unset] [(.int c2)])
    refine g_istore S310.here hx (hb hby own_d430) #[.val (.ref t), .val (.int (1 : Int32)), .val (.int d), .val (.int (2 : Int32)), .val (.int (3 : Int32)), .val (.ref D_b), .val (.int c2), .unset, .unset] (by rw [XS.store1 (o := w6) rfl hw6 rfl]; rfl) 74 rfl ?_
    refine g_iload S310.here hx (hb hby own_d431) rfl 76 rfl ?_
    refine g_sipush S310.here hx (hb hby own_d432) (128 : Int32) (by decide) 79 rfl ?_
    refine g_icmp S310.here hx (hb hby own_d433) c2.toInt 128 rfl (by decide) 95 82 (by decide) (by decide) rfl (fun (hc79 : 128 ≤ c2.toInt) => ?_) (fun (hc79 : ¬ (128 ≤ c2.toInt)) => ?_)
    · refine g_iload S310.here hx (hb hby own_d434) rfl 97 rfl ?_
      refine g_sipush S310.here hx (hb hby own_d435) (2048 : Int32) (by decide) 100 rfl ?_
      refine g_icmp S310.here hx (hb hby own_d436) c2.toInt 2048 rfl (by decide) 140 103 (by decide) (by decide) rfl (fun (hc100 : 2048 ≤ c2.toInt) => ?_) (fun (hc100 : ¬ (2048 ≤ c2.toInt)) => ?_)
      · refine g_iload S310.here hx (hb hby own_d437) rfl 142 rfl ?_
        refine S310.callS hx (W := 0) (own_q145 hw) (own_q146 hw) (own_q147 hw) (own_q148 hw) (by decide) (ctSu l Z a0 hw c2 h1 S310.old (by omega)) nosf (by decide) (by decide) (by rw [hml]; rfl) [(.int c2)] [] (lenOf own_pd439 rfl) rfl rfl (Nat.le_refl _) (hb hby own_d438) (by decide) (by decide) 145 rfl (fun v311 vm311 T311 h311 S311 Q311 R311 => ?_)
        obtain ⟨rfl, rfl⟩ := Q311
        show Goes _ _ _ _ T311 (mkF m 145 #[.val (.ref t), .val (.int (1 : Int32)), .val (.int d), .val (.int (2 : Int32)), .val (.int (3 : Int32)), .val (.ref D_b), .val (.int c2), .unset, .unset] [(.int (0 : Int32))])
        refine g_ifT S311.here hx (hb hby own_d440) 0 (by decide) (by show 0 = 0; decide) 298 (by decide) (by decide) ?_
        have u := own_u3 (c := c2) (by omega)
        refine g_aload S311.here hx (hb hby own_d441) rfl rfl 300 rfl ?_
        refine g_iloadN S311.here hx (hb hby own_d442) rfl 301 rfl ?_
        have ea312 := own_add1 (j := d) (by omega)
        refine g_iinc S311.here hx (hb hby own_d443) rfl #[.val (.ref t), .val (.int (1 : Int32)), .val (.int (d + (1 : Int32))), .val (.int (2 : Int32)), .val (.int (3 : Int32)), .val (.ref D_b), .val (.int c2), .unset, .unset] rfl 304 rfl ?_
        refine g_sipush S311.here hx (hb hby own_d444) (224 : Int32) (by decide) 307 rfl ?_
        refine g_iload S311.here hx (hb hby own_d445) rfl 309 rfl ?_
        refine g_bipush S311.here hx (hb hby own_d446) (12 : Int32) (by decide) 311 rfl ?_
        refine g_ishr S311.here hx (hb hby own_d447) 312 rfl ?_
        refine g_ior S311.here hx (hb hby own_d448) 313 rfl ?_
        refine g_i2b S311.here hx (hb hby own_d449) 314 rfl ?_
        have ej := own_clamp (j := d) (by omega)
        refine S311.stB hx D (d).toNatClampNeg ⟨own_nn (by omega), own_lt (by omega)⟩ rfl (by (try simp only [List.length_set]); omega) D_z safe_nil (hb hby own_d450) 315 rfl (fun T313 h313 S313 W313 D R313 => ?_)
        have B := B.other W313 nd
        have E := own_ext_wr E W313 D_g
        refine g_aload S313.here hx (hb hby own_d451) rfl rfl 317 rfl ?_
        refine g_iloadN S313.here hx (hb hby own_d452) rfl 318 rfl ?_
        have ea314 := own_add1 (j := (d + (1 : Int32))) (by omega)
        refine g_iinc S313.here hx (hb hby own_d453) rfl #[.val (.ref t), .val (.int (1 : Int32)), .val (.int ((d + (1 : Int32)) + (1 : Int32))), .val (.int (2 : Int32)), .val (.int (3 : Int32)), .val (.ref D_b), .val (.int c2), .unset, .unset] rfl 321 rfl ?_
        refine g_sipush S313.here hx (hb hby own_d454) (128 : Int32) (by decide) 324 rfl ?_
        refine g_iload S313.here hx (hb hby own_d455) rfl 326 rfl ?_
        refine g_bipush S313.here hx (hb hby own_d456) (6 : Int32) (by decide) 328 rfl ?_
        refine g_ishr S313.here hx (hb hby own_d457) 329 rfl ?_
        refine g_bipush S313.here hx (hb hby own_d458) (63 : Int32) (by decide) 331 rfl ?_
        refine g_iand S313.here hx (hb hby own_d459) 332 rfl ?_
        refine g_ior S313.here hx (hb hby own_d460) 333 rfl ?_
        refine g_i2b S313.here hx (hb hby own_d461) 334 rfl ?_
        have ej := own_clamp (j := (d + (1 : Int32))) (by omega)
        refine S313.stB hx D ((d + (1 : Int32))).toNatClampNeg ⟨own_nn (by omega), own_lt (by omega)⟩ rfl (by (try simp only [List.length_set]); omega) D_z safe_nil (hb hby own_d462) 335 rfl (fun T315 h315 S315 W315 D R315 => ?_)
        have B := B.other W315 nd
        have E := own_ext_wr E W315 D_g
        refine g_aload S315.here hx (hb hby own_d463) rfl rfl 337 rfl ?_
        refine g_iloadN S315.here hx (hb hby own_d464) rfl 338 rfl ?_
        have ea316 := own_add1 (j := ((d + (1 : Int32)) + (1 : Int32))) (by omega)
        refine g_iinc S315.here hx (hb hby own_d465) rfl #[.val (.ref t), .val (.int (1 : Int32)), .val (.int (((d + (1 : Int32)) + (1 : Int32)) + (1 : Int32))), .val (.int (2 : Int32)), .val (.int (3 : Int32)), .val (.ref D_b), .val (.int c2), .unset, .unset] rfl 341 rfl ?_
        refine g_sipush S315.here hx (hb hby own_d466) (128 : Int32) (by decide) 344 rfl ?_
        refine g_iload S315.here hx (hb hby own_d467) rfl 346 rfl ?_
        refine g_bipush S315.here hx (hb hby own_d468) (63 : Int32) (by decide) 348 rfl ?_
        refine g_iand S315.here hx (hb hby own_d469) 349 rfl ?_
        refine g_ior S315.here hx (hb hby own_d470) 350 rfl ?_
        refine g_i2b S315.here hx (hb hby own_d471) 351 rfl ?_
        have ej := own_clamp (j := ((d + (1 : Int32)) + (1 : Int32))) (by omega)
        refine S315.stB hx D (((d + (1 : Int32)) + (1 : Int32))).toNatClampNeg ⟨own_nn (by omega), own_lt (by omega)⟩ rfl (by (try simp only [List.length_set]); omega) D_z safe_nil (hb hby own_d472) 352 rfl (fun T317 h317 S317 W317 D R317 => ?_)
        have B := B.other W317 nd
        have E := own_ext_wr E W317 D_g
        refine g_goto S317.here hx (hb hby own_d473) 58 (by decide) (by decide) ?_
        exact head2 _ _ _ _ _ _ _ (One.val rfl) (by first | exact hl | (simp only [List.length_set]; exact hl)) S317 B D E (by omega)
      · have u := own_u2 (c := c2) (by omega) (by omega)
        refine g_aload S310.here hx (hb hby own_d474) rfl rfl 105 rfl ?_
        refine g_iloadN S310.here hx (hb hby own_d475) rfl 106 rfl ?_
        have ea318 := own_add1 (j := d) (by omega)
        refine g_iinc S310.here hx (hb hby own_d476) rfl #[.val (.ref t), .val (.int (1 : Int32)), .val (.int (d + (1 : Int32))), .val (.int (2 : Int32)), .val (.int (3 : Int32)), .val (.ref D_b), .val (.int c2), .unset, .unset] rfl 109 rfl ?_
        refine g_sipush S310.here hx (hb hby own_d477) (192 : Int32) (by decide) 112 rfl ?_
        refine g_iload S310.here hx (hb hby own_d478) rfl 114 rfl ?_
        refine g_bipush S310.here hx (hb hby own_d479) (6 : Int32) (by decide) 116 rfl ?_
        refine g_ishr S310.here hx (hb hby own_d480) 117 rfl ?_
        refine g_ior S310.here hx (hb hby own_d481) 118 rfl ?_
        refine g_i2b S310.here hx (hb hby own_d482) 119 rfl ?_
        have ej := own_clamp (j := d) (by omega)
        refine S310.stB hx D (d).toNatClampNeg ⟨own_nn (by omega), own_lt (by omega)⟩ rfl (by (try simp only [List.length_set]); omega) D_z safe_nil (hb hby own_d483) 120 rfl (fun T319 h319 S319 W319 D R319 => ?_)
        have B := B.other W319 nd
        have E := own_ext_wr E W319 D_g
        refine g_aload S319.here hx (hb hby own_d484) rfl rfl 122 rfl ?_
        refine g_iloadN S319.here hx (hb hby own_d485) rfl 123 rfl ?_
        have ea320 := own_add1 (j := (d + (1 : Int32))) (by omega)
        refine g_iinc S319.here hx (hb hby own_d486) rfl #[.val (.ref t), .val (.int (1 : Int32)), .val (.int ((d + (1 : Int32)) + (1 : Int32))), .val (.int (2 : Int32)), .val (.int (3 : Int32)), .val (.ref D_b), .val (.int c2), .unset, .unset] rfl 126 rfl ?_
        refine g_sipush S319.here hx (hb hby own_d487) (128 : Int32) (by decide) 129 rfl ?_
        refine g_iload S319.here hx (hb hby own_d488) rfl 131 rfl ?_
        refine g_bipush S319.here hx (hb hby own_d489) (63 : Int32) (by decide) 133 rfl ?_
        refine g_iand S319.here hx (hb hby own_d490) 134 rfl ?_
        refine g_ior S319.here hx (hb hby own_d491) 135 rfl ?_
        refine g_i2b S319.here hx (hb hby own_d492) 136 rfl ?_
        have ej := own_clamp (j := (d + (1 : Int32))) (by omega)
        refine S319.stB hx D ((d + (1 : Int32))).toNatClampNeg ⟨own_nn (by omega), own_lt (by omega)⟩ rfl (by (try simp only [List.length_set]); omega) D_z safe_nil (hb hby own_d493) 137 rfl (fun T321 h321 S321 W321 D R321 => ?_)
        have B := B.other W321 nd
        have E := own_ext_wr E W321 D_g
        refine g_goto S321.here hx (hb hby own_d494) 352 (by decide) (by decide) ?_
        refine g_goto S321.here hx (hb hby own_d473) 58 (by decide) (by decide) ?_
        exact head2 _ _ _ _ _ _ _ (One.val rfl) (by first | exact hl | (simp only [List.length_set]; exact hl)) S321 B D E (by omega)
    · have u := own_u1 (c := c2) (by omega)
      refine g_aload S310.here hx (hb hby own_d495) rfl rfl 84 rfl ?_
      refine g_iloadN S310.here hx (hb hby own_d496) rfl 85 rfl ?_
      have ea322 := own_add1 (j := d) (by omega)
      refine g_iinc S310.here hx (hb hby own_d497) rfl #[.val (.ref t), .val (.int (1 : Int32)), .val (.int (d + (1 : Int32))), .val (.int (2 : Int32)), .val (.int (3 : Int32)), .val (.ref D_b), .val (.int c2), .unset, .unset] rfl 88 rfl ?_
      refine g_iload S310.here hx (hb hby own_d498) rfl 90 rfl ?_
      refine g_i2b S310.here hx (hb hby own_d499) 91 rfl ?_
      have ej := own_clamp (j := d) (by omega)
      refine S310.stB hx D (d).toNatClampNeg ⟨own_nn (by omega), own_lt (by omega)⟩ rfl (by (try simp only [List.length_set]); omega) D_z safe_nil (hb hby own_d500) 92 rfl (fun T323 h323 S323 W323 D R323 => ?_)
      have B := B.other W323 nd
      have E := own_ext_wr E W323 D_g
      refine g_goto S323.here hx (hb hby own_d501) 352 (by decide) (by decide) ?_
      refine g_goto S323.here hx (hb hby own_d473) 58 (by decide) (by decide) ?_
      exact head2 _ _ _ _ _ _ _ (One.val rfl) (by first | exact hl | (simp only [List.length_set]; exact hl)) S323 B D E (by omega)
  have head0 : ∀ (vm : Vm) (T : State) (h1 : Heap) (d : Int32) (w6 : Slot) (kd : ClassId) (vs : List Value), One w6 → vs.length = 9 → St 0 p l e ({ frames := 2, cells := 2, slots := 18, locals := 60 } : Room) s m #[(.ref t), (.int (1 : Int32))] below meth c "java/lang/String" Z [] vm T h1 1 9 → Arv Z h1 t kt .byte (6 : Int32) [.int (StrChars.lo8 c1), .int (StrChars.hi8 c1), .int (StrChars.lo8 c2), .int (StrChars.hi8 c2), .int (StrChars.lo8 c3), .int (StrChars.hi8 c3)] (.int 0) → Arv Z h1 D_b kd .byte (9 : Int32) vs (.int 0) → Ext h h1 → d.toInt = (0) → Goes p.tables e below (Pof 0 Z [] s ({ frames := 2, cells := 2, slots := 18, locals := 60 } : Room) (fun v h' => ∃ t : Addr, v = some (.ref t) ∧ Ext h h' ∧ own_enc Z h' t (own_us [c1, c2, c3]))) T (mkF m 58 #[.val (.ref t), .val (.int (1 : Int32)), .val (.int d), .val (.int (0 : Int32)), .val (.int (3 : Int32)), .val (.ref D_b), w6, .unset, .unset] []) := by
    intro vm T h1 d w6 kd vs hw6 hl S1 B D E hd
    have z3 : (9 : Int32).toInt = 9 := by decide
    have ub1 := own_ub c1
    have ub2 := own_ub c2
    have ub3 := own_ub c3
    refine g_iloadN S1.here hx (hb hby own_d413) rfl 59 rfl ?_
    refine g_iload S1.here hx (hb hby own_d414) rfl 61 rfl ?_
    refine g_icmpF S1.here hx (hb hby own_d415) 0 3 (by decide) (by decide) (by show ¬ (3 ≤ 0); decide) 64 rfl ?_
    refine g_aloadN S1.here hx (hb hby own_d426) rfl rfl 65 rfl ?_
    refine g_iloadN S1.here hx (hb hby own_d427) rfl 66 rfl ?_
    refine g_iinc S1.here hx (hb hby own_d428) rfl #[.val (.ref t), .val (.int (1 : Int32)), .val (.int d), .val (.int (1 : Int32)), .val (.int (3 : Int32)), .val (.ref D_b), w6, .unset, .unset] (by rw [show (0 : Int32) + Int32.ofInt 1 = (1 : Int32) from by decide]; rfl) 69 rfl ?_
    refine S1.callS hx (W := 0) (own_q144 hw) (own_q139 hw) (own_q29 hw) (own_q140 hw) (by decide) (ctGC30 l Z a0 hw t kt c1 _ h1 S1.old H k1 B rfl rfl) nosf (by decide) (by decide) (by rw [hml]; rfl) [(.ref t), (.int (0 : Int32))] [] (lenOf own_pd138 rfl) rfl rfl (Nat.le_refl _) (hb hby own_d429) (by decide) (by decide) 72 rfl (fun v324 vm324 T324 h324 S324 Q324 R324 => ?_)
    obtain ⟨rfl, rfl⟩ := Q324
    show Goes _ _ _ _ T324 (mkF m 72 #[.val (.ref t), .val (.int (1 : Int32)), .val (.int d), .val (.int (1 : Int32)), .val (.int (3 : Int32)), .val (.ref D_b), w6, .unset, .unset] [(.int c1)])
    refine g_istore S324.here hx (hb hby own_d430) #[.val (.ref t), .val (.int (1 : Int32)), .val (.int d), .val (.int (1 : Int32)), .val (.int (3 : Int32)), .val (.ref D_b), .val (.int c1), .unset, .unset] (by rw [XS.store1 (o := w6) rfl hw6 rfl]; rfl) 74 rfl ?_
    refine g_iload S324.here hx (hb hby own_d431) rfl 76 rfl ?_
    refine g_sipush S324.here hx (hb hby own_d432) (128 : Int32) (by decide) 79 rfl ?_
    refine g_icmp S324.here hx (hb hby own_d433) c1.toInt 128 rfl (by decide) 95 82 (by decide) (by decide) rfl (fun (hc79 : 128 ≤ c1.toInt) => ?_) (fun (hc79 : ¬ (128 ≤ c1.toInt)) => ?_)
    · refine g_iload S324.here hx (hb hby own_d434) rfl 97 rfl ?_
      refine g_sipush S324.here hx (hb hby own_d435) (2048 : Int32) (by decide) 100 rfl ?_
      refine g_icmp S324.here hx (hb hby own_d436) c1.toInt 2048 rfl (by decide) 140 103 (by decide) (by decide) rfl (fun (hc100 : 2048 ≤ c1.toInt) => ?_) (fun (hc100 : ¬ (2048 ≤ c1.toInt)) => ?_)
      · refine g_iload S324.here hx (hb hby own_d437) rfl 142 rfl ?_
        refine S324.callS hx (W := 0) (own_q145 hw) (own_q146 hw) (own_q147 hw) (own_q148 hw) (by decide) (ctSu l Z a0 hw c1 h1 S324.old (by omega)) nosf (by decide) (by decide) (by rw [hml]; rfl) [(.int c1)] [] (lenOf own_pd439 rfl) rfl rfl (Nat.le_refl _) (hb hby own_d438) (by decide) (by decide) 145 rfl (fun v325 vm325 T325 h325 S325 Q325 R325 => ?_)
        obtain ⟨rfl, rfl⟩ := Q325
        show Goes _ _ _ _ T325 (mkF m 145 #[.val (.ref t), .val (.int (1 : Int32)), .val (.int d), .val (.int (1 : Int32)), .val (.int (3 : Int32)), .val (.ref D_b), .val (.int c1), .unset, .unset] [(.int (0 : Int32))])
        refine g_ifT S325.here hx (hb hby own_d440) 0 (by decide) (by show 0 = 0; decide) 298 (by decide) (by decide) ?_
        have u := own_u3 (c := c1) (by omega)
        refine g_aload S325.here hx (hb hby own_d441) rfl rfl 300 rfl ?_
        refine g_iloadN S325.here hx (hb hby own_d442) rfl 301 rfl ?_
        have ea326 := own_add1 (j := d) (by omega)
        refine g_iinc S325.here hx (hb hby own_d443) rfl #[.val (.ref t), .val (.int (1 : Int32)), .val (.int (d + (1 : Int32))), .val (.int (1 : Int32)), .val (.int (3 : Int32)), .val (.ref D_b), .val (.int c1), .unset, .unset] rfl 304 rfl ?_
        refine g_sipush S325.here hx (hb hby own_d444) (224 : Int32) (by decide) 307 rfl ?_
        refine g_iload S325.here hx (hb hby own_d445) rfl 309 rfl ?_
        refine g_bipush S325.here hx (hb hby own_d446) (12 : Int32) (by decide) 311 rfl ?_
        refine g_ishr S325.here hx (hb hby own_d447) 312 rfl ?_
        refine g_ior S325.here hx (hb hby own_d448) 313 rfl ?_
        refine g_i2b S325.here hx (hb hby own_d449) 314 rfl ?_
        have ej := own_clamp (j := d) (by omega)
        refine S325.stB hx D (d).toNatClampNeg ⟨own_nn (by omega), own_lt (by omega)⟩ rfl (by (try simp only [List.length_set]); omega) D_z safe_nil (hb hby own_d450) 315 rfl (fun T327 h327 S327 W327 D R327 => ?_)
        have B := B.other W327 nd
        have E := own_ext_wr E W327 D_g
        refine g_aload S327.here hx (hb hby own_d451) rfl rfl 317 rfl ?_
        refine g_iloadN S327.here hx (hb hby own_d452) rfl 318 rfl ?_
        have ea328 := own_add1 (j := (d + (1 : Int32))) (by omega)
        refine g_iinc S327.here hx (hb hby own_d453) rfl #[.val (.ref t), .val (.int (1 : Int32)), .val (.int ((d + (1 : Int32)) + (1 : Int32))), .val (.int (1 : Int32)), .val (.int (3 : Int32)), .val (.ref D_b), .val (.int c1), .unset, .unset] rfl 321 rfl ?_
        refine g_sipush S327.here hx (hb hby own_d454) (128 : Int32) (by decide) 324 rfl ?_
        refine g_iload S327.here hx (hb hby own_d455) rfl 326 rfl ?_
        refine g_bipush S327.here hx (hb hby own_d456) (6 : Int32) (by decide) 328 rfl ?_
        refine g_ishr S327.here hx (hb hby own_d457) 329 rfl ?_
        refine g_bipush S327.here hx (hb hby own_d458) (63 : Int32) (by decide) 331 rfl ?_
        refine g_iand S327.here hx (hb hby own_d459) 332 rfl ?_
        refine g_ior S327.here hx (hb hby own_d460) 333 rfl ?_
        refine g_i2b S327.here hx (hb hby own_d461) 334 rfl ?_
        have ej := own_clamp (j := (d + (1 : Int32))) (by omega)
        refine S327.stB hx D ((d + (1 : Int32))).toNatClampNeg ⟨own_nn (by omega), own_lt (by omega)⟩ rfl (by (try simp only [List.length_set]); omega) D_z safe_nil (hb hby own_d462) 335 rfl (fun T329 h329 S329 W329 D R329 => ?_)
        have B := B.other W329 nd
        have E := own_ext_wr E W329 D_g
        refine g_aload S329.here hx (hb hby own_d463) rfl rfl 337 rfl ?_
        refine g_iloadN S329.here hx (hb hby own_d464) rfl 338 rfl ?_
        have ea330 := own_add1 (j := ((d + (1 : Int32)) + (1 : Int32))) (by omega)
        refine g_iinc S329.here hx (hb hby own_d465) rfl #[.val (.ref t), .val (.int (1 : Int32)), .val (.int (((d + (1 : Int32)) + (1 : Int32)) + (1 : Int32))), .val (.int (1 : Int32)), .val (.int (3 : Int32)), .val (.ref D_b), .val (.int c1), .unset, .unset] rfl 341 rfl ?_
        refine g_sipush S329.here hx (hb hby own_d466) (128 : Int32) (by decide) 344 rfl ?_
        refine g_iload S329.here hx (hb hby own_d467) rfl 346 rfl ?_
        refine g_bipush S329.here hx (hb hby own_d468) (63 : Int32) (by decide) 348 rfl ?_
        refine g_iand S329.here hx (hb hby own_d469) 349 rfl ?_
        refine g_ior S329.here hx (hb hby own_d470) 350 rfl ?_
        refine g_i2b S329.here hx (hb hby own_d471) 351 rfl ?_
        have ej := own_clamp (j := ((d + (1 : Int32)) + (1 : Int32))) (by omega)
        refine S329.stB hx D (((d + (1 : Int32)) + (1 : Int32))).toNatClampNeg ⟨own_nn (by omega), own_lt (by omega)⟩ rfl (by (try simp only [List.length_set]); omega) D_z safe_nil (hb hby own_d472) 352 rfl (fun T331 h331 S331 W331 D R331 => ?_)
        have B := B.other W331 nd
        have E := own_ext_wr E W331 D_g
        refine g_goto S331.here hx (hb hby own_d473) 58 (by decide) (by decide) ?_
        exact head1 _ _ _ _ _ _ _ (One.val rfl) (by first | exact hl | (simp only [List.length_set]; exact hl)) S331 B D E (by omega)
      · have u := own_u2 (c := c1) (by omega) (by omega)
        refine g_aload S324.here hx (hb hby own_d474) rfl rfl 105 rfl ?_
        refine g_iloadN S324.here hx (hb hby own_d475) rfl 106 rfl ?_
        have ea332 := own_add1 (j := d) (by omega)
        refine g_iinc S324.here hx (hb hby own_d476) rfl #[.val (.ref t), .val (.int (1 : Int32)), .val (.int (d + (1 : Int32))), .val (.int (1 : Int32)), .val (.int (3 : Int32)), .val (.ref D_b), .val (.int c1), .unset, .unset] rfl 109 rfl ?_
        refine g_sipush S324.here hx (hb hby own_d477) (192 : Int32) (by decide) 112 rfl ?_
        refine g_iload S324.here hx (hb hby own_d478) rfl 114 rfl ?_
        refine g_bipush S324.here hx (hb hby own_d479) (6 : Int32) (by decide) 116 rfl ?_
        refine g_ishr S324.here hx (hb hby own_d480) 117 rfl ?_
        refine g_ior S324.here hx (hb hby own_d481) 118 rfl ?_
        refine g_i2b S324.here hx (hb hby own_d482) 119 rfl ?_
        have ej := own_clamp (j := d) (by omega)
        refine S324.stB hx D (d).toNatClampNeg ⟨own_nn (by omega), own_lt (by omega)⟩ rfl (by (try simp only [List.length_set]); omega) D_z safe_nil (hb hby own_d483) 120 rfl (fun T333 h333 S333 W333 D R333 => ?_)
        have B := B.other W333 nd
        have E := own_ext_wr E W333 D_g
        refine g_aload S333.here hx (hb hby own_d484) rfl rfl 122 rfl ?_
        refine g_iloadN S333.here hx (hb hby own_d485) rfl 123 rfl ?_
        have ea334 := own_add1 (j := (d + (1 : Int32))) (by omega)
        refine g_iinc S333.here hx (hb hby own_d486) rfl #[.val (.ref t), .val (.int (1 : Int32)), .val (.int ((d + (1 : Int32)) + (1 : Int32))), .val (.int (1 : Int32)), .val (.int (3 : Int32)), .val (.ref D_b), .val (.int c1), .unset, .unset] rfl 126 rfl ?_
        refine g_sipush S333.here hx (hb hby own_d487) (128 : Int32) (by decide) 129 rfl ?_
        refine g_iload S333.here hx (hb hby own_d488) rfl 131 rfl ?_
        refine g_bipush S333.here hx (hb hby own_d489) (63 : Int32) (by decide) 133 rfl ?_
        refine g_iand S333.here hx (hb hby own_d490) 134 rfl ?_
        refine g_ior S333.here hx (hb hby own_d491) 135 rfl ?_
        refine g_i2b S333.here hx (hb hby own_d492) 136 rfl ?_
        have ej := own_clamp (j := (d + (1 : Int32))) (by omega)
        refine S333.stB hx D ((d + (1 : Int32))).toNatClampNeg ⟨own_nn (by omega), own_lt (by omega)⟩ rfl (by (try simp only [List.length_set]); omega) D_z safe_nil (hb hby own_d493) 137 rfl (fun T335 h335 S335 W335 D R335 => ?_)
        have B := B.other W335 nd
        have E := own_ext_wr E W335 D_g
        refine g_goto S335.here hx (hb hby own_d494) 352 (by decide) (by decide) ?_
        refine g_goto S335.here hx (hb hby own_d473) 58 (by decide) (by decide) ?_
        exact head1 _ _ _ _ _ _ _ (One.val rfl) (by first | exact hl | (simp only [List.length_set]; exact hl)) S335 B D E (by omega)
    · have u := own_u1 (c := c1) (by omega)
      refine g_aload S324.here hx (hb hby own_d495) rfl rfl 84 rfl ?_
      refine g_iloadN S324.here hx (hb hby own_d496) rfl 85 rfl ?_
      have ea336 := own_add1 (j := d) (by omega)
      refine g_iinc S324.here hx (hb hby own_d497) rfl #[.val (.ref t), .val (.int (1 : Int32)), .val (.int (d + (1 : Int32))), .val (.int (1 : Int32)), .val (.int (3 : Int32)), .val (.ref D_b), .val (.int c1), .unset, .unset] rfl 88 rfl ?_
      refine g_iload S324.here hx (hb hby own_d498) rfl 90 rfl ?_
      refine g_i2b S324.here hx (hb hby own_d499) 91 rfl ?_
      have ej := own_clamp (j := d) (by omega)
      refine S324.stB hx D (d).toNatClampNeg ⟨own_nn (by omega), own_lt (by omega)⟩ rfl (by (try simp only [List.length_set]); omega) D_z safe_nil (hb hby own_d500) 92 rfl (fun T337 h337 S337 W337 D R337 => ?_)
      have B := B.other W337 nd
      have E := own_ext_wr E W337 D_g
      refine g_goto S337.here hx (hb hby own_d501) 352 (by decide) (by decide) ?_
      refine g_goto S337.here hx (hb hby own_d473) 58 (by decide) (by decide) ?_
      exact head1 _ _ _ _ _ _ _ (One.val rfl) (by first | exact hl | (simp only [List.length_set]; exact hl)) S337 B D E (by omega)
  refine g_iloadN S294.here hx (hb hby own_d502) rfl 19 rfl ?_
  refine g_iload S294.here hx (hb hby own_d503) rfl 21 rfl ?_
  refine g_icmpF S294.here hx (hb hby own_d504) 0 3 (by decide) (by decide) (by show ¬ (3 ≤ 0); decide) 24 rfl ?_
  refine g_aloadN S294.here hx (hb hby own_d505) rfl rfl 25 rfl ?_
  refine g_iloadN S294.here hx (hb hby own_d506) rfl 26 rfl ?_
  refine S294.callS hx (W := 0) (own_q144 hw) (own_q139 hw) (own_q29 hw) (own_q140 hw) (by decide) (ctGC30 l Z a0 hw t kt c1 _ h294 S294.old H k1 B rfl rfl) nosf (by decide) (by decide) (by rw [hml]; rfl) [(.ref t), (.int (0 : Int32))] [] (lenOf own_pd138 rfl) rfl rfl (Nat.le_refl _) (hb hby own_d507) (by decide) (by decide) 29 rfl (fun v338 vm338 T338 h338 S338 Q338 R338 => ?_)
  obtain ⟨rfl, rfl⟩ := Q338
  show Goes _ _ _ _ T338 (mkF m 29 #[.val (.ref t), .val (.int (1 : Int32)), .val (.int (0 : Int32)), .val (.int (0 : Int32)), .val (.int (3 : Int32)), .val (.ref D_b), .unset, .unset, .unset] [(.int c1)])
  refine g_istore S338.here hx (hb hby own_d508) #[.val (.ref t), .val (.int (1 : Int32)), .val (.int (0 : Int32)), .val (.int (0 : Int32)), .val (.int (3 : Int32)), .val (.ref D_b), .val (.int c1), .unset, .unset] rfl 31 rfl ?_
  refine g_iload S338.here hx (hb hby own_d509) rfl 33 rfl ?_
  refine g_sipush S338.here hx (hb hby own_d510) (128 : Int32) (by decide) 36 rfl ?_
  refine g_icmp S338.here hx (hb hby own_d511) c1.toInt 128 rfl (by decide) 42 39 (by decide) (by decide) rfl (fun (hc36 : c1.toInt < 128) => ?_) (fun (hc36 : ¬ (c1.toInt < 128)) => ?_)
  · refine g_aload S338.here hx (hb hby own_d512) rfl rfl 44 rfl ?_
    refine g_iloadN S338.here hx (hb hby own_d513) rfl 45 rfl ?_
    refine g_iinc S338.here hx (hb hby own_d514) rfl #[.val (.ref t), .val (.int (1 : Int32)), .val (.int (1 : Int32)), .val (.int (0 : Int32)), .val (.int (3 : Int32)), .val (.ref D_b), .val (.int c1), .unset, .unset] (by rw [show (0 : Int32) + Int32.ofInt 1 = (1 : Int32) from by decide]; rfl) 48 rfl ?_
    refine g_iload S338.here hx (hb hby own_d515) rfl 50 rfl ?_
    refine g_i2b S338.here hx (hb hby own_d516) 51 rfl ?_
    refine S338.stB hx D 0 ⟨by decide, by decide⟩ (by decide) (by simp) D_z safe_nil (hb hby own_d517) 52 rfl (fun T339 h339 S339 W339 D R339 => ?_)
    have B := B.other W339 nd
    have E := own_ext_wr E W339 D_g
    refine g_iinc S339.here hx (hb hby own_d518) rfl #[.val (.ref t), .val (.int (1 : Int32)), .val (.int (1 : Int32)), .val (.int (1 : Int32)), .val (.int (3 : Int32)), .val (.ref D_b), .val (.int c1), .unset, .unset] (by rw [show (0 : Int32) + Int32.ofInt 1 = (1 : Int32) from by decide]; rfl) 55 rfl ?_
    refine g_goto S339.here hx (hb hby own_d519) 18 (by decide) (by decide) ?_
    refine g_iloadN S339.here hx (hb hby own_d502) rfl 19 rfl ?_
    refine g_iload S339.here hx (hb hby own_d503) rfl 21 rfl ?_
    refine g_icmpF S339.here hx (hb hby own_d504) 1 3 (by decide) (by decide) (by show ¬ (3 ≤ 1); decide) 24 rfl ?_
    refine g_aloadN S339.here hx (hb hby own_d505) rfl rfl 25 rfl ?_
    refine g_iloadN S339.here hx (hb hby own_d506) rfl 26 rfl ?_
    refine S339.callS hx (W := 0) (own_q144 hw) (own_q139 hw) (own_q29 hw) (own_q140 hw) (by decide) (ctGC31 l Z a0 hw t kt c2 _ h339 S339.old H k2 B rfl rfl) nosf (by decide) (by decide) (by rw [hml]; rfl) [(.ref t), (.int (1 : Int32))] [] (lenOf own_pd138 rfl) rfl rfl (Nat.le_refl _) (hb hby own_d507) (by decide) (by decide) 29 rfl (fun v340 vm340 T340 h340 S340 Q340 R340 => ?_)
    obtain ⟨rfl, rfl⟩ := Q340
    show Goes _ _ _ _ T340 (mkF m 29 #[.val (.ref t), .val (.int (1 : Int32)), .val (.int (1 : Int32)), .val (.int (1 : Int32)), .val (.int (3 : Int32)), .val (.ref D_b), .val (.int c1), .unset, .unset] [(.int c2)])
    refine g_istore S340.here hx (hb hby own_d508) #[.val (.ref t), .val (.int (1 : Int32)), .val (.int (1 : Int32)), .val (.int (1 : Int32)), .val (.int (3 : Int32)), .val (.ref D_b), .val (.int c2), .unset, .unset] rfl 31 rfl ?_
    refine g_iload S340.here hx (hb hby own_d509) rfl 33 rfl ?_
    refine g_sipush S340.here hx (hb hby own_d510) (128 : Int32) (by decide) 36 rfl ?_
    refine g_icmp S340.here hx (hb hby own_d511) c2.toInt 128 rfl (by decide) 42 39 (by decide) (by decide) rfl (fun (hc36 : c2.toInt < 128) => ?_) (fun (hc36 : ¬ (c2.toInt < 128)) => ?_)
    · refine g_aload S340.here hx (hb hby own_d512) rfl rfl 44 rfl ?_
      refine g_iloadN S340.here hx (hb hby own_d513) rfl 45 rfl ?_
      refine g_iinc S340.here hx (hb hby own_d514) rfl #[.val (.ref t), .val (.int (1 : Int32)), .val (.int (2 : Int32)), .val (.int (1 : Int32)), .val (.int (3 : Int32)), .val (.ref D_b), .val (.int c2), .unset, .unset] (by rw [show (1 : Int32) + Int32.ofInt 1 = (2 : Int32) from by decide]; rfl) 48 rfl ?_
      refine g_iload S340.here hx (hb hby own_d515) rfl 50 rfl ?_
      refine g_i2b S340.here hx (hb hby own_d516) 51 rfl ?_
      refine S340.stB hx D 1 ⟨by decide, by decide⟩ (by decide) (by simp) D_z safe_nil (hb hby own_d517) 52 rfl (fun T341 h341 S341 W341 D R341 => ?_)
      have B := B.other W341 nd
      have E := own_ext_wr E W341 D_g
      refine g_iinc S341.here hx (hb hby own_d518) rfl #[.val (.ref t), .val (.int (1 : Int32)), .val (.int (2 : Int32)), .val (.int (2 : Int32)), .val (.int (3 : Int32)), .val (.ref D_b), .val (.int c2), .unset, .unset] (by rw [show (1 : Int32) + Int32.ofInt 1 = (2 : Int32) from by decide]; rfl) 55 rfl ?_
      refine g_goto S341.here hx (hb hby own_d519) 18 (by decide) (by decide) ?_
      refine g_iloadN S341.here hx (hb hby own_d502) rfl 19 rfl ?_
      refine g_iload S341.here hx (hb hby own_d503) rfl 21 rfl ?_
      refine g_icmpF S341.here hx (hb hby own_d504) 2 3 (by decide) (by decide) (by show ¬ (3 ≤ 2); decide) 24 rfl ?_
      refine g_aloadN S341.here hx (hb hby own_d505) rfl rfl 25 rfl ?_
      refine g_iloadN S341.here hx (hb hby own_d506) rfl 26 rfl ?_
      refine S341.callS hx (W := 0) (own_q144 hw) (own_q139 hw) (own_q29 hw) (own_q140 hw) (by decide) (ctGC32 l Z a0 hw t kt c3 _ h341 S341.old H k3 B rfl rfl) nosf (by decide) (by decide) (by rw [hml]; rfl) [(.ref t), (.int (2 : Int32))] [] (lenOf own_pd138 rfl) rfl rfl (Nat.le_refl _) (hb hby own_d507) (by decide) (by decide) 29 rfl (fun v342 vm342 T342 h342 S342 Q342 R342 => ?_)
      obtain ⟨rfl, rfl⟩ := Q342
      show Goes _ _ _ _ T342 (mkF m 29 #[.val (.ref t), .val (.int (1 : Int32)), .val (.int (2 : Int32)), .val (.int (2 : Int32)), .val (.int (3 : Int32)), .val (.ref D_b), .val (.int c2), .unset, .unset] [(.int c3)])
      refine g_istore S342.here hx (hb hby own_d508) #[.val (.ref t), .val (.int (1 : Int32)), .val (.int (2 : Int32)), .val (.int (2 : Int32)), .val (.int (3 : Int32)), .val (.ref D_b), .val (.int c3), .unset, .unset] rfl 31 rfl ?_
      refine g_iload S342.here hx (hb hby own_d509) rfl 33 rfl ?_
      refine g_sipush S342.here hx (hb hby own_d510) (128 : Int32) (by decide) 36 rfl ?_
      refine g_icmp S342.here hx (hb hby own_d511) c3.toInt 128 rfl (by decide) 42 39 (by decide) (by decide) rfl (fun (hc36 : c3.toInt < 128) => ?_) (fun (hc36 : ¬ (c3.toInt < 128)) => ?_)
      · refine g_aload S342.here hx (hb hby own_d512) rfl rfl 44 rfl ?_
        refine g_iloadN S342.here hx (hb hby own_d513) rfl 45 rfl ?_
        refine g_iinc S342.here hx (hb hby own_d514) rfl #[.val (.ref t), .val (.int (1 : Int32)), .val (.int (3 : Int32)), .val (.int (2 : Int32)), .val (.int (3 : Int32)), .val (.ref D_b), .val (.int c3), .unset, .unset] (by rw [show (2 : Int32) + Int32.ofInt 1 = (3 : Int32) from by decide]; rfl) 48 rfl ?_
        refine g_iload S342.here hx (hb hby own_d515) rfl 50 rfl ?_
        refine g_i2b S342.here hx (hb hby own_d516) 51 rfl ?_
        refine S342.stB hx D 2 ⟨by decide, by decide⟩ (by decide) (by simp) D_z safe_nil (hb hby own_d517) 52 rfl (fun T343 h343 S343 W343 D R343 => ?_)
        have B := B.other W343 nd
        have E := own_ext_wr E W343 D_g
        refine g_iinc S343.here hx (hb hby own_d518) rfl #[.val (.ref t), .val (.int (1 : Int32)), .val (.int (3 : Int32)), .val (.int (3 : Int32)), .val (.int (3 : Int32)), .val (.ref D_b), .val (.int c3), .unset, .unset] (by rw [show (2 : Int32) + Int32.ofInt 1 = (3 : Int32) from by decide]; rfl) 55 rfl ?_
        refine g_goto S343.here hx (hb hby own_d519) 18 (by decide) (by decide) ?_
        refine g_iloadN S343.here hx (hb hby own_d502) rfl 19 rfl ?_
        refine g_iload S343.here hx (hb hby own_d503) rfl 21 rfl ?_
        refine g_icmpT S343.here hx (hb hby own_d504) 3 3 (by decide) (by decide) (by show 3 ≤ 3; decide) 58 (by decide) (by decide) ?_
        exact head3 _ _ _ _ _ _ _ (One.val rfl) (by first | rfl | (simp only [List.length_set]; rfl)) S343 B D E (by have u1 := own_u1 (c := c1) (by omega); have u2 := own_u1 (c := c2) (by omega); have u3 := own_u1 (c := c3) (by omega); rw [u1, u2, u3]; decide)
      · refine g_goto S342.here hx (hb hby own_d520) 58 (by decide) (by decide) ?_
        exact head2 _ _ _ _ _ _ _ (One.val rfl) (by first | rfl | (simp only [List.length_set]; rfl)) S342 B D E (by have u1 := own_u1 (c := c1) (by omega); have u2 := own_u1 (c := c2) (by omega); rw [u1, u2]; decide)
    · refine g_goto S340.here hx (hb hby own_d520) 58 (by decide) (by decide) ?_
      exact head1 _ _ _ _ _ _ _ (One.val rfl) (by first | rfl | (simp only [List.length_set]; rfl)) S340 B D E (by have u1 := own_u1 (c := c1) (by omega); rw [u1]; decide)
  · refine g_goto S338.here hx (hb hby own_d520) 58 (by decide) (by decide) ?_
    exact head0 _ _ _ _ _ _ _ (One.val rfl) (by first | rfl | (simp only [List.length_set]; rfl)) S338 B D E (by decide)
set_option maxRecDepth 65536 in
set_option maxHeartbeats 40000000 in
theorem ctE83 (l : Launch) (Z : State) (a0 : Array Value) (hw : ∀ d ∈ tables_1, d.before a0 Z = true) (t : Addr) (kt : ClassId) (c1 c2 c3 : Int32) (h : Heap) (O : Old Z Z.heap.size h) (H : own_h16 Z) (k1 : 0 ≤ c1.toInt ∧ c1.toInt ≤ 32767) (k2 : 0 ≤ c2.toInt ∧ c2.toInt ≤ 32767) (k3 : 0 ≤ c3.toInt ∧ c3.toInt ≤ 32767) (B : Arv Z h t kt .byte (6 : Int32) [.int (StrChars.lo8 c1), .int (StrChars.hi8 c1), .int (StrChars.lo8 c2), .int (StrChars.hi8 c2), .int (StrChars.lo8 c3), .int (StrChars.hi8 c3)] (.int 0)) :
    Ct 0 l Z [] [] (⟨"java/lang/String", "encodeUTF8", "(B[BZ)[B"⟩ : MethodName) jdk_42_method_46_code 9 (some (.array .byte)) ({ frames := 3, cells := 2, slots := 18, locals := 80 } : Room) #[(.int (1 : Int32)), (.ref t), (.int (1 : Int32))] h (fun v h' => ∃ t : Addr, v = some (.ref t) ∧ Ext h h' ∧ own_enc Z h' t (own_us [c1, c2, c3])) := by
  refine Ct.intro (plainFor_of_name own_pn173) O (fun _ => rfl) ⟨a0, EW.nil⟩ ?_
  intro p e s m below meth c T0 hx hby hml hret hnm hlk hsf S0
  refine Goes.cast (own_ef287 m (1 : Int32) t (1 : Int32)) ?_
  refine g_iloadN S0.here hx (hb hby own_d288) rfl 1 rfl ?_
  refine g_iconst S0.here hx (hb hby own_d289) (1 : Int32) (by decide) 2 rfl ?_
  refine g_icmpF S0.here hx (hb hby own_d290) 1 1 (by decide) (by decide) (by show ¬ (¬ 1 = 1); decide) 5 rfl ?_
  refine g_aloadN S0.here hx (hb hby own_d521) rfl rfl 6 rfl ?_
  refine g_iloadN S0.here hx (hb hby own_d522) rfl 7 rfl ?_
  refine S0.callS hx (W := 0) (own_q141 hw) (own_q142 hw) (own_q15 hw) (own_q143 hw) (by decide) (ctEU3 l Z a0 hw t kt c1 c2 c3 h O H k1 k2 k3 B) nosf (by decide) (by decide) (by rw [hml]; rfl) [(.ref t), (.int (1 : Int32))] [] (lenOf own_pd524 rfl) rfl rfl (Nat.le_refl _) (hb hby own_d523) (by decide) (by decide) 10 rfl (fun v344 vm344 T344 h344 S344 Q344 R344 => ?_)
  obtain ⟨r, rfl, E, C⟩ := Q344
  show Goes _ _ _ _ T344 (mkF m 10 #[.val (.int (1 : Int32)), .val (.ref t), .val (.int (1 : Int32)), .unset, .unset, .unset, .unset, .unset, .unset] [(.ref r)])
  exact S344.aret hx hlk hret rfl rfl rfl (hb hby own_d525) ⟨r, rfl, E, C⟩ (by decide) (by decide)
set_option maxRecDepth 65536 in
set_option maxHeartbeats 40000000 in
theorem ctEn30 (l : Launch) (Z : State) (a0 : Array Value) (hw : ∀ d ∈ tables_1, d.before a0 Z = true) (u8 t : Addr) (kt : ClassId) (c1 c2 c3 : Int32) (h : Heap) (O : Old Z Z.heap.size h) (U : Sta Z Z.heap "sun/nio/cs/UTF_8" "INSTANCE" "Lsun/nio/cs/UTF_8;" (.ref u8)) (b1 : 0 ≤ c1.toInt ∧ c1.toInt ≤ 255) (b2 : 0 ≤ c2.toInt ∧ c2.toInt ≤ 255) (b3 : 0 ≤ c3.toInt ∧ c3.toInt ≤ 255) (B : Arv Z h t kt .byte (3 : Int32) [.int c1.toInt8.toInt32, .int c2.toInt8.toInt32, .int c3.toInt8.toInt32] (.int 0)) (X : Exa Z h t "[B") :
    Ct 0 l Z [] [] (⟨"java/lang/String", "encode", "(Ljava/nio/charset/Charset;B[B)[B"⟩ : MethodName) jdk_42_method_18_code 3 (some (.array .byte)) ({ frames := 4, cells := 2, slots := 18, locals := 100 } : Room) #[(.ref u8), (.int (0 : Int32)), (.ref t)] h (fun v h' => ∃ t : Addr, v = some (.ref t) ∧ Ext h h' ∧ own_enc Z h' t (own_us [c1, c2, c3])) := by
  refine Ct.intro (plainFor_of_name own_pn173) O (fun _ => rfl) ⟨a0, EW.nil⟩ ?_
  intro p e s m below meth c T0 hx hby hml hret hnm hlk hsf S0
  refine Goes.cast (own_ef302 m u8 (0 : Int32) t) ?_
  refine g_aloadN S0.here hx (hb hby own_d303) rfl rfl 1 rfl ?_
  refine S0.getS hx (host := "") (Or.inl (own_q76 hw)) Via.refl (U.ext O.2) (hb hby own_d304) 4 rfl (fun T345 S345 => ?_)
  refine S345.acmp hx (hb hby own_d305) rfl rfl true (decide_eq_true rfl) (by decide) 7 (by decide) ?_
  refine g_iloadN S345.here hx (hb hby own_d306) rfl 8 rfl ?_
  refine g_aloadN S345.here hx (hb hby own_d307) rfl rfl 9 rfl ?_
  refine g_iconst S345.here hx (hb hby own_d308) (1 : Int32) (by decide) 10 rfl ?_
  refine S345.callS hx (W := 0) (own_q78 hw) (own_q79 hw) (own_q15 hw) (own_q80 hw) (by decide) (ctEL3 l Z a0 hw t kt c1 c2 c3 h O b1 b2 b3 B X) nosf (by decide) (by decide) (by rw [hml]; rfl) [(.int (0 : Int32)), (.ref t), (.int (1 : Int32))] [] (lenOf own_pd310 rfl) rfl rfl (Nat.le_refl _) (hb hby own_d309) (by decide) (by decide) 13 rfl (fun v346 vm346 T346 h346 S346 Q346 R346 => ?_)
  obtain ⟨r, rfl, E, C⟩ := Q346
  show Goes _ _ _ _ T346 (mkF m 13 #[.val (.ref u8), .val (.int (0 : Int32)), .val (.ref t)] [(.ref r)])
  exact S346.aret hx hlk hret rfl rfl rfl (hb hby own_d311) ⟨r, rfl, E, C⟩ (by decide) (by decide)
set_option maxRecDepth 65536 in
set_option maxHeartbeats 40000000 in
theorem ctGB30 (l : Launch) (Z : State) (a0 : Array Value) (hw : ∀ d ∈ tables_1, d.before a0 Z = true) (x u8 t : Addr) (kt : ClassId) (c1 c2 c3 : Int32) (h : Heap) (O : Old Z Z.heap.size h) (G : own_cs Z) (fx : Exa Z h x "java/lang/String") (fv : Fld Z h x "java/lang/String" "value" "[B" (.ref t)) (fc : Fld Z h x "java/lang/String" "coder" "B" (.int 0)) (U : Sta Z Z.heap "sun/nio/cs/UTF_8" "INSTANCE" "Lsun/nio/cs/UTF_8;" (.ref u8)) (b1 : 0 ≤ c1.toInt ∧ c1.toInt ≤ 255) (b2 : 0 ≤ c2.toInt ∧ c2.toInt ≤ 255) (b3 : 0 ≤ c3.toInt ∧ c3.toInt ≤ 255) (B : Arv Z h t kt .byte (3 : Int32) [.int c1.toInt8.toInt32, .int c2.toInt8.toInt32, .int c3.toInt8.toInt32] (.int 0)) (X : Exa Z h t "[B") :
    Ct 0 l Z [] [] (⟨"java/lang/String", "getBytes", "(Ljava/nio/charset/Charset;)[B"⟩ : MethodName) jdk_42_method_64_code 2 (some (.array .byte)) ({ frames := 5, cells := 2, slots := 18, locals := 120 } : Room) #[(.ref x), (.ref u8)] h (fun v h' => ∃ t : Addr, v = some (.ref t) ∧ Ext h h' ∧ own_enc Z h' t (own_us [c1, c2, c3])) := by
  refine Ct.intro (plainFor_of_name own_pn173) O (fun _ => rfl) ⟨a0, EW.nil⟩ ?_
  intro p e s m below meth c T0 hx hby hml hret hnm hlk hsf S0
  refine Goes.cast (own_ef174 m x u8) ?_
  refine g_aloadN S0.here hx (hb hby own_d312) rfl rfl 1 rfl ?_
  refine g_ifnonnullT S0.here hx (hb hby own_d313) 12 (by decide) (by decide) ?_
  refine g_aloadN S0.here hx (hb hby own_d314) rfl rfl 13 rfl ?_
  refine g_aloadN S0.here hx (hb hby own_d315) rfl rfl 14 rfl ?_
  refine S0.callV hx (W := 1) (C := "java/lang/String") (own_q68 hw) (own_q69 hw) (notFace_of_selects (args := #[]) (mvT S0.warm (own_q71 hw))) (own_q71 hw) (own_q70 hw) (by decide) fx (own_q72 hw) (own_q15 hw) (ctCo0 l Z a0 hw x h O G fc) nosf (by decide) (by decide) (by rw [hml]; rfl) [] [(.ref u8)] (lenOf own_pd317 rfl) rfl rfl (Nat.le_refl _) (hb hby own_d316) (by decide) (by decide) 17 rfl (fun v347 vm347 T347 h347 S347 Q347 R347 => ?_)
  obtain ⟨rfl, rfl⟩ := Q347
  show Goes _ _ _ _ T347 (mkF m 17 #[.val (.ref x), .val (.ref u8)] [(.int (0 : Int32)), (.ref u8)])
  refine g_aloadN S347.here hx (hb hby own_d318) rfl rfl 18 rfl ?_
  refine S347.getF hx (host := "") (Or.inl (own_q40 hw)) Via.refl fv (hb hby own_d319) 21 rfl (fun T348 S348 => ?_)
  refine S348.callS hx (W := 0) (own_q73 hw) (own_q74 hw) (own_q15 hw) (own_q75 hw) (by decide) (ctEn30 l Z a0 hw u8 t kt c1 c2 c3 h O U b1 b2 b3 B X) nosf (by decide) (by decide) (by rw [hml]; rfl) [(.ref u8), (.int (0 : Int32)), (.ref t)] [] (lenOf own_pd321 rfl) rfl rfl (Nat.le_refl _) (hb hby own_d320) (by decide) (by decide) 24 rfl (fun v349 vm349 T349 h349 S349 Q349 R349 => ?_)
  obtain ⟨r, rfl, E, C⟩ := Q349
  show Goes _ _ _ _ T349 (mkF m 24 #[.val (.ref x), .val (.ref u8)] [(.ref r)])
  exact S349.aret hx hlk hret rfl rfl rfl (hb hby own_d322) ⟨r, rfl, E, C⟩ (by decide) (by decide)
set_option maxRecDepth 65536 in
set_option maxHeartbeats 40000000 in
theorem ctEn31 (l : Launch) (Z : State) (a0 : Array Value) (hw : ∀ d ∈ tables_1, d.before a0 Z = true) (u8 t : Addr) (kt : ClassId) (c1 c2 c3 : Int32) (h : Heap) (O : Old Z Z.heap.size h) (U : Sta Z Z.heap "sun/nio/cs/UTF_8" "INSTANCE" "Lsun/nio/cs/UTF_8;" (.ref u8)) (H : own_h16 Z) (k1 : 0 ≤ c1.toInt ∧ c1.toInt ≤ 32767) (k2 : 0 ≤ c2.toInt ∧ c2.toInt ≤ 32767) (k3 : 0 ≤ c3.toInt ∧ c3.toInt ≤ 32767) (B : Arv Z h t kt .byte (6 : Int32) [.int (StrChars.lo8 c1), .int (StrChars.hi8 c1), .int (StrChars.lo8 c2), .int (StrChars.hi8 c2), .int (StrChars.lo8 c3), .int (StrChars.hi8 c3)] (.int 0)) :
    Ct 0 l Z [] [] (⟨"java/lang/String", "encode", "(Ljava/nio/charset/Charset;B[B)[B"⟩ : MethodName) jdk_42_method_18_code 3 (some (.array .byte)) ({ frames := 4, cells := 2, slots := 18, locals := 100 } : Room) #[(.ref u8), (.int (1 : Int32)), (.ref t)] h (fun v h' => ∃ t : Addr, v = some (.ref t) ∧ Ext h h' ∧ own_enc Z h' t (own_us [c1, c2, c3])) := by
  refine Ct.intro (plainFor_of_name own_pn173) O (fun _ => rfl) ⟨a0, EW.nil⟩ ?_
  intro p e s m below meth c T0 hx hby hml hret hnm hlk hsf S0
  refine Goes.cast (own_ef302 m u8 (1 : Int32) t) ?_
  refine g_aloadN S0.here hx (hb hby own_d303) rfl rfl 1 rfl ?_
  refine S0.getS hx (host := "") (Or.inl (own_q76 hw)) Via.refl (U.ext O.2) (hb hby own_d304) 4 rfl (fun T350 S350 => ?_)
  refine S350.acmp hx (hb hby own_d305) rfl rfl true (decide_eq_true rfl) (by decide) 7 (by decide) ?_
  refine g_iloadN S350.here hx (hb hby own_d306) rfl 8 rfl ?_
  refine g_aloadN S350.here hx (hb hby own_d307) rfl rfl 9 rfl ?_
  refine g_iconst S350.here hx (hb hby own_d308) (1 : Int32) (by decide) 10 rfl ?_
  refine S350.callS hx (W := 0) (own_q78 hw) (own_q79 hw) (own_q15 hw) (own_q80 hw) (by decide) (ctE83 l Z a0 hw t kt c1 c2 c3 h O H k1 k2 k3 B) nosf (by decide) (by decide) (by rw [hml]; rfl) [(.int (1 : Int32)), (.ref t), (.int (1 : Int32))] [] (lenOf own_pd310 rfl) rfl rfl (Nat.le_refl _) (hb hby own_d309) (by decide) (by decide) 13 rfl (fun v351 vm351 T351 h351 S351 Q351 R351 => ?_)
  obtain ⟨r, rfl, E, C⟩ := Q351
  show Goes _ _ _ _ T351 (mkF m 13 #[.val (.ref u8), .val (.int (1 : Int32)), .val (.ref t)] [(.ref r)])
  exact S351.aret hx hlk hret rfl rfl rfl (hb hby own_d311) ⟨r, rfl, E, C⟩ (by decide) (by decide)
set_option maxRecDepth 65536 in
set_option maxHeartbeats 40000000 in
theorem ctGB31 (l : Launch) (Z : State) (a0 : Array Value) (hw : ∀ d ∈ tables_1, d.before a0 Z = true) (x u8 t : Addr) (kt : ClassId) (c1 c2 c3 : Int32) (h : Heap) (O : Old Z Z.heap.size h) (G : own_cs Z) (fx : Exa Z h x "java/lang/String") (fv : Fld Z h x "java/lang/String" "value" "[B" (.ref t)) (fc : Fld Z h x "java/lang/String" "coder" "B" (.int 1)) (U : Sta Z Z.heap "sun/nio/cs/UTF_8" "INSTANCE" "Lsun/nio/cs/UTF_8;" (.ref u8)) (H : own_h16 Z) (k1 : 0 ≤ c1.toInt ∧ c1.toInt ≤ 32767) (k2 : 0 ≤ c2.toInt ∧ c2.toInt ≤ 32767) (k3 : 0 ≤ c3.toInt ∧ c3.toInt ≤ 32767) (B : Arv Z h t kt .byte (6 : Int32) [.int (StrChars.lo8 c1), .int (StrChars.hi8 c1), .int (StrChars.lo8 c2), .int (StrChars.hi8 c2), .int (StrChars.lo8 c3), .int (StrChars.hi8 c3)] (.int 0)) :
    Ct 0 l Z [] [] (⟨"java/lang/String", "getBytes", "(Ljava/nio/charset/Charset;)[B"⟩ : MethodName) jdk_42_method_64_code 2 (some (.array .byte)) ({ frames := 5, cells := 2, slots := 18, locals := 120 } : Room) #[(.ref x), (.ref u8)] h (fun v h' => ∃ t : Addr, v = some (.ref t) ∧ Ext h h' ∧ own_enc Z h' t (own_us [c1, c2, c3])) := by
  refine Ct.intro (plainFor_of_name own_pn173) O (fun _ => rfl) ⟨a0, EW.nil⟩ ?_
  intro p e s m below meth c T0 hx hby hml hret hnm hlk hsf S0
  refine Goes.cast (own_ef174 m x u8) ?_
  refine g_aloadN S0.here hx (hb hby own_d312) rfl rfl 1 rfl ?_
  refine g_ifnonnullT S0.here hx (hb hby own_d313) 12 (by decide) (by decide) ?_
  refine g_aloadN S0.here hx (hb hby own_d314) rfl rfl 13 rfl ?_
  refine g_aloadN S0.here hx (hb hby own_d315) rfl rfl 14 rfl ?_
  refine S0.callV hx (W := 1) (C := "java/lang/String") (own_q68 hw) (own_q69 hw) (notFace_of_selects (args := #[]) (mvT S0.warm (own_q71 hw))) (own_q71 hw) (own_q70 hw) (by decide) fx (own_q72 hw) (own_q15 hw) (ctCo1 l Z a0 hw x h O G fc) nosf (by decide) (by decide) (by rw [hml]; rfl) [] [(.ref u8)] (lenOf own_pd317 rfl) rfl rfl (Nat.le_refl _) (hb hby own_d316) (by decide) (by decide) 17 rfl (fun v352 vm352 T352 h352 S352 Q352 R352 => ?_)
  obtain ⟨rfl, rfl⟩ := Q352
  show Goes _ _ _ _ T352 (mkF m 17 #[.val (.ref x), .val (.ref u8)] [(.int (1 : Int32)), (.ref u8)])
  refine g_aloadN S352.here hx (hb hby own_d318) rfl rfl 18 rfl ?_
  refine S352.getF hx (host := "") (Or.inl (own_q40 hw)) Via.refl fv (hb hby own_d319) 21 rfl (fun T353 S353 => ?_)
  refine S353.callS hx (W := 0) (own_q73 hw) (own_q74 hw) (own_q15 hw) (own_q75 hw) (by decide) (ctEn31 l Z a0 hw u8 t kt c1 c2 c3 h O U H k1 k2 k3 B) nosf (by decide) (by decide) (by rw [hml]; rfl) [(.ref u8), (.int (1 : Int32)), (.ref t)] [] (lenOf own_pd321 rfl) rfl rfl (Nat.le_refl _) (hb hby own_d320) (by decide) (by decide) 24 rfl (fun v354 vm354 T354 h354 S354 Q354 R354 => ?_)
  obtain ⟨r, rfl, E, C⟩ := Q354
  show Goes _ _ _ _ T354 (mkF m 24 #[.val (.ref x), .val (.ref u8)] [(.ref r)])
  exact S354.aret hx hlk hret rfl rfl rfl (hb hby own_d322) ⟨r, rfl, E, C⟩ (by decide) (by decide)
theorem own_latb {cs : List Int32} {c : Int32} (H : own_lat cs) (hc : c ∈ cs) : 0 ≤ c.toInt ∧ c.toInt ≤ 255 := by
  have q := H c hc
  rw [Int32.lt_iff_toInt_lt, Int32.lt_iff_toInt_lt] at q
  have e1 : (0 : Int32).toInt = 0 := by decide
  have e2 : (255 : Int32).toInt = 255 := by decide
  omega
theorem ctGB (l : Launch) (Z : State) (a0 : Array Value) (hw : ∀ d ∈ tables_1, d.before a0 Z = true) (x u8 : Addr) (cs : List Int32) (h : Heap) (O : Old Z Z.heap.size h) (G : own_cs Z) (H : own_h16 Z) (U : Sta Z Z.heap "sun/nio/cs/UTF_8" "INSTANCE" "Lsun/nio/cs/UTF_8;" (.ref u8)) (F : own_txt Z h x cs) (hl : cs.length ≤ 3) (hk : ∀ c ∈ cs, 0 ≤ c.toInt ∧ c.toInt ≤ 32767) :
    Ct 0 l Z [] [] (⟨"java/lang/String", "getBytes", "(Ljava/nio/charset/Charset;)[B"⟩ : MethodName) jdk_42_method_64_code 2 (some (.array .byte)) ({ frames := 5, cells := 2, slots := 18, locals := 120 } : Room) #[(.ref x), (.ref u8)] h (fun v h' => ∃ t : Addr, v = some (.ref t) ∧ Ext h h' ∧ own_enc Z h' t (own_us cs)) := by
  obtain ⟨f1, t, k, f2, f3⟩ := F
  rcases cs with _ | ⟨c1, _ | ⟨c2, _ | ⟨c3, _ | ⟨c4, r⟩⟩⟩⟩
  · rcases f3 with ⟨f3, f4, f6, f5⟩ | ⟨f3, f4, f5⟩
    · exact ctGB00 l Z a0 hw x u8 t k  h O G f1 f2 f3 U  f5 f6
    · exact absurd rfl f4
  · rcases f3 with ⟨f3, f4, f6, f5⟩ | ⟨f3, f4, f5⟩
    · exact ctGB10 l Z a0 hw x u8 t k c1 h O G f1 f2 f3 U (own_latb f4 (by simp)) f5 f6
    · exact ctGB11 l Z a0 hw x u8 t k c1 h O G f1 f2 f3 U H (hk _ (by simp)) f5
  · rcases f3 with ⟨f3, f4, f6, f5⟩ | ⟨f3, f4, f5⟩
    · exact ctGB20 l Z a0 hw x u8 t k c1 c2 h O G f1 f2 f3 U (own_latb f4 (by simp)) (own_latb f4 (by simp)) f5 f6
    · exact ctGB21 l Z a0 hw x u8 t k c1 c2 h O G f1 f2 f3 U H (hk _ (by simp)) (hk _ (by simp)) f5
  · rcases f3 with ⟨f3, f4, f6, f5⟩ | ⟨f3, f4, f5⟩
    · exact ctGB30 l Z a0 hw x u8 t k c1 c2 c3 h O G f1 f2 f3 U (own_latb f4 (by simp)) (own_latb f4 (by simp)) (own_latb f4 (by simp)) f5 f6
    · exact ctGB31 l Z a0 hw x u8 t k c1 c2 c3 h O G f1 f2 f3 U H (hk _ (by simp)) (hk _ (by simp)) (hk _ (by simp)) f5
  · simp at hl
theorem own_usb : ∀ {cs : List Int32}, cs.length ≤ 3 → 0 ≤ own_us cs ∧ own_us cs ≤ 9
  | [], _ => by show (0 : Int) ≤ 0 ∧ (0 : Int) ≤ 9; omega
  | [c1], _ => by show 0 ≤ own_u c1 + 0 ∧ own_u c1 + 0 ≤ 9; have := own_ub c1; omega
  | [c1, c2], _ => by show 0 ≤ own_u c1 + (own_u c2 + 0) ∧ own_u c1 + (own_u c2 + 0) ≤ 9; have := own_ub c1; have := own_ub c2; omega
  | [c1, c2, c3], _ => by show 0 ≤ own_u c1 + (own_u c2 + (own_u c3 + 0)) ∧ own_u c1 + (own_u c2 + (own_u c3 + 0)) ≤ 9; have := own_ub c1; have := own_ub c2; have := own_ub c3; omega
  | _ :: _ :: _ :: _ :: _, h => by simp at h
theorem own_txt.wr {Z : State} {a0 : Array Value} {h h' : Heap} {x f : Addr} {cs : List Int32} {sl k : Nat} {v : Value} {C : String} (F : own_txt Z h x cs) (W : Wr h h' f sl v) (E : Exa Z h f C) (hC : "java/lang/String" ≠ C) (wi : (Cond.instantiable C k).before a0 Z = true) : own_txt Z h' x cs := by
  obtain ⟨f1, t, kt, f2, f3⟩ := F
  have ne : x ≠ f := f1.ne E hC
  refine ⟨f1.wr W, t, kt, f2.other W (Or.inl ne), ?_⟩
  rcases f3 with ⟨f3, f4, f6, f5⟩ | ⟨f3, f4, f5⟩
  · exact Or.inl ⟨f3.other W (Or.inl ne), f4, f6.wr W, f5.other W (E.neArv f5 wi).symm⟩
  · exact Or.inr ⟨f3.other W (Or.inl ne), f4, f5.other W (E.neArv f5 wi).symm⟩
theorem own_enc.wr {Z : State} {a0 : Array Value} {h h' : Heap} {t f : Addr} {u : Int} {sl k : Nat} {v : Value} {C : String} (F : own_enc Z h t u) (W : Wr h h' f sl v) (E : Exa Z h f C) (wi : (Cond.instantiable C k).before a0 Z = true) : own_enc Z h' t u := by
  obtain ⟨k', z, us, f, e⟩ := F; exact ⟨k', z, us, f.other W (E.neArv f wi).symm, e⟩
def own_has (Z : State) (h : Heap) (a : Addr) (C n d : String) : Prop := ∃ w, Fld Z h a C n d w
theorem own_has.wr {Z : State} {h h' : Heap} {a b : Addr} {C n d : String} {sl : Nat} {v : Value} (F : own_has Z h a C n d) (W : Wr h h' b sl v) : own_has Z h' a C n d := by
  obtain ⟨w, F⟩ := F
  by_cases e : a = b
  · subst e
    by_cases q : Jvm.RoadKit.slotOf Z C n d = sl
    · subst q; exact ⟨v, F.same W⟩
    · exact ⟨w, F.other W (Or.inr q)⟩
  · exact ⟨w, F.other W (Or.inl e)⟩
theorem own_has.ext {Z : State} {h h' : Heap} {a : Addr} {C n d : String} (F : own_has Z h a C n d) (E : Ext h h') : own_has Z h' a C n d := by obtain ⟨w, F⟩ := F; exact ⟨w, F.ext E⟩
theorem own_addb {x y : Int32} (h : 0 ≤ x.toInt + y.toInt ∧ x.toInt + y.toInt ≤ 65535) : (x + y).toInt = x.toInt + y.toInt := by
  have h2 := c_iadd x y
  have h3 := rng32 (x + y)
  omega
theorem own_ef526 (m : MethodId) (x0 : Addr) (x1 : Addr) (x2 : Int32) : entryFrame m #[(.ref x0), (.ref x1), (.int x2)] 3 = mkF m 0 #[.val (.ref x0), .val (.ref x1), .val (.int x2)] [] := by first | (simp [entryFrame, mkF, argsToLocals, Value.category]; done) | rfl
theorem own_d527 : decode prog_4_method_2_code 0 = .ok (.aload_n 1, 1) := by decide +kernel
theorem own_d528 : decode prog_4_method_2_code 1 = .ok (.arraylength, 1) := by decide +kernel
theorem own_d529 : decode prog_4_method_2_code 2 = .ok (.iload_n 2, 1) := by decide +kernel
theorem own_d530 : decode prog_4_method_2_code 3 = .ok (.if_icmp .le 19, 3) := by decide +kernel
theorem own_d531 : decode prog_4_method_2_code 22 = .ok (.aload_n 1, 1) := by decide +kernel
theorem own_d532 : decode prog_4_method_2_code 23 = .ok (.areturn, 1) := by decide +kernel
theorem own_pn533 : plainName "com/example/wirecall/wirecall/Frame" = true := by first | (simp [plainName, overriddenIn]; done) | decide +kernel
set_option maxRecDepth 65536 in
set_option maxHeartbeats 40000000 in
theorem ctCk256 (l : Launch) (Z : State) (a0 : Array Value) (hw : ∀ d ∈ tables_1, d.before a0 Z = true) (s1 b : Addr) (u : Int) (h : Heap) (O : Old Z Z.heap.size h) (F : own_enc Z h b u) (hu : u ≤ 256) :
    Ct 1 l Z consts_1 [] (⟨"com/example/wirecall/wirecall/Frame", "checkLength", "(Ljava/lang/String;[BI)[B"⟩ : MethodName) prog_4_method_2_code 3 (some (.array .byte)) ({ frames := 0, cells := 0, slots := 0, locals := 0 } : Room) #[(.ref s1), (.ref b), (.int (256 : Int32))] h (fun v h' => v = some (.ref b) ∧ h = h') := by
  refine Ct.intro (plainFor_of_name own_pn533) O (fun q => by cases q) ⟨a0, own_ew hw⟩ ?_
  intro p e s m below meth c T0 hx hby hml hret hnm hlk hsf S0
  refine Goes.cast (own_ef526 m s1 b (256 : Int32)) ?_
  obtain ⟨k, z, us, F, e⟩ := F
  refine g_aloadN S0.here hx (hb hby own_d527) rfl rfl 1 rfl ?_
  refine S0.len hx F (hb hby own_d528) 2 rfl ?_
  refine g_iloadN S0.here hx (hb hby own_d529) rfl 3 rfl ?_
  refine g_icmpT S0.here hx (hb hby own_d530) z.toInt 256 rfl (by decide) (show z.toInt ≤ 256 from by omega) 22 (by decide) (by decide) ?_
  refine g_aloadN S0.here hx (hb hby own_d531) rfl rfl 23 rfl ?_
  exact S0.aret hx hlk hret rfl rfl rfl (hb hby own_d532) ⟨rfl, rfl⟩ (by decide) (by decide)
set_option maxRecDepth 65536 in
set_option maxHeartbeats 40000000 in
theorem ctCk16777216 (l : Launch) (Z : State) (a0 : Array Value) (hw : ∀ d ∈ tables_1, d.before a0 Z = true) (s1 b : Addr) (u : Int) (h : Heap) (O : Old Z Z.heap.size h) (F : own_enc Z h b u) (hu : u ≤ 16777216) :
    Ct 1 l Z consts_1 [] (⟨"com/example/wirecall/wirecall/Frame", "checkLength", "(Ljava/lang/String;[BI)[B"⟩ : MethodName) prog_4_method_2_code 3 (some (.array .byte)) ({ frames := 0, cells := 0, slots := 0, locals := 0 } : Room) #[(.ref s1), (.ref b), (.int (16777216 : Int32))] h (fun v h' => v = some (.ref b) ∧ h = h') := by
  refine Ct.intro (plainFor_of_name own_pn533) O (fun q => by cases q) ⟨a0, own_ew hw⟩ ?_
  intro p e s m below meth c T0 hx hby hml hret hnm hlk hsf S0
  refine Goes.cast (own_ef526 m s1 b (16777216 : Int32)) ?_
  obtain ⟨k, z, us, F, e⟩ := F
  refine g_aloadN S0.here hx (hb hby own_d527) rfl rfl 1 rfl ?_
  refine S0.len hx F (hb hby own_d528) 2 rfl ?_
  refine g_iloadN S0.here hx (hb hby own_d529) rfl 3 rfl ?_
  refine g_icmpT S0.here hx (hb hby own_d530) z.toInt 16777216 rfl (by decide) (show z.toInt ≤ 16777216 from by omega) 22 (by decide) (by decide) ?_
  refine g_aloadN S0.here hx (hb hby own_d531) rfl rfl 23 rfl ?_
  exact S0.aret hx hlk hret rfl rfl rfl (hb hby own_d532) ⟨rfl, rfl⟩ (by decide) (by decide)
def own_rawf (Z : State) (h : Heap) (a : Addr) : Prop := Exa Z h a "com/example/wirecall/wirecall/Frame" ∧ own_has Z h a "com/example/wirecall/wirecall/Frame" "type" "Lcom/example/wirecall/wirecall/FrameType;" ∧ own_has Z h a "com/example/wirecall/wirecall/Frame" "id" "I" ∧ own_has Z h a "com/example/wirecall/wirecall/Frame" "target" "Ljava/lang/String;" ∧ own_has Z h a "com/example/wirecall/wirecall/Frame" "method" "Ljava/lang/String;" ∧ own_has Z h a "com/example/wirecall/wirecall/Frame" "targetBytes" "[B" ∧ own_has Z h a "com/example/wirecall/wirecall/Frame" "methodBytes" "[B" ∧ own_has Z h a "com/example/wirecall/wirecall/Frame" "payload" "[B"
theorem own_ef534 (m : MethodId) (x0 : Addr) (x1 : Addr) (x2 : Int32) (x3 : Addr) (x4 : Addr) (x5 : Addr) : entryFrame m #[(.ref x0), (.ref x1), (.int x2), (.ref x3), (.ref x4), (.ref x5)] 6 = mkF m 0 #[.val (.ref x0), .val (.ref x1), .val (.int x2), .val (.ref x3), .val (.ref x4), .val (.ref x5)] [] := by first | (simp [entryFrame, mkF, argsToLocals, Value.category]; done) | rfl
theorem own_d535 : decode prog_4_method_1_code 0 = .ok (.aload_n 0, 1) := by decide +kernel
theorem own_d536 : decode prog_4_method_1_code 1 = .ok (.invokespecial 1, 3) := by decide +kernel
theorem own_d537 : decode prog_4_method_1_code 4 = .ok (.aload_n 0, 1) := by decide +kernel
theorem own_d538 : decode prog_4_method_1_code 5 = .ok (.aload_n 1, 1) := by decide +kernel
theorem own_d539 : decode prog_4_method_1_code 6 = .ok (.putfield 7, 3) := by decide +kernel
theorem own_d540 : decode prog_4_method_1_code 9 = .ok (.aload_n 0, 1) := by decide +kernel
theorem own_d541 : decode prog_4_method_1_code 10 = .ok (.iload_n 2, 1) := by decide +kernel
theorem own_d542 : decode prog_4_method_1_code 11 = .ok (.putfield 13, 3) := by decide +kernel
theorem own_d543 : decode prog_4_method_1_code 14 = .ok (.aload_n 0, 1) := by decide +kernel
theorem own_d544 : decode prog_4_method_1_code 15 = .ok (.aload_n 3, 1) := by decide +kernel
theorem own_d545 : decode prog_4_method_1_code 16 = .ok (.putfield 17, 3) := by decide +kernel
theorem own_d546 : decode prog_4_method_1_code 19 = .ok (.aload_n 0, 1) := by decide +kernel
theorem own_d547 : decode prog_4_method_1_code 20 = .ok (.aload 4, 2) := by decide +kernel
theorem own_d548 : decode prog_4_method_1_code 22 = .ok (.putfield 21, 3) := by decide +kernel
theorem own_d549 : decode prog_4_method_1_code 25 = .ok (.aload_n 0, 1) := by decide +kernel
theorem own_d550 : decode prog_4_method_1_code 26 = .ok (.ldc 24, 2) := by decide +kernel
theorem own_d551 : decode prog_4_method_1_code 28 = .ok (.aload_n 3, 1) := by decide +kernel
theorem own_d552 : decode prog_4_method_1_code 29 = .ok (.getstatic 25, 3) := by decide +kernel
theorem own_d553 : decode prog_4_method_1_code 32 = .ok (.invokevirtual 31, 3) := by decide +kernel
theorem own_pd554 : parseMethodDescriptor "(Ljava/nio/charset/Charset;)[B" = some ⟨[(.object "java/nio/charset/Charset")], some (.array .byte)⟩ := by decide +kernel
theorem own_d555 : decode prog_4_method_1_code 35 = .ok (.sipush 256, 3) := by decide +kernel
theorem own_d556 : decode prog_4_method_1_code 38 = .ok (.invokestatic 37, 3) := by decide +kernel
theorem own_pd557 : parseMethodDescriptor "(Ljava/lang/String;[BI)[B" = some ⟨[(.object "java/lang/String"), (.array .byte), .int], some (.array .byte)⟩ := by decide +kernel
theorem own_d558 : decode prog_4_method_1_code 41 = .ok (.putfield 41, 3) := by decide +kernel
theorem own_d559 : decode prog_4_method_1_code 44 = .ok (.aload_n 0, 1) := by decide +kernel
theorem own_d560 : decode prog_4_method_1_code 45 = .ok (.ldc 45, 2) := by decide +kernel
theorem own_d561 : decode prog_4_method_1_code 47 = .ok (.aload 4, 2) := by decide +kernel
theorem own_d562 : decode prog_4_method_1_code 49 = .ok (.getstatic 25, 3) := by decide +kernel
theorem own_d563 : decode prog_4_method_1_code 52 = .ok (.invokevirtual 31, 3) := by decide +kernel
theorem own_d564 : decode prog_4_method_1_code 55 = .ok (.sipush 256, 3) := by decide +kernel
theorem own_d565 : decode prog_4_method_1_code 58 = .ok (.invokestatic 37, 3) := by decide +kernel
theorem own_d566 : decode prog_4_method_1_code 61 = .ok (.putfield 46, 3) := by decide +kernel
theorem own_d567 : decode prog_4_method_1_code 64 = .ok (.aload_n 0, 1) := by decide +kernel
theorem own_d568 : decode prog_4_method_1_code 65 = .ok (.ldc 49, 2) := by decide +kernel
theorem own_d569 : decode prog_4_method_1_code 67 = .ok (.aload 5, 2) := by decide +kernel
theorem own_d570 : decode prog_4_method_1_code 69 = .ok (.ldc 51, 2) := by decide +kernel
theorem own_d571 : decode prog_4_method_1_code 71 = .ok (.invokestatic 37, 3) := by decide +kernel
theorem own_d572 : decode prog_4_method_1_code 74 = .ok (.putfield 52, 3) := by decide +kernel
theorem own_d573 : decode prog_4_method_1_code 77 = .ok (.return_, 1) := by decide +kernel
set_option maxRecDepth 65536 in
set_option maxHeartbeats 40000000 in
theorem ctFr (l : Launch) (Z : State) (a0 : Array Value) (hw : ∀ d ∈ tables_1, d.before a0 Z = true) (f ty s1 s2 pl u8 : Addr) (id : Int32) (cs1 cs2 : List Int32) (up : Int) (h : Heap) (O : Old Z Z.heap.size h) (G : own_cs Z) (H : own_h16 Z) (U : Sta Z Z.heap "sun/nio/cs/UTF_8" "INSTANCE" "Lsun/nio/cs/UTF_8;" (.ref u8)) (V8 : Sta Z Z.heap "java/nio/charset/StandardCharsets" "UTF_8" "Ljava/nio/charset/Charset;" (.ref u8)) (F : own_rawf Z h f) (ga : Z.heap.size ≤ f) (T1 : own_txt Z h s1 cs1) (l1 : cs1.length ≤ 3) (k1 : ∀ c ∈ cs1, 0 ≤ c.toInt ∧ c.toInt ≤ 32767) (T2 : own_txt Z h s2 cs2) (l2 : cs2.length ≤ 3) (k2 : ∀ c ∈ cs2, 0 ≤ c.toInt ∧ c.toInt ≤ 32767) (PL : own_enc Z h pl up) (hp : up ≤ 1023) :
    Ct 1 l Z consts_1 [f] (⟨"com/example/wirecall/wirecall/Frame", "<init>", "(Lcom/example/wirecall/wirecall/FrameType;ILjava/lang/String;Ljava/lang/String;[B)V"⟩ : MethodName) prog_4_method_1_code 6 none ({ frames := 6, cells := 10, slots := 124, locals := 150 } : Room) #[(.ref f), (.ref ty), (.int id), (.ref s1), (.ref s2), (.ref pl)] h (fun v h' => v = none ∧ Exa Z h' f "com/example/wirecall/wirecall/Frame" ∧ (∃ r1 r2 : Addr, Fld Z h' f "com/example/wirecall/wirecall/Frame" "targetBytes" "[B" (.ref r1) ∧ Fld Z h' f "com/example/wirecall/wirecall/Frame" "methodBytes" "[B" (.ref r2) ∧ Fld Z h' f "com/example/wirecall/wirecall/Frame" "payload" "[B" (.ref pl) ∧ own_enc Z h' r1 (own_us cs1) ∧ own_enc Z h' r2 (own_us cs2) ∧ own_enc Z h' pl up) ∧ Keep h h' [f]) := by
  refine Ct.intro (plainFor_of_name own_pn533) O (fun q => by cases q) ⟨a0, own_ew hw⟩ ?_
  intro p e s m below meth c T0 hx hby hml hret hnm hlk hsf S0
  refine Goes.cast (own_ef534 m f ty id s1 s2 pl) ?_
  have K := Keep.refl h [f]
  refine g_aloadN S0.here hx (hb hby own_d535) rfl rfl 1 rfl ?_
  refine S0.initO hx (own_q51 hw) (own_q24 hw) (own_q25 hw) (by rw [hml]; rfl) (W := 0) (by decide) (Nat.le_refl _) (by decide) (hb hby own_d536) 4 rfl (fun T355 S355 => ?_)
  have SF := hsf f (List.mem_singleton.mpr rfl)
  obtain ⟨q, f0, f1, f2, f3, f4, f5, f6⟩ := F
  refine g_aloadN S355.here hx (hb hby own_d537) rfl rfl 5 rfl ?_
  refine g_aloadN S355.here hx (hb hby own_d538) rfl rfl 6 rfl ?_
  obtain ⟨u0, f0⟩ := f0
  refine S355.putF hx (host := "") (Or.inl (own_q52 hw)) Via.refl f0 q (Or.inr ⟨(own_q53 hw), rfl, hnm⟩) (own_q46 hw) (ty := (.object "com/example/wirecall/wirecall/FrameType")) (by decide) rfl rfl SF ga (hb hby own_d539) 9 rfl (fun T356 h356 S356 W356 R356 => ?_)
  have f1 := f1.wr W356
  have f2 := f2.wr W356
  have f3 := f3.wr W356
  have f4 := f4.wr W356
  have f5 := f5.wr W356
  have f6 := f6.wr W356
  have PL := PL.wr W356 q (own_q46 hw)
  have T1 := T1.wr W356 q (by decide) (own_q46 hw)
  have T2 := T2.wr W356 q (by decide) (own_q46 hw)
  have SF := R356.safe q.lt SF
  have q := q.wr W356
  have K := K.wr W356 (Or.inl (List.mem_singleton.mpr rfl))
  refine g_aloadN S356.here hx (hb hby own_d540) rfl rfl 10 rfl ?_
  refine g_iloadN S356.here hx (hb hby own_d541) rfl 11 rfl ?_
  obtain ⟨u1, f1⟩ := f1
  refine S356.putF hx (host := "") (Or.inl (own_q54 hw)) Via.refl f1 q (Or.inr ⟨(own_q55 hw), rfl, hnm⟩) (own_q46 hw) (ty := .int) (by decide) rfl rfl SF ga (hb hby own_d542) 14 rfl (fun T357 h357 S357 W357 R357 => ?_)
  have f2 := f2.wr W357
  have f3 := f3.wr W357
  have f4 := f4.wr W357
  have f5 := f5.wr W357
  have f6 := f6.wr W357
  have PL := PL.wr W357 q (own_q46 hw)
  have T1 := T1.wr W357 q (by decide) (own_q46 hw)
  have T2 := T2.wr W357 q (by decide) (own_q46 hw)
  have SF := R357.safe q.lt SF
  have q := q.wr W357
  have K := K.wr W357 (Or.inl (List.mem_singleton.mpr rfl))
  refine g_aloadN S357.here hx (hb hby own_d543) rfl rfl 15 rfl ?_
  refine g_aloadN S357.here hx (hb hby own_d544) rfl rfl 16 rfl ?_
  obtain ⟨u2, f2⟩ := f2
  refine S357.putF hx (host := "") (Or.inl (own_q56 hw)) Via.refl f2 q (Or.inr ⟨(own_q57 hw), rfl, hnm⟩) (own_q46 hw) (ty := (.object "java/lang/String")) (by decide) rfl rfl SF ga (hb hby own_d545) 19 rfl (fun T358 h358 S358 W358 R358 => ?_)
  have f3 := f3.wr W358
  have f4 := f4.wr W358
  have f5 := f5.wr W358
  have f6 := f6.wr W358
  have PL := PL.wr W358 q (own_q46 hw)
  have T1 := T1.wr W358 q (by decide) (own_q46 hw)
  have T2 := T2.wr W358 q (by decide) (own_q46 hw)
  have SF := R358.safe q.lt SF
  have q := q.wr W358
  have K := K.wr W358 (Or.inl (List.mem_singleton.mpr rfl))
  refine g_aloadN S358.here hx (hb hby own_d546) rfl rfl 20 rfl ?_
  refine g_aload S358.here hx (hb hby own_d547) rfl rfl 22 rfl ?_
  obtain ⟨u3, f3⟩ := f3
  refine S358.putF hx (host := "") (Or.inl (own_q58 hw)) Via.refl f3 q (Or.inr ⟨(own_q59 hw), rfl, hnm⟩) (own_q46 hw) (ty := (.object "java/lang/String")) (by decide) rfl rfl SF ga (hb hby own_d548) 25 rfl (fun T359 h359 S359 W359 R359 => ?_)
  have f4 := f4.wr W359
  have f5 := f5.wr W359
  have f6 := f6.wr W359
  have PL := PL.wr W359 q (own_q46 hw)
  have T1 := T1.wr W359 q (by decide) (own_q46 hw)
  have T2 := T2.wr W359 q (by decide) (own_q46 hw)
  have SF := R359.safe q.lt SF
  have q := q.wr W359
  have K := K.wr W359 (Or.inl (List.mem_singleton.mpr rfl))
  refine g_aloadN S359.here hx (hb hby own_d549) rfl rfl 26 rfl ?_
  refine S359.ldcO hx (by decide) (own_q60 hw) (own_wS hw) (hb hby own_d550) (n := 24) (by decide +kernel) (by decide) (by decide) (by decide) 28 rfl (fun vm360 T360 h360 e1 S360 E360 R360 => ?_)
  have SF := R360.safe q.lt SF
  have q := q.ext E360
  have T1 := T1.ext E360
  have T2 := T2.ext E360
  have K := K.ext E360
  have PL := PL.ext E360
  have f4 := f4.ext E360
  have f5 := f5.ext E360
  have f6 := f6.ext E360
  refine g_aloadN S360.here hx (hb hby own_d551) rfl rfl 29 rfl ?_
  refine S360.getS hx (host := "") (Or.inl (own_q61 hw)) Via.refl (V8.ext S360.old.2) (hb hby own_d552) 32 rfl (fun T361 S361 => ?_)
  refine S361.callVN hx (W := 2) (C := "java/lang/String") (own_q63 hw) (own_q64 hw) (notFace_of_selects (args := #[]) (mvT S361.warm (own_q66 hw))) (own_q66 hw) (own_q65 hw) (by decide) T1.1 (ctBack (s := s.setVm vm360) (ctGB l Z a0 hw s1 u8 cs1 h360 S361.old G H U T1 l1 k1) S361.warm (own_q67 hw) (own_q15 hw) (by decide) (by decide)) (fun v h' Lc r => ⟨r.2.1, r.2.2.1, by obtain ⟨_, _, X, _⟩ := r.1; exact CHr.ext X S361.chr.1⟩) (by rw [hml]; rfl) [(.ref u8)] [(.ref e1), (.ref f)] (lenOf own_pd554 rfl) rfl rfl (Nat.le_refl _) (hb hby own_d553) (by decide) (by decide) 35 rfl (fun v362 T362 h362 Lc362 S362 Q362 R362 => ?_)
  obtain ⟨r1, rfl, X362, C1⟩ := Q362.1
  show Goes _ _ _ _ T362 (mkF m 35 #[.val (.ref f), .val (.ref ty), .val (.int id), .val (.ref s1), .val (.ref s2), .val (.ref pl)] [(.ref r1), (.ref e1), (.ref f)])
  have SF := R362.safe q.lt SF
  have q := q.ext X362
  have T1 := T1.ext X362
  have T2 := T2.ext X362
  have K := K.ext X362
  have PL := PL.ext X362
  have f4 := f4.ext X362
  have f5 := f5.ext X362
  have f6 := f6.ext X362
  refine g_sipush S362.here hx (hb hby own_d555) (256 : Int32) (by decide) 38 rfl ?_
  refine S362.callS hx (W := 1) (own_q97 hw) (own_q98 hw) (own_q47 hw) (own_q99 hw) (by decide) (ctCk256 l Z a0 hw e1 r1 _ h362 S362.old C1 (by have := own_usb l1; omega)) nosf (by decide) (by decide) (by rw [hml]; rfl) [(.ref e1), (.ref r1), (.int (256 : Int32))] [(.ref f)] (lenOf own_pd557 rfl) rfl rfl (Nat.le_refl _) (hb hby own_d556) (by decide) (by decide) 41 rfl (fun v363 vm363 T363 h363 S363 Q363 R363 => ?_)
  obtain ⟨rfl, rfl⟩ := Q363
  show Goes _ _ _ _ T363 (mkF m 41 #[.val (.ref f), .val (.ref ty), .val (.int id), .val (.ref s1), .val (.ref s2), .val (.ref pl)] [(.ref r1), (.ref f)])
  have SF := R363.safe q.lt SF
  obtain ⟨u4, f4⟩ := f4
  refine S363.putF hx (host := "") (Or.inl (own_q100 hw)) Via.refl f4 q (Or.inr ⟨(own_q101 hw), rfl, hnm⟩) (own_q46 hw) (ty := (.array .byte)) (by decide) rfl rfl SF ga (hb hby own_d558) 44 rfl (fun T364 h364 S364 W364 R364 => ?_)
  have f5 := f5.wr W364
  have f6 := f6.wr W364
  have f4 := f4.same W364
  have PL := PL.wr W364 q (own_q46 hw)
  have C1 := C1.wr W364 q (own_q46 hw)
  have T1 := T1.wr W364 q (by decide) (own_q46 hw)
  have T2 := T2.wr W364 q (by decide) (own_q46 hw)
  have SF := R364.safe q.lt SF
  have q := q.wr W364
  have K := K.wr W364 (Or.inl (List.mem_singleton.mpr rfl))
  refine g_aloadN S364.here hx (hb hby own_d559) rfl rfl 45 rfl ?_
  refine S364.ldcO hx (by decide) (own_q102 hw) (own_wS hw) (hb hby own_d560) (n := 24) (by decide +kernel) (by decide) (by decide) (by decide) 47 rfl (fun vm365 T365 h365 e2 S365 E365 R365 => ?_)
  have SF := R365.safe q.lt SF
  have q := q.ext E365
  have T1 := T1.ext E365
  have T2 := T2.ext E365
  have K := K.ext E365
  have PL := PL.ext E365
  have C1 := C1.ext E365
  have f4 := f4.ext E365
  have f5 := f5.ext E365
  have f6 := f6.ext E365
  refine g_aload S365.here hx (hb hby own_d561) rfl rfl 49 rfl ?_
  refine S365.getS hx (host := "") (Or.inl (own_q61 hw)) Via.refl (V8.ext S365.old.2) (hb hby own_d562) 52 rfl (fun T366 S366 => ?_)
  refine S366.callVN hx (W := 2) (C := "java/lang/String") (own_q63 hw) (own_q64 hw) (notFace_of_selects (args := #[]) (mvT S366.warm (own_q66 hw))) (own_q66 hw) (own_q65 hw) (by decide) T2.1 (ctBack (s := s.setVm vm365) (ctGB l Z a0 hw s2 u8 cs2 h365 S366.old G H U T2 l2 k2) S366.warm (own_q67 hw) (own_q15 hw) (by decide) (by decide)) (fun v h' Lc r => ⟨r.2.1, r.2.2.1, by obtain ⟨_, _, X, _⟩ := r.1; exact CHr.ext X S366.chr.1⟩) (by rw [hml]; rfl) [(.ref u8)] [(.ref e2), (.ref f)] (lenOf own_pd554 rfl) rfl rfl (Nat.le_refl _) (hb hby own_d563) (by decide) (by decide) 55 rfl (fun v367 T367 h367 Lc367 S367 Q367 R367 => ?_)
  obtain ⟨r2, rfl, X367, C2⟩ := Q367.1
  show Goes _ _ _ _ T367 (mkF m 55 #[.val (.ref f), .val (.ref ty), .val (.int id), .val (.ref s1), .val (.ref s2), .val (.ref pl)] [(.ref r2), (.ref e2), (.ref f)])
  have SF := R367.safe q.lt SF
  have q := q.ext X367
  have T1 := T1.ext X367
  have T2 := T2.ext X367
  have K := K.ext X367
  have PL := PL.ext X367
  have C1 := C1.ext X367
  have f4 := f4.ext X367
  have f5 := f5.ext X367
  have f6 := f6.ext X367
  refine g_sipush S367.here hx (hb hby own_d564) (256 : Int32) (by decide) 58 rfl ?_
  refine S367.callS hx (W := 1) (own_q97 hw) (own_q98 hw) (own_q47 hw) (own_q99 hw) (by decide) (ctCk256 l Z a0 hw e2 r2 _ h367 S367.old C2 (by have := own_usb l2; omega)) nosf (by decide) (by decide) (by rw [hml]; rfl) [(.ref e2), (.ref r2), (.int (256 : Int32))] [(.ref f)] (lenOf own_pd557 rfl) rfl rfl (Nat.le_refl _) (hb hby own_d565) (by decide) (by decide) 61 rfl (fun v368 vm368 T368 h368 S368 Q368 R368 => ?_)
  obtain ⟨rfl, rfl⟩ := Q368
  show Goes _ _ _ _ T368 (mkF m 61 #[.val (.ref f), .val (.ref ty), .val (.int id), .val (.ref s1), .val (.ref s2), .val (.ref pl)] [(.ref r2), (.ref f)])
  have SF := R368.safe q.lt SF
  obtain ⟨u5, f5⟩ := f5
  refine S368.putF hx (host := "") (Or.inl (own_q103 hw)) Via.refl f5 q (Or.inr ⟨(own_q104 hw), rfl, hnm⟩) (own_q46 hw) (ty := (.array .byte)) (by decide) rfl rfl SF ga (hb hby own_d566) 64 rfl (fun T369 h369 S369 W369 R369 => ?_)
  have f6 := f6.wr W369
  have f4 := f4.other W369 (Or.inr (slot_ne (Or.inr (own_q101 hw)) (Or.inr (own_q104 hw)) (by decide) (t := (.array .byte)) (t' := (.array .byte)) (by decide) (by decide)))
  have f5 := f5.same W369
  have PL := PL.wr W369 q (own_q46 hw)
  have C1 := C1.wr W369 q (own_q46 hw)
  have C2 := C2.wr W369 q (own_q46 hw)
  have T1 := T1.wr W369 q (by decide) (own_q46 hw)
  have T2 := T2.wr W369 q (by decide) (own_q46 hw)
  have SF := R369.safe q.lt SF
  have q := q.wr W369
  have K := K.wr W369 (Or.inl (List.mem_singleton.mpr rfl))
  refine g_aloadN S369.here hx (hb hby own_d567) rfl rfl 65 rfl ?_
  refine S369.ldcO hx (by decide) (own_q105 hw) (own_wS hw) (hb hby own_d568) (n := 28) (by decide +kernel) (by decide) (by decide) (by decide) 67 rfl (fun vm370 T370 h370 e3 S370 E370 R370 => ?_)
  have SF := R370.safe q.lt SF
  have q := q.ext E370
  have T1 := T1.ext E370
  have T2 := T2.ext E370
  have K := K.ext E370
  have PL := PL.ext E370
  have C1 := C1.ext E370
  have C2 := C2.ext E370
  have f4 := f4.ext E370
  have f5 := f5.ext E370
  have f6 := f6.ext E370
  refine g_aload S370.here hx (hb hby own_d569) rfl rfl 69 rfl ?_
  refine S370.ldcI hx (own_q106 hw) (hb hby own_d570) 71 rfl ?_
  refine S370.callS hx (W := 1) (own_q97 hw) (own_q98 hw) (own_q47 hw) (own_q99 hw) (by decide) (ctCk16777216 l Z a0 hw e3 pl _ h370 S370.old PL (by omega)) nosf (by decide) (by decide) (by rw [hml]; rfl) [(.ref e3), (.ref pl), (.int (16777216 : Int32))] [(.ref f)] (lenOf own_pd557 rfl) rfl rfl (Nat.le_refl _) (hb hby own_d571) (by decide) (by decide) 74 rfl (fun v371 vm371 T371 h371 S371 Q371 R371 => ?_)
  obtain ⟨rfl, rfl⟩ := Q371
  show Goes _ _ _ _ T371 (mkF m 74 #[.val (.ref f), .val (.ref ty), .val (.int id), .val (.ref s1), .val (.ref s2), .val (.ref pl)] [(.ref pl), (.ref f)])
  have SF := R371.safe q.lt SF
  obtain ⟨u6, f6⟩ := f6
  refine S371.putF hx (host := "") (Or.inl (own_q107 hw)) Via.refl f6 q (Or.inr ⟨(own_q108 hw), rfl, hnm⟩) (own_q46 hw) (ty := (.array .byte)) (by decide) rfl rfl SF ga (hb hby own_d572) 77 rfl (fun T372 h372 S372 W372 R372 => ?_)
  have f4 := f4.other W372 (Or.inr (slot_ne (Or.inr (own_q101 hw)) (Or.inr (own_q108 hw)) (by decide) (t := (.array .byte)) (t' := (.array .byte)) (by decide) (by decide)))
  have f5 := f5.other W372 (Or.inr (slot_ne (Or.inr (own_q104 hw)) (Or.inr (own_q108 hw)) (by decide) (t := (.array .byte)) (t' := (.array .byte)) (by decide) (by decide)))
  have f6 := f6.same W372
  have PL := PL.wr W372 q (own_q46 hw)
  have C1 := C1.wr W372 q (own_q46 hw)
  have C2 := C2.wr W372 q (own_q46 hw)
  have T1 := T1.wr W372 q (by decide) (own_q46 hw)
  have T2 := T2.wr W372 q (by decide) (own_q46 hw)
  have SF := R372.safe q.lt SF
  have q := q.wr W372
  have K := K.wr W372 (Or.inl (List.mem_singleton.mpr rfl))
  exact S372.vret hx hlk hret (hb hby own_d573) ⟨rfl, q, ⟨r1, r2, f4, f5, f6, C1, C2, PL⟩, K⟩ (by decide) (by decide)
theorem own_d574 : decode prog_4_method_11_code 0 = .ok (.bipush 17, 2) := by decide +kernel
theorem own_d575 : decode prog_4_method_11_code 2 = .ok (.aload_n 0, 1) := by decide +kernel
theorem own_d576 : decode prog_4_method_11_code 3 = .ok (.getfield 41, 3) := by decide +kernel
theorem own_d577 : decode prog_4_method_11_code 6 = .ok (.arraylength, 1) := by decide +kernel
theorem own_d578 : decode prog_4_method_11_code 7 = .ok (.iadd, 1) := by decide +kernel
theorem own_d579 : decode prog_4_method_11_code 8 = .ok (.aload_n 0, 1) := by decide +kernel
theorem own_d580 : decode prog_4_method_11_code 9 = .ok (.getfield 46, 3) := by decide +kernel
theorem own_d581 : decode prog_4_method_11_code 12 = .ok (.arraylength, 1) := by decide +kernel
theorem own_d582 : decode prog_4_method_11_code 13 = .ok (.iadd, 1) := by decide +kernel
theorem own_d583 : decode prog_4_method_11_code 14 = .ok (.aload_n 0, 1) := by decide +kernel
theorem own_d584 : decode prog_4_method_11_code 15 = .ok (.getfield 52, 3) := by decide +kernel
theorem own_d585 : decode prog_4_method_11_code 18 = .ok (.arraylength, 1) := by decide +kernel
theorem own_d586 : decode prog_4_method_11_code 19 = .ok (.iadd, 1) := by decide +kernel
theorem own_d587 : decode prog_4_method_11_code 20 = .ok (.ireturn, 1) := by decide +kernel
set_option maxRecDepth 65536 in
set_option maxHeartbeats 40000000 in
theorem ctWB (l : Launch) (Z : State) (a0 : Array Value) (hw : ∀ d ∈ tables_1, d.before a0 Z = true) (f r1 r2 r3 : Addr) (u1 u2 u3 : Int) (h : Heap) (O : Old Z Z.heap.size h) (F1 : Fld Z h f "com/example/wirecall/wirecall/Frame" "targetBytes" "[B" (.ref r1)) (F2 : Fld Z h f "com/example/wirecall/wirecall/Frame" "methodBytes" "[B" (.ref r2)) (F3 : Fld Z h f "com/example/wirecall/wirecall/Frame" "payload" "[B" (.ref r3)) (E1 : own_enc Z h r1 u1) (E2 : own_enc Z h r2 u2) (E3 : own_enc Z h r3 u3) (b1 : 0 ≤ u1 ∧ u1 ≤ 9) (b2 : 0 ≤ u2 ∧ u2 ≤ 9) (b3 : 0 ≤ u3 ∧ u3 ≤ 1023) :
    Ct 1 l Z consts_1 [] (⟨"com/example/wirecall/wirecall/Frame", "wireBytes", "()I"⟩ : MethodName) prog_4_method_11_code 1 (some .int) ({ frames := 0, cells := 0, slots := 0, locals := 0 } : Room) #[(.ref f)] h (fun v h' => ∃ w : Int32, v = some (.int w) ∧ w.toInt = 17 + u1 + u2 + u3 ∧ h = h') := by
  refine Ct.intro (plainFor_of_name own_pn533) O (fun q => by cases q) ⟨a0, own_ew hw⟩ ?_
  intro p e s m below meth c T0 hx hby hml hret hnm hlk hsf S0
  refine Goes.cast (own_ef224 m f) ?_
  obtain ⟨ka, za, va, E1, e1⟩ := E1
  obtain ⟨kb, zb, vb, E2, e2⟩ := E2
  obtain ⟨kc, zc, vc, E3, e3⟩ := E3
  have e17 : (17 : Int32).toInt = 17 := by decide
  refine g_bipush S0.here hx (hb hby own_d574) (17 : Int32) (by decide) 2 rfl ?_
  refine g_aloadN S0.here hx (hb hby own_d575) rfl rfl 3 rfl ?_
  refine S0.getF hx (host := "") (Or.inl (own_q100 hw)) Via.refl F1 (hb hby own_d576) 6 rfl (fun T373 S373 => ?_)
  refine S373.len hx E1 (hb hby own_d577) 7 rfl ?_
  refine g_iadd S373.here hx (hb hby own_d578) 8 rfl ?_
  refine g_aloadN S373.here hx (hb hby own_d579) rfl rfl 9 rfl ?_
  refine S373.getF hx (host := "") (Or.inl (own_q103 hw)) Via.refl F2 (hb hby own_d580) 12 rfl (fun T374 S374 => ?_)
  refine S374.len hx E2 (hb hby own_d581) 13 rfl ?_
  refine g_iadd S374.here hx (hb hby own_d582) 14 rfl ?_
  refine g_aloadN S374.here hx (hb hby own_d583) rfl rfl 15 rfl ?_
  refine S374.getF hx (host := "") (Or.inl (own_q107 hw)) Via.refl F3 (hb hby own_d584) 18 rfl (fun T375 S375 => ?_)
  refine S375.len hx E3 (hb hby own_d585) 19 rfl ?_
  refine g_iadd S375.here hx (hb hby own_d586) 20 rfl ?_
  exact S375.iret hx hlk hret (Or.inl rfl) rfl (hb hby own_d587) ⟨_, rfl, by have a1 := own_addb (x := 17) (y := za) (by omega); have a2 := own_addb (x := 17 + za) (y := zb) (by omega); have a3 := own_addb (x := 17 + za + zb) (y := zc) (by omega); omega, rfl⟩ (by decide) (by decide)
theorem own_d588 : decode method_2_code 0 = .ok (.iload_n 0, 1) := by decide +kernel
theorem own_d589 : decode method_2_code 1 = .ok (.sipush 128, 3) := by decide +kernel
theorem own_d590 : decode method_2_code 4 = .ok (.if_icmp .ge 5, 3) := by decide +kernel
theorem own_d591 : decode method_2_code 9 = .ok (.iload_n 0, 1) := by decide +kernel
theorem own_d592 : decode method_2_code 10 = .ok (.sipush 2048, 3) := by decide +kernel
theorem own_d593 : decode method_2_code 13 = .ok (.if_icmp .ge 5, 3) := by decide +kernel
theorem own_d594 : decode method_2_code 18 = .ok (.iconst 3, 1) := by decide +kernel
theorem own_d595 : decode method_2_code 19 = .ok (.ireturn, 1) := by decide +kernel
theorem own_d596 : decode method_2_code 16 = .ok (.iconst 2, 1) := by decide +kernel
theorem own_d597 : decode method_2_code 17 = .ok (.ireturn, 1) := by decide +kernel
theorem own_d598 : decode method_2_code 7 = .ok (.iconst 1, 1) := by decide +kernel
theorem own_d599 : decode method_2_code 8 = .ok (.ireturn, 1) := by decide +kernel
set_option maxRecDepth 65536 in
set_option maxHeartbeats 40000000 in
theorem ctU8 (l : Launch) (Z : State) (a0 : Array Value) (hw : ∀ d ∈ tables_1, d.before a0 Z = true) (ch : Int32) (h : Heap) (O : Old Z Z.heap.size h) :
    Ct 1 l Z consts_1 [] (⟨"com/example/wirecall/wirecall/FrameWireBytesPinLaw", "utf8Len", "(C)I"⟩ : MethodName) method_2_code 1 (some .int) ({ frames := 0, cells := 0, slots := 0, locals := 0 } : Room) #[(.int ch)] h (fun v h' => ∃ w : Int32, v = some (.int w) ∧ w.toInt = own_u ch ∧ h = h') := by
  refine Ct.intro (plainFor_of_name own_pn211) O (fun q => by cases q) ⟨a0, own_ew hw⟩ ?_
  intro p e s m below meth c T0 hx hby hml hret hnm hlk hsf S0
  refine Goes.cast (own_ef27 m ch) ?_
  refine g_iloadN S0.here hx (hb hby own_d588) rfl 1 rfl ?_
  refine g_sipush S0.here hx (hb hby own_d589) (128 : Int32) (by decide) 4 rfl ?_
  refine g_icmp S0.here hx (hb hby own_d590) ch.toInt 128 rfl (by decide) 9 7 (by decide) (by decide) rfl (fun (hc4 : 128 ≤ ch.toInt) => ?_) (fun (hc4 : ¬ (128 ≤ ch.toInt)) => ?_)
  · refine g_iloadN S0.here hx (hb hby own_d591) rfl 10 rfl ?_
    refine g_sipush S0.here hx (hb hby own_d592) (2048 : Int32) (by decide) 13 rfl ?_
    refine g_icmp S0.here hx (hb hby own_d593) ch.toInt 2048 rfl (by decide) 18 16 (by decide) (by decide) rfl (fun (hc13 : 2048 ≤ ch.toInt) => ?_) (fun (hc13 : ¬ (2048 ≤ ch.toInt)) => ?_)
    · refine g_iconst S0.here hx (hb hby own_d594) (3 : Int32) (by decide) 19 rfl ?_
      exact S0.iret hx hlk hret (Or.inl rfl) rfl (hb hby own_d595) ⟨_, rfl, by rw [own_u3 (by omega)]; decide, rfl⟩ (by decide) (by decide)
    · refine g_iconst S0.here hx (hb hby own_d596) (2 : Int32) (by decide) 17 rfl ?_
      exact S0.iret hx hlk hret (Or.inl rfl) rfl (hb hby own_d597) ⟨_, rfl, by rw [own_u2 (by omega) (by omega)]; decide, rfl⟩ (by decide) (by decide)
  · refine g_iconst S0.here hx (hb hby own_d598) (1 : Int32) (by decide) 8 rfl ?_
    exact S0.iret hx hlk hret (Or.inl rfl) rfl (hb hby own_d599) ⟨_, rfl, by rw [own_u1 (by omega)]; decide, rfl⟩ (by decide) (by decide)
theorem own_d600 : decode method_4_code 0 = .ok (.iconst 0, 1) := by decide +kernel
theorem own_d601 : decode method_4_code 1 = .ok (.istore 4, 2) := by decide +kernel
theorem own_d602 : decode method_4_code 3 = .ok (.iload_n 0, 1) := by decide +kernel
theorem own_d603 : decode method_4_code 4 = .ok (.ifCond .le 12, 3) := by decide +kernel
theorem own_d604 : decode method_4_code 16 = .ok (.iload_n 0, 1) := by decide +kernel
theorem own_d605 : decode method_4_code 17 = .ok (.iconst 1, 1) := by decide +kernel
theorem own_d606 : decode method_4_code 18 = .ok (.if_icmp .le 12, 3) := by decide +kernel
theorem own_d607 : decode method_4_code 30 = .ok (.iload_n 0, 1) := by decide +kernel
theorem own_d608 : decode method_4_code 31 = .ok (.iconst 2, 1) := by decide +kernel
theorem own_d609 : decode method_4_code 32 = .ok (.if_icmp .le 12, 3) := by decide +kernel
theorem own_d610 : decode method_4_code 44 = .ok (.iload 4, 2) := by decide +kernel
theorem own_d611 : decode method_4_code 46 = .ok (.ireturn, 1) := by decide +kernel
set_option maxRecDepth 65536 in
set_option maxHeartbeats 40000000 in
theorem ctSB0 (l : Launch) (Z : State) (a0 : Array Value) (hw : ∀ d ∈ tables_1, d.before a0 Z = true) (c1 c2 c3 : Int32) (h : Heap) (O : Old Z Z.heap.size h) :
    Ct 1 l Z consts_1 [] (⟨"com/example/wirecall/wirecall/FrameWireBytesPinLaw", "strBytes", "(ICCC)I"⟩ : MethodName) method_4_code 5 (some .int) ({ frames := 1, cells := 0, slots := 0, locals := 13 } : Room) #[(.int (0 : Int32)), (.int c1), (.int c2), (.int c3)] h (fun v h' => ∃ w : Int32, v = some (.int w) ∧ w.toInt = own_us [] ∧ h = h') := by
  refine Ct.intro (plainFor_of_name own_pn211) O (fun q => by cases q) ⟨a0, own_ew hw⟩ ?_
  intro p e s m below meth c T0 hx hby hml hret hnm hlk hsf S0
  refine Goes.cast (own_ef193 m (0 : Int32) c1 c2 c3) ?_
  have e0 : (0 : Int32).toInt = 0 := by decide
  refine g_iconst S0.here hx (hb hby own_d600) (0 : Int32) (by decide) 1 rfl ?_
  refine g_istore S0.here hx (hb hby own_d601) #[.val (.int (0 : Int32)), .val (.int c1), .val (.int c2), .val (.int c3), .val (.int (0 : Int32))] rfl 3 rfl ?_
  refine g_iloadN S0.here hx (hb hby own_d602) rfl 4 rfl ?_
  refine g_ifT S0.here hx (hb hby own_d603) 0 (by decide) (by show 0 ≤ 0; decide) 16 (by decide) (by decide) ?_
  refine g_iloadN S0.here hx (hb hby own_d604) rfl 17 rfl ?_
  refine g_iconst S0.here hx (hb hby own_d605) (1 : Int32) (by decide) 18 rfl ?_
  refine g_icmpT S0.here hx (hb hby own_d606) 0 1 (by decide) (by decide) (by show 0 ≤ 1; decide) 30 (by decide) (by decide) ?_
  refine g_iloadN S0.here hx (hb hby own_d607) rfl 31 rfl ?_
  refine g_iconst S0.here hx (hb hby own_d608) (2 : Int32) (by decide) 32 rfl ?_
  refine g_icmpT S0.here hx (hb hby own_d609) 0 2 (by decide) (by decide) (by show 0 ≤ 2; decide) 44 (by decide) (by decide) ?_
  refine g_iload S0.here hx (hb hby own_d610) rfl 46 rfl ?_
  exact S0.iret hx hlk hret (Or.inl rfl) rfl (hb hby own_d611) ⟨_, rfl, by show _ = 0; omega, rfl⟩ (by decide) (by decide)
theorem own_d612 : decode method_4_code 7 = .ok (.iload 4, 2) := by decide +kernel
theorem own_d613 : decode method_4_code 9 = .ok (.iload_n 1, 1) := by decide +kernel
theorem own_d614 : decode method_4_code 10 = .ok (.invokestatic 12, 3) := by decide +kernel
theorem own_pd615 : parseMethodDescriptor "(C)I" = some ⟨[.char], some .int⟩ := by decide +kernel
theorem own_d616 : decode method_4_code 13 = .ok (.iadd, 1) := by decide +kernel
theorem own_d617 : decode method_4_code 14 = .ok (.istore 4, 2) := by decide +kernel
set_option maxRecDepth 65536 in
set_option maxHeartbeats 40000000 in
theorem ctSB1 (l : Launch) (Z : State) (a0 : Array Value) (hw : ∀ d ∈ tables_1, d.before a0 Z = true) (c1 c2 c3 : Int32) (h : Heap) (O : Old Z Z.heap.size h) :
    Ct 1 l Z consts_1 [] (⟨"com/example/wirecall/wirecall/FrameWireBytesPinLaw", "strBytes", "(ICCC)I"⟩ : MethodName) method_4_code 5 (some .int) ({ frames := 1, cells := 0, slots := 0, locals := 13 } : Room) #[(.int (1 : Int32)), (.int c1), (.int c2), (.int c3)] h (fun v h' => ∃ w : Int32, v = some (.int w) ∧ w.toInt = own_us [c1] ∧ h = h') := by
  refine Ct.intro (plainFor_of_name own_pn211) O (fun q => by cases q) ⟨a0, own_ew hw⟩ ?_
  intro p e s m below meth c T0 hx hby hml hret hnm hlk hsf S0
  refine Goes.cast (own_ef193 m (1 : Int32) c1 c2 c3) ?_
  have e0 : (0 : Int32).toInt = 0 := by decide
  refine g_iconst S0.here hx (hb hby own_d600) (0 : Int32) (by decide) 1 rfl ?_
  refine g_istore S0.here hx (hb hby own_d601) #[.val (.int (1 : Int32)), .val (.int c1), .val (.int c2), .val (.int c3), .val (.int (0 : Int32))] rfl 3 rfl ?_
  refine g_iloadN S0.here hx (hb hby own_d602) rfl 4 rfl ?_
  refine g_ifF S0.here hx (hb hby own_d603) 1 (by decide) (by show ¬ (1 ≤ 0); decide) 7 rfl ?_
  refine g_iload S0.here hx (hb hby own_d612) rfl 9 rfl ?_
  refine g_iloadN S0.here hx (hb hby own_d613) rfl 10 rfl ?_
  refine S0.callS hx (W := 1) (own_q112 hw) (own_q113 hw) (own_q3 hw) (own_q114 hw) (by decide) (ctU8 l Z a0 hw c1 h S0.old) nosf (by decide) (by decide) (by rw [hml]; rfl) [(.int c1)] [(.int (0 : Int32))] (lenOf own_pd615 rfl) rfl rfl (Nat.le_refl _) (hb hby own_d614) (by decide) (by decide) 13 rfl (fun v376 vm376 T376 h376 S376 Q376 R376 => ?_)
  obtain ⟨w1, rfl, e1, rfl⟩ := Q376
  show Goes _ _ _ _ T376 (mkF m 13 #[.val (.int (1 : Int32)), .val (.int c1), .val (.int c2), .val (.int c3), .val (.int (0 : Int32))] [(.int w1), (.int (0 : Int32))])
  have ub1 := own_ub c1
  have a1 := own_addb (x := (0 : Int32)) (y := w1) (by omega)
  refine g_iadd S376.here hx (hb hby own_d616) 14 rfl ?_
  refine g_istore S376.here hx (hb hby own_d617) #[.val (.int (1 : Int32)), .val (.int c1), .val (.int c2), .val (.int c3), .val (.int ((0 : Int32) + w1))] rfl 16 rfl ?_
  refine g_iloadN S376.here hx (hb hby own_d604) rfl 17 rfl ?_
  refine g_iconst S376.here hx (hb hby own_d605) (1 : Int32) (by decide) 18 rfl ?_
  refine g_icmpT S376.here hx (hb hby own_d606) 1 1 (by decide) (by decide) (by show 1 ≤ 1; decide) 30 (by decide) (by decide) ?_
  refine g_iloadN S376.here hx (hb hby own_d607) rfl 31 rfl ?_
  refine g_iconst S376.here hx (hb hby own_d608) (2 : Int32) (by decide) 32 rfl ?_
  refine g_icmpT S376.here hx (hb hby own_d609) 1 2 (by decide) (by decide) (by show 1 ≤ 2; decide) 44 (by decide) (by decide) ?_
  refine g_iload S376.here hx (hb hby own_d610) rfl 46 rfl ?_
  exact S376.iret hx hlk hret (Or.inl rfl) rfl (hb hby own_d611) ⟨_, rfl, by show _ = own_u c1 + (0); omega, rfl⟩ (by decide) (by decide)
theorem own_d618 : decode method_4_code 21 = .ok (.iload 4, 2) := by decide +kernel
theorem own_d619 : decode method_4_code 23 = .ok (.iload_n 2, 1) := by decide +kernel
theorem own_d620 : decode method_4_code 24 = .ok (.invokestatic 12, 3) := by decide +kernel
theorem own_d621 : decode method_4_code 27 = .ok (.iadd, 1) := by decide +kernel
theorem own_d622 : decode method_4_code 28 = .ok (.istore 4, 2) := by decide +kernel
set_option maxRecDepth 65536 in
set_option maxHeartbeats 40000000 in
theorem ctSB2 (l : Launch) (Z : State) (a0 : Array Value) (hw : ∀ d ∈ tables_1, d.before a0 Z = true) (c1 c2 c3 : Int32) (h : Heap) (O : Old Z Z.heap.size h) :
    Ct 1 l Z consts_1 [] (⟨"com/example/wirecall/wirecall/FrameWireBytesPinLaw", "strBytes", "(ICCC)I"⟩ : MethodName) method_4_code 5 (some .int) ({ frames := 1, cells := 0, slots := 0, locals := 13 } : Room) #[(.int (2 : Int32)), (.int c1), (.int c2), (.int c3)] h (fun v h' => ∃ w : Int32, v = some (.int w) ∧ w.toInt = own_us [c1, c2] ∧ h = h') := by
  refine Ct.intro (plainFor_of_name own_pn211) O (fun q => by cases q) ⟨a0, own_ew hw⟩ ?_
  intro p e s m below meth c T0 hx hby hml hret hnm hlk hsf S0
  refine Goes.cast (own_ef193 m (2 : Int32) c1 c2 c3) ?_
  have e0 : (0 : Int32).toInt = 0 := by decide
  refine g_iconst S0.here hx (hb hby own_d600) (0 : Int32) (by decide) 1 rfl ?_
  refine g_istore S0.here hx (hb hby own_d601) #[.val (.int (2 : Int32)), .val (.int c1), .val (.int c2), .val (.int c3), .val (.int (0 : Int32))] rfl 3 rfl ?_
  refine g_iloadN S0.here hx (hb hby own_d602) rfl 4 rfl ?_
  refine g_ifF S0.here hx (hb hby own_d603) 2 (by decide) (by show ¬ (2 ≤ 0); decide) 7 rfl ?_
  refine g_iload S0.here hx (hb hby own_d612) rfl 9 rfl ?_
  refine g_iloadN S0.here hx (hb hby own_d613) rfl 10 rfl ?_
  refine S0.callS hx (W := 1) (own_q112 hw) (own_q113 hw) (own_q3 hw) (own_q114 hw) (by decide) (ctU8 l Z a0 hw c1 h S0.old) nosf (by decide) (by decide) (by rw [hml]; rfl) [(.int c1)] [(.int (0 : Int32))] (lenOf own_pd615 rfl) rfl rfl (Nat.le_refl _) (hb hby own_d614) (by decide) (by decide) 13 rfl (fun v377 vm377 T377 h377 S377 Q377 R377 => ?_)
  obtain ⟨w1, rfl, e1, rfl⟩ := Q377
  show Goes _ _ _ _ T377 (mkF m 13 #[.val (.int (2 : Int32)), .val (.int c1), .val (.int c2), .val (.int c3), .val (.int (0 : Int32))] [(.int w1), (.int (0 : Int32))])
  have ub1 := own_ub c1
  have a1 := own_addb (x := (0 : Int32)) (y := w1) (by omega)
  refine g_iadd S377.here hx (hb hby own_d616) 14 rfl ?_
  refine g_istore S377.here hx (hb hby own_d617) #[.val (.int (2 : Int32)), .val (.int c1), .val (.int c2), .val (.int c3), .val (.int ((0 : Int32) + w1))] rfl 16 rfl ?_
  refine g_iloadN S377.here hx (hb hby own_d604) rfl 17 rfl ?_
  refine g_iconst S377.here hx (hb hby own_d605) (1 : Int32) (by decide) 18 rfl ?_
  refine g_icmpF S377.here hx (hb hby own_d606) 2 1 (by decide) (by decide) (by show ¬ (2 ≤ 1); decide) 21 rfl ?_
  refine g_iload S377.here hx (hb hby own_d618) rfl 23 rfl ?_
  refine g_iloadN S377.here hx (hb hby own_d619) rfl 24 rfl ?_
  refine S377.callS hx (W := 1) (own_q112 hw) (own_q113 hw) (own_q3 hw) (own_q114 hw) (by decide) (ctU8 l Z a0 hw c2 h S377.old) nosf (by decide) (by decide) (by rw [hml]; rfl) [(.int c2)] [(.int ((0 : Int32) + w1))] (lenOf own_pd615 rfl) rfl rfl (Nat.le_refl _) (hb hby own_d620) (by decide) (by decide) 27 rfl (fun v378 vm378 T378 h378 S378 Q378 R378 => ?_)
  obtain ⟨w2, rfl, e2, rfl⟩ := Q378
  show Goes _ _ _ _ T378 (mkF m 27 #[.val (.int (2 : Int32)), .val (.int c1), .val (.int c2), .val (.int c3), .val (.int ((0 : Int32) + w1))] [(.int w2), (.int ((0 : Int32) + w1))])
  have ub2 := own_ub c2
  have a2 := own_addb (x := ((0 : Int32) + w1)) (y := w2) (by omega)
  refine g_iadd S378.here hx (hb hby own_d621) 28 rfl ?_
  refine g_istore S378.here hx (hb hby own_d622) #[.val (.int (2 : Int32)), .val (.int c1), .val (.int c2), .val (.int c3), .val (.int (((0 : Int32) + w1) + w2))] rfl 30 rfl ?_
  refine g_iloadN S378.here hx (hb hby own_d607) rfl 31 rfl ?_
  refine g_iconst S378.here hx (hb hby own_d608) (2 : Int32) (by decide) 32 rfl ?_
  refine g_icmpT S378.here hx (hb hby own_d609) 2 2 (by decide) (by decide) (by show 2 ≤ 2; decide) 44 (by decide) (by decide) ?_
  refine g_iload S378.here hx (hb hby own_d610) rfl 46 rfl ?_
  exact S378.iret hx hlk hret (Or.inl rfl) rfl (hb hby own_d611) ⟨_, rfl, by show _ = own_u c1 + (own_u c2 + (0)); omega, rfl⟩ (by decide) (by decide)
theorem own_d623 : decode method_4_code 35 = .ok (.iload 4, 2) := by decide +kernel
theorem own_d624 : decode method_4_code 37 = .ok (.iload_n 3, 1) := by decide +kernel
theorem own_d625 : decode method_4_code 38 = .ok (.invokestatic 12, 3) := by decide +kernel
theorem own_d626 : decode method_4_code 41 = .ok (.iadd, 1) := by decide +kernel
theorem own_d627 : decode method_4_code 42 = .ok (.istore 4, 2) := by decide +kernel
set_option maxRecDepth 65536 in
set_option maxHeartbeats 40000000 in
theorem ctSB3 (l : Launch) (Z : State) (a0 : Array Value) (hw : ∀ d ∈ tables_1, d.before a0 Z = true) (c1 c2 c3 : Int32) (h : Heap) (O : Old Z Z.heap.size h) :
    Ct 1 l Z consts_1 [] (⟨"com/example/wirecall/wirecall/FrameWireBytesPinLaw", "strBytes", "(ICCC)I"⟩ : MethodName) method_4_code 5 (some .int) ({ frames := 1, cells := 0, slots := 0, locals := 13 } : Room) #[(.int (3 : Int32)), (.int c1), (.int c2), (.int c3)] h (fun v h' => ∃ w : Int32, v = some (.int w) ∧ w.toInt = own_us [c1, c2, c3] ∧ h = h') := by
  refine Ct.intro (plainFor_of_name own_pn211) O (fun q => by cases q) ⟨a0, own_ew hw⟩ ?_
  intro p e s m below meth c T0 hx hby hml hret hnm hlk hsf S0
  refine Goes.cast (own_ef193 m (3 : Int32) c1 c2 c3) ?_
  have e0 : (0 : Int32).toInt = 0 := by decide
  refine g_iconst S0.here hx (hb hby own_d600) (0 : Int32) (by decide) 1 rfl ?_
  refine g_istore S0.here hx (hb hby own_d601) #[.val (.int (3 : Int32)), .val (.int c1), .val (.int c2), .val (.int c3), .val (.int (0 : Int32))] rfl 3 rfl ?_
  refine g_iloadN S0.here hx (hb hby own_d602) rfl 4 rfl ?_
  refine g_ifF S0.here hx (hb hby own_d603) 3 (by decide) (by show ¬ (3 ≤ 0); decide) 7 rfl ?_
  refine g_iload S0.here hx (hb hby own_d612) rfl 9 rfl ?_
  refine g_iloadN S0.here hx (hb hby own_d613) rfl 10 rfl ?_
  refine S0.callS hx (W := 1) (own_q112 hw) (own_q113 hw) (own_q3 hw) (own_q114 hw) (by decide) (ctU8 l Z a0 hw c1 h S0.old) nosf (by decide) (by decide) (by rw [hml]; rfl) [(.int c1)] [(.int (0 : Int32))] (lenOf own_pd615 rfl) rfl rfl (Nat.le_refl _) (hb hby own_d614) (by decide) (by decide) 13 rfl (fun v379 vm379 T379 h379 S379 Q379 R379 => ?_)
  obtain ⟨w1, rfl, e1, rfl⟩ := Q379
  show Goes _ _ _ _ T379 (mkF m 13 #[.val (.int (3 : Int32)), .val (.int c1), .val (.int c2), .val (.int c3), .val (.int (0 : Int32))] [(.int w1), (.int (0 : Int32))])
  have ub1 := own_ub c1
  have a1 := own_addb (x := (0 : Int32)) (y := w1) (by omega)
  refine g_iadd S379.here hx (hb hby own_d616) 14 rfl ?_
  refine g_istore S379.here hx (hb hby own_d617) #[.val (.int (3 : Int32)), .val (.int c1), .val (.int c2), .val (.int c3), .val (.int ((0 : Int32) + w1))] rfl 16 rfl ?_
  refine g_iloadN S379.here hx (hb hby own_d604) rfl 17 rfl ?_
  refine g_iconst S379.here hx (hb hby own_d605) (1 : Int32) (by decide) 18 rfl ?_
  refine g_icmpF S379.here hx (hb hby own_d606) 3 1 (by decide) (by decide) (by show ¬ (3 ≤ 1); decide) 21 rfl ?_
  refine g_iload S379.here hx (hb hby own_d618) rfl 23 rfl ?_
  refine g_iloadN S379.here hx (hb hby own_d619) rfl 24 rfl ?_
  refine S379.callS hx (W := 1) (own_q112 hw) (own_q113 hw) (own_q3 hw) (own_q114 hw) (by decide) (ctU8 l Z a0 hw c2 h S379.old) nosf (by decide) (by decide) (by rw [hml]; rfl) [(.int c2)] [(.int ((0 : Int32) + w1))] (lenOf own_pd615 rfl) rfl rfl (Nat.le_refl _) (hb hby own_d620) (by decide) (by decide) 27 rfl (fun v380 vm380 T380 h380 S380 Q380 R380 => ?_)
  obtain ⟨w2, rfl, e2, rfl⟩ := Q380
  show Goes _ _ _ _ T380 (mkF m 27 #[.val (.int (3 : Int32)), .val (.int c1), .val (.int c2), .val (.int c3), .val (.int ((0 : Int32) + w1))] [(.int w2), (.int ((0 : Int32) + w1))])
  have ub2 := own_ub c2
  have a2 := own_addb (x := ((0 : Int32) + w1)) (y := w2) (by omega)
  refine g_iadd S380.here hx (hb hby own_d621) 28 rfl ?_
  refine g_istore S380.here hx (hb hby own_d622) #[.val (.int (3 : Int32)), .val (.int c1), .val (.int c2), .val (.int c3), .val (.int (((0 : Int32) + w1) + w2))] rfl 30 rfl ?_
  refine g_iloadN S380.here hx (hb hby own_d607) rfl 31 rfl ?_
  refine g_iconst S380.here hx (hb hby own_d608) (2 : Int32) (by decide) 32 rfl ?_
  refine g_icmpF S380.here hx (hb hby own_d609) 3 2 (by decide) (by decide) (by show ¬ (3 ≤ 2); decide) 35 rfl ?_
  refine g_iload S380.here hx (hb hby own_d623) rfl 37 rfl ?_
  refine g_iloadN S380.here hx (hb hby own_d624) rfl 38 rfl ?_
  refine S380.callS hx (W := 1) (own_q112 hw) (own_q113 hw) (own_q3 hw) (own_q114 hw) (by decide) (ctU8 l Z a0 hw c3 h S380.old) nosf (by decide) (by decide) (by rw [hml]; rfl) [(.int c3)] [(.int (((0 : Int32) + w1) + w2))] (lenOf own_pd615 rfl) rfl rfl (Nat.le_refl _) (hb hby own_d625) (by decide) (by decide) 41 rfl (fun v381 vm381 T381 h381 S381 Q381 R381 => ?_)
  obtain ⟨w3, rfl, e3, rfl⟩ := Q381
  show Goes _ _ _ _ T381 (mkF m 41 #[.val (.int (3 : Int32)), .val (.int c1), .val (.int c2), .val (.int c3), .val (.int (((0 : Int32) + w1) + w2))] [(.int w3), (.int (((0 : Int32) + w1) + w2))])
  have ub3 := own_ub c3
  have a3 := own_addb (x := (((0 : Int32) + w1) + w2)) (y := w3) (by omega)
  refine g_iadd S381.here hx (hb hby own_d626) 42 rfl ?_
  refine g_istore S381.here hx (hb hby own_d627) #[.val (.int (3 : Int32)), .val (.int c1), .val (.int c2), .val (.int c3), .val (.int ((((0 : Int32) + w1) + w2) + w3))] rfl 44 rfl ?_
  refine g_iload S381.here hx (hb hby own_d610) rfl 46 rfl ?_
  exact S381.iret hx hlk hret (Or.inl rfl) rfl (hb hby own_d611) ⟨_, rfl, by show _ = own_u c1 + (own_u c2 + (own_u c3 + (0))); omega, rfl⟩ (by decide) (by decide)
theorem ctSB (l : Launch) (Z : State) (a0 : Array Value) (hw : ∀ d ∈ tables_1, d.before a0 Z = true) (n c1 c2 c3 : Int32) (h : Heap) (O : Old Z Z.heap.size h) (hn : 0 ≤ n.toInt ∧ n.toInt ≤ 3) :
    Ct 1 l Z consts_1 [] (⟨"com/example/wirecall/wirecall/FrameWireBytesPinLaw", "strBytes", "(ICCC)I"⟩ : MethodName) method_4_code 5 (some .int) ({ frames := 1, cells := 0, slots := 0, locals := 13 } : Room) #[(.int n), (.int c1), (.int c2), (.int c3)] h (fun v h' => ∃ w : Int32, v = some (.int w) ∧ w.toInt = own_us (own_tk n c1 c2 c3) ∧ h = h') := by
  rcases own_c4 hn with rfl | rfl | rfl | rfl
  · exact ctSB0 l Z a0 hw c1 c2 c3 h O
  · exact ctSB1 l Z a0 hw c1 c2 c3 h O
  · exact ctSB2 l Z a0 hw c1 c2 c3 h O
  · exact ctSB3 l Z a0 hw c1 c2 c3 h O
theorem own_tkl (n c1 c2 c3 : Int32) : (own_tk n c1 c2 c3).length ≤ 3 := by unfold own_tk; (repeat' split) <;> simp
theorem own_tkk {n c1 c2 c3 : Int32} (k1 : 0 ≤ c1.toInt ∧ c1.toInt ≤ 32767) (k2 : 0 ≤ c2.toInt ∧ c2.toInt ≤ 32767) (k3 : 0 ≤ c3.toInt ∧ c3.toInt ≤ 32767) : ∀ c ∈ own_tk n c1 c2 c3, 0 ≤ c.toInt ∧ c.toInt ≤ 32767 := fun c hc => by
  unfold own_tk at hc
  have : c = c1 ∨ c = c2 ∨ c = c3 := by
    repeat' split at hc
    all_goals simp at hc
    all_goals rcases hc with rfl | rfl | rfl <;> simp
  rcases this with rfl | rfl | rfl
  · exact k1
  · exact k2
  · exact k3
theorem own_b3 (x : Int32) : 0 ≤ (x &&& (3 : Int32)).toInt ∧ (x &&& (3 : Int32)).toInt ≤ 3 := by
  have h1 := c_and x 3 (by decide)
  have e : (3 : Int32).toInt = 3 := by decide
  omega
theorem own_b10 (x : Int32) : 0 ≤ (x &&& (1023 : Int32)).toInt ∧ (x &&& (1023 : Int32)).toInt ≤ 1023 := by
  have h1 := c_and x 1023 (by decide)
  have e : (1023 : Int32).toInt = 1023 := by decide
  omega
theorem own_bc (x : Int64) : 0 ≤ (x &&& (32767 : Int64)).toInt32.toUInt32.toUInt16.toUInt32.toInt32.toInt ∧ (x &&& (32767 : Int64)).toInt32.toUInt32.toUInt16.toUInt32.toInt32.toInt ≤ 32767 := by
  have h1 := c_maskL x 32767 15 (by decide) (by decide)
  have h2 := c_l2i (x &&& 32767)
  have h3 := rng32 (x &&& (32767 : Int64)).toInt32
  have h4 := c_i2c (x &&& (32767 : Int64)).toInt32
  omega
def own_ty (Z : State) : Prop := (∃ g : Addr, Sta Z Z.heap "com/example/wirecall/wirecall/FrameType" "CALL" "Lcom/example/wirecall/wirecall/FrameType;" (.ref g)) ∧ (∃ g : Addr, Sta Z Z.heap "com/example/wirecall/wirecall/FrameType" "CAST" "Lcom/example/wirecall/wirecall/FrameType;" (.ref g)) ∧ (∃ g : Addr, Sta Z Z.heap "com/example/wirecall/wirecall/FrameType" "REPLY" "Lcom/example/wirecall/wirecall/FrameType;" (.ref g)) ∧ (∃ g : Addr, Sta Z Z.heap "com/example/wirecall/wirecall/FrameType" "ERROR" "Lcom/example/wirecall/wirecall/FrameType;" (.ref g)) ∧ (∃ g : Addr, Sta Z Z.heap "com/example/wirecall/wirecall/FrameType" "HANDSHAKE" "Lcom/example/wirecall/wirecall/FrameType;" (.ref g)) ∧ (∃ g : Addr, Sta Z Z.heap "com/example/wirecall/wirecall/FrameType" "SUBSCRIBE" "Lcom/example/wirecall/wirecall/FrameType;" (.ref g)) ∧ (∃ g : Addr, Sta Z Z.heap "com/example/wirecall/wirecall/FrameType" "UNSUBSCRIBE" "Lcom/example/wirecall/wirecall/FrameType;" (.ref g)) ∧ (∃ g : Addr, Sta Z Z.heap "com/example/wirecall/wirecall/FrameType" "PUBLISH" "Lcom/example/wirecall/wirecall/FrameType;" (.ref g)) ∧ (∃ g : Addr, Sta Z Z.heap "com/example/wirecall/wirecall/FrameType" "STREAM_START" "Lcom/example/wirecall/wirecall/FrameType;" (.ref g)) ∧ (∃ g : Addr, Sta Z Z.heap "com/example/wirecall/wirecall/FrameType" "STREAM_DATA" "Lcom/example/wirecall/wirecall/FrameType;" (.ref g)) ∧ (∃ g : Addr, Sta Z Z.heap "com/example/wirecall/wirecall/FrameType" "STREAM_END" "Lcom/example/wirecall/wirecall/FrameType;" (.ref g)) ∧ (∃ g : Addr, Sta Z Z.heap "com/example/wirecall/wirecall/FrameType" "STREAM_CANCEL" "Lcom/example/wirecall/wirecall/FrameType;" (.ref g))
theorem own_d628 : decode method_5_code 0 = .ok (.iload_n 0, 1) := by decide +kernel
theorem own_d629 : decode method_5_code 1 = .ok (.ifCond .ne 7, 3) := by decide +kernel
theorem own_d630 : decode method_5_code 8 = .ok (.iload_n 0, 1) := by decide +kernel
theorem own_d631 : decode method_5_code 9 = .ok (.iconst 1, 1) := by decide +kernel
theorem own_d632 : decode method_5_code 10 = .ok (.if_icmp .ne 7, 3) := by decide +kernel
theorem own_d633 : decode method_5_code 17 = .ok (.iload_n 0, 1) := by decide +kernel
theorem own_d634 : decode method_5_code 18 = .ok (.iconst 2, 1) := by decide +kernel
theorem own_d635 : decode method_5_code 19 = .ok (.if_icmp .ne 7, 3) := by decide +kernel
theorem own_d636 : decode method_5_code 26 = .ok (.iload_n 0, 1) := by decide +kernel
theorem own_d637 : decode method_5_code 27 = .ok (.iconst 3, 1) := by decide +kernel
theorem own_d638 : decode method_5_code 28 = .ok (.if_icmp .ne 7, 3) := by decide +kernel
theorem own_d639 : decode method_5_code 35 = .ok (.iload_n 0, 1) := by decide +kernel
theorem own_d640 : decode method_5_code 36 = .ok (.iconst 4, 1) := by decide +kernel
theorem own_d641 : decode method_5_code 37 = .ok (.if_icmp .ne 7, 3) := by decide +kernel
theorem own_d642 : decode method_5_code 44 = .ok (.iload_n 0, 1) := by decide +kernel
theorem own_d643 : decode method_5_code 45 = .ok (.iconst 5, 1) := by decide +kernel
theorem own_d644 : decode method_5_code 46 = .ok (.if_icmp .ne 7, 3) := by decide +kernel
theorem own_d645 : decode method_5_code 53 = .ok (.iload_n 0, 1) := by decide +kernel
theorem own_d646 : decode method_5_code 54 = .ok (.bipush 6, 2) := by decide +kernel
theorem own_d647 : decode method_5_code 56 = .ok (.if_icmp .ne 7, 3) := by decide +kernel
theorem own_d648 : decode method_5_code 63 = .ok (.iload_n 0, 1) := by decide +kernel
theorem own_d649 : decode method_5_code 64 = .ok (.bipush 7, 2) := by decide +kernel
theorem own_d650 : decode method_5_code 66 = .ok (.if_icmp .ne 7, 3) := by decide +kernel
theorem own_d651 : decode method_5_code 73 = .ok (.iload_n 0, 1) := by decide +kernel
theorem own_d652 : decode method_5_code 74 = .ok (.bipush 8, 2) := by decide +kernel
theorem own_d653 : decode method_5_code 76 = .ok (.if_icmp .ne 7, 3) := by decide +kernel
theorem own_d654 : decode method_5_code 83 = .ok (.iload_n 0, 1) := by decide +kernel
theorem own_d655 : decode method_5_code 84 = .ok (.bipush 9, 2) := by decide +kernel
theorem own_d656 : decode method_5_code 86 = .ok (.if_icmp .ne 7, 3) := by decide +kernel
theorem own_d657 : decode method_5_code 93 = .ok (.iload_n 0, 1) := by decide +kernel
theorem own_d658 : decode method_5_code 94 = .ok (.bipush 10, 2) := by decide +kernel
theorem own_d659 : decode method_5_code 96 = .ok (.if_icmp .ne 7, 3) := by decide +kernel
theorem own_d660 : decode method_5_code 103 = .ok (.getstatic 54, 3) := by decide +kernel
theorem own_d661 : decode method_5_code 106 = .ok (.areturn, 1) := by decide +kernel
theorem own_d662 : decode method_5_code 99 = .ok (.getstatic 51, 3) := by decide +kernel
theorem own_d663 : decode method_5_code 102 = .ok (.areturn, 1) := by decide +kernel
theorem own_d664 : decode method_5_code 89 = .ok (.getstatic 48, 3) := by decide +kernel
theorem own_d665 : decode method_5_code 92 = .ok (.areturn, 1) := by decide +kernel
theorem own_d666 : decode method_5_code 79 = .ok (.getstatic 45, 3) := by decide +kernel
theorem own_d667 : decode method_5_code 82 = .ok (.areturn, 1) := by decide +kernel
theorem own_d668 : decode method_5_code 69 = .ok (.getstatic 42, 3) := by decide +kernel
theorem own_d669 : decode method_5_code 72 = .ok (.areturn, 1) := by decide +kernel
theorem own_d670 : decode method_5_code 59 = .ok (.getstatic 39, 3) := by decide +kernel
theorem own_d671 : decode method_5_code 62 = .ok (.areturn, 1) := by decide +kernel
theorem own_d672 : decode method_5_code 49 = .ok (.getstatic 36, 3) := by decide +kernel
theorem own_d673 : decode method_5_code 52 = .ok (.areturn, 1) := by decide +kernel
theorem own_d674 : decode method_5_code 40 = .ok (.getstatic 33, 3) := by decide +kernel
theorem own_d675 : decode method_5_code 43 = .ok (.areturn, 1) := by decide +kernel
theorem own_d676 : decode method_5_code 31 = .ok (.getstatic 30, 3) := by decide +kernel
theorem own_d677 : decode method_5_code 34 = .ok (.areturn, 1) := by decide +kernel
theorem own_d678 : decode method_5_code 22 = .ok (.getstatic 27, 3) := by decide +kernel
theorem own_d679 : decode method_5_code 25 = .ok (.areturn, 1) := by decide +kernel
theorem own_d680 : decode method_5_code 13 = .ok (.getstatic 24, 3) := by decide +kernel
theorem own_d681 : decode method_5_code 16 = .ok (.areturn, 1) := by decide +kernel
theorem own_d682 : decode method_5_code 4 = .ok (.getstatic 18, 3) := by decide +kernel
theorem own_d683 : decode method_5_code 7 = .ok (.areturn, 1) := by decide +kernel
set_option maxRecDepth 65536 in
set_option maxHeartbeats 40000000 in
theorem ctTy (l : Launch) (Z : State) (a0 : Array Value) (hw : ∀ d ∈ tables_1, d.before a0 Z = true) (p1 : Int32) (h : Heap) (O : Old Z Z.heap.size h) (T : own_ty Z) :
    Ct 1 l Z consts_1 [] (⟨"com/example/wirecall/wirecall/FrameWireBytesPinLaw", "type", "(I)Lcom/example/wirecall/wirecall/FrameType;"⟩ : MethodName) method_5_code 1 (some (.object "com/example/wirecall/wirecall/FrameType")) ({ frames := 0, cells := 0, slots := 0, locals := 0 } : Room) #[(.int p1)] h (fun v h' => ∃ g : Addr, v = some (.ref g) ∧ h = h') := by
  refine Ct.intro (plainFor_of_name own_pn211) O (fun q => by cases q) ⟨a0, own_ew hw⟩ ?_
  intro p e s m below meth c T0 hx hby hml hret hnm hlk hsf S0
  refine Goes.cast (own_ef27 m p1) ?_
  obtain ⟨⟨g0, t0⟩, ⟨g1, t1⟩, ⟨g2, t2⟩, ⟨g3, t3⟩, ⟨g4, t4⟩, ⟨g5, t5⟩, ⟨g6, t6⟩, ⟨g7, t7⟩, ⟨g8, t8⟩, ⟨g9, t9⟩, ⟨g10, t10⟩, ⟨g11, t11⟩⟩ := T
  refine g_iloadN S0.here hx (hb hby own_d628) rfl 1 rfl ?_
  refine g_if S0.here hx (hb hby own_d629) p1.toInt rfl 8 4 (by decide) (by decide) rfl (fun (hc1 : ¬ p1.toInt = 0) => ?_) (fun (hc1 : ¬ (¬ p1.toInt = 0)) => ?_)
  · refine g_iloadN S0.here hx (hb hby own_d630) rfl 9 rfl ?_
    refine g_iconst S0.here hx (hb hby own_d631) (1 : Int32) (by decide) 10 rfl ?_
    refine g_icmp S0.here hx (hb hby own_d632) p1.toInt 1 rfl (by decide) 17 13 (by decide) (by decide) rfl (fun (hc10 : ¬ p1.toInt = 1) => ?_) (fun (hc10 : ¬ (¬ p1.toInt = 1)) => ?_)
    · refine g_iloadN S0.here hx (hb hby own_d633) rfl 18 rfl ?_
      refine g_iconst S0.here hx (hb hby own_d634) (2 : Int32) (by decide) 19 rfl ?_
      refine g_icmp S0.here hx (hb hby own_d635) p1.toInt 2 rfl (by decide) 26 22 (by decide) (by decide) rfl (fun (hc19 : ¬ p1.toInt = 2) => ?_) (fun (hc19 : ¬ (¬ p1.toInt = 2)) => ?_)
      · refine g_iloadN S0.here hx (hb hby own_d636) rfl 27 rfl ?_
        refine g_iconst S0.here hx (hb hby own_d637) (3 : Int32) (by decide) 28 rfl ?_
        refine g_icmp S0.here hx (hb hby own_d638) p1.toInt 3 rfl (by decide) 35 31 (by decide) (by decide) rfl (fun (hc28 : ¬ p1.toInt = 3) => ?_) (fun (hc28 : ¬ (¬ p1.toInt = 3)) => ?_)
        · refine g_iloadN S0.here hx (hb hby own_d639) rfl 36 rfl ?_
          refine g_iconst S0.here hx (hb hby own_d640) (4 : Int32) (by decide) 37 rfl ?_
          refine g_icmp S0.here hx (hb hby own_d641) p1.toInt 4 rfl (by decide) 44 40 (by decide) (by decide) rfl (fun (hc37 : ¬ p1.toInt = 4) => ?_) (fun (hc37 : ¬ (¬ p1.toInt = 4)) => ?_)
          · refine g_iloadN S0.here hx (hb hby own_d642) rfl 45 rfl ?_
            refine g_iconst S0.here hx (hb hby own_d643) (5 : Int32) (by decide) 46 rfl ?_
            refine g_icmp S0.here hx (hb hby own_d644) p1.toInt 5 rfl (by decide) 53 49 (by decide) (by decide) rfl (fun (hc46 : ¬ p1.toInt = 5) => ?_) (fun (hc46 : ¬ (¬ p1.toInt = 5)) => ?_)
            · refine g_iloadN S0.here hx (hb hby own_d645) rfl 54 rfl ?_
              refine g_bipush S0.here hx (hb hby own_d646) (6 : Int32) (by decide) 56 rfl ?_
              refine g_icmp S0.here hx (hb hby own_d647) p1.toInt 6 rfl (by decide) 63 59 (by decide) (by decide) rfl (fun (hc56 : ¬ p1.toInt = 6) => ?_) (fun (hc56 : ¬ (¬ p1.toInt = 6)) => ?_)
              · refine g_iloadN S0.here hx (hb hby own_d648) rfl 64 rfl ?_
                refine g_bipush S0.here hx (hb hby own_d649) (7 : Int32) (by decide) 66 rfl ?_
                refine g_icmp S0.here hx (hb hby own_d650) p1.toInt 7 rfl (by decide) 73 69 (by decide) (by decide) rfl (fun (hc66 : ¬ p1.toInt = 7) => ?_) (fun (hc66 : ¬ (¬ p1.toInt = 7)) => ?_)
                · refine g_iloadN S0.here hx (hb hby own_d651) rfl 74 rfl ?_
                  refine g_bipush S0.here hx (hb hby own_d652) (8 : Int32) (by decide) 76 rfl ?_
                  refine g_icmp S0.here hx (hb hby own_d653) p1.toInt 8 rfl (by decide) 83 79 (by decide) (by decide) rfl (fun (hc76 : ¬ p1.toInt = 8) => ?_) (fun (hc76 : ¬ (¬ p1.toInt = 8)) => ?_)
                  · refine g_iloadN S0.here hx (hb hby own_d654) rfl 84 rfl ?_
                    refine g_bipush S0.here hx (hb hby own_d655) (9 : Int32) (by decide) 86 rfl ?_
                    refine g_icmp S0.here hx (hb hby own_d656) p1.toInt 9 rfl (by decide) 93 89 (by decide) (by decide) rfl (fun (hc86 : ¬ p1.toInt = 9) => ?_) (fun (hc86 : ¬ (¬ p1.toInt = 9)) => ?_)
                    · refine g_iloadN S0.here hx (hb hby own_d657) rfl 94 rfl ?_
                      refine g_bipush S0.here hx (hb hby own_d658) (10 : Int32) (by decide) 96 rfl ?_
                      refine g_icmp S0.here hx (hb hby own_d659) p1.toInt 10 rfl (by decide) 103 99 (by decide) (by decide) rfl (fun (hc96 : ¬ p1.toInt = 10) => ?_) (fun (hc96 : ¬ (¬ p1.toInt = 10)) => ?_)
                      · refine S0.getS hx (host := "") (Or.inl (own_q181 hw)) Via.refl (t11.ext O.2) (hb hby own_d660) 106 rfl (fun T382 S382 => ?_)
                        exact S382.aret hx hlk hret rfl rfl rfl (hb hby own_d661) ⟨_, rfl, rfl⟩ (by decide) (by decide)
                      · refine S0.getS hx (host := "") (Or.inl (own_q154 hw)) Via.refl (t10.ext O.2) (hb hby own_d662) 102 rfl (fun T383 S383 => ?_)
                        exact S383.aret hx hlk hret rfl rfl rfl (hb hby own_d663) ⟨_, rfl, rfl⟩ (by decide) (by decide)
                    · refine S0.getS hx (host := "") (Or.inl (own_q177 hw)) Via.refl (t9.ext O.2) (hb hby own_d664) 92 rfl (fun T384 S384 => ?_)
                      exact S384.aret hx hlk hret rfl rfl rfl (hb hby own_d665) ⟨_, rfl, rfl⟩ (by decide) (by decide)
                  · refine S0.getS hx (host := "") (Or.inl (own_q175 hw)) Via.refl (t8.ext O.2) (hb hby own_d666) 82 rfl (fun T385 S385 => ?_)
                    exact S385.aret hx hlk hret rfl rfl rfl (hb hby own_d667) ⟨_, rfl, rfl⟩ (by decide) (by decide)
                · refine S0.getS hx (host := "") (Or.inl (own_q120 hw)) Via.refl (t7.ext O.2) (hb hby own_d668) 72 rfl (fun T386 S386 => ?_)
                  exact S386.aret hx hlk hret rfl rfl rfl (hb hby own_d669) ⟨_, rfl, rfl⟩ (by decide) (by decide)
              · refine S0.getS hx (host := "") (Or.inl (own_q173 hw)) Via.refl (t6.ext O.2) (hb hby own_d670) 62 rfl (fun T387 S387 => ?_)
                exact S387.aret hx hlk hret rfl rfl rfl (hb hby own_d671) ⟨_, rfl, rfl⟩ (by decide) (by decide)
            · refine S0.getS hx (host := "") (Or.inl (own_q179 hw)) Via.refl (t5.ext O.2) (hb hby own_d672) 52 rfl (fun T388 S388 => ?_)
              exact S388.aret hx hlk hret rfl rfl rfl (hb hby own_d673) ⟨_, rfl, rfl⟩ (by decide) (by decide)
          · refine S0.getS hx (host := "") (Or.inl (own_q152 hw)) Via.refl (t4.ext O.2) (hb hby own_d674) 43 rfl (fun T389 S389 => ?_)
            exact S389.aret hx hlk hret rfl rfl rfl (hb hby own_d675) ⟨_, rfl, rfl⟩ (by decide) (by decide)
        · refine S0.getS hx (host := "") (Or.inl (own_q170 hw)) Via.refl (t3.ext O.2) (hb hby own_d676) 34 rfl (fun T390 S390 => ?_)
          exact S390.aret hx hlk hret rfl rfl rfl (hb hby own_d677) ⟨_, rfl, rfl⟩ (by decide) (by decide)
      · refine S0.getS hx (host := "") (Or.inl (own_q156 hw)) Via.refl (t2.ext O.2) (hb hby own_d678) 25 rfl (fun T391 S391 => ?_)
        exact S391.aret hx hlk hret rfl rfl rfl (hb hby own_d679) ⟨_, rfl, rfl⟩ (by decide) (by decide)
    · refine S0.getS hx (host := "") (Or.inl (own_q150 hw)) Via.refl (t1.ext O.2) (hb hby own_d680) 16 rfl (fun T392 S392 => ?_)
      exact S392.aret hx hlk hret rfl rfl rfl (hb hby own_d681) ⟨_, rfl, rfl⟩ (by decide) (by decide)
  · refine S0.getS hx (host := "") (Or.inl (own_q5 hw)) Via.refl (t0.ext O.2) (hb hby own_d682) 7 rfl (fun T393 S393 => ?_)
    exact S393.aret hx hlk hret rfl rfl rfl (hb hby own_d683) ⟨_, rfl, rfl⟩ (by decide) (by decide)
theorem own_ef684 (m : MethodId) (x0 : Int32) (x1 : Int32) (x2 : Int64) (x3 : Int64) (x4 : Int32) (x5 : Int32) : entryFrame m #[(.int x0), (.int x1), (.long x2), (.long x3), (.int x4), (.int x5)] maxLocals = mkF m 0 #[.val (.int x0), .val (.int x1), .val (.long x2), .second, .val (.long x3), .second, .val (.int x4), .val (.int x5), .unset, .unset, .unset, .unset, .unset, .unset, .unset, .unset, .unset, .unset, .unset, .unset, .unset, .unset, .unset] [] := by first | (simp [entryFrame, mkF, argsToLocals, Value.category, maxLocals]; done) | rfl
theorem own_pd685 : parseMethodDescriptor "(I)Lcom/example/wirecall/wirecall/FrameType;" = some ⟨[.int], some (.object "com/example/wirecall/wirecall/FrameType")⟩ := by decide +kernel
theorem own_pd686 : parseMethodDescriptor "(ICCC)Ljava/lang/String;" = some ⟨[.int, .char, .char, .char], some (.object "java/lang/String")⟩ := by decide +kernel
theorem own_pd687 : parseMethodDescriptor "(Lcom/example/wirecall/wirecall/FrameType;ILjava/lang/String;Ljava/lang/String;[B)V" = some ⟨[(.object "com/example/wirecall/wirecall/FrameType"), .int, (.object "java/lang/String"), (.object "java/lang/String"), (.array .byte)], none⟩ := by decide +kernel
theorem own_pd688 : parseMethodDescriptor "(ICCC)I" = some ⟨[.int, .char, .char, .char], some .int⟩ := by decide +kernel
theorem own_pd689 : parseMethodDescriptor "()I" = some ⟨[], some .int⟩ := by decide +kernel
set_option maxRecDepth 65536 in
set_option maxHeartbeats 40000000 in
theorem ct0 (l : Launch) (Z : State) (a0 : Array Value) (hw : ∀ d ∈ tables_1, d.before a0 Z = true) (p1 p2 : Int32) (q3 q4 : Int64) (p5 p6 : Int32) (u8 : Addr) (h : Heap) (O : Old Z Z.heap.size h) (G : own_cs Z) (H : own_h16 Z) (U : Sta Z Z.heap "sun/nio/cs/UTF_8" "INSTANCE" "Lsun/nio/cs/UTF_8;" (.ref u8)) (V8 : Sta Z Z.heap "java/nio/charset/StandardCharsets" "UTF_8" "Ljava/nio/charset/Charset;" (.ref u8)) (T : own_ty Z) :
    Ct 1 l Z consts_1 [] x code maxLocals ret room_1 #[(.int p1), (.int p2), (.long q3), (.long q4), (.int p5), (.int p6)] h (fun v h' => v = some (.int 1)) := by
  refine Ct.intro (plainFor_of_name own_pn211) O (fun q => by cases q) ⟨a0, own_ew hw⟩ ?_
  intro p e s m below meth c T0 hx hby hml hret hnm hlk hsf S0
  refine Goes.cast (own_ef684 m p1 p2 q3 q4 p5 p6) ?_
  refine g_iloadN S0.here hx (hb hby at_0) rfl 1 rfl ?_
  refine S0.ldcI hx (own_q0 hw) (hb hby at_1) 3 rfl ?_
  refine g_iand S0.here hx (hb hby at_3) 4 rfl ?_
  refine g_bipush S0.here hx (hb hby at_4) (12 : Int32) (by decide) 6 rfl ?_
  refine g_irem S0.here hx (hb hby at_6) (by decide) 7 rfl ?_
  refine S0.callS hx (W := 0) (own_q1 hw) (own_q2 hw) (own_q3 hw) (own_q4 hw) (by decide) (ctTy l Z a0 hw _ h S0.old T) nosf (by decide) (by decide) (by rw [hml]; rfl) [(.int ((p1 &&& (2147483647 : Int32)) % (12 : Int32)))] [] (lenOf own_pd685 rfl) rfl rfl (Nat.le_refl _) (hb hby at_7) (by decide) (by decide) 10 rfl (fun v394 vm394 T394 h394 S394 Q394 R394 => ?_)
  obtain ⟨ty, rfl, rfl⟩ := Q394
  show Goes _ _ _ _ T394 (mkF m 10 #[.val (.int p1), .val (.int p2), .val (.long q3), .second, .val (.long q4), .second, .val (.int p5), .val (.int p6), .unset, .unset, .unset, .unset, .unset, .unset, .unset, .unset, .unset, .unset, .unset, .unset, .unset, .unset, .unset] [(.ref ty)])
  refine g_astore S394.here hx (hb hby at_10) rfl #[.val (.int p1), .val (.int p2), .val (.long q3), .second, .val (.long q4), .second, .val (.int p5), .val (.int p6), .val (.ref ty), .unset, .unset, .unset, .unset, .unset, .unset, .unset, .unset, .unset, .unset, .unset, .unset, .unset, .unset] rfl 12 rfl ?_
  refine g_iload S394.here hx (hb hby at_12) rfl 14 rfl ?_
  refine g_iconst S394.here hx (hb hby at_14) (3 : Int32) (by decide) 15 rfl ?_
  refine g_iand S394.here hx (hb hby at_15) 16 rfl ?_
  obtain ⟨n1, e_n1⟩ : ∃ y, y = (p5 &&& (3 : Int32)) := ⟨_, rfl⟩
  have k_n1 : 0 ≤ n1.toInt ∧ n1.toInt ≤ 3 := by rw [e_n1]; exact own_b3 _
  rw [← e_n1]
  clear e_n1
  refine g_istore S394.here hx (hb hby at_16) #[.val (.int p1), .val (.int p2), .val (.long q3), .second, .val (.long q4), .second, .val (.int p5), .val (.int p6), .val (.ref ty), .val (.int n1), .unset, .unset, .unset, .unset, .unset, .unset, .unset, .unset, .unset, .unset, .unset, .unset, .unset] rfl 18 rfl ?_
  refine g_iload S394.here hx (hb hby at_18) rfl 20 rfl ?_
  refine g_iconst S394.here hx (hb hby at_20) (2 : Int32) (by decide) 21 rfl ?_
  refine g_iushr S394.here hx (hb hby at_21) 22 rfl ?_
  refine g_iconst S394.here hx (hb hby at_22) (3 : Int32) (by decide) 23 rfl ?_
  refine g_iand S394.here hx (hb hby at_23) 24 rfl ?_
  obtain ⟨n2, e_n2⟩ : ∃ y, y = (((p5.toUInt32 >>> ((2 : Int32) &&& 31).toUInt32).toInt32) &&& (3 : Int32)) := ⟨_, rfl⟩
  have k_n2 : 0 ≤ n2.toInt ∧ n2.toInt ≤ 3 := by rw [e_n2]; exact own_b3 _
  rw [← e_n2]
  clear e_n2
  refine g_istore S394.here hx (hb hby at_24) #[.val (.int p1), .val (.int p2), .val (.long q3), .second, .val (.long q4), .second, .val (.int p5), .val (.int p6), .val (.ref ty), .val (.int n1), .val (.int n2), .unset, .unset, .unset, .unset, .unset, .unset, .unset, .unset, .unset, .unset, .unset, .unset] rfl 26 rfl ?_
  refine g_lloadN S394.here hx (hb hby at_26) rfl 27 rfl ?_
  refine S394.ldcJ hx (own_q8 hw) (hb hby at_27) 30 rfl ?_
  refine g_land S394.here hx (hb hby at_30) 31 rfl ?_
  refine g_l2i S394.here hx (hb hby at_31) 32 rfl ?_
  refine g_i2c S394.here hx (hb hby at_32) 33 rfl ?_
  obtain ⟨c1, e_c1⟩ : ∃ y, y = (((q3 &&& (32767 : Int64)).toInt32).toUInt32.toUInt16.toUInt32.toInt32) := ⟨_, rfl⟩
  have k_c1 : 0 ≤ c1.toInt ∧ c1.toInt ≤ 32767 := by rw [e_c1]; exact own_bc _
  rw [← e_c1]
  clear e_c1
  refine g_istore S394.here hx (hb hby at_33) #[.val (.int p1), .val (.int p2), .val (.long q3), .second, .val (.long q4), .second, .val (.int p5), .val (.int p6), .val (.ref ty), .val (.int n1), .val (.int n2), .val (.int c1), .unset, .unset, .unset, .unset, .unset, .unset, .unset, .unset, .unset, .unset, .unset] rfl 35 rfl ?_
  refine g_lloadN S394.here hx (hb hby at_35) rfl 36 rfl ?_
  refine g_bipush S394.here hx (hb hby at_36) (15 : Int32) (by decide) 38 rfl ?_
  refine g_lushr S394.here hx (hb hby at_38) 39 rfl ?_
  refine S394.ldcJ hx (own_q8 hw) (hb hby at_39) 42 rfl ?_
  refine g_land S394.here hx (hb hby at_42) 43 rfl ?_
  refine g_l2i S394.here hx (hb hby at_43) 44 rfl ?_
  refine g_i2c S394.here hx (hb hby at_44) 45 rfl ?_
  obtain ⟨c2, e_c2⟩ : ∃ y, y = (((((q3.toUInt64 >>> ((15 : Int32) &&& 0x3f).toInt64.toUInt64).toInt64) &&& (32767 : Int64)).toInt32).toUInt32.toUInt16.toUInt32.toInt32) := ⟨_, rfl⟩
  have k_c2 : 0 ≤ c2.toInt ∧ c2.toInt ≤ 32767 := by rw [e_c2]; exact own_bc _
  rw [← e_c2]
  clear e_c2
  refine g_istore S394.here hx (hb hby at_45) #[.val (.int p1), .val (.int p2), .val (.long q3), .second, .val (.long q4), .second, .val (.int p5), .val (.int p6), .val (.ref ty), .val (.int n1), .val (.int n2), .val (.int c1), .val (.int c2), .unset, .unset, .unset, .unset, .unset, .unset, .unset, .unset, .unset, .unset] rfl 47 rfl ?_
  refine g_lloadN S394.here hx (hb hby at_47) rfl 48 rfl ?_
  refine g_bipush S394.here hx (hb hby at_48) (30 : Int32) (by decide) 50 rfl ?_
  refine g_lushr S394.here hx (hb hby at_50) 51 rfl ?_
  refine S394.ldcJ hx (own_q8 hw) (hb hby at_51) 54 rfl ?_
  refine g_land S394.here hx (hb hby at_54) 55 rfl ?_
  refine g_l2i S394.here hx (hb hby at_55) 56 rfl ?_
  refine g_i2c S394.here hx (hb hby at_56) 57 rfl ?_
  obtain ⟨c3, e_c3⟩ : ∃ y, y = (((((q3.toUInt64 >>> ((30 : Int32) &&& 0x3f).toInt64.toUInt64).toInt64) &&& (32767 : Int64)).toInt32).toUInt32.toUInt16.toUInt32.toInt32) := ⟨_, rfl⟩
  have k_c3 : 0 ≤ c3.toInt ∧ c3.toInt ≤ 32767 := by rw [e_c3]; exact own_bc _
  rw [← e_c3]
  clear e_c3
  refine g_istore S394.here hx (hb hby at_57) #[.val (.int p1), .val (.int p2), .val (.long q3), .second, .val (.long q4), .second, .val (.int p5), .val (.int p6), .val (.ref ty), .val (.int n1), .val (.int n2), .val (.int c1), .val (.int c2), .val (.int c3), .unset, .unset, .unset, .unset, .unset, .unset, .unset, .unset, .unset] rfl 59 rfl ?_
  refine g_lload S394.here hx (hb hby at_59) rfl 61 rfl ?_
  refine S394.ldcJ hx (own_q8 hw) (hb hby at_61) 64 rfl ?_
  refine g_land S394.here hx (hb hby at_64) 65 rfl ?_
  refine g_l2i S394.here hx (hb hby at_65) 66 rfl ?_
  refine g_i2c S394.here hx (hb hby at_66) 67 rfl ?_
  obtain ⟨d1, e_d1⟩ : ∃ y, y = (((q4 &&& (32767 : Int64)).toInt32).toUInt32.toUInt16.toUInt32.toInt32) := ⟨_, rfl⟩
  have k_d1 : 0 ≤ d1.toInt ∧ d1.toInt ≤ 32767 := by rw [e_d1]; exact own_bc _
  rw [← e_d1]
  clear e_d1
  refine g_istore S394.here hx (hb hby at_67) #[.val (.int p1), .val (.int p2), .val (.long q3), .second, .val (.long q4), .second, .val (.int p5), .val (.int p6), .val (.ref ty), .val (.int n1), .val (.int n2), .val (.int c1), .val (.int c2), .val (.int c3), .val (.int d1), .unset, .unset, .unset, .unset, .unset, .unset, .unset, .unset] rfl 69 rfl ?_
  refine g_lload S394.here hx (hb hby at_69) rfl 71 rfl ?_
  refine g_bipush S394.here hx (hb hby at_71) (15 : Int32) (by decide) 73 rfl ?_
  refine g_lushr S394.here hx (hb hby at_73) 74 rfl ?_
  refine S394.ldcJ hx (own_q8 hw) (hb hby at_74) 77 rfl ?_
  refine g_land S394.here hx (hb hby at_77) 78 rfl ?_
  refine g_l2i S394.here hx (hb hby at_78) 79 rfl ?_
  refine g_i2c S394.here hx (hb hby at_79) 80 rfl ?_
  obtain ⟨d2, e_d2⟩ : ∃ y, y = (((((q4.toUInt64 >>> ((15 : Int32) &&& 0x3f).toInt64.toUInt64).toInt64) &&& (32767 : Int64)).toInt32).toUInt32.toUInt16.toUInt32.toInt32) := ⟨_, rfl⟩
  have k_d2 : 0 ≤ d2.toInt ∧ d2.toInt ≤ 32767 := by rw [e_d2]; exact own_bc _
  rw [← e_d2]
  clear e_d2
  refine g_istore S394.here hx (hb hby at_80) #[.val (.int p1), .val (.int p2), .val (.long q3), .second, .val (.long q4), .second, .val (.int p5), .val (.int p6), .val (.ref ty), .val (.int n1), .val (.int n2), .val (.int c1), .val (.int c2), .val (.int c3), .val (.int d1), .val (.int d2), .unset, .unset, .unset, .unset, .unset, .unset, .unset] rfl 82 rfl ?_
  refine g_lload S394.here hx (hb hby at_82) rfl 84 rfl ?_
  refine g_bipush S394.here hx (hb hby at_84) (30 : Int32) (by decide) 86 rfl ?_
  refine g_lushr S394.here hx (hb hby at_86) 87 rfl ?_
  refine S394.ldcJ hx (own_q8 hw) (hb hby at_87) 90 rfl ?_
  refine g_land S394.here hx (hb hby at_90) 91 rfl ?_
  refine g_l2i S394.here hx (hb hby at_91) 92 rfl ?_
  refine g_i2c S394.here hx (hb hby at_92) 93 rfl ?_
  obtain ⟨d3, e_d3⟩ : ∃ y, y = (((((q4.toUInt64 >>> ((30 : Int32) &&& 0x3f).toInt64.toUInt64).toInt64) &&& (32767 : Int64)).toInt32).toUInt32.toUInt16.toUInt32.toInt32) := ⟨_, rfl⟩
  have k_d3 : 0 ≤ d3.toInt ∧ d3.toInt ≤ 32767 := by rw [e_d3]; exact own_bc _
  rw [← e_d3]
  clear e_d3
  refine g_istore S394.here hx (hb hby at_93) #[.val (.int p1), .val (.int p2), .val (.long q3), .second, .val (.long q4), .second, .val (.int p5), .val (.int p6), .val (.ref ty), .val (.int n1), .val (.int n2), .val (.int c1), .val (.int c2), .val (.int c3), .val (.int d1), .val (.int d2), .val (.int d3), .unset, .unset, .unset, .unset, .unset, .unset] rfl 95 rfl ?_
  refine g_iload S394.here hx (hb hby at_95) rfl 97 rfl ?_
  refine g_iload S394.here hx (hb hby at_97) rfl 99 rfl ?_
  refine g_iload S394.here hx (hb hby at_99) rfl 101 rfl ?_
  refine g_iload S394.here hx (hb hby at_101) rfl 103 rfl ?_
  refine S394.callS hx (W := 0) (own_q9 hw) (own_q10 hw) (own_q3 hw) (own_q11 hw) (by decide) (ctStr l Z a0 hw n1 c1 c2 c3 h S394.old G H k_c1 k_c2 k_c3 k_n1) nosf (by decide) (by decide) (by rw [hml]; rfl) [(.int n1), (.int c1), (.int c2), (.int c3)] [] (lenOf own_pd686 rfl) rfl rfl (Nat.le_refl _) (hb hby at_103) (by decide) (by decide) 106 rfl (fun v395 vm395 T395 h395 S395 Q395 R395 => ?_)
  obtain ⟨s1, rfl, T1, E395⟩ := Q395
  show Goes _ _ _ _ T395 (mkF m 106 #[.val (.int p1), .val (.int p2), .val (.long q3), .second, .val (.long q4), .second, .val (.int p5), .val (.int p6), .val (.ref ty), .val (.int n1), .val (.int n2), .val (.int c1), .val (.int c2), .val (.int c3), .val (.int d1), .val (.int d2), .val (.int d3), .unset, .unset, .unset, .unset, .unset, .unset] [(.ref s1)])
  refine g_astore S395.here hx (hb hby at_106) rfl #[.val (.int p1), .val (.int p2), .val (.long q3), .second, .val (.long q4), .second, .val (.int p5), .val (.int p6), .val (.ref ty), .val (.int n1), .val (.int n2), .val (.int c1), .val (.int c2), .val (.int c3), .val (.int d1), .val (.int d2), .val (.int d3), .val (.ref s1), .unset, .unset, .unset, .unset, .unset] rfl 108 rfl ?_
  refine g_iload S395.here hx (hb hby at_108) rfl 110 rfl ?_
  refine g_iload S395.here hx (hb hby at_110) rfl 112 rfl ?_
  refine g_iload S395.here hx (hb hby at_112) rfl 114 rfl ?_
  refine g_iload S395.here hx (hb hby at_114) rfl 116 rfl ?_
  refine S395.callS hx (W := 0) (own_q9 hw) (own_q10 hw) (own_q3 hw) (own_q11 hw) (by decide) (ctStr l Z a0 hw n2 d1 d2 d3 h395 S395.old G H k_d1 k_d2 k_d3 k_n2) nosf (by decide) (by decide) (by rw [hml]; rfl) [(.int n2), (.int d1), (.int d2), (.int d3)] [] (lenOf own_pd686 rfl) rfl rfl (Nat.le_refl _) (hb hby at_116) (by decide) (by decide) 119 rfl (fun v396 vm396 T396 h396 S396 Q396 R396 => ?_)
  obtain ⟨s2, rfl, T2, E396⟩ := Q396
  show Goes _ _ _ _ T396 (mkF m 119 #[.val (.int p1), .val (.int p2), .val (.long q3), .second, .val (.long q4), .second, .val (.int p5), .val (.int p6), .val (.ref ty), .val (.int n1), .val (.int n2), .val (.int c1), .val (.int c2), .val (.int c3), .val (.int d1), .val (.int d2), .val (.int d3), .val (.ref s1), .unset, .unset, .unset, .unset, .unset] [(.ref s2)])
  have T1 := T1.ext E396
  refine g_astore S396.here hx (hb hby at_119) rfl #[.val (.int p1), .val (.int p2), .val (.long q3), .second, .val (.long q4), .second, .val (.int p5), .val (.int p6), .val (.ref ty), .val (.int n1), .val (.int n2), .val (.int c1), .val (.int c2), .val (.int c3), .val (.int d1), .val (.int d2), .val (.int d3), .val (.ref s1), .val (.ref s2), .unset, .unset, .unset, .unset] rfl 121 rfl ?_
  refine g_iload S396.here hx (hb hby at_121) rfl 123 rfl ?_
  refine g_sipush S396.here hx (hb hby at_123) (1023 : Int32) (by decide) 126 rfl ?_
  refine g_iand S396.here hx (hb hby at_126) 127 rfl ?_
  obtain ⟨np, e_np⟩ : ∃ y, y = (p6 &&& (1023 : Int32)) := ⟨_, rfl⟩
  have k_np : 0 ≤ np.toInt ∧ np.toInt ≤ 1023 := by rw [e_np]; exact own_b10 _
  rw [← e_np]
  clear e_np
  refine g_istore S396.here hx (hb hby at_127) #[.val (.int p1), .val (.int p2), .val (.long q3), .second, .val (.long q4), .second, .val (.int p5), .val (.int p6), .val (.ref ty), .val (.int n1), .val (.int n2), .val (.int c1), .val (.int c2), .val (.int c3), .val (.int d1), .val (.int d2), .val (.int d3), .val (.ref s1), .val (.ref s2), .val (.int np), .unset, .unset, .unset] rfl 129 rfl ?_
  refine g_iload S396.here hx (hb hby at_129) rfl 131 rfl ?_
  have ec := own_clamp k_np.1
  refine S396.newA (aty := .byte) hx (own_q31 hw) (n := np) (own_nn k_np.1) (cap := 1023) (by omega) (by decide) (hb hby at_131) (by decide) (by decide) 133 rfl (fun T397 h397 pl k397 S397 g397 E397 V397 F397 R397 => ?_)
  have PL : own_enc Z h397 pl np.toInt := ⟨_, _, _, V397, rfl⟩
  have T1 := T1.ext E397
  have T2 := T2.ext E397
  refine g_astore S397.here hx (hb hby at_133) rfl #[.val (.int p1), .val (.int p2), .val (.long q3), .second, .val (.long q4), .second, .val (.int p5), .val (.int p6), .val (.ref ty), .val (.int n1), .val (.int n2), .val (.int c1), .val (.int c2), .val (.int c3), .val (.int d1), .val (.int d2), .val (.int d3), .val (.ref s1), .val (.ref s2), .val (.int np), .val (.ref pl), .unset, .unset] rfl 135 rfl ?_
  refine S397.new hx (own_q45 hw) (own_q46 hw) (own_q47 hw) (hb hby at_135) (by decide) (by decide) 138 rfl (fun T398 h398 f S398 g398 E398 A398 D398 F398 R398 U398 => ?_)
  have ga398 : Z.heap.size ≤ f := by rw [g398]; exact S397.size
  have rf : own_rawf Z h398 f := ⟨A398, ⟨_, D398 (Or.inr (own_q53 hw)) (ty := (.object "com/example/wirecall/wirecall/FrameType")) (by decide)⟩, ⟨_, D398 (Or.inr (own_q55 hw)) (ty := .int) (by decide)⟩, ⟨_, D398 (Or.inr (own_q57 hw)) (ty := (.object "java/lang/String")) (by decide)⟩, ⟨_, D398 (Or.inr (own_q59 hw)) (ty := (.object "java/lang/String")) (by decide)⟩, ⟨_, D398 (Or.inr (own_q101 hw)) (ty := (.array .byte)) (by decide)⟩, ⟨_, D398 (Or.inr (own_q104 hw)) (ty := (.array .byte)) (by decide)⟩, ⟨_, D398 (Or.inr (own_q108 hw)) (ty := (.array .byte)) (by decide)⟩⟩
  have T1 := T1.ext E398
  have T2 := T2.ext E398
  have PL := PL.ext E398
  refine g_dup S398.here hx (hb hby at_138) rfl 139 rfl ?_
  refine g_aload S398.here hx (hb hby at_139) rfl rfl 141 rfl ?_
  refine g_iloadN S398.here hx (hb hby at_141) rfl 142 rfl ?_
  refine g_aload S398.here hx (hb hby at_142) rfl rfl 144 rfl ?_
  refine g_aload S398.here hx (hb hby at_144) rfl rfl 146 rfl ?_
  refine g_aload S398.here hx (hb hby at_146) rfl rfl 148 rfl ?_
  refine S398.callI hx (W := 1) (a := f) rfl (own_q48 hw) (own_q49 hw) (own_q50 hw) (by decide) (own_q47 hw) (ctFr l Z a0 hw f ty s1 s2 pl u8 _ _ _ _ h398 S398.old G H U V8 rf ga398 T1 (own_tkl ..) (own_tkk k_c1 k_c2 k_c3) T2 (own_tkl ..) (own_tkk k_d1 k_d2 k_d3) PL k_np.2) (fun x hx => by cases List.mem_singleton.mp hx; exact ⟨A398.lt, F398⟩) (by decide) (by decide) (by rw [hml]; rfl) [(.ref ty), (.int p2), (.ref s1), (.ref s2), (.ref pl)] [(.ref f)] (lenOf own_pd687 rfl) rfl rfl (Nat.le_refl _) (hb hby at_148) (by decide) (by decide) 151 rfl (fun v399 vm399 T399 h399 S399 Q399 R399 => ?_)
  obtain ⟨rfl, XF, ⟨r1, r2, m1, m2, m3, C1, C2, C3⟩, -⟩ := Q399
  show Goes _ _ _ _ T399 (mkF m 151 #[.val (.int p1), .val (.int p2), .val (.long q3), .second, .val (.long q4), .second, .val (.int p5), .val (.int p6), .val (.ref ty), .val (.int n1), .val (.int n2), .val (.int c1), .val (.int c2), .val (.int c3), .val (.int d1), .val (.int d2), .val (.int d3), .val (.ref s1), .val (.ref s2), .val (.int np), .val (.ref pl), .unset, .unset] [(.ref f)])
  refine g_astore S399.here hx (hb hby at_151) rfl #[.val (.int p1), .val (.int p2), .val (.long q3), .second, .val (.long q4), .second, .val (.int p5), .val (.int p6), .val (.ref ty), .val (.int n1), .val (.int n2), .val (.int c1), .val (.int c2), .val (.int c3), .val (.int d1), .val (.int d2), .val (.int d3), .val (.ref s1), .val (.ref s2), .val (.int np), .val (.ref pl), .val (.ref f), .unset] rfl 153 rfl ?_
  refine g_bipush S399.here hx (hb hby at_153) (17 : Int32) (by decide) 155 rfl ?_
  refine g_iload S399.here hx (hb hby at_155) rfl 157 rfl ?_
  refine g_iload S399.here hx (hb hby at_157) rfl 159 rfl ?_
  refine g_iload S399.here hx (hb hby at_159) rfl 161 rfl ?_
  refine g_iload S399.here hx (hb hby at_161) rfl 163 rfl ?_
  refine S399.callS hx (W := 1) (own_q109 hw) (own_q110 hw) (own_q3 hw) (own_q111 hw) (by decide) (ctSB l Z a0 hw n1 c1 c2 c3 h399 S399.old k_n1) nosf (by decide) (by decide) (by rw [hml]; rfl) [(.int n1), (.int c1), (.int c2), (.int c3)] [(.int (17 : Int32))] (lenOf own_pd688 rfl) rfl rfl (Nat.le_refl _) (hb hby at_163) (by decide) (by decide) 166 rfl (fun v400 vm400 T400 h400 S400 Q400 R400 => ?_)
  obtain ⟨w1, rfl, e1, rfl⟩ := Q400
  show Goes _ _ _ _ T400 (mkF m 166 #[.val (.int p1), .val (.int p2), .val (.long q3), .second, .val (.long q4), .second, .val (.int p5), .val (.int p6), .val (.ref ty), .val (.int n1), .val (.int n2), .val (.int c1), .val (.int c2), .val (.int c3), .val (.int d1), .val (.int d2), .val (.int d3), .val (.ref s1), .val (.ref s2), .val (.int np), .val (.ref pl), .val (.ref f), .unset] [(.int w1), (.int (17 : Int32))])
  have ub1 := own_usb (own_tkl n1 c1 c2 c3)
  refine g_iadd S400.here hx (hb hby at_166) 167 rfl ?_
  refine g_iload S400.here hx (hb hby at_167) rfl 169 rfl ?_
  refine g_iload S400.here hx (hb hby at_169) rfl 171 rfl ?_
  refine g_iload S400.here hx (hb hby at_171) rfl 173 rfl ?_
  refine g_iload S400.here hx (hb hby at_173) rfl 175 rfl ?_
  refine S400.callS hx (W := 1) (own_q109 hw) (own_q110 hw) (own_q3 hw) (own_q111 hw) (by decide) (ctSB l Z a0 hw n2 d1 d2 d3 h399 S400.old k_n2) nosf (by decide) (by decide) (by rw [hml]; rfl) [(.int n2), (.int d1), (.int d2), (.int d3)] [(.int ((17 : Int32) + w1))] (lenOf own_pd688 rfl) rfl rfl (Nat.le_refl _) (hb hby at_175) (by decide) (by decide) 178 rfl (fun v401 vm401 T401 h401 S401 Q401 R401 => ?_)
  obtain ⟨w2, rfl, e2, rfl⟩ := Q401
  show Goes _ _ _ _ T401 (mkF m 178 #[.val (.int p1), .val (.int p2), .val (.long q3), .second, .val (.long q4), .second, .val (.int p5), .val (.int p6), .val (.ref ty), .val (.int n1), .val (.int n2), .val (.int c1), .val (.int c2), .val (.int c3), .val (.int d1), .val (.int d2), .val (.int d3), .val (.ref s1), .val (.ref s2), .val (.int np), .val (.ref pl), .val (.ref f), .unset] [(.int w2), (.int ((17 : Int32) + w1))])
  have ub2 := own_usb (own_tkl n2 d1 d2 d3)
  refine g_iadd S401.here hx (hb hby at_178) 179 rfl ?_
  refine g_iload S401.here hx (hb hby at_179) rfl 181 rfl ?_
  refine g_iadd S401.here hx (hb hby at_181) 182 rfl ?_
  refine g_istore S401.here hx (hb hby at_182) #[.val (.int p1), .val (.int p2), .val (.long q3), .second, .val (.long q4), .second, .val (.int p5), .val (.int p6), .val (.ref ty), .val (.int n1), .val (.int n2), .val (.int c1), .val (.int c2), .val (.int c3), .val (.int d1), .val (.int d2), .val (.int d3), .val (.ref s1), .val (.ref s2), .val (.int np), .val (.ref pl), .val (.ref f), .val (.int ((((17 : Int32) + w1) + w2) + np))] rfl 184 rfl ?_
  refine g_aload S401.here hx (hb hby at_184) rfl rfl 186 rfl ?_
  refine S401.callV hx (W := 0) (C := "com/example/wirecall/wirecall/Frame") (own_q115 hw) (own_q116 hw) (notFace_of_selects (args := #[]) (mvT S401.warm (own_q118 hw))) (own_q118 hw) (own_q117 hw) (by decide) XF (own_q119 hw) (own_q47 hw) (ctWB l Z a0 hw f r1 r2 pl _ _ _ h399 S401.old m1 m2 m3 C1 C2 C3 ub1 ub2 k_np) nosf (by decide) (by decide) (by rw [hml]; rfl) [] [] (lenOf own_pd689 rfl) rfl rfl (Nat.le_refl _) (hb hby at_186) (by decide) (by decide) 189 rfl (fun v402 vm402 T402 h402 S402 Q402 R402 => ?_)
  obtain ⟨ww, rfl, ew, rfl⟩ := Q402
  show Goes _ _ _ _ T402 (mkF m 189 #[.val (.int p1), .val (.int p2), .val (.long q3), .second, .val (.long q4), .second, .val (.int p5), .val (.int p6), .val (.ref ty), .val (.int n1), .val (.int n2), .val (.int c1), .val (.int c2), .val (.int c3), .val (.int d1), .val (.int d2), .val (.int d3), .val (.ref s1), .val (.ref s2), .val (.int np), .val (.ref pl), .val (.ref f), .val (.int ((((17 : Int32) + w1) + w2) + np))] [(.int ww)])
  have e17 : (17 : Int32).toInt = 17 := by decide
  have a1 := own_addb (x := 17) (y := w1) (by omega)
  have a2 := own_addb (x := 17 + w1) (y := w2) (by omega)
  have a3 := own_addb (x := 17 + w1 + w2) (y := np) (by omega)
  refine g_iload S402.here hx (hb hby at_189) rfl 191 rfl ?_
  refine g_icmpF S402.here hx (hb hby at_191) ww.toInt ((((17 : Int32) + w1) + w2) + np).toInt rfl rfl (show ¬ (¬ ww.toInt = ((((17 : Int32) + w1) + w2) + np).toInt) from fun q => q (by omega)) 194 rfl ?_
  refine g_iconst S402.here hx (hb hby at_194) (1 : Int32) (by decide) 195 rfl ?_
  refine g_goto S402.here hx (hb hby at_195) 199 (by decide) (by decide) ?_
  exact S402.iret hx hlk hret (Or.inr (Or.inl rfl)) rfl (hb hby at_199) rfl (by decide) (by decide)
theorem own_ints {args : Array Value} {s : State} {t : Term} {z : Int32} (h : (Jvm.Cond.eq t (Term.int z)).value args s none s [] = some true) : t.eval args s none [] s = some (.int z) := by
  obtain ⟨x, y, q1, q2, k1, k2⟩ := cmp_v (Or.inl h)
  cases (Term.int_eval z).symm.trans q2
  simp only [Cond.value, q1, Term.int_eval] at h
  obtain ⟨w, rfl⟩ : ∃ w, x = .int w := by cases x <;> simp [Kin, Value.isRef] at k2 ⊢
  simp at h; subst h
  exact q1
theorem own_refs {args : Array Value} {s : State} {t u : Term} {a b : Addr} (ea : t.eval args s none [] s = some (.ref a)) (eb : u.eval args s none [] s = some (.ref b)) (h : (Jvm.Cond.eq t u).value args s none s [] = some true) : a = b := by
  simp only [Cond.value, ea, eb] at h
  simpa using h
set_option maxRecDepth 65536 in
set_option maxHeartbeats 40000000 in
theorem comes_1 {Post : Tables → Env → Array Value → State → Outcome → State → Prop} (hpost : ∀ tb e args s v u, (limb_1_1.after args s (.returned v) u = true ∧ limb_1_2.after args s (.returned v) u = true ∧ True) → ReturnedEndW s (.returned v) u (Jvm.fieldLocs frame_1_writes args s ++ Jvm.arrayLocs frame_1_arrays args s ++ Jvm.staticLocs frame_1_statics s) 48 6400 → Post tb e args s (.returned v) u) :
    ArmFor flags0 classFile x code maxLocals ret World_1 tables_1 room_1 Calls_1 rest_1 Pre_1 Post := by
  intro l hfl _ _ p e ha hc hk s m args below hf hA hF happ hP
  obtain ⟨hcalls, hrest, hpre⟩ := hP
  obtain ⟨-, -, -, hnamed, -, -, -, hat⟩ := (Spec.applies_iff hf).mp happ
  obtain ⟨hg, hn⟩ := and_e (Cond.before_iff.mp (show (Jvm.Cond.and given_1 narrow_1).before args s = true from hpre))
  obtain ⟨gc, gr⟩ := and_e hg
  obtain ⟨g0, gr0⟩ := and_e gr
  obtain ⟨g1, gr1⟩ := and_e gr0
  obtain ⟨g2, gr2⟩ := and_e gr1
  obtain ⟨g3, gr3⟩ := and_e gr2
  obtain ⟨g4, gr4⟩ := and_e gr3
  have g5 := gr4
  obtain ⟨w0, w1, w2, w3, w4, w5, rfl⟩ : ∃ w0 w1 w2 w3 w4 w5 : Value, args = #[w0, w1, w2, w3, w4, w5] := by
    have hs : args.size = 6 := by simpa [Cond.value, given_1] using gc
    obtain ⟨L⟩ := args
    match L, hs with
    | [w0, w1, w2, w3, w4, w5], _ => exact ⟨w0, w1, w2, w3, w4, w5, rfl⟩
  have hw := fun d (hd : d ∈ tables_1) => atoms_spec (ws := Jvm.Cond.code x code maxLocals ret :: tables_1) hat d (List.mem_cons_of_mem _ hd)
  have hfit : Fit s := fun {y c} hc i hi => by
    obtain ⟨ha, rfl⟩ := Array.getElem?_eq_some_iff.mp hc
    have q := List.all_eq_true.mp ((Array.all_eq_true_iff_forall_mem.mp hF) _ (Array.getElem_mem ha)) i (List.mem_range.mpr hi)
    simpa [Array.getElem?_eq_getElem hi] using q
  obtain ⟨i0, e0⟩ := is_v g0
  obtain rfl : w0 = (.int i0) := Option.some.inj e0
  obtain ⟨i1, e1⟩ := is_v g1
  obtain rfl : w1 = (.int i1) := Option.some.inj e1
  obtain ⟨i2, e2⟩ := isL_v g2
  obtain rfl : w2 = (.long i2) := Option.some.inj e2
  obtain ⟨i3, e3⟩ := isL_v g3
  obtain rfl : w3 = (.long i3) := Option.some.inj e3
  obtain ⟨i4, e4⟩ := is_v g4
  obtain rfl : w4 = (.int i4) := Option.some.inj e4
  obtain ⟨i5, e5⟩ := is_v g5
  obtain rfl : w5 = (.int i5) := Option.some.inj e5
  obtain ⟨hsets, hown0⟩ := atoms_of _ (rest_1_c_eq ▸ (show rest_1_c.before _ s = true from hrest))
  have n5 := not_v (Cond.before_iff.mp (hsets _ (List.mem_of_getElem? (i := 2) rfl)))
  obtain ⟨z, ez⟩ := is_v (Cond.before_iff.mp (hsets _ (List.mem_of_getElem? (i := 1) rfl)))
  have G : own_cs s := ⟨z, Sta.start ez (Or.inl (hsets _ (List.mem_of_getElem? (i := 0) rfl))), gotF (Cond.eq_ints ez (Term.int_eval (0))) n5⟩
  obtain ⟨fm, ef, rf⟩ := isR_v (Cond.before_iff.mp (hsets _ (List.mem_of_getElem? (i := 8) rfl)))
  have G2 : own_sf s := ⟨fm, Sta.start ef (Or.inl (hsets _ (List.mem_of_getElem? (i := 7) rfl))), rf⟩
  obtain ⟨n0, nr0⟩ := and_e hn
  obtain ⟨n1, nr1⟩ := and_e nr0
  obtain ⟨n2, nr2⟩ := and_e nr1
  obtain ⟨n3, nr3⟩ := and_e nr2
  obtain ⟨n4, nr4⟩ := and_e nr3
  obtain ⟨n5, nr5⟩ := and_e nr4
  obtain ⟨n6, nr6⟩ := and_e nr5
  obtain ⟨n7, nr7⟩ := and_e nr6
  obtain ⟨n8, nr8⟩ := and_e nr7
  obtain ⟨n9, nr9⟩ := and_e nr8
  obtain ⟨n10, nr10⟩ := and_e nr9
  have n11 := nr10
  obtain ⟨y0, ey0⟩ := exa_v n0
  obtain ⟨y1, ey1⟩ := exa_v n1
  obtain ⟨y2, ey2⟩ := exa_v n2
  obtain ⟨y3, ey3⟩ := exa_v n3
  obtain ⟨y4, ey4⟩ := exa_v n4
  obtain ⟨y5, ey5⟩ := exa_v n5
  obtain ⟨y6, ey6⟩ := exa_v n6
  obtain ⟨y7, ey7⟩ := exa_v n7
  obtain ⟨y8, ey8⟩ := exa_v n8
  obtain ⟨y9, ey9⟩ := exa_v n9
  obtain ⟨y10, ey10⟩ := exa_v n10
  obtain ⟨y11, ey11⟩ := exa_v n11
  have TY : own_ty s := ⟨⟨_, Sta.start ey0 (Or.inr ⟨(own_q6 hw), (own_q7 hw)⟩)⟩, ⟨_, Sta.start ey2 (Or.inr ⟨(own_q6 hw), (own_q151 hw)⟩)⟩, ⟨_, Sta.start ey5 (Or.inr ⟨(own_q6 hw), (own_q157 hw)⟩)⟩, ⟨_, Sta.start ey6 (Or.inr ⟨(own_q6 hw), (own_q171 hw)⟩)⟩, ⟨_, Sta.start ey3 (Or.inr ⟨(own_q6 hw), (own_q153 hw)⟩)⟩, ⟨_, Sta.start ey10 (Or.inr ⟨(own_q6 hw), (own_q180 hw)⟩)⟩, ⟨_, Sta.start ey7 (Or.inr ⟨(own_q6 hw), (own_q174 hw)⟩)⟩, ⟨_, Sta.start ey1 (Or.inr ⟨(own_q6 hw), (own_q121 hw)⟩)⟩, ⟨_, Sta.start ey8 (Or.inr ⟨(own_q6 hw), (own_q176 hw)⟩)⟩, ⟨_, Sta.start ey9 (Or.inr ⟨(own_q6 hw), (own_q178 hw)⟩)⟩, ⟨_, Sta.start ey4 (Or.inr ⟨(own_q6 hw), (own_q155 hw)⟩)⟩, ⟨_, Sta.start ey11 (Or.inr ⟨(own_q6 hw), (own_q182 hw)⟩)⟩⟩
  obtain ⟨u8, eu⟩ := exa_v (Cond.before_iff.mp (hsets _ (List.mem_of_getElem? (i := 14) rfl)))
  obtain ⟨u9, ev⟩ := exa_v (Cond.before_iff.mp (hsets _ (List.mem_of_getElem? (i := 17) rfl)))
  have euv : u8 = u9 := own_refs eu ev (Cond.before_iff.mp (hsets _ (List.mem_of_getElem? (i := 13) rfl)))
  subst euv
  have V8 : Sta s s.heap "java/nio/charset/StandardCharsets" "UTF_8" "Ljava/nio/charset/Charset;" (.ref u8) := Sta.start eu (Or.inl (hsets _ (List.mem_of_getElem? (i := 10) rfl)))
  have U : Sta s s.heap "sun/nio/cs/UTF_8" "INSTANCE" "Lsun/nio/cs/UTF_8;" (.ref u8) := Sta.start ev (Or.inl (hsets _ (List.mem_of_getElem? (i := 12) rfl)))
  have H : own_h16 s := ⟨Sta.start (own_ints (Cond.before_iff.mp (hsets _ (List.mem_of_getElem? (i := 21) rfl)))) (Or.inl (hsets _ (List.mem_of_getElem? (i := 20) rfl))), Sta.start (own_ints (Cond.before_iff.mp (hsets _ (List.mem_of_getElem? (i := 24) rfl)))) (Or.inl (hsets _ (List.mem_of_getElem? (i := 23) rfl))), Sta.start (own_ints (Cond.before_iff.mp (hsets _ (List.mem_of_getElem? (i := 27) rfl)))) (Or.inl (hsets _ (List.mem_of_getElem? (i := 26) rfl)))⟩
  have hC := CHv.start (own_ew hw) (fun q hq => hcalls.1 q hq) (hsets _ (List.mem_of_getElem? (i := 2) rfl)) (own_wS hw _ (by simp [Bundle.stringAtoms])) (own_wS hw _ (by simp [Bundle.stringAtoms, Bundle.sN]))
  obtain ⟨n, o, h1, h2, h3, v, L, rfl, ⟨rfl, N, -⟩, -, hq⟩ := ct0 l s _ hw i0 i1 i2 i3 i4 i5 u8 s.heap (Old.start s) G H U V8 TY tables_1 p e ha hc hk s m _ below hf ((Spec.applies_iff_loose hf).mp happ).1 ⟨rfl, State.Warmed39.refl s, rfl, hC, fun _ q => nomatch q⟩ (fun q => by cases q)
  have hq := hq.2 (by decide)
  refine ⟨n, _, h1, h2, h3, hpost _ _ _ _ _ _ ⟨Cond.after_iff.mpr rfl, Cond.after_iff.mpr (eq_i res_at (Term.int_eval (1)) rfl), trivial⟩ ⟨hq.1, hq.2.1, hq.2.2.1, (hq.2.2.2.sift fun y hy => Or.inr (N y hy)).mono (by decide) (by decide)⟩⟩
theorem main_1_1 : Claimed_1_1 := comes_1 fun _ _ _ _ _ _ h hF => ⟨h.1, hF⟩
theorem main_1_2 : Claimed_1_2 := comes_1 fun _ _ _ _ _ _ h hF => ⟨h.2.1, hF⟩
end Jvm.Pilot.@@N@@
namespace Jvm.Pilot.@@N@@
open Jvm Jvm.ClassFile Sem Op Lib Jvm.Free Jvm.Stand Jvm.Pilot.@@N@@.Jvm.D
/-! MADE BY PROGRAM (witnessworld.py) out of the Statement's table words and the real class files: 32 classes; the members and pool entries that the words name. The judged class is class 1, her method 5. -/
namespace start1
open Jvm.ClassFile
def u (s : String) : CpInfo := .utf8 (stringToUtf16 s)
/-- a pool by its gaps: so many unusable entries, then the entry; so many at the end -/
def gap : Nat → List CpInfo → List CpInfo
  | 0, r => r
  | n + 1, r => .unusable :: gap n r
def poolList (es : List (Nat × CpInfo)) (last : Nat) : List CpInfo := es.foldr (fun e r => gap e.1 (e.2 :: r)) (gap last [])
def pool (es : List (Nat × CpInfo)) (last : Nat) : Array CpInfo := ⟨poolList es last⟩
def fileOf (pool : Array CpInfo) (this : Nat) (attrs : Array Attribute := #[]) (ms : Array MethodInfo := #[]) (fl : Nat := 33) (sup : Nat := 0) (ifs : Array Nat := #[]) (fds : Array FieldInfo := #[]) : ClassFile where
  minorVersion := 0
  majorVersion := 65
  constantPool := pool
  accessFlags := fl
  thisClass := this
  superClass := sup
  interfaces := ifs
  fields := fds
  methods := ms
  attributes := attrs
def plain (name : String) (sup : Option ClassId) : Class where
  name := name
  kind := .ordinary
  loader := none
  accessFlags := 33
  super := sup
  interfaces := #[]
  cf := none
  fields := #[]
  methods := #[]
  instanceTypes := #[]
  staticTypes := #[]
  resolved := #[]
  callSites := []
  init := .initialized
  statics := none
  mirror := none

def pool0 : Array CpInfo := pool [(5, u "<init>"), (0, u "()V"), (1, .class_ 10), (1, u "java/lang/Object"), (85, u "clone"), (0, u "()Ljava/lang/Object;")] 26

def k0c0 : Code := { maxStack := 0, maxLocals := 1, code := object_method_1_code, exceptionTable := #[], attributes := #[] }
def k0m0 : Method := { name := "<init>", desc := "()V", sig := { parameters := [], returnType := none }, accessFlags := 1, code := some k0c0 }
def k0m1 : Method := { name := "clone", desc := "()Ljava/lang/Object;", sig := { parameters := [], returnType := some (.object "java/lang/Object") }, accessFlags := 260, code := none }
/-- java/lang/Object -/
def k0 : Class := { plain "java/lang/Object" none with
  accessFlags := 33
  interfaces := #[]
  cf := some (fileOf pool0 8 #[] #[{ accessFlags := 1, nameIndex := 5, descriptorIndex := 6, attributes := #[] }, { accessFlags := 260, nameIndex := 96, descriptorIndex := 97, attributes := #[] }] 33 0 #[] #[])
  fields := #[]
  methods := #[k0m0, k0m1]
  instanceTypes := #[]
  staticTypes := #[]
  resolved := Array.replicate 124 none
  statics := none }

def pool1 : Array CpInfo := pool [(2, .class_ 4), (1, u "java/lang/Object"), (0, u "<init>"), (0, u "()V"), (0, .class_ 8), (0, u "java/lang/String"), (0, .methodref 7 10), (0, .nameAndType 5 11), (0, u "([C)V"), (0, .methodref 13 14), (0, .class_ 15), (0, .nameAndType 16 17), (0, u "com/example/wirecall/wirecall/FrameWireBytesPinLaw"), (0, u "utf8Len"), (0, u "(C)I"), (0, .fieldref 19 20), (0, .class_ 21), (0, .nameAndType 22 23), (0, u "com/example/wirecall/wirecall/FrameType"), (0, u "CALL"), (0, u "Lcom/example/wirecall/wirecall/FrameType;"), (0, .fieldref 19 25), (0, .nameAndType 26 23), (0, u "CAST"), (0, .fieldref 19 28), (0, .nameAndType 29 23), (0, u "REPLY"), (0, .fieldref 19 31), (0, .nameAndType 32 23), (0, u "ERROR"), (0, .fieldref 19 34), (0, .nameAndType 35 23), (0, u "HANDSHAKE"), (0, .fieldref 19 37), (0, .nameAndType 38 23), (0, u "SUBSCRIBE"), (0, .fieldref 19 40), (0, .nameAndType 41 23), (0, u "UNSUBSCRIBE"), (0, .fieldref 19 43), (0, .nameAndType 44 23), (0, u "PUBLISH"), (0, .fieldref 19 46), (0, .nameAndType 47 23), (0, u "STREAM_START"), (0, .fieldref 19 49), (0, .nameAndType 50 23), (0, u "STREAM_DATA"), (0, .fieldref 19 52), (0, .nameAndType 53 23), (0, u "STREAM_END"), (0, .fieldref 19 55), (0, .nameAndType 56 23), (0, u "STREAM_CANCEL"), (0, .integer 2147483647), (0, .methodref 13 59), (0, .nameAndType 60 61), (0, u "type"), (0, u "(I)Lcom/example/wirecall/wirecall/FrameType;"), (0, .long 32767), (1, .methodref 13 65), (0, .nameAndType 66 67), (0, u "str"), (0, u "(ICCC)Ljava/lang/String;"), (0, .class_ 69), (0, u "com/example/wirecall/wirecall/Frame"), (0, .methodref 68 71), (0, .nameAndType 5 72), (0, u "(Lcom/example/wirecall/wirecall/FrameType;ILjava/lang/String;Ljava/lang/String;[B)V"), (0, .methodref 13 74), (0, .nameAndType 75 76), (0, u "strBytes"), (0, u "(ICCC)I"), (0, .methodref 68 78), (0, .nameAndType 79 80), (0, u "wireBytes"), (0, u "()I"), (5, u "law"), (0, u "(IIJJII)Z")] 4

def k1m0 : Method := { name := "<init>", desc := "()V", sig := { parameters := [], returnType := none }, accessFlags := 1, code := none }
def k1c1 : Code := { maxStack := 2, maxLocals := 1, code := method_2_code, exceptionTable := #[], attributes := #[] }
def k1m1 : Method := { name := "utf8Len", desc := "(C)I", sig := { parameters := [.char], returnType := some .int }, accessFlags := 10, code := some k1c1 }
def k1c2 : Code := { maxStack := 3, maxLocals := 5, code := method_3_code, exceptionTable := #[], attributes := #[] }
def k1m2 : Method := { name := "str", desc := "(ICCC)Ljava/lang/String;", sig := { parameters := [.int, .char, .char, .char], returnType := some (.object "java/lang/String") }, accessFlags := 10, code := some k1c2 }
def k1c3 : Code := { maxStack := 2, maxLocals := 5, code := method_4_code, exceptionTable := #[], attributes := #[] }
def k1m3 : Method := { name := "strBytes", desc := "(ICCC)I", sig := { parameters := [.int, .char, .char, .char], returnType := some .int }, accessFlags := 10, code := some k1c3 }
def k1c4 : Code := { maxStack := 2, maxLocals := 1, code := method_5_code, exceptionTable := #[], attributes := #[] }
def k1m4 : Method := { name := "type", desc := "(I)Lcom/example/wirecall/wirecall/FrameType;", sig := { parameters := [.int], returnType := some (.object "com/example/wirecall/wirecall/FrameType") }, accessFlags := 10, code := some k1c4 }
def k1c5 : Code := { maxStack := 7, maxLocals := 23, code := code, exceptionTable := #[], attributes := #[] }
def k1m5 : Method := { name := "law", desc := "(IIJJII)Z", sig := { parameters := [.int, .int, .long, .long, .int, .int], returnType := some .boolean }, accessFlags := 9, code := some k1c5 }
/-- com/example/wirecall/wirecall/FrameWireBytesPinLaw -/
def k1 : Class := { plain "com/example/wirecall/wirecall/FrameWireBytesPinLaw" (some 0) with
  accessFlags := 49
  interfaces := #[]
  cf := some (fileOf pool1 13 #[] #[{ accessFlags := 1, nameIndex := 5, descriptorIndex := 6, attributes := #[] }, { accessFlags := 10, nameIndex := 16, descriptorIndex := 17, attributes := #[] }, { accessFlags := 10, nameIndex := 66, descriptorIndex := 67, attributes := #[] }, { accessFlags := 10, nameIndex := 75, descriptorIndex := 76, attributes := #[] }, { accessFlags := 10, nameIndex := 60, descriptorIndex := 61, attributes := #[] }, { accessFlags := 9, nameIndex := 86, descriptorIndex := 87, attributes := #[] }] 49 2 #[] #[])
  fields := #[]
  methods := #[k1m0, k1m1, k1m2, k1m3, k1m4, k1m5]
  instanceTypes := #[]
  staticTypes := #[]
  resolved := Array.replicate 92 none
  statics := none }

def pool2 : Array CpInfo := pool [(1, .class_ 2), (0, u "java/lang/constant/Constable"), (0, .class_ 4), (0, u "java/lang/Object")] 6

/-- java/lang/constant/Constable -/
def k2 : Class := { plain "java/lang/constant/Constable" (some 0) with
  accessFlags := 1537
  interfaces := #[]
  cf := some (fileOf pool2 1 #[] #[] 1537 3 #[] #[])
  fields := #[]
  methods := #[]
  instanceTypes := #[]
  staticTypes := #[]
  resolved := Array.replicate 11 none
  statics := none }

def pool3 : Array CpInfo := pool [(1, .class_ 2), (0, u "java/lang/Comparable"), (0, .class_ 4), (0, u "java/lang/Object")] 7

/-- java/lang/Comparable -/
def k3 : Class := { plain "java/lang/Comparable" (some 0) with
  accessFlags := 1537
  interfaces := #[]
  cf := some (fileOf pool3 1 #[] #[] 1537 3 #[] #[])
  fields := #[]
  methods := #[]
  instanceTypes := #[]
  staticTypes := #[]
  resolved := Array.replicate 12 none
  statics := none }

def pool4 : Array CpInfo := pool [(1, .class_ 2), (0, u "java/io/Serializable"), (0, .class_ 4), (0, u "java/lang/Object")] 2

/-- java/io/Serializable -/
def k4 : Class := { plain "java/io/Serializable" (some 0) with
  accessFlags := 1537
  interfaces := #[]
  cf := some (fileOf pool4 1 #[] #[] 1537 3 #[] #[])
  fields := #[]
  methods := #[]
  instanceTypes := #[]
  staticTypes := #[]
  resolved := Array.replicate 7 none
  statics := none }

def pool5 : Array CpInfo := pool [(2, .class_ 4), (1, u "java/lang/Enum"), (0, u "name"), (0, u "Ljava/lang/String;"), (2, u "ordinal"), (0, u "I"), (1, .class_ 14), (1, u "java/lang/Object"), (4, u "hash"), (86, .class_ 108), (1, u "java/lang/Enum$EnumDesc"), (2, .class_ 112), (0, u "java/lang/constant/Constable"), (0, .class_ 114), (0, u "java/lang/Comparable"), (0, .class_ 116), (0, u "java/io/Serializable")] 87

/-- java/lang/Enum -/
def k5 : Class := { plain "java/lang/Enum" (some 0) with
  accessFlags := 1057
  interfaces := #[2, 3, 4]
  cf := some (fileOf pool5 2 #[.nestMembers #[106]] #[] 1057 12 #[111, 113, 115] #[{ accessFlags := 18, nameIndex := 5, descriptorIndex := 6, attributes := #[] }, { accessFlags := 18, nameIndex := 9, descriptorIndex := 10, attributes := #[] }, { accessFlags := 2, nameIndex := 19, descriptorIndex := 10, attributes := #[] }])
  fields := #[{ name := "name", type := (.object "java/lang/String"), accessFlags := 18, slot := 0, constantValue := 0 }, { name := "ordinal", type := .int, accessFlags := 18, slot := 1, constantValue := 0 }, { name := "hash", type := .int, accessFlags := 2, slot := 2, constantValue := 0 }]
  methods := #[]
  instanceTypes := #[(.object "java/lang/String"), .int, .int]
  staticTypes := #[]
  resolved := Array.replicate 204 none
  statics := none }

def pool6 : Array CpInfo := pool [(1, .class_ 2), (0, u "com/example/wirecall/wirecall/FrameType"), (2, u "CALL"), (0, u "Lcom/example/wirecall/wirecall/FrameType;"), (2, u "CAST"), (2, u "REPLY"), (2, u "ERROR"), (2, u "HANDSHAKE"), (2, u "SUBSCRIBE"), (2, u "UNSUBSCRIBE"), (2, u "PUBLISH"), (2, u "STREAM_START"), (2, u "STREAM_DATA"), (2, u "STREAM_END"), (2, u "STREAM_CANCEL"), (2, u "$VALUES"), (0, u "[Lcom/example/wirecall/wirecall/FrameType;"), (6, .class_ 52), (1, u "java/lang/Enum"), (8, u "code"), (0, u "I"), (2, u "BY_CODE")] 44

/-- com/example/wirecall/wirecall/FrameType -/
def k6 : Class := { plain "com/example/wirecall/wirecall/FrameType" (some 5) with
  accessFlags := 16432
  interfaces := #[]
  cf := some (fileOf pool6 1 #[] #[] 16432 50 #[] #[{ accessFlags := 16409, nameIndex := 5, descriptorIndex := 6, attributes := #[] }, { accessFlags := 16409, nameIndex := 9, descriptorIndex := 6, attributes := #[] }, { accessFlags := 16409, nameIndex := 12, descriptorIndex := 6, attributes := #[] }, { accessFlags := 16409, nameIndex := 15, descriptorIndex := 6, attributes := #[] }, { accessFlags := 16409, nameIndex := 18, descriptorIndex := 6, attributes := #[] }, { accessFlags := 16409, nameIndex := 21, descriptorIndex := 6, attributes := #[] }, { accessFlags := 16409, nameIndex := 24, descriptorIndex := 6, attributes := #[] }, { accessFlags := 16409, nameIndex := 27, descriptorIndex := 6, attributes := #[] }, { accessFlags := 16409, nameIndex := 30, descriptorIndex := 6, attributes := #[] }, { accessFlags := 16409, nameIndex := 33, descriptorIndex := 6, attributes := #[] }, { accessFlags := 16409, nameIndex := 36, descriptorIndex := 6, attributes := #[] }, { accessFlags := 16409, nameIndex := 39, descriptorIndex := 6, attributes := #[] }, { accessFlags := 26, nameIndex := 65, descriptorIndex := 43, attributes := #[] }, { accessFlags := 18, nameIndex := 61, descriptorIndex := 62, attributes := #[] }, { accessFlags := 4122, nameIndex := 42, descriptorIndex := 43, attributes := #[] }])
  fields := #[{ name := "CALL", type := (.object "com/example/wirecall/wirecall/FrameType"), accessFlags := 16409, slot := 0, constantValue := 0 }, { name := "CAST", type := (.object "com/example/wirecall/wirecall/FrameType"), accessFlags := 16409, slot := 1, constantValue := 0 }, { name := "REPLY", type := (.object "com/example/wirecall/wirecall/FrameType"), accessFlags := 16409, slot := 2, constantValue := 0 }, { name := "ERROR", type := (.object "com/example/wirecall/wirecall/FrameType"), accessFlags := 16409, slot := 3, constantValue := 0 }, { name := "HANDSHAKE", type := (.object "com/example/wirecall/wirecall/FrameType"), accessFlags := 16409, slot := 4, constantValue := 0 }, { name := "SUBSCRIBE", type := (.object "com/example/wirecall/wirecall/FrameType"), accessFlags := 16409, slot := 5, constantValue := 0 }, { name := "UNSUBSCRIBE", type := (.object "com/example/wirecall/wirecall/FrameType"), accessFlags := 16409, slot := 6, constantValue := 0 }, { name := "PUBLISH", type := (.object "com/example/wirecall/wirecall/FrameType"), accessFlags := 16409, slot := 7, constantValue := 0 }, { name := "STREAM_START", type := (.object "com/example/wirecall/wirecall/FrameType"), accessFlags := 16409, slot := 8, constantValue := 0 }, { name := "STREAM_DATA", type := (.object "com/example/wirecall/wirecall/FrameType"), accessFlags := 16409, slot := 9, constantValue := 0 }, { name := "STREAM_END", type := (.object "com/example/wirecall/wirecall/FrameType"), accessFlags := 16409, slot := 10, constantValue := 0 }, { name := "STREAM_CANCEL", type := (.object "com/example/wirecall/wirecall/FrameType"), accessFlags := 16409, slot := 11, constantValue := 0 }, { name := "BY_CODE", type := (.array (.object "com/example/wirecall/wirecall/FrameType")), accessFlags := 26, slot := 12, constantValue := 0 }, { name := "code", type := .int, accessFlags := 18, slot := 3, constantValue := 0 }, { name := "$VALUES", type := (.array (.object "com/example/wirecall/wirecall/FrameType")), accessFlags := 4122, slot := 13, constantValue := 0 }]
  methods := #[]
  instanceTypes := #[(.object "java/lang/String"), .int, .int, .int]
  staticTypes := #[(.object "com/example/wirecall/wirecall/FrameType"), (.object "com/example/wirecall/wirecall/FrameType"), (.object "com/example/wirecall/wirecall/FrameType"), (.object "com/example/wirecall/wirecall/FrameType"), (.object "com/example/wirecall/wirecall/FrameType"), (.object "com/example/wirecall/wirecall/FrameType"), (.object "com/example/wirecall/wirecall/FrameType"), (.object "com/example/wirecall/wirecall/FrameType"), (.object "com/example/wirecall/wirecall/FrameType"), (.object "com/example/wirecall/wirecall/FrameType"), (.object "com/example/wirecall/wirecall/FrameType"), (.object "com/example/wirecall/wirecall/FrameType"), (.array (.object "com/example/wirecall/wirecall/FrameType")), (.array (.object "com/example/wirecall/wirecall/FrameType"))]
  resolved := Array.replicate 110 none
  statics := some 0 }

def pool7 : Array CpInfo := pool [(2, .class_ 4), (1, u "java/lang/CharSequence"), (42, .class_ 48), (0, u "java/lang/CharSequence$1CodePointIterator"), (10, .class_ 60), (0, u "java/lang/CharSequence$1CharIterator"), (5, .class_ 67), (0, u "java/lang/Object")] 63

/-- java/lang/CharSequence -/
def k7 : Class := { plain "java/lang/CharSequence" (some 0) with
  accessFlags := 1537
  interfaces := #[]
  cf := some (fileOf pool7 2 #[.nestMembers #[47, 59]] #[] 1537 66 #[] #[])
  fields := #[]
  methods := #[]
  instanceTypes := #[]
  staticTypes := #[]
  resolved := Array.replicate 131 none
  statics := none }

def pool8 : Array CpInfo := pool [(1, .class_ 2), (0, u "java/lang/constant/ConstantDesc"), (0, .class_ 4), (0, u "java/lang/Object")] 32

/-- java/lang/constant/ConstantDesc -/
def k8 : Class := { plain "java/lang/constant/ConstantDesc" (some 0) with
  accessFlags := 1537
  interfaces := #[]
  cf := some (fileOf pool8 1 #[] #[] 1537 3 #[] #[])
  fields := #[]
  methods := #[]
  instanceTypes := #[]
  staticTypes := #[]
  resolved := Array.replicate 37 none
  statics := none }

def pool9 : Array CpInfo := pool [(1, .methodref 2 3), (0, .class_ 4), (0, .nameAndType 5 6), (0, u "java/lang/Object"), (0, u "<init>"), (0, u "()V"), (0, .string 8), (0, u ""), (0, .fieldref 10 11), (0, .class_ 12), (0, .nameAndType 13 14), (0, u "java/lang/String"), (0, u "value"), (0, u "[B"), (0, .fieldref 10 16), (0, .nameAndType 17 18), (0, u "coder"), (0, u "B"), (2, u "hash"), (0, u "I"), (2, u "hashIsZero"), (0, u "Z"), (0, .methodref 10 28), (0, .nameAndType 5 29), (0, u "([CIILjava/lang/Void;)V"), (8, .fieldref 10 39), (0, .nameAndType 40 26), (0, u "COMPACT_STRINGS"), (1, .class_ 44), (1, u "java/lang/StringUTF16"), (0, u "compress"), (1, .methodref 42 48), (0, .nameAndType 49 50), (0, u "coderFromArrayLen"), (0, u "([BI)B"), (4, .class_ 57), (1, u "java/util/Arrays"), (2, .methodref 42 61), (0, .nameAndType 62 63), (0, u "newBytesFor"), (0, u "(I)[B"), (22, .fieldref 87 88), (0, .class_ 89), (0, .nameAndType 90 91), (0, u "sun/nio/cs/UTF_8"), (0, u "INSTANCE"), (0, u "Lsun/nio/cs/UTF_8;"), (1, .class_ 95), (1, u "java/lang/StringCoding"), (6, .methodref 55 103), (0, .nameAndType 104 105), (0, u "copyOf"), (0, u "([BI)[B"), (22, .methodref 93 129), (0, .nameAndType 130 131), (0, u "hasNegatives"), (0, u "([BII)Z"), (45, .methodref 42 178), (0, .nameAndType 45 179), (0, u "([CII)[B"), (72, .methodref 10 253), (0, .nameAndType 254 255), (0, u "encodeUTF8"), (0, u "(B[BZ)[B"), (23, .methodref 280 281), (0, .class_ 14), (0, .nameAndType 282 283), (0, u "clone"), (0, u "()Ljava/lang/Object;"), (33, u "encode"), (17, .methodref 10 336), (0, .nameAndType 17 337), (0, u "()B"), (22, .methodref 42 361), (0, .nameAndType 362 363), (0, u "getChar"), (0, u "([BI)C"), (1, .class_ 367), (1, u "java/lang/Character"), (1, u "(C)Z"), (34, .methodref 365 405), (0, .nameAndType 406 369), (0, u "isSurrogate"), (66, .methodref 10 474), (0, .nameAndType 475 476), (0, u "encodeUTF8_UTF16"), (0, u "([BZ)[B"), (55, u "getBytes"), (2, .methodref 10 536), (0, .nameAndType 317 537), (0, u "(Ljava/nio/charset/Charset;B[B)[B"), (37, .class_ 576), (0, u "java/lang/CharSequence"), (22, u "CASE_INSENSITIVE_ORDER"), (0, u "Ljava/util/Comparator;"), (409, u "([C)V"), (90, u "serialPersistentFields"), (0, u "[Ljava/io/ObjectStreamField;"), (0, .class_ 1104), (0, u "java/lang/String$CaseInsensitiveComparator"), (1, .class_ 1107), (0, u "java/io/Serializable"), (0, .class_ 1109), (0, u "java/lang/Comparable"), (0, .class_ 1111), (0, u "java/lang/constant/Constable"), (0, .class_ 1113), (0, u "java/lang/constant/ConstantDesc"), (2, u "serialVersionUID"), (0, u "J"), (3, u "REPL"), (0, u "C"), (2, u "LATIN1"), (1, u "UTF16"), (117, u "(Ljava/nio/charset/Charset;)[B")] 205

def k9m0 : Method := { name := "<init>", desc := "()V", sig := { parameters := [], returnType := none }, accessFlags := 1, code := none }
def k9c1 : Code := { maxStack := 5, maxLocals := 2, code := jdk_42_method_3_code, exceptionTable := #[], attributes := #[] }
def k9m1 : Method := { name := "<init>", desc := "([C)V", sig := { parameters := [(.array .char)], returnType := none }, accessFlags := 1, code := some k9c1 }
def k9c2 : Code := { maxStack := 4, maxLocals := 3, code := jdk_42_method_18_code, exceptionTable := #[], attributes := #[] }
def k9m2 : Method := { name := "encode", desc := "(Ljava/nio/charset/Charset;B[B)[B", sig := { parameters := [(.object "java/nio/charset/Charset"), .byte, (.array .byte)], returnType := some (.array .byte) }, accessFlags := 10, code := some k9c2 }
def k9c3 : Code := { maxStack := 5, maxLocals := 9, code := jdk_42_method_46_code, exceptionTable := #[], attributes := #[] }
def k9m3 : Method := { name := "encodeUTF8", desc := "(B[BZ)[B", sig := { parameters := [.byte, (.array .byte), .boolean], returnType := some (.array .byte) }, accessFlags := 10, code := some k9c3 }
def k9c4 : Code := { maxStack := 5, maxLocals := 9, code := jdk_42_method_47_code, exceptionTable := #[], attributes := #[] }
def k9m4 : Method := { name := "encodeUTF8_UTF16", desc := "([BZ)[B", sig := { parameters := [(.array .byte), .boolean], returnType := some (.array .byte) }, accessFlags := 10, code := some k9c4 }
def k9c5 : Code := { maxStack := 3, maxLocals := 2, code := jdk_42_method_64_code, exceptionTable := #[], attributes := #[] }
def k9m5 : Method := { name := "getBytes", desc := "(Ljava/nio/charset/Charset;)[B", sig := { parameters := [(.object "java/nio/charset/Charset")], returnType := some (.array .byte) }, accessFlags := 1, code := some k9c5 }
def k9c6 : Code := { maxStack := 4, maxLocals := 6, code := jdk_42_method_149_code, exceptionTable := #[], attributes := #[] }
def k9m6 : Method := { name := "<init>", desc := "([CIILjava/lang/Void;)V", sig := { parameters := [(.array .char), .int, .int, (.object "java/lang/Void")], returnType := none }, accessFlags := 2, code := some k9c6 }
def k9c7 : Code := { maxStack := 1, maxLocals := 1, code := jdk_42_method_152_code, exceptionTable := #[], attributes := #[] }
def k9m7 : Method := { name := "coder", desc := "()B", sig := { parameters := [], returnType := some .byte }, accessFlags := 0, code := some k9c7 }
/-- java/lang/String -/
def k9 : Class := { plain "java/lang/String" (some 0) with
  accessFlags := 49
  interfaces := #[4, 3, 7, 2, 8]
  cf := some (fileOf pool9 10 #[.nestMembers #[1103]] #[{ accessFlags := 1, nameIndex := 5, descriptorIndex := 6, attributes := #[] }, { accessFlags := 1, nameIndex := 5, descriptorIndex := 1010, attributes := #[] }, { accessFlags := 10, nameIndex := 317, descriptorIndex := 537, attributes := #[] }, { accessFlags := 10, nameIndex := 254, descriptorIndex := 255, attributes := #[] }, { accessFlags := 10, nameIndex := 475, descriptorIndex := 476, attributes := #[] }, { accessFlags := 1, nameIndex := 532, descriptorIndex := 1245, attributes := #[] }, { accessFlags := 2, nameIndex := 5, descriptorIndex := 29, attributes := #[] }, { accessFlags := 0, nameIndex := 17, descriptorIndex := 337, attributes := #[] }] 49 2 #[1106, 1108, 575, 1110, 1112] #[{ accessFlags := 18, nameIndex := 13, descriptorIndex := 14, attributes := #[] }, { accessFlags := 18, nameIndex := 17, descriptorIndex := 18, attributes := #[] }, { accessFlags := 2, nameIndex := 21, descriptorIndex := 22, attributes := #[] }, { accessFlags := 2, nameIndex := 25, descriptorIndex := 26, attributes := #[] }, { accessFlags := 26, nameIndex := 1116, descriptorIndex := 1117, attributes := #[] }, { accessFlags := 24, nameIndex := 40, descriptorIndex := 26, attributes := #[] }, { accessFlags := 26, nameIndex := 1101, descriptorIndex := 1102, attributes := #[] }, { accessFlags := 26, nameIndex := 1121, descriptorIndex := 1122, attributes := #[] }, { accessFlags := 25, nameIndex := 599, descriptorIndex := 600, attributes := #[] }, { accessFlags := 24, nameIndex := 1125, descriptorIndex := 18, attributes := #[] }, { accessFlags := 24, nameIndex := 1127, descriptorIndex := 18, attributes := #[] }])
  fields := #[{ name := "value", type := (.array .byte), accessFlags := 18, slot := 0, constantValue := 0 }, { name := "coder", type := .byte, accessFlags := 18, slot := 1, constantValue := 0 }, { name := "hash", type := .int, accessFlags := 2, slot := 2, constantValue := 0 }, { name := "hashIsZero", type := .boolean, accessFlags := 2, slot := 3, constantValue := 0 }, { name := "serialVersionUID", type := .long, accessFlags := 26, slot := 0, constantValue := 0 }, { name := "COMPACT_STRINGS", type := .boolean, accessFlags := 24, slot := 1, constantValue := 0 }, { name := "serialPersistentFields", type := (.array (.object "java/io/ObjectStreamField")), accessFlags := 26, slot := 2, constantValue := 0 }, { name := "REPL", type := .char, accessFlags := 26, slot := 3, constantValue := 0 }, { name := "CASE_INSENSITIVE_ORDER", type := (.object "java/util/Comparator"), accessFlags := 25, slot := 4, constantValue := 0 }, { name := "LATIN1", type := .byte, accessFlags := 24, slot := 5, constantValue := 0 }, { name := "UTF16", type := .byte, accessFlags := 24, slot := 6, constantValue := 0 }]
  methods := #[k9m0, k9m1, k9m2, k9m3, k9m4, k9m5, k9m6, k9m7]
  instanceTypes := #[(.array .byte), .byte, .int, .boolean]
  staticTypes := #[.long, .boolean, (.array (.object "java/io/ObjectStreamField")), .char, (.object "java/util/Comparator"), .byte, .byte]
  resolved := Array.replicate 1451 none
  statics := some 1 }

def pool10 : Array CpInfo := pool [(6, .class_ 8), (1, u "java/lang/Object"), (0, u "<init>"), (0, u "()V"), (0, .methodref 12 13), (0, .class_ 14), (0, .nameAndType 15 16), (0, u "java/lang/StringUTF16"), (0, u "newBytesLength"), (0, u "(I)I"), (3, .integer 1073741823), (23, .fieldref 12 45), (0, .nameAndType 46 47), (0, u "$assertionsDisabled"), (0, u "Z"), (11, .fieldref 12 60), (0, .nameAndType 61 62), (0, u "HI_BYTE_SHIFT"), (0, u "I"), (0, .fieldref 12 64), (0, .nameAndType 65 62), (0, u "LO_BYTE_SHIFT"), (5, .methodref 12 72), (0, .nameAndType 73 74), (0, u "getChar"), (0, u "([BI)C"), (32, .methodref 12 108), (0, .nameAndType 109 110), (0, u "newBytesFor"), (0, u "(I)[B"), (0, .methodref 12 112), (0, .nameAndType 113 114), (0, u "putChar"), (0, u "([BII)V"), (0, .methodref 12 116), (0, .nameAndType 117 118), (0, u "compress"), (0, u "([CI[BII)I"), (0, .methodref 12 120), (0, .nameAndType 121 122), (0, u "toBytes"), (0, u "([CII)[B"), (138, u "coderFromArrayLen"), (0, u "([BI)B"), (106, .class_ 371), (1, u "java/lang/StringUTF16$LinesSpliterator"), (58, u "MAX_LENGTH"), (196, .class_ 628), (0, u "java/lang/StringUTF16$CodePointsSpliterator"), (0, .class_ 630), (0, u "java/lang/StringUTF16$CharsSpliterator")] 4

def k10m0 : Method := { name := "<init>", desc := "()V", sig := { parameters := [], returnType := none }, accessFlags := 0, code := none }
def k10c1 : Code := { maxStack := 1, maxLocals := 1, code := jdk_52_method_2_code, exceptionTable := #[], attributes := #[] }
def k10m1 : Method := { name := "newBytesFor", desc := "(I)[B", sig := { parameters := [.int], returnType := some (.array .byte) }, accessFlags := 9, code := some k10c1 }
def k10c2 : Code := { maxStack := 4, maxLocals := 1, code := jdk_52_method_3_code, exceptionTable := #[], attributes := #[] }
def k10m2 : Method := { name := "newBytesLength", desc := "(I)I", sig := { parameters := [.int], returnType := some .int }, accessFlags := 9, code := some k10c2 }
def k10c3 : Code := { maxStack := 4, maxLocals := 3, code := jdk_52_method_4_code, exceptionTable := #[], attributes := #[] }
def k10m3 : Method := { name := "putChar", desc := "([BII)V", sig := { parameters := [(.array .byte), .int, .int], returnType := none }, accessFlags := 8, code := some k10c3 }
def k10c4 : Code := { maxStack := 3, maxLocals := 2, code := jdk_52_method_5_code, exceptionTable := #[], attributes := #[] }
def k10m4 : Method := { name := "getChar", desc := "([BI)C", sig := { parameters := [(.array .byte), .int], returnType := some .char }, accessFlags := 8, code := some k10c4 }
def k10c5 : Code := { maxStack := 4, maxLocals := 5, code := jdk_52_method_14_code, exceptionTable := #[], attributes := #[] }
def k10m5 : Method := { name := "toBytes", desc := "([CII)[B", sig := { parameters := [(.array .char), .int, .int], returnType := some (.array .byte) }, accessFlags := 9, code := some k10c5 }
def k10c6 : Code := { maxStack := 2, maxLocals := 2, code := jdk_52_method_15_code, exceptionTable := #[], attributes := #[] }
def k10m6 : Method := { name := "coderFromArrayLen", desc := "([BI)B", sig := { parameters := [(.array .byte), .int], returnType := some .byte }, accessFlags := 8, code := some k10c6 }
def k10c7 : Code := { maxStack := 5, maxLocals := 6, code := jdk_52_method_16_code, exceptionTable := #[], attributes := #[] }
def k10m7 : Method := { name := "compress", desc := "([CII)[B", sig := { parameters := [(.array .char), .int, .int], returnType := some (.array .byte) }, accessFlags := 9, code := some k10c7 }
def k10c8 : Code := { maxStack := 3, maxLocals := 7, code := jdk_52_method_21_code, exceptionTable := #[], attributes := #[] }
def k10m8 : Method := { name := "compress", desc := "([CI[BII)I", sig := { parameters := [(.array .char), .int, (.array .byte), .int, .int], returnType := some .int }, accessFlags := 9, code := some k10c8 }
/-- java/lang/StringUTF16 -/
def k10 : Class := { plain "java/lang/StringUTF16" (some 0) with
  accessFlags := 48
  interfaces := #[]
  cf := some (fileOf pool10 12 #[.nestMembers #[627, 629, 369]] #[{ accessFlags := 0, nameIndex := 9, descriptorIndex := 10, attributes := #[] }, { accessFlags := 9, nameIndex := 109, descriptorIndex := 110, attributes := #[] }, { accessFlags := 9, nameIndex := 15, descriptorIndex := 16, attributes := #[] }, { accessFlags := 8, nameIndex := 113, descriptorIndex := 114, attributes := #[] }, { accessFlags := 8, nameIndex := 73, descriptorIndex := 74, attributes := #[] }, { accessFlags := 9, nameIndex := 121, descriptorIndex := 122, attributes := #[] }, { accessFlags := 8, nameIndex := 261, descriptorIndex := 262, attributes := #[] }, { accessFlags := 9, nameIndex := 117, descriptorIndex := 122, attributes := #[] }, { accessFlags := 9, nameIndex := 117, descriptorIndex := 118, attributes := #[] }] 48 6 #[] #[{ accessFlags := 26, nameIndex := 61, descriptorIndex := 62, attributes := #[] }, { accessFlags := 26, nameIndex := 65, descriptorIndex := 62, attributes := #[] }, { accessFlags := 24, nameIndex := 430, descriptorIndex := 62, attributes := #[] }, { accessFlags := 4120, nameIndex := 46, descriptorIndex := 47, attributes := #[] }])
  fields := #[{ name := "HI_BYTE_SHIFT", type := .int, accessFlags := 26, slot := 0, constantValue := 0 }, { name := "LO_BYTE_SHIFT", type := .int, accessFlags := 26, slot := 1, constantValue := 0 }, { name := "MAX_LENGTH", type := .int, accessFlags := 24, slot := 2, constantValue := 0 }, { name := "$assertionsDisabled", type := .boolean, accessFlags := 4120, slot := 3, constantValue := 0 }]
  methods := #[k10m0, k10m1, k10m2, k10m3, k10m4, k10m5, k10m6, k10m7, k10m8]
  instanceTypes := #[]
  staticTypes := #[.int, .int, .int, .boolean]
  resolved := Array.replicate 635 none
  statics := some 2 }

def pool11 : Array CpInfo := pool [(1, .methodref 2 3), (0, .class_ 4), (0, .nameAndType 5 6), (0, u "java/lang/Object"), (0, u "<init>"), (0, u "()V"), (0, .fieldref 8 9), (0, .class_ 10), (0, .nameAndType 11 12), (0, u "com/example/wirecall/wirecall/Frame"), (0, u "type"), (0, u "Lcom/example/wirecall/wirecall/FrameType;"), (0, .fieldref 8 14), (0, .nameAndType 15 16), (0, u "id"), (0, u "I"), (0, .fieldref 8 18), (0, .nameAndType 19 20), (0, u "target"), (0, u "Ljava/lang/String;"), (0, .fieldref 8 22), (0, .nameAndType 23 20), (0, u "method"), (0, .string 19), (0, .fieldref 26 27), (0, .class_ 28), (0, .nameAndType 29 30), (0, u "java/nio/charset/StandardCharsets"), (0, u "UTF_8"), (0, u "Ljava/nio/charset/Charset;"), (0, .methodref 32 33), (0, .class_ 34), (0, .nameAndType 35 36), (0, u "java/lang/String"), (0, u "getBytes"), (0, u "(Ljava/nio/charset/Charset;)[B"), (0, .methodref 8 38), (0, .nameAndType 39 40), (0, u "checkLength"), (0, u "(Ljava/lang/String;[BI)[B"), (0, .fieldref 8 42), (0, .nameAndType 43 44), (0, u "targetBytes"), (0, u "[B"), (0, .string 23), (0, .fieldref 8 47), (0, .nameAndType 48 44), (0, u "methodBytes"), (0, .string 50), (0, u "payload"), (0, .integer 16777216), (0, .fieldref 8 53), (0, .nameAndType 50 44), (27, u "NOTHING"), (0, u "HEADER_BYTES"), (2, u "MAX_NAME_BYTES"), (1, u "MAX_PAYLOAD_BYTES"), (0, u "(Lcom/example/wirecall/wirecall/FrameType;ILjava/lang/String;Ljava/lang/String;[B)V"), (4, u "()I"), (2, u "wireBytes")] 21

def k11c0 : Code := { maxStack := 4, maxLocals := 6, code := prog_4_method_1_code, exceptionTable := #[], attributes := #[] }
def k11m0 : Method := { name := "<init>", desc := "(Lcom/example/wirecall/wirecall/FrameType;ILjava/lang/String;Ljava/lang/String;[B)V", sig := { parameters := [(.object "com/example/wirecall/wirecall/FrameType"), .int, (.object "java/lang/String"), (.object "java/lang/String"), (.array .byte)], returnType := none }, accessFlags := 0, code := some k11c0 }
def k11c1 : Code := { maxStack := 6, maxLocals := 3, code := prog_4_method_2_code, exceptionTable := #[], attributes := #[] }
def k11m1 : Method := { name := "checkLength", desc := "(Ljava/lang/String;[BI)[B", sig := { parameters := [(.object "java/lang/String"), (.array .byte), .int], returnType := some (.array .byte) }, accessFlags := 10, code := some k11c1 }
def k11c2 : Code := { maxStack := 2, maxLocals := 1, code := prog_4_method_11_code, exceptionTable := #[], attributes := #[] }
def k11m2 : Method := { name := "wireBytes", desc := "()I", sig := { parameters := [], returnType := some .int }, accessFlags := 0, code := some k11c2 }
/-- com/example/wirecall/wirecall/Frame -/
def k11 : Class := { plain "com/example/wirecall/wirecall/Frame" (some 0) with
  accessFlags := 48
  interfaces := #[]
  cf := some (fileOf pool11 8 #[] #[{ accessFlags := 0, nameIndex := 5, descriptorIndex := 88, attributes := #[] }, { accessFlags := 10, nameIndex := 39, descriptorIndex := 40, attributes := #[] }, { accessFlags := 0, nameIndex := 96, descriptorIndex := 93, attributes := #[] }] 48 2 #[] #[{ accessFlags := 24, nameIndex := 82, descriptorIndex := 16, attributes := #[] }, { accessFlags := 24, nameIndex := 85, descriptorIndex := 16, attributes := #[] }, { accessFlags := 24, nameIndex := 87, descriptorIndex := 16, attributes := #[] }, { accessFlags := 24, nameIndex := 81, descriptorIndex := 44, attributes := #[] }, { accessFlags := 18, nameIndex := 11, descriptorIndex := 12, attributes := #[] }, { accessFlags := 18, nameIndex := 15, descriptorIndex := 16, attributes := #[] }, { accessFlags := 18, nameIndex := 19, descriptorIndex := 20, attributes := #[] }, { accessFlags := 18, nameIndex := 23, descriptorIndex := 20, attributes := #[] }, { accessFlags := 18, nameIndex := 43, descriptorIndex := 44, attributes := #[] }, { accessFlags := 18, nameIndex := 48, descriptorIndex := 44, attributes := #[] }, { accessFlags := 18, nameIndex := 50, descriptorIndex := 44, attributes := #[] }])
  fields := #[{ name := "HEADER_BYTES", type := .int, accessFlags := 24, slot := 0, constantValue := 0 }, { name := "MAX_NAME_BYTES", type := .int, accessFlags := 24, slot := 1, constantValue := 0 }, { name := "MAX_PAYLOAD_BYTES", type := .int, accessFlags := 24, slot := 2, constantValue := 0 }, { name := "NOTHING", type := (.array .byte), accessFlags := 24, slot := 3, constantValue := 0 }, { name := "type", type := (.object "com/example/wirecall/wirecall/FrameType"), accessFlags := 18, slot := 0, constantValue := 0 }, { name := "id", type := .int, accessFlags := 18, slot := 1, constantValue := 0 }, { name := "target", type := (.object "java/lang/String"), accessFlags := 18, slot := 2, constantValue := 0 }, { name := "method", type := (.object "java/lang/String"), accessFlags := 18, slot := 3, constantValue := 0 }, { name := "targetBytes", type := (.array .byte), accessFlags := 18, slot := 4, constantValue := 0 }, { name := "methodBytes", type := (.array .byte), accessFlags := 18, slot := 5, constantValue := 0 }, { name := "payload", type := (.array .byte), accessFlags := 18, slot := 6, constantValue := 0 }]
  methods := #[k11m0, k11m1, k11m2]
  instanceTypes := #[(.object "com/example/wirecall/wirecall/FrameType"), .int, (.object "java/lang/String"), (.object "java/lang/String"), (.array .byte), (.array .byte), (.array .byte)]
  staticTypes := #[.int, .int, .int, (.array .byte)]
  resolved := Array.replicate 118 none
  statics := none }

def pool12 : Array CpInfo := pool [(2, .class_ 4), (1, u "java/lang/Object"), (0, u "<init>"), (0, u "()V"), (14, .class_ 23), (1, u "java/nio/charset/StandardCharsets"), (0, u "US_ASCII"), (0, u "Ljava/nio/charset/Charset;"), (7, u "ISO_8859_1"), (7, u "UTF_8"), (5, u "UTF_16BE"), (5, u "UTF_16LE"), (5, u "UTF_16")] 8

def k12m0 : Method := { name := "<init>", desc := "()V", sig := { parameters := [], returnType := none }, accessFlags := 2, code := none }
/-- java/nio/charset/StandardCharsets -/
def k12 : Class := { plain "java/nio/charset/StandardCharsets" (some 0) with
  accessFlags := 49
  interfaces := #[]
  cf := some (fileOf pool12 21 #[] #[{ accessFlags := 2, nameIndex := 5, descriptorIndex := 6, attributes := #[] }] 49 2 #[] #[{ accessFlags := 25, nameIndex := 24, descriptorIndex := 25, attributes := #[] }, { accessFlags := 25, nameIndex := 33, descriptorIndex := 25, attributes := #[] }, { accessFlags := 25, nameIndex := 41, descriptorIndex := 25, attributes := #[] }, { accessFlags := 25, nameIndex := 47, descriptorIndex := 25, attributes := #[] }, { accessFlags := 25, nameIndex := 53, descriptorIndex := 25, attributes := #[] }, { accessFlags := 25, nameIndex := 59, descriptorIndex := 25, attributes := #[] }])
  fields := #[{ name := "US_ASCII", type := (.object "java/nio/charset/Charset"), accessFlags := 25, slot := 0, constantValue := 0 }, { name := "ISO_8859_1", type := (.object "java/nio/charset/Charset"), accessFlags := 25, slot := 1, constantValue := 0 }, { name := "UTF_8", type := (.object "java/nio/charset/Charset"), accessFlags := 25, slot := 2, constantValue := 0 }, { name := "UTF_16BE", type := (.object "java/nio/charset/Charset"), accessFlags := 25, slot := 3, constantValue := 0 }, { name := "UTF_16LE", type := (.object "java/nio/charset/Charset"), accessFlags := 25, slot := 4, constantValue := 0 }, { name := "UTF_16", type := (.object "java/nio/charset/Charset"), accessFlags := 25, slot := 5, constantValue := 0 }]
  methods := #[k12m0]
  instanceTypes := #[]
  staticTypes := #[(.object "java/nio/charset/Charset"), (.object "java/nio/charset/Charset"), (.object "java/nio/charset/Charset"), (.object "java/nio/charset/Charset"), (.object "java/nio/charset/Charset"), (.object "java/nio/charset/Charset")]
  resolved := Array.replicate 68 none
  statics := some 3 }

def pool13 : Array CpInfo := pool [(18, .class_ 20), (1, u "java/nio/charset/Charset"), (0, u "cache1"), (0, u "[Ljava/lang/Object;"), (2, u "cache2"), (0, .class_ 27), (0, u "java/lang/Object"), (0, .class_ 29), (0, u "java/nio/charset/Charset$1"), (4, .class_ 36), (1, u "java/nio/charset/Charset$ThreadTrackHolder"), (21, .class_ 59), (0, u "java/nio/charset/Charset$2"), (11, .class_ 73), (1, u "java/nio/charset/Charset$ExtendedProviderHolder"), (22, u "standardProvider"), (0, u "Ljava/nio/charset/spi/CharsetProvider;"), (29, u "name"), (7, .class_ 136), (0, u "java/nio/charset/Charset$3"), (5, u "defaultCharset"), (0, u "Ljava/nio/charset/Charset;"), (14, u "zeroAliases"), (0, u "[Ljava/lang/String;"), (29, u "Ljava/lang/String;"), (2, u "aliases"), (2, u "aliasSet"), (0, u "Ljava/util/Set;"), (82, .class_ 280), (0, u "java/lang/Comparable"), (84, .class_ 366), (0, u "java/nio/charset/Charset$ExtendedProviderHolder$1")] 3

/-- java/nio/charset/Charset -/
def k13 : Class := { plain "java/nio/charset/Charset" (some 0) with
  accessFlags := 1057
  interfaces := #[3]
  cf := some (fileOf pool13 18 #[.nestMembers #[71, 365, 34, 135, 58, 28]] #[] 1057 26 #[279] #[{ accessFlags := 26, nameIndex := 96, descriptorIndex := 97, attributes := #[] }, { accessFlags := 26, nameIndex := 158, descriptorIndex := 159, attributes := #[] }, { accessFlags := 74, nameIndex := 21, descriptorIndex := 22, attributes := #[] }, { accessFlags := 74, nameIndex := 25, descriptorIndex := 22, attributes := #[] }, { accessFlags := 10, nameIndex := 142, descriptorIndex := 143, attributes := #[] }, { accessFlags := 18, nameIndex := 127, descriptorIndex := 189, attributes := #[] }, { accessFlags := 18, nameIndex := 192, descriptorIndex := 159, attributes := #[] }, { accessFlags := 2, nameIndex := 195, descriptorIndex := 196, attributes := #[] }])
  fields := #[{ name := "standardProvider", type := (.object "java/nio/charset/spi/CharsetProvider"), accessFlags := 26, slot := 0, constantValue := 0 }, { name := "zeroAliases", type := (.array (.object "java/lang/String")), accessFlags := 26, slot := 1, constantValue := 0 }, { name := "cache1", type := (.array (.object "java/lang/Object")), accessFlags := 74, slot := 2, constantValue := 0 }, { name := "cache2", type := (.array (.object "java/lang/Object")), accessFlags := 74, slot := 3, constantValue := 0 }, { name := "defaultCharset", type := (.object "java/nio/charset/Charset"), accessFlags := 10, slot := 4, constantValue := 0 }, { name := "name", type := (.object "java/lang/String"), accessFlags := 18, slot := 0, constantValue := 0 }, { name := "aliases", type := (.array (.object "java/lang/String")), accessFlags := 18, slot := 1, constantValue := 0 }, { name := "aliasSet", type := (.object "java/util/Set"), accessFlags := 2, slot := 2, constantValue := 0 }]
  methods := #[]
  instanceTypes := #[(.object "java/lang/String"), (.array (.object "java/lang/String")), (.object "java/util/Set")]
  staticTypes := #[(.object "java/nio/charset/spi/CharsetProvider"), (.array (.object "java/lang/String")), (.array (.object "java/lang/Object")), (.array (.object "java/lang/Object")), (.object "java/nio/charset/Charset")]
  resolved := Array.replicate 370 none
  statics := none }

def pool14 : Array CpInfo := pool [(1, .class_ 2), (0, u "sun/nio/cs/HistoricallyNamedCharset"), (0, .class_ 4), (0, u "java/lang/Object")] 4

/-- sun/nio/cs/HistoricallyNamedCharset -/
def k14 : Class := { plain "sun/nio/cs/HistoricallyNamedCharset" (some 0) with
  accessFlags := 1537
  interfaces := #[]
  cf := some (fileOf pool14 1 #[] #[] 1537 3 #[] #[])
  fields := #[]
  methods := #[]
  instanceTypes := #[]
  staticTypes := #[]
  resolved := Array.replicate 9 none
  statics := none }

def pool15 : Array CpInfo := pool [(2, .class_ 4), (1, u "java/nio/charset/Charset"), (130, .class_ 136), (0, u "sun/nio/cs/Unicode"), (0, .class_ 138), (0, u "sun/nio/cs/HistoricallyNamedCharset")] 15

/-- sun/nio/cs/Unicode -/
def k15 : Class := { plain "sun/nio/cs/Unicode" (some 13) with
  accessFlags := 1056
  interfaces := #[14]
  cf := some (fileOf pool15 135 #[] #[] 1056 2 #[137] #[])
  fields := #[]
  methods := #[]
  instanceTypes := #[(.object "java/lang/String"), (.array (.object "java/lang/String")), (.object "java/util/Set")]
  staticTypes := #[]
  resolved := Array.replicate 154 none
  statics := none }

def pool16 : Array CpInfo := pool [(10, .class_ 12), (1, u "sun/nio/cs/Unicode"), (0, u "<init>"), (3, .class_ 18), (0, u "sun/nio/cs/UTF_8$Decoder"), (3, .class_ 23), (0, u "sun/nio/cs/UTF_8$Encoder"), (15, .class_ 40), (0, u "sun/nio/cs/UTF_8"), (2, u "()V"), (2, u "INSTANCE"), (0, u "Lsun/nio/cs/UTF_8;"), (8, u "JLA"), (0, u "Ljdk/internal/access/JavaLangAccess;")] 26

def k16m0 : Method := { name := "<init>", desc := "()V", sig := { parameters := [], returnType := none }, accessFlags := 1, code := none }
/-- sun/nio/cs/UTF_8 -/
def k16 : Class := { plain "sun/nio/cs/UTF_8" (some 15) with
  accessFlags := 49
  interfaces := #[]
  cf := some (fileOf pool16 39 #[.nestMembers #[22, 17]] #[{ accessFlags := 1, nameIndex := 13, descriptorIndex := 43, attributes := #[] }] 49 10 #[] #[{ accessFlags := 25, nameIndex := 46, descriptorIndex := 47, attributes := #[] }, { accessFlags := 26, nameIndex := 56, descriptorIndex := 57, attributes := #[] }])
  fields := #[{ name := "INSTANCE", type := (.object "sun/nio/cs/UTF_8"), accessFlags := 25, slot := 0, constantValue := 0 }, { name := "JLA", type := (.object "jdk/internal/access/JavaLangAccess"), accessFlags := 26, slot := 1, constantValue := 0 }]
  methods := #[k16m0]
  instanceTypes := #[(.object "java/lang/String"), (.array (.object "java/lang/String")), (.object "java/util/Set")]
  staticTypes := #[(.object "sun/nio/cs/UTF_8"), (.object "jdk/internal/access/JavaLangAccess")]
  resolved := Array.replicate 84 none
  statics := some 4 }

def pool17 : Array CpInfo := pool [(2, .class_ 4), (1, u "java/lang/Object"), (0, u "<init>"), (0, u "()V"), (0, .methodref 8 9), (0, .class_ 10), (0, .nameAndType 11 12), (0, u "java/lang/StringCoding"), (0, u "countPositives"), (0, u "([BII)I"), (11, u "hasNegatives"), (0, u "([BII)Z")] 23

def k17m0 : Method := { name := "<init>", desc := "()V", sig := { parameters := [], returnType := none }, accessFlags := 2, code := none }
def k17c1 : Code := { maxStack := 3, maxLocals := 3, code := jdk_123_method_2_code, exceptionTable := #[], attributes := #[] }
def k17m1 : Method := { name := "hasNegatives", desc := "([BII)Z", sig := { parameters := [(.array .byte), .int, .int], returnType := some .boolean }, accessFlags := 9, code := some k17c1 }
def k17c2 : Code := { maxStack := 2, maxLocals := 5, code := jdk_123_method_3_code, exceptionTable := #[], attributes := #[] }
def k17m2 : Method := { name := "countPositives", desc := "([BII)I", sig := { parameters := [(.array .byte), .int, .int], returnType := some .int }, accessFlags := 9, code := some k17c2 }
/-- java/lang/StringCoding -/
def k17 : Class := { plain "java/lang/StringCoding" (some 0) with
  accessFlags := 32
  interfaces := #[]
  cf := some (fileOf pool17 8 #[] #[{ accessFlags := 2, nameIndex := 5, descriptorIndex := 6, attributes := #[] }, { accessFlags := 9, nameIndex := 24, descriptorIndex := 25, attributes := #[] }, { accessFlags := 9, nameIndex := 11, descriptorIndex := 12, attributes := #[] }] 32 2 #[] #[])
  fields := #[]
  methods := #[k17m0, k17m1, k17m2]
  instanceTypes := #[]
  staticTypes := #[]
  resolved := Array.replicate 49 none
  statics := none }

def pool18 : Array CpInfo := pool [(1, .class_ 2), (0, u "java/lang/Cloneable"), (0, .class_ 4), (0, u "java/lang/Object")] 2

/-- java/lang/Cloneable -/
def k18 : Class := { plain "java/lang/Cloneable" (some 0) with
  accessFlags := 1537
  interfaces := #[]
  cf := some (fileOf pool18 1 #[] #[] 1537 3 #[] #[])
  fields := #[]
  methods := #[]
  instanceTypes := #[]
  staticTypes := #[]
  resolved := Array.replicate 7 none
  statics := none }

def pool19 : Array CpInfo := pool [(1, .class_ 2), (0, u "java/lang/Character"), (18, u "value"), (0, u "C"), (19, .class_ 44), (1, u "java/lang/Object"), (3, .class_ 50), (1, u "java/lang/Character$CharacterCache"), (24, .integer 55296), (5, u "(C)Z"), (202, u "$assertionsDisabled"), (0, u "Z"), (21, .class_ 309), (1, u "java/lang/Character$UnicodeBlock"), (73, u "TYPE"), (0, u "Ljava/lang/Class;"), (0, .class_ 386), (0, u "java/io/Serializable"), (0, .class_ 388), (0, u "java/lang/Comparable"), (0, .class_ 390), (0, u "java/lang/constant/Constable"), (0, u "MIN_RADIX"), (0, u "I"), (2, u "MAX_RADIX"), (1, u "MIN_VALUE"), (1, u "MAX_VALUE"), (3, u "UNASSIGNED"), (0, u "B"), (0, u "UPPERCASE_LETTER"), (1, u "LOWERCASE_LETTER"), (0, u "TITLECASE_LETTER"), (1, u "MODIFIER_LETTER"), (1, u "OTHER_LETTER"), (1, u "NON_SPACING_MARK"), (1, u "ENCLOSING_MARK"), (1, u "COMBINING_SPACING_MARK"), (1, u "DECIMAL_DIGIT_NUMBER"), (1, u "LETTER_NUMBER"), (1, u "OTHER_NUMBER"), (1, u "SPACE_SEPARATOR"), (1, u "LINE_SEPARATOR"), (1, u "PARAGRAPH_SEPARATOR"), (1, u "CONTROL"), (1, u "FORMAT"), (1, u "PRIVATE_USE"), (1, u "SURROGATE"), (1, u "DASH_PUNCTUATION"), (1, u "START_PUNCTUATION"), (1, u "END_PUNCTUATION"), (1, u "CONNECTOR_PUNCTUATION"), (1, u "OTHER_PUNCTUATION"), (1, u "MATH_SYMBOL"), (1, u "CURRENCY_SYMBOL"), (1, u "MODIFIER_SYMBOL"), (1, u "OTHER_SYMBOL"), (1, u "INITIAL_QUOTE_PUNCTUATION"), (1, u "FINAL_QUOTE_PUNCTUATION"), (1, u "ERROR"), (1, u "DIRECTIONALITY_UNDEFINED"), (0, u "DIRECTIONALITY_LEFT_TO_RIGHT"), (0, u "DIRECTIONALITY_RIGHT_TO_LEFT"), (0, u "DIRECTIONALITY_RIGHT_TO_LEFT_ARABIC"), (0, u "DIRECTIONALITY_EUROPEAN_NUMBER"), (0, u "DIRECTIONALITY_EUROPEAN_NUMBER_SEPARATOR"), (0, u "DIRECTIONALITY_EUROPEAN_NUMBER_TERMINATOR"), (0, u "DIRECTIONALITY_ARABIC_NUMBER"), (0, u "DIRECTIONALITY_COMMON_NUMBER_SEPARATOR"), (0, u "DIRECTIONALITY_NONSPACING_MARK"), (0, u "DIRECTIONALITY_BOUNDARY_NEUTRAL"), (0, u "DIRECTIONALITY_PARAGRAPH_SEPARATOR"), (0, u "DIRECTIONALITY_SEGMENT_SEPARATOR"), (0, u "DIRECTIONALITY_WHITESPACE"), (0, u "DIRECTIONALITY_OTHER_NEUTRALS"), (0, u "DIRECTIONALITY_LEFT_TO_RIGHT_EMBEDDING"), (0, u "DIRECTIONALITY_LEFT_TO_RIGHT_OVERRIDE"), (0, u "DIRECTIONALITY_RIGHT_TO_LEFT_EMBEDDING"), (0, u "DIRECTIONALITY_RIGHT_TO_LEFT_OVERRIDE"), (1, u "DIRECTIONALITY_POP_DIRECTIONAL_FORMAT"), (0, u "DIRECTIONALITY_LEFT_TO_RIGHT_ISOLATE"), (0, u "DIRECTIONALITY_RIGHT_TO_LEFT_ISOLATE"), (0, u "DIRECTIONALITY_FIRST_STRONG_ISOLATE"), (0, u "DIRECTIONALITY_POP_DIRECTIONAL_ISOLATE"), (0, u "MIN_HIGH_SURROGATE"), (0, u "MAX_HIGH_SURROGATE"), (1, u "MIN_LOW_SURROGATE"), (0, u "MAX_LOW_SURROGATE"), (1, u "MIN_SURROGATE"), (0, u "MAX_SURROGATE"), (0, u "MIN_SUPPLEMENTARY_CODE_POINT"), (0, u "MIN_CODE_POINT"), (0, u "MAX_CODE_POINT"), (1, u "serialVersionUID"), (0, u "J"), (2, u "SIZE"), (0, u "BYTES"), (24, u "isSurrogate"), (63, .class_ 596), (0, u "java/lang/Character$UnicodeScript"), (0, .class_ 598), (0, u "java/lang/Character$Subset")] 5

def k19c0 : Code := { maxStack := 2, maxLocals := 1, code := jdk_89_method_16_code, exceptionTable := #[], attributes := #[] }
def k19m0 : Method := { name := "isSurrogate", desc := "(C)Z", sig := { parameters := [.char], returnType := some .boolean }, accessFlags := 9, code := some k19c0 }
/-- java/lang/Character -/
def k19 : Class := { plain "java/lang/Character" (some 0) with
  accessFlags := 49
  interfaces := #[4, 3, 2]
  cf := some (fileOf pool19 1 #[.nestMembers #[48, 595, 307, 597]] #[{ accessFlags := 9, nameIndex := 531, descriptorIndex := 81, attributes := #[] }] 49 42 #[385, 387, 389] #[{ accessFlags := 25, nameIndex := 391, descriptorIndex := 392, attributes := #[] }, { accessFlags := 25, nameIndex := 395, descriptorIndex := 392, attributes := #[] }, { accessFlags := 25, nameIndex := 397, descriptorIndex := 22, attributes := #[] }, { accessFlags := 25, nameIndex := 399, descriptorIndex := 22, attributes := #[] }, { accessFlags := 25, nameIndex := 383, descriptorIndex := 384, attributes := #[] }, { accessFlags := 25, nameIndex := 403, descriptorIndex := 404, attributes := #[] }, { accessFlags := 25, nameIndex := 405, descriptorIndex := 404, attributes := #[] }, { accessFlags := 25, nameIndex := 407, descriptorIndex := 404, attributes := #[] }, { accessFlags := 25, nameIndex := 408, descriptorIndex := 404, attributes := #[] }, { accessFlags := 25, nameIndex := 410, descriptorIndex := 404, attributes := #[] }, { accessFlags := 25, nameIndex := 412, descriptorIndex := 404, attributes := #[] }, { accessFlags := 25, nameIndex := 414, descriptorIndex := 404, attributes := #[] }, { accessFlags := 25, nameIndex := 416, descriptorIndex := 404, attributes := #[] }, { accessFlags := 25, nameIndex := 418, descriptorIndex := 404, attributes := #[] }, { accessFlags := 25, nameIndex := 420, descriptorIndex := 404, attributes := #[] }, { accessFlags := 25, nameIndex := 422, descriptorIndex := 404, attributes := #[] }, { accessFlags := 25, nameIndex := 424, descriptorIndex := 404, attributes := #[] }, { accessFlags := 25, nameIndex := 426, descriptorIndex := 404, attributes := #[] }, { accessFlags := 25, nameIndex := 428, descriptorIndex := 404, attributes := #[] }, { accessFlags := 25, nameIndex := 430, descriptorIndex := 404, attributes := #[] }, { accessFlags := 25, nameIndex := 432, descriptorIndex := 404, attributes := #[] }, { accessFlags := 25, nameIndex := 434, descriptorIndex := 404, attributes := #[] }, { accessFlags := 25, nameIndex := 436, descriptorIndex := 404, attributes := #[] }, { accessFlags := 25, nameIndex := 438, descriptorIndex := 404, attributes := #[] }, { accessFlags := 25, nameIndex := 440, descriptorIndex := 404, attributes := #[] }, { accessFlags := 25, nameIndex := 442, descriptorIndex := 404, attributes := #[] }, { accessFlags := 25, nameIndex := 444, descriptorIndex := 404, attributes := #[] }, { accessFlags := 25, nameIndex := 446, descriptorIndex := 404, attributes := #[] }, { accessFlags := 25, nameIndex := 448, descriptorIndex := 404, attributes := #[] }, { accessFlags := 25, nameIndex := 450, descriptorIndex := 404, attributes := #[] }, { accessFlags := 25, nameIndex := 452, descriptorIndex := 404, attributes := #[] }, { accessFlags := 25, nameIndex := 454, descriptorIndex := 404, attributes := #[] }, { accessFlags := 25, nameIndex := 456, descriptorIndex := 404, attributes := #[] }, { accessFlags := 25, nameIndex := 458, descriptorIndex := 404, attributes := #[] }, { accessFlags := 25, nameIndex := 460, descriptorIndex := 404, attributes := #[] }, { accessFlags := 24, nameIndex := 462, descriptorIndex := 392, attributes := #[] }, { accessFlags := 25, nameIndex := 464, descriptorIndex := 404, attributes := #[] }, { accessFlags := 25, nameIndex := 465, descriptorIndex := 404, attributes := #[] }, { accessFlags := 25, nameIndex := 466, descriptorIndex := 404, attributes := #[] }, { accessFlags := 25, nameIndex := 467, descriptorIndex := 404, attributes := #[] }, { accessFlags := 25, nameIndex := 468, descriptorIndex := 404, attributes := #[] }, { accessFlags := 25, nameIndex := 469, descriptorIndex := 404, attributes := #[] }, { accessFlags := 25, nameIndex := 470, descriptorIndex := 404, attributes := #[] }, { accessFlags := 25, nameIndex := 471, descriptorIndex := 404, attributes := #[] }, { accessFlags := 25, nameIndex := 472, descriptorIndex := 404, attributes := #[] }, { accessFlags := 25, nameIndex := 473, descriptorIndex := 404, attributes := #[] }, { accessFlags := 25, nameIndex := 474, descriptorIndex := 404, attributes := #[] }, { accessFlags := 25, nameIndex := 475, descriptorIndex := 404, attributes := #[] }, { accessFlags := 25, nameIndex := 476, descriptorIndex := 404, attributes := #[] }, { accessFlags := 25, nameIndex := 477, descriptorIndex := 404, attributes := #[] }, { accessFlags := 25, nameIndex := 478, descriptorIndex := 404, attributes := #[] }, { accessFlags := 25, nameIndex := 479, descriptorIndex := 404, attributes := #[] }, { accessFlags := 25, nameIndex := 480, descriptorIndex := 404, attributes := #[] }, { accessFlags := 25, nameIndex := 481, descriptorIndex := 404, attributes := #[] }, { accessFlags := 25, nameIndex := 482, descriptorIndex := 404, attributes := #[] }, { accessFlags := 25, nameIndex := 484, descriptorIndex := 404, attributes := #[] }, { accessFlags := 25, nameIndex := 485, descriptorIndex := 404, attributes := #[] }, { accessFlags := 25, nameIndex := 486, descriptorIndex := 404, attributes := #[] }, { accessFlags := 25, nameIndex := 487, descriptorIndex := 404, attributes := #[] }, { accessFlags := 25, nameIndex := 488, descriptorIndex := 404, attributes := #[] }, { accessFlags := 25, nameIndex := 489, descriptorIndex := 22, attributes := #[] }, { accessFlags := 25, nameIndex := 490, descriptorIndex := 22, attributes := #[] }, { accessFlags := 25, nameIndex := 492, descriptorIndex := 22, attributes := #[] }, { accessFlags := 25, nameIndex := 493, descriptorIndex := 22, attributes := #[] }, { accessFlags := 25, nameIndex := 495, descriptorIndex := 22, attributes := #[] }, { accessFlags := 25, nameIndex := 496, descriptorIndex := 22, attributes := #[] }, { accessFlags := 25, nameIndex := 497, descriptorIndex := 392, attributes := #[] }, { accessFlags := 25, nameIndex := 498, descriptorIndex := 392, attributes := #[] }, { accessFlags := 25, nameIndex := 499, descriptorIndex := 392, attributes := #[] }, { accessFlags := 18, nameIndex := 21, descriptorIndex := 22, attributes := #[] }, { accessFlags := 26, nameIndex := 501, descriptorIndex := 502, attributes := #[] }, { accessFlags := 25, nameIndex := 505, descriptorIndex := 392, attributes := #[] }, { accessFlags := 25, nameIndex := 506, descriptorIndex := 392, attributes := #[] }, { accessFlags := 4120, nameIndex := 284, descriptorIndex := 285, attributes := #[] }])
  fields := #[{ name := "MIN_RADIX", type := .int, accessFlags := 25, slot := 0, constantValue := 0 }, { name := "MAX_RADIX", type := .int, accessFlags := 25, slot := 1, constantValue := 0 }, { name := "MIN_VALUE", type := .char, accessFlags := 25, slot := 2, constantValue := 0 }, { name := "MAX_VALUE", type := .char, accessFlags := 25, slot := 3, constantValue := 0 }, { name := "TYPE", type := (.object "java/lang/Class"), accessFlags := 25, slot := 4, constantValue := 0 }, { name := "UNASSIGNED", type := .byte, accessFlags := 25, slot := 5, constantValue := 0 }, { name := "UPPERCASE_LETTER", type := .byte, accessFlags := 25, slot := 6, constantValue := 0 }, { name := "LOWERCASE_LETTER", type := .byte, accessFlags := 25, slot := 7, constantValue := 0 }, { name := "TITLECASE_LETTER", type := .byte, accessFlags := 25, slot := 8, constantValue := 0 }, { name := "MODIFIER_LETTER", type := .byte, accessFlags := 25, slot := 9, constantValue := 0 }, { name := "OTHER_LETTER", type := .byte, accessFlags := 25, slot := 10, constantValue := 0 }, { name := "NON_SPACING_MARK", type := .byte, accessFlags := 25, slot := 11, constantValue := 0 }, { name := "ENCLOSING_MARK", type := .byte, accessFlags := 25, slot := 12, constantValue := 0 }, { name := "COMBINING_SPACING_MARK", type := .byte, accessFlags := 25, slot := 13, constantValue := 0 }, { name := "DECIMAL_DIGIT_NUMBER", type := .byte, accessFlags := 25, slot := 14, constantValue := 0 }, { name := "LETTER_NUMBER", type := .byte, accessFlags := 25, slot := 15, constantValue := 0 }, { name := "OTHER_NUMBER", type := .byte, accessFlags := 25, slot := 16, constantValue := 0 }, { name := "SPACE_SEPARATOR", type := .byte, accessFlags := 25, slot := 17, constantValue := 0 }, { name := "LINE_SEPARATOR", type := .byte, accessFlags := 25, slot := 18, constantValue := 0 }, { name := "PARAGRAPH_SEPARATOR", type := .byte, accessFlags := 25, slot := 19, constantValue := 0 }, { name := "CONTROL", type := .byte, accessFlags := 25, slot := 20, constantValue := 0 }, { name := "FORMAT", type := .byte, accessFlags := 25, slot := 21, constantValue := 0 }, { name := "PRIVATE_USE", type := .byte, accessFlags := 25, slot := 22, constantValue := 0 }, { name := "SURROGATE", type := .byte, accessFlags := 25, slot := 23, constantValue := 0 }, { name := "DASH_PUNCTUATION", type := .byte, accessFlags := 25, slot := 24, constantValue := 0 }, { name := "START_PUNCTUATION", type := .byte, accessFlags := 25, slot := 25, constantValue := 0 }, { name := "END_PUNCTUATION", type := .byte, accessFlags := 25, slot := 26, constantValue := 0 }, { name := "CONNECTOR_PUNCTUATION", type := .byte, accessFlags := 25, slot := 27, constantValue := 0 }, { name := "OTHER_PUNCTUATION", type := .byte, accessFlags := 25, slot := 28, constantValue := 0 }, { name := "MATH_SYMBOL", type := .byte, accessFlags := 25, slot := 29, constantValue := 0 }, { name := "CURRENCY_SYMBOL", type := .byte, accessFlags := 25, slot := 30, constantValue := 0 }, { name := "MODIFIER_SYMBOL", type := .byte, accessFlags := 25, slot := 31, constantValue := 0 }, { name := "OTHER_SYMBOL", type := .byte, accessFlags := 25, slot := 32, constantValue := 0 }, { name := "INITIAL_QUOTE_PUNCTUATION", type := .byte, accessFlags := 25, slot := 33, constantValue := 0 }, { name := "FINAL_QUOTE_PUNCTUATION", type := .byte, accessFlags := 25, slot := 34, constantValue := 0 }, { name := "ERROR", type := .int, accessFlags := 24, slot := 35, constantValue := 0 }, { name := "DIRECTIONALITY_UNDEFINED", type := .byte, accessFlags := 25, slot := 36, constantValue := 0 }, { name := "DIRECTIONALITY_LEFT_TO_RIGHT", type := .byte, accessFlags := 25, slot := 37, constantValue := 0 }, { name := "DIRECTIONALITY_RIGHT_TO_LEFT", type := .byte, accessFlags := 25, slot := 38, constantValue := 0 }, { name := "DIRECTIONALITY_RIGHT_TO_LEFT_ARABIC", type := .byte, accessFlags := 25, slot := 39, constantValue := 0 }, { name := "DIRECTIONALITY_EUROPEAN_NUMBER", type := .byte, accessFlags := 25, slot := 40, constantValue := 0 }, { name := "DIRECTIONALITY_EUROPEAN_NUMBER_SEPARATOR", type := .byte, accessFlags := 25, slot := 41, constantValue := 0 }, { name := "DIRECTIONALITY_EUROPEAN_NUMBER_TERMINATOR", type := .byte, accessFlags := 25, slot := 42, constantValue := 0 }, { name := "DIRECTIONALITY_ARABIC_NUMBER", type := .byte, accessFlags := 25, slot := 43, constantValue := 0 }, { name := "DIRECTIONALITY_COMMON_NUMBER_SEPARATOR", type := .byte, accessFlags := 25, slot := 44, constantValue := 0 }, { name := "DIRECTIONALITY_NONSPACING_MARK", type := .byte, accessFlags := 25, slot := 45, constantValue := 0 }, { name := "DIRECTIONALITY_BOUNDARY_NEUTRAL", type := .byte, accessFlags := 25, slot := 46, constantValue := 0 }, { name := "DIRECTIONALITY_PARAGRAPH_SEPARATOR", type := .byte, accessFlags := 25, slot := 47, constantValue := 0 }, { name := "DIRECTIONALITY_SEGMENT_SEPARATOR", type := .byte, accessFlags := 25, slot := 48, constantValue := 0 }, { name := "DIRECTIONALITY_WHITESPACE", type := .byte, accessFlags := 25, slot := 49, constantValue := 0 }, { name := "DIRECTIONALITY_OTHER_NEUTRALS", type := .byte, accessFlags := 25, slot := 50, constantValue := 0 }, { name := "DIRECTIONALITY_LEFT_TO_RIGHT_EMBEDDING", type := .byte, accessFlags := 25, slot := 51, constantValue := 0 }, { name := "DIRECTIONALITY_LEFT_TO_RIGHT_OVERRIDE", type := .byte, accessFlags := 25, slot := 52, constantValue := 0 }, { name := "DIRECTIONALITY_RIGHT_TO_LEFT_EMBEDDING", type := .byte, accessFlags := 25, slot := 53, constantValue := 0 }, { name := "DIRECTIONALITY_RIGHT_TO_LEFT_OVERRIDE", type := .byte, accessFlags := 25, slot := 54, constantValue := 0 }, { name := "DIRECTIONALITY_POP_DIRECTIONAL_FORMAT", type := .byte, accessFlags := 25, slot := 55, constantValue := 0 }, { name := "DIRECTIONALITY_LEFT_TO_RIGHT_ISOLATE", type := .byte, accessFlags := 25, slot := 56, constantValue := 0 }, { name := "DIRECTIONALITY_RIGHT_TO_LEFT_ISOLATE", type := .byte, accessFlags := 25, slot := 57, constantValue := 0 }, { name := "DIRECTIONALITY_FIRST_STRONG_ISOLATE", type := .byte, accessFlags := 25, slot := 58, constantValue := 0 }, { name := "DIRECTIONALITY_POP_DIRECTIONAL_ISOLATE", type := .byte, accessFlags := 25, slot := 59, constantValue := 0 }, { name := "MIN_HIGH_SURROGATE", type := .char, accessFlags := 25, slot := 60, constantValue := 0 }, { name := "MAX_HIGH_SURROGATE", type := .char, accessFlags := 25, slot := 61, constantValue := 0 }, { name := "MIN_LOW_SURROGATE", type := .char, accessFlags := 25, slot := 62, constantValue := 0 }, { name := "MAX_LOW_SURROGATE", type := .char, accessFlags := 25, slot := 63, constantValue := 0 }, { name := "MIN_SURROGATE", type := .char, accessFlags := 25, slot := 64, constantValue := 0 }, { name := "MAX_SURROGATE", type := .char, accessFlags := 25, slot := 65, constantValue := 0 }, { name := "MIN_SUPPLEMENTARY_CODE_POINT", type := .int, accessFlags := 25, slot := 66, constantValue := 0 }, { name := "MIN_CODE_POINT", type := .int, accessFlags := 25, slot := 67, constantValue := 0 }, { name := "MAX_CODE_POINT", type := .int, accessFlags := 25, slot := 68, constantValue := 0 }, { name := "value", type := .char, accessFlags := 18, slot := 0, constantValue := 0 }, { name := "serialVersionUID", type := .long, accessFlags := 26, slot := 69, constantValue := 0 }, { name := "SIZE", type := .int, accessFlags := 25, slot := 70, constantValue := 0 }, { name := "BYTES", type := .int, accessFlags := 25, slot := 71, constantValue := 0 }, { name := "$assertionsDisabled", type := .boolean, accessFlags := 4120, slot := 72, constantValue := 0 }]
  methods := #[k19m0]
  instanceTypes := #[.char]
  staticTypes := #[.int, .int, .char, .char, (.object "java/lang/Class"), .byte, .byte, .byte, .byte, .byte, .byte, .byte, .byte, .byte, .byte, .byte, .byte, .byte, .byte, .byte, .byte, .byte, .byte, .byte, .byte, .byte, .byte, .byte, .byte, .byte, .byte, .byte, .byte, .byte, .byte, .int, .byte, .byte, .byte, .byte, .byte, .byte, .byte, .byte, .byte, .byte, .byte, .byte, .byte, .byte, .byte, .byte, .byte, .byte, .byte, .byte, .byte, .byte, .byte, .byte, .char, .char, .char, .char, .char, .char, .int, .int, .int, .long, .int, .int, .boolean]
  resolved := Array.replicate 604 none
  statics := none }

def pool20 : Array CpInfo := pool [(2, .class_ 4), (1, u "java/lang/Object"), (0, u "<init>"), (0, u "()V"), (7, .class_ 16), (1, u "java/util/Arrays"), (57, .class_ 76), (1, u "java/util/Arrays$NaturalOrder"), (36, .class_ 115), (1, u "java/util/Arrays$LegacyMergeSort"), (1, u "Z"), (32, .methodref 151 152), (0, .class_ 153), (0, .nameAndType 154 155), (0, u "java/lang/System"), (0, u "arraycopy"), (0, u "(Ljava/lang/Object;ILjava/lang/Object;II)V"), (146, u "copyOf"), (1, .methodref 305 306), (0, .class_ 307), (0, .nameAndType 308 309), (0, u "java/lang/Math"), (0, u "min"), (0, u "(II)I"), (65, .class_ 376), (0, u "java/util/Arrays$ArrayList"), (68, u "$assertionsDisabled"), (269, u "MIN_ARRAY_SORT_GRAN"), (0, u "I"), (2, u "INSERTIONSORT_THRESHOLD"), (149, u "([BI)[B"), (105, .class_ 976), (0, u "java/util/Arrays$ArrayItr")] 52

def k20m0 : Method := { name := "<init>", desc := "()V", sig := { parameters := [], returnType := none }, accessFlags := 2, code := none }
def k20c1 : Code := { maxStack := 6, maxLocals := 3, code := jdk_65_method_121_code, exceptionTable := #[], attributes := #[] }
def k20m1 : Method := { name := "copyOf", desc := "([BI)[B", sig := { parameters := [(.array .byte), .int], returnType := some (.array .byte) }, accessFlags := 9, code := some k20c1 }
/-- java/util/Arrays -/
def k20 : Class := { plain "java/util/Arrays" (some 0) with
  accessFlags := 49
  interfaces := #[]
  cf := some (fileOf pool20 14 #[.nestMembers #[975, 375, 113, 74]] #[{ accessFlags := 2, nameIndex := 5, descriptorIndex := 6, attributes := #[] }, { accessFlags := 9, nameIndex := 302, descriptorIndex := 869, attributes := #[] }] 49 2 #[] #[{ accessFlags := 26, nameIndex := 715, descriptorIndex := 716, attributes := #[] }, { accessFlags := 26, nameIndex := 719, descriptorIndex := 716, attributes := #[] }, { accessFlags := 4120, nameIndex := 445, descriptorIndex := 117, attributes := #[] }])
  fields := #[{ name := "MIN_ARRAY_SORT_GRAN", type := .int, accessFlags := 26, slot := 0, constantValue := 0 }, { name := "INSERTIONSORT_THRESHOLD", type := .int, accessFlags := 26, slot := 1, constantValue := 0 }, { name := "$assertionsDisabled", type := .boolean, accessFlags := 4120, slot := 2, constantValue := 0 }]
  methods := #[k20m0, k20m1]
  instanceTypes := #[]
  staticTypes := #[.int, .int, .boolean]
  resolved := Array.replicate 1029 none
  statics := none }

def pool21 : Array CpInfo := pool [(1, .class_ 2), (0, u "java/lang/Math"), (1, .class_ 6), (1, u "java/lang/Object"), (0, u "<init>"), (0, u "()V"), (89, .class_ 100), (1, u "java/lang/Math$RandomNumberGeneratorHolder"), (71, u "negativeZeroFloatBits"), (0, u "J"), (2, u "negativeZeroDoubleBits"), (24, u "min"), (43, u "$assertionsDisabled"), (0, u "Z"), (88, u "(II)I"), (2, u "twoToTheDoubleScaleDown"), (0, u "D"), (4, u "twoToTheDoubleScaleUp"), (9, u "E"), (3, u "PI"), (2, u "TAU"), (2, u "DEGREES_TO_RADIANS"), (0, u "RADIANS_TO_DEGREES")] 94

def k21m0 : Method := { name := "<init>", desc := "()V", sig := { parameters := [], returnType := none }, accessFlags := 2, code := none }
def k21c1 : Code := { maxStack := 2, maxLocals := 2, code := jdk_29_method_69_code, exceptionTable := #[], attributes := #[] }
def k21m1 : Method := { name := "min", desc := "(II)I", sig := { parameters := [.int, .int], returnType := some .int }, accessFlags := 9, code := some k21c1 }
/-- java/lang/Math -/
def k21 : Class := { plain "java/lang/Math" (some 0) with
  accessFlags := 49
  interfaces := #[]
  cf := some (fileOf pool21 1 #[.nestMembers #[98]] #[{ accessFlags := 2, nameIndex := 7, descriptorIndex := 8, attributes := #[] }, { accessFlags := 9, nameIndex := 201, descriptorIndex := 335, attributes := #[] }] 49 4 #[] #[{ accessFlags := 25, nameIndex := 354, descriptorIndex := 339, attributes := #[] }, { accessFlags := 25, nameIndex := 358, descriptorIndex := 339, attributes := #[] }, { accessFlags := 25, nameIndex := 361, descriptorIndex := 339, attributes := #[] }, { accessFlags := 26, nameIndex := 364, descriptorIndex := 339, attributes := #[] }, { accessFlags := 26, nameIndex := 365, descriptorIndex := 339, attributes := #[] }, { accessFlags := 26, nameIndex := 172, descriptorIndex := 173, attributes := #[] }, { accessFlags := 26, nameIndex := 176, descriptorIndex := 173, attributes := #[] }, { accessFlags := 8, nameIndex := 344, descriptorIndex := 339, attributes := #[] }, { accessFlags := 8, nameIndex := 338, descriptorIndex := 339, attributes := #[] }, { accessFlags := 4120, nameIndex := 245, descriptorIndex := 246, attributes := #[] }])
  fields := #[{ name := "E", type := .double, accessFlags := 25, slot := 0, constantValue := 0 }, { name := "PI", type := .double, accessFlags := 25, slot := 1, constantValue := 0 }, { name := "TAU", type := .double, accessFlags := 25, slot := 2, constantValue := 0 }, { name := "DEGREES_TO_RADIANS", type := .double, accessFlags := 26, slot := 3, constantValue := 0 }, { name := "RADIANS_TO_DEGREES", type := .double, accessFlags := 26, slot := 4, constantValue := 0 }, { name := "negativeZeroFloatBits", type := .long, accessFlags := 26, slot := 5, constantValue := 0 }, { name := "negativeZeroDoubleBits", type := .long, accessFlags := 26, slot := 6, constantValue := 0 }, { name := "twoToTheDoubleScaleUp", type := .double, accessFlags := 8, slot := 7, constantValue := 0 }, { name := "twoToTheDoubleScaleDown", type := .double, accessFlags := 8, slot := 8, constantValue := 0 }, { name := "$assertionsDisabled", type := .boolean, accessFlags := 4120, slot := 9, constantValue := 0 }]
  methods := #[k21m0, k21m1]
  instanceTypes := #[]
  staticTypes := #[.double, .double, .double, .double, .double, .long, .long, .double, .double, .boolean]
  resolved := Array.replicate 460 none
  statics := none }

def pool22 : Array CpInfo := pool [(2, .class_ 4), (1, u "java/lang/Object"), (0, u "<init>"), (0, u "()V"), (1, .class_ 10), (1, u "java/lang/System"), (0, u "allowSecurityManager"), (0, u "I"), (16, u "cons"), (0, u "Ljava/io/Console;"), (77, .class_ 110), (1, u "java/lang/System$CallersHolder"), (43, u "initialErrStream"), (0, u "Ljava/io/PrintStream;"), (19, u "security"), (0, u "Ljava/lang/SecurityManager;"), (31, .class_ 209), (0, u "java/lang/System$1"), (7, u "props"), (0, u "Ljava/util/Properties;"), (2, u "lineSeparator"), (0, u "Ljava/lang/String;"), (96, .class_ 321), (1, u "java/lang/System$LoggerFinder"), (5, .class_ 328), (0, u "java/lang/System$Logger"), (67, u "err"), (2, u "out"), (91, u "notSupportedJnuEncoding"), (15, u "in"), (17, u "initialIn"), (0, u "Ljava/io/InputStream;"), (35, u "bootLayer"), (0, u "Ljava/lang/ModuleLayer;"), (99, .class_ 664), (0, u "java/lang/System$2"), (9, u "NEVER"), (2, u "MAYBE"), (49, u "arraycopy"), (0, u "(Ljava/lang/Object;ILjava/lang/Object;II)V"), (72, .class_ 802), (0, u "java/lang/System$Logger$Level")] 31

def k22m0 : Method := { name := "<init>", desc := "()V", sig := { parameters := [], returnType := none }, accessFlags := 2, code := none }
def k22m1 : Method := { name := "arraycopy", desc := "(Ljava/lang/Object;ILjava/lang/Object;II)V", sig := { parameters := [(.object "java/lang/Object"), .int, (.object "java/lang/Object"), .int, .int], returnType := none }, accessFlags := 265, code := none }
/-- java/lang/System -/
def k22 : Class := { plain "java/lang/System" (some 0) with
  accessFlags := 49
  interfaces := #[]
  cf := some (fileOf pool22 8 #[.nestMembers #[319, 327, 801, 108, 663, 208]] #[{ accessFlags := 2, nameIndex := 5, descriptorIndex := 6, attributes := #[] }, { accessFlags := 265, nameIndex := 727, descriptorIndex := 728, attributes := #[] }] 49 2 #[] #[{ accessFlags := 25, nameIndex := 507, descriptorIndex := 526, attributes := #[] }, { accessFlags := 25, nameIndex := 399, descriptorIndex := 155, attributes := #[] }, { accessFlags := 25, nameIndex := 396, descriptorIndex := 155, attributes := #[] }, { accessFlags := 10, nameIndex := 525, descriptorIndex := 526, attributes := #[] }, { accessFlags := 26, nameIndex := 674, descriptorIndex := 12, attributes := #[] }, { accessFlags := 26, nameIndex := 677, descriptorIndex := 12, attributes := #[] }, { accessFlags := 10, nameIndex := 11, descriptorIndex := 12, attributes := #[] }, { accessFlags := 74, nameIndex := 175, descriptorIndex := 176, attributes := #[] }, { accessFlags := 10, nameIndex := 491, descriptorIndex := 222, attributes := #[] }, { accessFlags := 74, nameIndex := 29, descriptorIndex := 30, attributes := #[] }, { accessFlags := 74, nameIndex := 154, descriptorIndex := 155, attributes := #[] }, { accessFlags := 10, nameIndex := 217, descriptorIndex := 218, attributes := #[] }, { accessFlags := 10, nameIndex := 221, descriptorIndex := 222, attributes := #[] }, { accessFlags := 8, nameIndex := 562, descriptorIndex := 563, attributes := #[] }])
  fields := #[{ name := "in", type := (.object "java/io/InputStream"), accessFlags := 25, slot := 0, constantValue := 0 }, { name := "out", type := (.object "java/io/PrintStream"), accessFlags := 25, slot := 1, constantValue := 0 }, { name := "err", type := (.object "java/io/PrintStream"), accessFlags := 25, slot := 2, constantValue := 0 }, { name := "initialIn", type := (.object "java/io/InputStream"), accessFlags := 10, slot := 3, constantValue := 0 }, { name := "NEVER", type := .int, accessFlags := 26, slot := 4, constantValue := 0 }, { name := "MAYBE", type := .int, accessFlags := 26, slot := 5, constantValue := 0 }, { name := "allowSecurityManager", type := .int, accessFlags := 10, slot := 6, constantValue := 0 }, { name := "security", type := (.object "java/lang/SecurityManager"), accessFlags := 74, slot := 7, constantValue := 0 }, { name := "notSupportedJnuEncoding", type := (.object "java/lang/String"), accessFlags := 10, slot := 8, constantValue := 0 }, { name := "cons", type := (.object "java/io/Console"), accessFlags := 74, slot := 9, constantValue := 0 }, { name := "initialErrStream", type := (.object "java/io/PrintStream"), accessFlags := 74, slot := 10, constantValue := 0 }, { name := "props", type := (.object "java/util/Properties"), accessFlags := 10, slot := 11, constantValue := 0 }, { name := "lineSeparator", type := (.object "java/lang/String"), accessFlags := 10, slot := 12, constantValue := 0 }, { name := "bootLayer", type := (.object "java/lang/ModuleLayer"), accessFlags := 8, slot := 13, constantValue := 0 }]
  methods := #[k22m0, k22m1]
  instanceTypes := #[]
  staticTypes := #[(.object "java/io/InputStream"), (.object "java/io/PrintStream"), (.object "java/io/PrintStream"), (.object "java/io/InputStream"), .int, .int, .int, (.object "java/lang/SecurityManager"), (.object "java/lang/String"), (.object "java/io/Console"), (.object "java/io/PrintStream"), (.object "java/util/Properties"), (.object "java/lang/String"), (.object "java/lang/ModuleLayer")]
  resolved := Array.replicate 834 none
  statics := none }

def pool23 : Array CpInfo := pool [(4, .class_ 6), (1, u "java/lang/Object"), (0, u "<init>"), (0, u "()V"), (5, .class_ 16), (1, u "java/lang/StringLatin1"), (104, u "$assertionsDisabled"), (0, u "Z"), (98, .class_ 223), (1, u "java/lang/StringLatin1$LinesSpliterator"), (166, .class_ 391), (0, u "java/lang/StringLatin1$CharsSpliterator")] 3

def k23m0 : Method := { name := "<init>", desc := "()V", sig := { parameters := [], returnType := none }, accessFlags := 0, code := none }
/-- java/lang/StringLatin1 -/
def k23 : Class := { plain "java/lang/StringLatin1" (some 0) with
  accessFlags := 48
  interfaces := #[]
  cf := some (fileOf pool23 14 #[.nestMembers #[390, 221]] #[{ accessFlags := 0, nameIndex := 7, descriptorIndex := 8, attributes := #[] }] 48 4 #[] #[{ accessFlags := 4120, nameIndex := 121, descriptorIndex := 122, attributes := #[] }])
  fields := #[{ name := "$assertionsDisabled", type := .boolean, accessFlags := 4120, slot := 0, constantValue := 0 }]
  methods := #[k23m0]
  instanceTypes := #[]
  staticTypes := #[.boolean]
  resolved := Array.replicate 395 none
  statics := none }

def pool24 : Array CpInfo := pool [(2, .class_ 4), (1, u "java/lang/Object"), (0, u "<init>"), (0, u "()V"), (17, .class_ 26), (1, u "jdk/internal/util/Preconditions"), (28, .class_ 56), (0, u "jdk/internal/util/Preconditions$4"), (57, .class_ 115), (0, u "jdk/internal/util/Preconditions$1"), (7, u "SIOOBE_FORMATTER"), (0, u "Ljava/util/function/BiFunction;"), (0, .class_ 126), (0, u "jdk/internal/util/Preconditions$2"), (3, u "AIOOBE_FORMATTER"), (0, .class_ 132), (0, u "jdk/internal/util/Preconditions$3"), (3, u "IOOBE_FORMATTER")] 57

def k24m0 : Method := { name := "<init>", desc := "()V", sig := { parameters := [], returnType := none }, accessFlags := 1, code := none }
/-- jdk/internal/util/Preconditions -/
def k24 : Class := { plain "jdk/internal/util/Preconditions" (some 0) with
  accessFlags := 33
  interfaces := #[]
  cf := some (fileOf pool24 24 #[.nestMembers #[55, 131, 125, 114]] #[{ accessFlags := 1, nameIndex := 5, descriptorIndex := 6, attributes := #[] }] 33 2 #[] #[{ accessFlags := 25, nameIndex := 123, descriptorIndex := 124, attributes := #[] }, { accessFlags := 25, nameIndex := 130, descriptorIndex := 124, attributes := #[] }, { accessFlags := 25, nameIndex := 136, descriptorIndex := 124, attributes := #[] }])
  fields := #[{ name := "SIOOBE_FORMATTER", type := (.object "java/util/function/BiFunction"), accessFlags := 25, slot := 0, constantValue := 0 }, { name := "AIOOBE_FORMATTER", type := (.object "java/util/function/BiFunction"), accessFlags := 25, slot := 1, constantValue := 0 }, { name := "IOOBE_FORMATTER", type := (.object "java/util/function/BiFunction"), accessFlags := 25, slot := 2, constantValue := 0 }]
  methods := #[k24m0]
  instanceTypes := #[]
  staticTypes := #[(.object "java/util/function/BiFunction"), (.object "java/util/function/BiFunction"), (.object "java/util/function/BiFunction")]
  resolved := Array.replicate 194 none
  statics := some 5 }

def pool25 : Array CpInfo := pool [(9, u "<init>"), (6, .class_ 18), (1, u "java/lang/Object"), (0, u "()V"), (1, .class_ 23), (1, u "jdk/internal/util/ArraysSupport"), (0, u "LOG2_ARRAY_LONG_INDEX_SCALE"), (0, u "I"), (2, u "U"), (0, u "Ljdk/internal/misc/Unsafe;"), (8, u "BIG_ENDIAN"), (0, u "Z"), (8, u "LOG2_BYTE_BIT_SIZE"), (4, u "LOG2_ARRAY_INT_INDEX_SCALE"), (54, u "JLA"), (0, u "Ljdk/internal/access/JavaLangAccess;"), (11, u "LOG2_ARRAY_BOOLEAN_INDEX_SCALE"), (9, u "LOG2_ARRAY_BYTE_INDEX_SCALE"), (5, u "LOG2_ARRAY_CHAR_INDEX_SCALE"), (5, u "LOG2_ARRAY_SHORT_INDEX_SCALE"), (18, u "LOG2_ARRAY_FLOAT_INDEX_SCALE"), (24, u "LOG2_ARRAY_DOUBLE_INDEX_SCALE"), (89, u "T_BOOLEAN"), (2, u "T_CHAR"), (1, u "T_FLOAT"), (1, u "T_DOUBLE"), (1, u "T_BYTE"), (1, u "T_SHORT"), (1, u "T_INT"), (1, u "T_LONG"), (1, u "SOFT_MAX_ARRAY_LENGTH")] 83

def k25m0 : Method := { name := "<init>", desc := "()V", sig := { parameters := [], returnType := none }, accessFlags := 2, code := none }
/-- jdk/internal/util/ArraysSupport -/
def k25 : Class := { plain "jdk/internal/util/ArraysSupport" (some 0) with
  accessFlags := 33
  interfaces := #[]
  cf := some (fileOf pool25 21 #[] #[{ accessFlags := 2, nameIndex := 9, descriptorIndex := 19, attributes := #[] }] 33 16 #[] #[{ accessFlags := 24, nameIndex := 28, descriptorIndex := 29, attributes := #[] }, { accessFlags := 26, nameIndex := 38, descriptorIndex := 39, attributes := #[] }, { accessFlags := 25, nameIndex := 121, descriptorIndex := 25, attributes := #[] }, { accessFlags := 25, nameIndex := 131, descriptorIndex := 25, attributes := #[] }, { accessFlags := 25, nameIndex := 137, descriptorIndex := 25, attributes := #[] }, { accessFlags := 25, nameIndex := 143, descriptorIndex := 25, attributes := #[] }, { accessFlags := 25, nameIndex := 53, descriptorIndex := 25, attributes := #[] }, { accessFlags := 25, nameIndex := 24, descriptorIndex := 25, attributes := #[] }, { accessFlags := 25, nameIndex := 162, descriptorIndex := 25, attributes := #[] }, { accessFlags := 25, nameIndex := 187, descriptorIndex := 25, attributes := #[] }, { accessFlags := 26, nameIndex := 48, descriptorIndex := 25, attributes := #[] }, { accessFlags := 25, nameIndex := 277, descriptorIndex := 25, attributes := #[] }, { accessFlags := 25, nameIndex := 280, descriptorIndex := 25, attributes := #[] }, { accessFlags := 25, nameIndex := 282, descriptorIndex := 25, attributes := #[] }, { accessFlags := 25, nameIndex := 284, descriptorIndex := 25, attributes := #[] }, { accessFlags := 25, nameIndex := 286, descriptorIndex := 25, attributes := #[] }, { accessFlags := 25, nameIndex := 288, descriptorIndex := 25, attributes := #[] }, { accessFlags := 25, nameIndex := 290, descriptorIndex := 25, attributes := #[] }, { accessFlags := 25, nameIndex := 292, descriptorIndex := 25, attributes := #[] }, { accessFlags := 26, nameIndex := 108, descriptorIndex := 109, attributes := #[] }, { accessFlags := 25, nameIndex := 294, descriptorIndex := 25, attributes := #[] }])
  fields := #[{ name := "U", type := (.object "jdk/internal/misc/Unsafe"), accessFlags := 24, slot := 0, constantValue := 0 }, { name := "BIG_ENDIAN", type := .boolean, accessFlags := 26, slot := 1, constantValue := 0 }, { name := "LOG2_ARRAY_BOOLEAN_INDEX_SCALE", type := .int, accessFlags := 25, slot := 2, constantValue := 0 }, { name := "LOG2_ARRAY_BYTE_INDEX_SCALE", type := .int, accessFlags := 25, slot := 3, constantValue := 0 }, { name := "LOG2_ARRAY_CHAR_INDEX_SCALE", type := .int, accessFlags := 25, slot := 4, constantValue := 0 }, { name := "LOG2_ARRAY_SHORT_INDEX_SCALE", type := .int, accessFlags := 25, slot := 5, constantValue := 0 }, { name := "LOG2_ARRAY_INT_INDEX_SCALE", type := .int, accessFlags := 25, slot := 6, constantValue := 0 }, { name := "LOG2_ARRAY_LONG_INDEX_SCALE", type := .int, accessFlags := 25, slot := 7, constantValue := 0 }, { name := "LOG2_ARRAY_FLOAT_INDEX_SCALE", type := .int, accessFlags := 25, slot := 8, constantValue := 0 }, { name := "LOG2_ARRAY_DOUBLE_INDEX_SCALE", type := .int, accessFlags := 25, slot := 9, constantValue := 0 }, { name := "LOG2_BYTE_BIT_SIZE", type := .int, accessFlags := 26, slot := 10, constantValue := 0 }, { name := "T_BOOLEAN", type := .int, accessFlags := 25, slot := 11, constantValue := 0 }, { name := "T_CHAR", type := .int, accessFlags := 25, slot := 12, constantValue := 0 }, { name := "T_FLOAT", type := .int, accessFlags := 25, slot := 13, constantValue := 0 }, { name := "T_DOUBLE", type := .int, accessFlags := 25, slot := 14, constantValue := 0 }, { name := "T_BYTE", type := .int, accessFlags := 25, slot := 15, constantValue := 0 }, { name := "T_SHORT", type := .int, accessFlags := 25, slot := 16, constantValue := 0 }, { name := "T_INT", type := .int, accessFlags := 25, slot := 17, constantValue := 0 }, { name := "T_LONG", type := .int, accessFlags := 25, slot := 18, constantValue := 0 }, { name := "JLA", type := (.object "jdk/internal/access/JavaLangAccess"), accessFlags := 26, slot := 19, constantValue := 0 }, { name := "SOFT_MAX_ARRAY_LENGTH", type := .int, accessFlags := 25, slot := 20, constantValue := 0 }]
  methods := #[k25m0]
  instanceTypes := #[]
  staticTypes := #[(.object "jdk/internal/misc/Unsafe"), .boolean, .int, .int, .int, .int, .int, .int, .int, .int, .int, .int, .int, .int, .int, .int, .int, .int, .int, (.object "jdk/internal/access/JavaLangAccess"), .int]
  resolved := Array.replicate 378 none
  statics := none }

/-- the primitive byte -/
def k26 : Class := { plain "byte" none with kind := .primitive 'B', accessFlags := 0x411 }
/-- [B -/
def k27 : Class := { plain "[B" (some 0) with kind := .array 26 .byte, interfaces := #[18, 4], accessFlags := 1041 }

/-- the primitive char -/
def k28 : Class := { plain "char" none with kind := .primitive 'C', accessFlags := 0x411 }
/-- [C -/
def k29 : Class := { plain "[C" (some 0) with kind := .array 28 .char, interfaces := #[18, 4], accessFlags := 1041 }

/-- the primitive int -/
def k30 : Class := { plain "int" none with kind := .primitive 'I', accessFlags := 0x411 }
/-- [I -/
def k31 : Class := { plain "[I" (some 0) with kind := .array 30 .int, interfaces := #[18, 4], accessFlags := 1041 }

def heap : Heap := #[{ cls := 6, slots := #[.ref 6, .ref 6, .ref 6, .ref 6, .ref 6, .ref 6, .ref 6, .ref 6, .ref 6, .ref 6, .ref 6, .ref 6, .null, .null], vm := .statics 6 },
  { cls := 9, slots := #[.long 0, .int 1, .null, .int 0, .null, .int 0, .int 0], vm := .statics 9 },
  { cls := 10, slots := #[.int 0, .int 8, .int 0, .int 1], vm := .statics 10 },
  { cls := 12, slots := #[.null, .null, .ref 7, .null, .null, .null], vm := .statics 12 },
  { cls := 16, slots := #[.ref 7, .null], vm := .statics 16 },
  { cls := 24, slots := #[.null, .null, .null], vm := .statics 24 },
  { cls := 6, slots := #[.null, .int 0, .int 0, .int 0], vm := .none },
  { cls := 16, slots := #[.null, .null, .null], vm := .none }]
def classes : Array Class := #[k0, k1, k2, k3, k4, k5, k6, k7, k8, k9, k10, k11, k12, k13, k14, k15, k16, k17, k18, k19, k20, k21, k22, k23, k24, k25, k26, k27, k28, k29, k30, k31]
def interned : List (Array UInt16 × Addr) := []
def slotsUsed : Nat := 43
def theMethod : MethodId := ⟨1, 5⟩
def args0 : Array Value := #[.int 5, .int 5, .long 5, .long 5, .int 5, .int 5]
def aboutOver (below : List Frame) : State where
  vm := { classes := classes, interned := interned.toArray }
  heap := heap
  slotsUsed := slotsUsed
  threads := #[{ frames := .invoking theMethod args0 :: below }]
def below0 : List Frame := [.native { method := ⟨0, 0⟩, args := #[] }]
def about1 : State := aboutOver below0
def p0 : Program := .bare "" "" ""
def e0 : Env := launch0.env 0 0 0
theorem w_frames : about1.frames = Frame.invoking theMethod args0 :: below0 := rfl
set_option maxRecDepth 65536 in
theorem w_args : argsFit about1.vm theMethod args0 = true := by decide +kernel
set_option maxRecDepth 65536 in
theorem w_heap : heapFits about1 = true := by decide +kernel
set_option maxRecDepth 65536 in
theorem w_runnable : about1.curStatus? = some .runnable := by decide +kernel
set_option maxRecDepth 65536 in
theorem w_alone : about1.alone = true := by decide +kernel
set_option maxRecDepth 65536 in
theorem w_named : about1.methodNamed? x = some theMethod := by decide +kernel
set_option maxRecDepth 65536 in
theorem w_hears : about1.hears theMethod below0 = true := by decide +kernel
set_option maxRecDepth 65536 in
theorem w_ripe : about1.ripe theMethod args0 below0 = true := by decide +kernel
theorem w_running : about1.status = .running := rfl
set_option maxRecDepth 65536 in
theorem w_room : about1.hasRoom e0.platform room_1 = true :=
  launch0.hasRoom_least _ room_1 (by decide +kernel) (by decide +kernel) (by decide +kernel) (by decide +kernel) (by decide +kernel) (by decide +kernel)
theorem allAtoms_all (ts : List Jvm.Cond) (a : Array Jvm.Value) (st : Jvm.State) : (allAtoms ts).before a st = ts.all (fun c => c.before a st) := by
  induction ts with
  | nil => rfl
  | cons c t ih =>
    show (Jvm.Cond.and c (allAtoms t)).before a st = _
    rw [Jvm.Cond.before_and, ih, List.all_cons]
def words1 : List Jvm.Cond := Jvm.Cond.code x code maxLocals ret :: tables_1
/-- a 'code' word, met by the world's own term for the bytes: nothing is compared byte by byte -/
theorem code_word {y : MethodName} {bytes : ByteArray} {mx : Nat} {rt : Option FieldType} {a : Array Value} {s : State} {m : MethodId} {meth : Method} {c : Code} (h1 : s.methodNamed? y = some m) (h2 : s.vm.method? m = some meth) (h3 : meth.code = some c) (h4 : c.code = bytes)
    (h5 : (c.maxLocals == mx && c.exceptionTable.isEmpty && decide (c.maxStack ≤ mostOperands) && decide (meth.sig.returnType = rt) && !meth.locks && decide (parseMethodDescriptor y.desc = some meth.sig)) = true) : (Jvm.Cond.code y bytes mx rt).before a s = true := by
  simp only [Bool.and_eq_true, beq_iff_eq, Bool.not_eq_true', decide_eq_true_eq] at h5
  obtain ⟨⟨⟨⟨⟨g1, g2⟩, g3⟩, g4⟩, g5⟩, g6⟩ := h5
  simp [Cond.before, Cond.holds, Cond.value, h1, h2, h3, h4, g1, g2, g3, g4, g5, g6]
def isCode : Jvm.Cond → Bool
  | .code _ _ _ _ => true
  | _ => false
theorem all_split {L : List Jvm.Cond} {P : Jvm.Cond → Bool} (h1 : L.all (fun c => isCode c || P c) = true) (h2 : ∀ c ∈ L.filter isCode, P c = true) : L.all P = true := by
  refine List.all_eq_true.mpr fun c hc => ?_
  have h := List.all_eq_true.mp h1 c hc
  rcases Bool.eq_false_or_eq_true (isCode c) with hi | hi
  · exact h2 c (List.mem_filter.mpr ⟨hc, hi⟩)
  · simpa [hi] using h
set_option maxRecDepth 65536 in
theorem w_c0 : (Jvm.Cond.code x code maxLocals ret).before args0 about1 = true := code_word (m := ⟨1, 5⟩) (meth := k1m5) (c := k1c5) (by decide +kernel) rfl rfl rfl (by decide +kernel)
set_option maxRecDepth 65536 in
theorem w_c1 : (Jvm.Cond.code ({ cls := "com/example/wirecall/wirecall/FrameWireBytesPinLaw", name := "type", desc := "(I)Lcom/example/wirecall/wirecall/FrameType;" } : Jvm.MethodName) method_5_code (1 : Nat) (Option.some (Jvm.ClassFile.FieldType.object "com/example/wirecall/wirecall/FrameType"))).before args0 about1 = true := code_word (m := ⟨1, 4⟩) (meth := k1m4) (c := k1c4) (by decide +kernel) rfl rfl rfl (by decide +kernel)
set_option maxRecDepth 65536 in
theorem w_c2 : (Jvm.Cond.code ({ cls := "com/example/wirecall/wirecall/FrameWireBytesPinLaw", name := "str", desc := "(ICCC)Ljava/lang/String;" } : Jvm.MethodName) method_3_code (5 : Nat) (Option.some (Jvm.ClassFile.FieldType.object "java/lang/String"))).before args0 about1 = true := code_word (m := ⟨1, 2⟩) (meth := k1m2) (c := k1c2) (by decide +kernel) rfl rfl rfl (by decide +kernel)
set_option maxRecDepth 65536 in
theorem w_c3 : (Jvm.Cond.code ({ cls := "java/lang/String", name := "<init>", desc := "([C)V" } : Jvm.MethodName) jdk_42_method_3_code (2 : Nat) (Option.none : Option Jvm.ClassFile.FieldType)).before args0 about1 = true := code_word (m := ⟨9, 1⟩) (meth := k9m1) (c := k9c1) (by decide +kernel) rfl rfl rfl (by decide +kernel)
set_option maxRecDepth 65536 in
theorem w_c4 : (Jvm.Cond.code ({ cls := "java/lang/String", name := "<init>", desc := "([CIILjava/lang/Void;)V" } : Jvm.MethodName) jdk_42_method_149_code (6 : Nat) (Option.none : Option Jvm.ClassFile.FieldType)).before args0 about1 = true := code_word (m := ⟨9, 6⟩) (meth := k9m6) (c := k9c6) (by decide +kernel) rfl rfl rfl (by decide +kernel)
set_option maxRecDepth 65536 in
theorem w_c5 : (Jvm.Cond.code ({ cls := "java/lang/Object", name := "<init>", desc := "()V" } : Jvm.MethodName) object_method_1_code (1 : Nat) (Option.none : Option Jvm.ClassFile.FieldType)).before args0 about1 = true := code_word (m := ⟨0, 0⟩) (meth := k0m0) (c := k0c0) (by decide +kernel) rfl rfl rfl (by decide +kernel)
set_option maxRecDepth 65536 in
theorem w_c6 : (Jvm.Cond.code ({ cls := "java/lang/StringUTF16", name := "compress", desc := "([CII)[B" } : Jvm.MethodName) jdk_52_method_16_code (6 : Nat) (Option.some (Jvm.ClassFile.FieldType.array Jvm.ClassFile.FieldType.byte))).before args0 about1 = true := code_word (m := ⟨10, 7⟩) (meth := k10m7) (c := k10c7) (by decide +kernel) rfl rfl rfl (by decide +kernel)
set_option maxRecDepth 65536 in
theorem w_c7 : (Jvm.Cond.code ({ cls := "java/lang/StringUTF16", name := "compress", desc := "([CI[BII)I" } : Jvm.MethodName) jdk_52_method_21_code (7 : Nat) (Option.some Jvm.ClassFile.FieldType.int)).before args0 about1 = true := code_word (m := ⟨10, 8⟩) (meth := k10m8) (c := k10c8) (by decide +kernel) rfl rfl rfl (by decide +kernel)
set_option maxRecDepth 65536 in
theorem w_c8 : (Jvm.Cond.code ({ cls := "java/lang/StringUTF16", name := "coderFromArrayLen", desc := "([BI)B" } : Jvm.MethodName) jdk_52_method_15_code (2 : Nat) (Option.some Jvm.ClassFile.FieldType.byte)).before args0 about1 = true := code_word (m := ⟨10, 6⟩) (meth := k10m6) (c := k10c6) (by decide +kernel) rfl rfl rfl (by decide +kernel)
set_option maxRecDepth 65536 in
theorem w_c9 : (Jvm.Cond.code ({ cls := "com/example/wirecall/wirecall/Frame", name := "<init>", desc := "(Lcom/example/wirecall/wirecall/FrameType;ILjava/lang/String;Ljava/lang/String;[B)V" } : Jvm.MethodName) prog_4_method_1_code (6 : Nat) (Option.none : Option Jvm.ClassFile.FieldType)).before args0 about1 = true := code_word (m := ⟨11, 0⟩) (meth := k11m0) (c := k11c0) (by decide +kernel) rfl rfl rfl (by decide +kernel)
set_option maxRecDepth 65536 in
theorem w_c10 : (Jvm.Cond.code ({ cls := "java/lang/String", name := "getBytes", desc := "(Ljava/nio/charset/Charset;)[B" } : Jvm.MethodName) jdk_42_method_64_code (2 : Nat) (Option.some (Jvm.ClassFile.FieldType.array Jvm.ClassFile.FieldType.byte))).before args0 about1 = true := code_word (m := ⟨9, 5⟩) (meth := k9m5) (c := k9c5) (by decide +kernel) rfl rfl rfl (by decide +kernel)
set_option maxRecDepth 65536 in
theorem w_c11 : (Jvm.Cond.code ({ cls := "java/lang/String", name := "coder", desc := "()B" } : Jvm.MethodName) jdk_42_method_152_code (1 : Nat) (Option.some Jvm.ClassFile.FieldType.byte)).before args0 about1 = true := code_word (m := ⟨9, 7⟩) (meth := k9m7) (c := k9c7) (by decide +kernel) rfl rfl rfl (by decide +kernel)
set_option maxRecDepth 65536 in
theorem w_c12 : (Jvm.Cond.code ({ cls := "java/lang/String", name := "encode", desc := "(Ljava/nio/charset/Charset;B[B)[B" } : Jvm.MethodName) jdk_42_method_18_code (3 : Nat) (Option.some (Jvm.ClassFile.FieldType.array Jvm.ClassFile.FieldType.byte))).before args0 about1 = true := code_word (m := ⟨9, 2⟩) (meth := k9m2) (c := k9c2) (by decide +kernel) rfl rfl rfl (by decide +kernel)
set_option maxRecDepth 65536 in
theorem w_c13 : (Jvm.Cond.code ({ cls := "java/lang/String", name := "encodeUTF8", desc := "(B[BZ)[B" } : Jvm.MethodName) jdk_42_method_46_code (9 : Nat) (Option.some (Jvm.ClassFile.FieldType.array Jvm.ClassFile.FieldType.byte))).before args0 about1 = true := code_word (m := ⟨9, 3⟩) (meth := k9m3) (c := k9c3) (by decide +kernel) rfl rfl rfl (by decide +kernel)
set_option maxRecDepth 65536 in
theorem w_c14 : (Jvm.Cond.code ({ cls := "java/lang/StringCoding", name := "hasNegatives", desc := "([BII)Z" } : Jvm.MethodName) jdk_123_method_2_code (3 : Nat) (Option.some Jvm.ClassFile.FieldType.boolean)).before args0 about1 = true := code_word (m := ⟨17, 1⟩) (meth := k17m1) (c := k17c1) (by decide +kernel) rfl rfl rfl (by decide +kernel)
set_option maxRecDepth 65536 in
theorem w_c15 : (Jvm.Cond.code ({ cls := "java/lang/StringCoding", name := "countPositives", desc := "([BII)I" } : Jvm.MethodName) jdk_123_method_3_code (5 : Nat) (Option.some Jvm.ClassFile.FieldType.int)).before args0 about1 = true := code_word (m := ⟨17, 2⟩) (meth := k17m2) (c := k17c2) (by decide +kernel) rfl rfl rfl (by decide +kernel)
set_option maxRecDepth 65536 in
theorem w_c16 : (Jvm.Cond.code ({ cls := "com/example/wirecall/wirecall/Frame", name := "checkLength", desc := "(Ljava/lang/String;[BI)[B" } : Jvm.MethodName) prog_4_method_2_code (3 : Nat) (Option.some (Jvm.ClassFile.FieldType.array Jvm.ClassFile.FieldType.byte))).before args0 about1 = true := code_word (m := ⟨11, 1⟩) (meth := k11m1) (c := k11c1) (by decide +kernel) rfl rfl rfl (by decide +kernel)
set_option maxRecDepth 65536 in
theorem w_c17 : (Jvm.Cond.code ({ cls := "com/example/wirecall/wirecall/FrameWireBytesPinLaw", name := "strBytes", desc := "(ICCC)I" } : Jvm.MethodName) method_4_code (5 : Nat) (Option.some Jvm.ClassFile.FieldType.int)).before args0 about1 = true := code_word (m := ⟨1, 3⟩) (meth := k1m3) (c := k1c3) (by decide +kernel) rfl rfl rfl (by decide +kernel)
set_option maxRecDepth 65536 in
theorem w_c18 : (Jvm.Cond.code ({ cls := "com/example/wirecall/wirecall/FrameWireBytesPinLaw", name := "utf8Len", desc := "(C)I" } : Jvm.MethodName) method_2_code (1 : Nat) (Option.some Jvm.ClassFile.FieldType.int)).before args0 about1 = true := code_word (m := ⟨1, 1⟩) (meth := k1m1) (c := k1c1) (by decide +kernel) rfl rfl rfl (by decide +kernel)
set_option maxRecDepth 65536 in
theorem w_c19 : (Jvm.Cond.code ({ cls := "com/example/wirecall/wirecall/Frame", name := "wireBytes", desc := "()I" } : Jvm.MethodName) prog_4_method_11_code (1 : Nat) (Option.some Jvm.ClassFile.FieldType.int)).before args0 about1 = true := code_word (m := ⟨11, 2⟩) (meth := k11m2) (c := k11c2) (by decide +kernel) rfl rfl rfl (by decide +kernel)
set_option maxRecDepth 65536 in
theorem w_c20 : (Jvm.Cond.code ({ cls := "java/lang/StringUTF16", name := "toBytes", desc := "([CII)[B" } : Jvm.MethodName) jdk_52_method_14_code (5 : Nat) (Option.some (Jvm.ClassFile.FieldType.array Jvm.ClassFile.FieldType.byte))).before args0 about1 = true := code_word (m := ⟨10, 5⟩) (meth := k10m5) (c := k10c5) (by decide +kernel) rfl rfl rfl (by decide +kernel)
set_option maxRecDepth 65536 in
theorem w_c21 : (Jvm.Cond.code ({ cls := "java/lang/StringUTF16", name := "newBytesFor", desc := "(I)[B" } : Jvm.MethodName) jdk_52_method_2_code (1 : Nat) (Option.some (Jvm.ClassFile.FieldType.array Jvm.ClassFile.FieldType.byte))).before args0 about1 = true := code_word (m := ⟨10, 1⟩) (meth := k10m1) (c := k10c1) (by decide +kernel) rfl rfl rfl (by decide +kernel)
set_option maxRecDepth 65536 in
theorem w_c22 : (Jvm.Cond.code ({ cls := "java/lang/StringUTF16", name := "newBytesLength", desc := "(I)I" } : Jvm.MethodName) jdk_52_method_3_code (1 : Nat) (Option.some Jvm.ClassFile.FieldType.int)).before args0 about1 = true := code_word (m := ⟨10, 2⟩) (meth := k10m2) (c := k10c2) (by decide +kernel) rfl rfl rfl (by decide +kernel)
set_option maxRecDepth 65536 in
theorem w_c23 : (Jvm.Cond.code ({ cls := "java/lang/StringUTF16", name := "putChar", desc := "([BII)V" } : Jvm.MethodName) jdk_52_method_4_code (3 : Nat) (Option.none : Option Jvm.ClassFile.FieldType)).before args0 about1 = true := code_word (m := ⟨10, 3⟩) (meth := k10m3) (c := k10c3) (by decide +kernel) rfl rfl rfl (by decide +kernel)
set_option maxRecDepth 65536 in
theorem w_c24 : (Jvm.Cond.code ({ cls := "java/lang/StringUTF16", name := "getChar", desc := "([BI)C" } : Jvm.MethodName) jdk_52_method_5_code (2 : Nat) (Option.some Jvm.ClassFile.FieldType.char)).before args0 about1 = true := code_word (m := ⟨10, 4⟩) (meth := k10m4) (c := k10c4) (by decide +kernel) rfl rfl rfl (by decide +kernel)
set_option maxRecDepth 65536 in
theorem w_c25 : (Jvm.Cond.code ({ cls := "java/lang/String", name := "encodeUTF8_UTF16", desc := "([BZ)[B" } : Jvm.MethodName) jdk_42_method_47_code (9 : Nat) (Option.some (Jvm.ClassFile.FieldType.array Jvm.ClassFile.FieldType.byte))).before args0 about1 = true := code_word (m := ⟨9, 4⟩) (meth := k9m4) (c := k9c4) (by decide +kernel) rfl rfl rfl (by decide +kernel)
set_option maxRecDepth 65536 in
theorem w_c26 : (Jvm.Cond.code ({ cls := "java/lang/Character", name := "isSurrogate", desc := "(C)Z" } : Jvm.MethodName) jdk_89_method_16_code (1 : Nat) (Option.some Jvm.ClassFile.FieldType.boolean)).before args0 about1 = true := code_word (m := ⟨19, 0⟩) (meth := k19m0) (c := k19c0) (by decide +kernel) rfl rfl rfl (by decide +kernel)
set_option maxRecDepth 65536 in
theorem w_c27 : (Jvm.Cond.code ({ cls := "java/util/Arrays", name := "copyOf", desc := "([BI)[B" } : Jvm.MethodName) jdk_65_method_121_code (3 : Nat) (Option.some (Jvm.ClassFile.FieldType.array Jvm.ClassFile.FieldType.byte))).before args0 about1 = true := code_word (m := ⟨20, 1⟩) (meth := k20m1) (c := k20c1) (by decide +kernel) rfl rfl rfl (by decide +kernel)
set_option maxRecDepth 65536 in
theorem w_c28 : (Jvm.Cond.code ({ cls := "java/lang/Math", name := "min", desc := "(II)I" } : Jvm.MethodName) jdk_29_method_69_code (2 : Nat) (Option.some Jvm.ClassFile.FieldType.int)).before args0 about1 = true := code_word (m := ⟨21, 1⟩) (meth := k21m1) (c := k21c1) (by decide +kernel) rfl rfl rfl (by decide +kernel)
def codes1 : List Jvm.Cond := [Jvm.Cond.code x code maxLocals ret, Jvm.Cond.code ({ cls := "com/example/wirecall/wirecall/FrameWireBytesPinLaw", name := "type", desc := "(I)Lcom/example/wirecall/wirecall/FrameType;" } : Jvm.MethodName) method_5_code (1 : Nat) (Option.some (Jvm.ClassFile.FieldType.object "com/example/wirecall/wirecall/FrameType")), Jvm.Cond.code ({ cls := "com/example/wirecall/wirecall/FrameWireBytesPinLaw", name := "str", desc := "(ICCC)Ljava/lang/String;" } : Jvm.MethodName) method_3_code (5 : Nat) (Option.some (Jvm.ClassFile.FieldType.object "java/lang/String")), Jvm.Cond.code ({ cls := "java/lang/String", name := "<init>", desc := "([C)V" } : Jvm.MethodName) jdk_42_method_3_code (2 : Nat) (Option.none : Option Jvm.ClassFile.FieldType), Jvm.Cond.code ({ cls := "java/lang/String", name := "<init>", desc := "([CIILjava/lang/Void;)V" } : Jvm.MethodName) jdk_42_method_149_code (6 : Nat) (Option.none : Option Jvm.ClassFile.FieldType), Jvm.Cond.code ({ cls := "java/lang/Object", name := "<init>", desc := "()V" } : Jvm.MethodName) object_method_1_code (1 : Nat) (Option.none : Option Jvm.ClassFile.FieldType), Jvm.Cond.code ({ cls := "java/lang/StringUTF16", name := "compress", desc := "([CII)[B" } : Jvm.MethodName) jdk_52_method_16_code (6 : Nat) (Option.some (Jvm.ClassFile.FieldType.array Jvm.ClassFile.FieldType.byte)), Jvm.Cond.code ({ cls := "java/lang/StringUTF16", name := "compress", desc := "([CI[BII)I" } : Jvm.MethodName) jdk_52_method_21_code (7 : Nat) (Option.some Jvm.ClassFile.FieldType.int), Jvm.Cond.code ({ cls := "java/lang/StringUTF16", name := "coderFromArrayLen", desc := "([BI)B" } : Jvm.MethodName) jdk_52_method_15_code (2 : Nat) (Option.some Jvm.ClassFile.FieldType.byte), Jvm.Cond.code ({ cls := "com/example/wirecall/wirecall/Frame", name := "<init>", desc := "(Lcom/example/wirecall/wirecall/FrameType;ILjava/lang/String;Ljava/lang/String;[B)V" } : Jvm.MethodName) prog_4_method_1_code (6 : Nat) (Option.none : Option Jvm.ClassFile.FieldType), Jvm.Cond.code ({ cls := "java/lang/String", name := "getBytes", desc := "(Ljava/nio/charset/Charset;)[B" } : Jvm.MethodName) jdk_42_method_64_code (2 : Nat) (Option.some (Jvm.ClassFile.FieldType.array Jvm.ClassFile.FieldType.byte)), Jvm.Cond.code ({ cls := "java/lang/String", name := "coder", desc := "()B" } : Jvm.MethodName) jdk_42_method_152_code (1 : Nat) (Option.some Jvm.ClassFile.FieldType.byte), Jvm.Cond.code ({ cls := "java/lang/String", name := "encode", desc := "(Ljava/nio/charset/Charset;B[B)[B" } : Jvm.MethodName) jdk_42_method_18_code (3 : Nat) (Option.some (Jvm.ClassFile.FieldType.array Jvm.ClassFile.FieldType.byte)), Jvm.Cond.code ({ cls := "java/lang/String", name := "encodeUTF8", desc := "(B[BZ)[B" } : Jvm.MethodName) jdk_42_method_46_code (9 : Nat) (Option.some (Jvm.ClassFile.FieldType.array Jvm.ClassFile.FieldType.byte)), Jvm.Cond.code ({ cls := "java/lang/StringCoding", name := "hasNegatives", desc := "([BII)Z" } : Jvm.MethodName) jdk_123_method_2_code (3 : Nat) (Option.some Jvm.ClassFile.FieldType.boolean), Jvm.Cond.code ({ cls := "java/lang/StringCoding", name := "countPositives", desc := "([BII)I" } : Jvm.MethodName) jdk_123_method_3_code (5 : Nat) (Option.some Jvm.ClassFile.FieldType.int), Jvm.Cond.code ({ cls := "com/example/wirecall/wirecall/Frame", name := "checkLength", desc := "(Ljava/lang/String;[BI)[B" } : Jvm.MethodName) prog_4_method_2_code (3 : Nat) (Option.some (Jvm.ClassFile.FieldType.array Jvm.ClassFile.FieldType.byte)), Jvm.Cond.code ({ cls := "com/example/wirecall/wirecall/FrameWireBytesPinLaw", name := "strBytes", desc := "(ICCC)I" } : Jvm.MethodName) method_4_code (5 : Nat) (Option.some Jvm.ClassFile.FieldType.int), Jvm.Cond.code ({ cls := "com/example/wirecall/wirecall/FrameWireBytesPinLaw", name := "utf8Len", desc := "(C)I" } : Jvm.MethodName) method_2_code (1 : Nat) (Option.some Jvm.ClassFile.FieldType.int), Jvm.Cond.code ({ cls := "com/example/wirecall/wirecall/Frame", name := "wireBytes", desc := "()I" } : Jvm.MethodName) prog_4_method_11_code (1 : Nat) (Option.some Jvm.ClassFile.FieldType.int), Jvm.Cond.code ({ cls := "java/lang/StringUTF16", name := "toBytes", desc := "([CII)[B" } : Jvm.MethodName) jdk_52_method_14_code (5 : Nat) (Option.some (Jvm.ClassFile.FieldType.array Jvm.ClassFile.FieldType.byte)), Jvm.Cond.code ({ cls := "java/lang/StringUTF16", name := "newBytesFor", desc := "(I)[B" } : Jvm.MethodName) jdk_52_method_2_code (1 : Nat) (Option.some (Jvm.ClassFile.FieldType.array Jvm.ClassFile.FieldType.byte)), Jvm.Cond.code ({ cls := "java/lang/StringUTF16", name := "newBytesLength", desc := "(I)I" } : Jvm.MethodName) jdk_52_method_3_code (1 : Nat) (Option.some Jvm.ClassFile.FieldType.int), Jvm.Cond.code ({ cls := "java/lang/StringUTF16", name := "putChar", desc := "([BII)V" } : Jvm.MethodName) jdk_52_method_4_code (3 : Nat) (Option.none : Option Jvm.ClassFile.FieldType), Jvm.Cond.code ({ cls := "java/lang/StringUTF16", name := "getChar", desc := "([BI)C" } : Jvm.MethodName) jdk_52_method_5_code (2 : Nat) (Option.some Jvm.ClassFile.FieldType.char), Jvm.Cond.code ({ cls := "java/lang/String", name := "encodeUTF8_UTF16", desc := "([BZ)[B" } : Jvm.MethodName) jdk_42_method_47_code (9 : Nat) (Option.some (Jvm.ClassFile.FieldType.array Jvm.ClassFile.FieldType.byte)), Jvm.Cond.code ({ cls := "java/lang/Character", name := "isSurrogate", desc := "(C)Z" } : Jvm.MethodName) jdk_89_method_16_code (1 : Nat) (Option.some Jvm.ClassFile.FieldType.boolean), Jvm.Cond.code ({ cls := "java/util/Arrays", name := "copyOf", desc := "([BI)[B" } : Jvm.MethodName) jdk_65_method_121_code (3 : Nat) (Option.some (Jvm.ClassFile.FieldType.array Jvm.ClassFile.FieldType.byte)), Jvm.Cond.code ({ cls := "java/lang/Math", name := "min", desc := "(II)I" } : Jvm.MethodName) jdk_29_method_69_code (2 : Nat) (Option.some Jvm.ClassFile.FieldType.int)]
set_option maxRecDepth 65536 in
theorem codes_eq : words1.filter isCode = codes1 := rfl
theorem w_codes : ∀ c ∈ words1.filter isCode, c.before args0 about1 = true := by
  rw [codes_eq]
  intro c hc
  simp only [codes1, List.mem_cons, List.not_mem_nil, or_false] at hc
  rcases hc with rfl | rfl | rfl | rfl | rfl | rfl | rfl | rfl | rfl | rfl | rfl | rfl | rfl | rfl | rfl | rfl | rfl | rfl | rfl | rfl | rfl | rfl | rfl | rfl | rfl | rfl | rfl | rfl | rfl
  · exact w_c0
  · exact w_c1
  · exact w_c2
  · exact w_c3
  · exact w_c4
  · exact w_c5
  · exact w_c6
  · exact w_c7
  · exact w_c8
  · exact w_c9
  · exact w_c10
  · exact w_c11
  · exact w_c12
  · exact w_c13
  · exact w_c14
  · exact w_c15
  · exact w_c16
  · exact w_c17
  · exact w_c18
  · exact w_c19
  · exact w_c20
  · exact w_c21
  · exact w_c22
  · exact w_c23
  · exact w_c24
  · exact w_c25
  · exact w_c26
  · exact w_c27
  · exact w_c28
set_option maxRecDepth 65536 in
theorem w_t1 : (words1.take 24).all (fun c => isCode c || c.before args0 about1) = true := by decide +kernel
set_option maxRecDepth 65536 in
theorem w_t2 : ((words1.drop 24).take 24).all (fun c => isCode c || c.before args0 about1) = true := by decide +kernel
set_option maxRecDepth 65536 in
theorem w_t3 : (((words1.drop 24).drop 24).take 24).all (fun c => isCode c || c.before args0 about1) = true := by decide +kernel
set_option maxRecDepth 65536 in
theorem w_t4 : ((((words1.drop 24).drop 24).drop 24).take 24).all (fun c => isCode c || c.before args0 about1) = true := by decide +kernel
set_option maxRecDepth 65536 in
theorem w_t5 : (((((words1.drop 24).drop 24).drop 24).drop 24).take 24).all (fun c => isCode c || c.before args0 about1) = true := by decide +kernel
set_option maxRecDepth 65536 in
theorem w_t6 : ((((((words1.drop 24).drop 24).drop 24).drop 24).drop 24).take 24).all (fun c => isCode c || c.before args0 about1) = true := by decide +kernel
set_option maxRecDepth 65536 in
theorem w_t7 : (((((((words1.drop 24).drop 24).drop 24).drop 24).drop 24).drop 24).take 24).all (fun c => isCode c || c.before args0 about1) = true := by decide +kernel
set_option maxRecDepth 65536 in
theorem w_t8 : (((((((words1.drop 24).drop 24).drop 24).drop 24).drop 24).drop 24).drop 24).all (fun c => isCode c || c.before args0 about1) = true := by decide +kernel
theorem w_tables : (allAtoms (Jvm.Cond.code x code maxLocals ret :: tables_1)).before args0 about1 = true := by
  rw [allAtoms_all]
  show words1.all (fun c => c.before args0 about1) = true
  refine all_split ?_ w_codes
  rw [← List.take_append_drop 24 words1, List.all_append, w_t1, ← List.take_append_drop 24 (words1.drop 24), List.all_append, w_t2, ← List.take_append_drop 24 ((words1.drop 24).drop 24), List.all_append, w_t3, ← List.take_append_drop 24 (((words1.drop 24).drop 24).drop 24), List.all_append, w_t4, ← List.take_append_drop 24 ((((words1.drop 24).drop 24).drop 24).drop 24), List.all_append, w_t5, ← List.take_append_drop 24 (((((words1.drop 24).drop 24).drop 24).drop 24).drop 24), List.all_append, w_t6, ← List.take_append_drop 24 ((((((words1.drop 24).drop 24).drop 24).drop 24).drop 24).drop 24), List.all_append, w_t7, w_t8]
  rfl
set_option maxRecDepth 65536 in
theorem w_rest : rest_1_c.before args0 about1 = true := by decide +kernel
set_option maxRecDepth 65536 in
theorem w_case : (Jvm.Cond.and given_1 narrow_1).before args0 about1 = true := by decide +kernel
set_option maxRecDepth 65536 in
theorem w_consts : constsHeld consts_1 about1 := Jvm.Lit.constsHeldB_iff.mp (by decide +kernel)
theorem w_applies : (headSpec (Jvm.Cond.code x code maxLocals ret :: tables_1) room_1).applies x e0.platform about1 = true :=
  (Spec.applies_iff w_frames).mpr ⟨w_running, w_runnable, w_alone, w_named, w_hears, w_ripe, w_room, w_tables⟩
theorem atStart : AtStart classFile x code maxLocals ret World_1 tables_1 room_1 Calls_1 rest_1 Pre_1 launch0 p0 e0 about1 theMethod args0 below0 :=
  ⟨lists_1, trivial, launch0.admits_env _ _ _, launch0.least_env, fairChoices_fair.cas, fairChoices_fair.clock, w_frames, w_args, w_heap, w_applies, ⟨w_consts, trivial⟩, w_rest, w_case⟩
end start1
theorem witness_1 : WitnessClaimed_1 := ⟨start1.p0, start1.e0, start1.about1, start1.theMethod, start1.args0, start1.below0, start1.atStart⟩
end Jvm.Pilot.@@N@@
