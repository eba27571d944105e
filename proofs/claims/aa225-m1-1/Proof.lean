import JvmDerived
import JvmDerived.Pilot.@@N@@Statement
import JvmDerived.Pilot.@@N@@Code
set_option linter.unusedVariables false
set_option linter.unusedSimpArgs false

namespace Jvm.Own
open Sem ClassFile Op Lib Jvm.Stand Jvm.Free Jvm.LawKit Jvm.RoadKit
/-- the goal of a walk: from here the invocation ends, and P holds of its end -/
def Goes (tb : Tables) (e : Env) (below : List Frame) (P : Outcome → State → Prop) (T : State) (F : JFrame) : Prop :=
  ∃ t o, Steps tb e below (T.setTop F) t ∧ t.status = .running ∧ Ended t below o ∧ P o t
/-- what a comparison says, of the integers -/
def icR : ClassFile.Cond → Int → Int → Prop
  | .eq, x, y => x = y
  | .ne, x, y => ¬ x = y
  | .lt, x, y => x < y
  | .ge, x, y => y ≤ x
  | .gt, x, y => y < x
  | .le, x, y => x ≤ y
theorem icR_iff (cd : ClassFile.Cond) (x y : Int32) : if_icmp.holds cd x y = true ↔ icR cd x.toInt y.toInt := by
  cases cd <;> simp [if_icmp.holds, icR, Int32.lt_iff_toInt_lt, Int32.le_iff_toInt_le, Int32.toInt_inj]
theorem icR_yes {cd : ClassFile.Cond} {x y : Int32} {X Y : Int} (ex : x.toInt = X) (ey : y.toInt = Y) (h : icR cd X Y) : if_icmp.holds cd x y = true := by
  subst ex ey; exact (icR_iff cd x y).mpr h
theorem icR_no {cd : ClassFile.Cond} {x y : Int32} {X Y : Int} (ex : x.toInt = X) (ey : y.toInt = Y) (h : ¬ icR cd X Y) : if_icmp.holds cd x y = false := by
  subst ex ey; exact Bool.eq_false_iff.mpr fun q => h ((icR_iff cd x y).mp q)
section G
variable {tb : Tables} {e : Env} {below : List Frame} {P : Outcome → State → Prop} {T T' : State} {F F' : JFrame}
theorem Goes.via (k : Goes tb e below P T' F') (st : ∀ target, Steps tb e below (T'.setTop F') target → Steps tb e below (T.setTop F) target) : Goes tb e below P T F := by
  obtain ⟨t, o, h1, h2⟩ := k; exact ⟨t, o, st _ h1, h2⟩
theorem Goes.to (k : Goes tb e below P T' F') (st : Steps tb e below (T.setTop F) (T'.setTop F')) : Goes tb e below P T F := k.via fun _ h => st.trans h
theorem Goes.cast (q : F = F') (k : Goes tb e below P T F') : Goes tb e below P T F := q ▸ k
variable [Ours tb] {m : MethodId} {c : Code} {pc : Nat} {L L' : Array Slot} {S : List Value}
theorem g_aloadN (h : At T m c below) (hx : tb.exec = Jvm.exec) {k : Fin 4} {v : Value} (hd : decode c.code pc = .ok (.aload_n k, 1)) (hl : L[k.val]? = some (.val v)) (hv : v.isRef = true) (p' : Nat) (hp : p' = pc + 1) (q : Goes tb e below P T (mkF m p' L (v :: S))) : Goes tb e below P T (mkF m pc L (S)) := by
  subst hp; exact q.via fun _ k => XS.aloadN h hx rfl hd hl hv k
theorem g_aload (h : At T m c below) (hx : tb.exec = Jvm.exec) {k : Nat} {v : Value} (hd : decode c.code pc = .ok (.aload k, 2)) (hl : L[k]? = some (.val v)) (hv : v.isRef = true) (p' : Nat) (hp : p' = pc + 2) (q : Goes tb e below P T (mkF m p' L (v :: S))) : Goes tb e below P T (mkF m pc L (S)) := by
  subst hp; exact q.via fun _ k => XS.aload h hx rfl hd hl hv k
theorem g_iloadN (h : At T m c below) (hx : tb.exec = Jvm.exec) {k : Fin 4} {v : Int32} (hd : decode c.code pc = .ok (.iload_n k, 1)) (hl : L[k.val]? = some (.val (.int v))) (p' : Nat) (hp : p' = pc + 1) (q : Goes tb e below P T (mkF m p' L (.int v :: S))) : Goes tb e below P T (mkF m pc L (S)) := by
  subst hp; exact q.via fun _ k => XS.iloadN h hx rfl hd hl k
theorem g_iload (h : At T m c below) (hx : tb.exec = Jvm.exec) {k : Nat} {v : Int32} (hd : decode c.code pc = .ok (.iload k, 2)) (hl : L[k]? = some (.val (.int v))) (p' : Nat) (hp : p' = pc + 2) (q : Goes tb e below P T (mkF m p' L (.int v :: S))) : Goes tb e below P T (mkF m pc L (S)) := by
  subst hp; exact q.via fun _ k => XS.iload h hx rfl hd hl k
theorem g_lloadN (h : At T m c below) (hx : tb.exec = Jvm.exec) {k : Fin 4} {v : Int64} (hd : decode c.code pc = .ok (.lload_n k, 1)) (hl : L[k.val]? = some (.val (.long v))) (p' : Nat) (hp : p' = pc + 1) (q : Goes tb e below P T (mkF m p' L (.long v :: S))) : Goes tb e below P T (mkF m pc L (S)) := by
  subst hp; exact q.via fun _ k => XS.lloadN h hx rfl hd hl k
theorem g_lload (h : At T m c below) (hx : tb.exec = Jvm.exec) {k : Nat} {v : Int64} (hd : decode c.code pc = .ok (.lload k, 2)) (hl : L[k]? = some (.val (.long v))) (p' : Nat) (hp : p' = pc + 2) (q : Goes tb e below P T (mkF m p' L (.long v :: S))) : Goes tb e below P T (mkF m pc L (S)) := by
  subst hp; exact q.via fun _ k => XS.lload h hx rfl hd hl k
theorem g_istoreN (h : At T m c below) (hx : tb.exec = Jvm.exec) {k : Fin 4} {x : Int32} (hd : decode c.code pc = .ok (.istore_n k, 1)) (L2 : Array Slot) (hl : storeLocals L k.val (.int x) = some L2) (p' : Nat) (hp : p' = pc + 1) (q : Goes tb e below P T (mkF m p' L2 (S))) : Goes tb e below P T (mkF m pc L (.int x :: S)) := by
  subst hp; exact q.via fun _ k => XS.istoreN h hx rfl hd rfl hl k
theorem g_istore (h : At T m c below) (hx : tb.exec = Jvm.exec) {k : Nat} {x : Int32} (hd : decode c.code pc = .ok (.istore k, 2)) (L2 : Array Slot) (hl : storeLocals L k (.int x) = some L2) (p' : Nat) (hp : p' = pc + 2) (q : Goes tb e below P T (mkF m p' L2 (S))) : Goes tb e below P T (mkF m pc L (.int x :: S)) := by
  subst hp; exact q.via fun _ k => XS.istore h hx rfl hd rfl hl k
theorem g_lstoreN (h : At T m c below) (hx : tb.exec = Jvm.exec) {k : Fin 4} {x : Int64} (hd : decode c.code pc = .ok (.lstore_n k, 1)) (L2 : Array Slot) (hl : storeLocals L k.val (.long x) = some L2) (p' : Nat) (hp : p' = pc + 1) (q : Goes tb e below P T (mkF m p' L2 (S))) : Goes tb e below P T (mkF m pc L (.long x :: S)) := by
  subst hp; exact q.via fun _ k => XS.lstoreN h hx rfl hd rfl hl k
theorem g_lstore (h : At T m c below) (hx : tb.exec = Jvm.exec) {k : Nat} {x : Int64} (hd : decode c.code pc = .ok (.lstore k, 2)) (L2 : Array Slot) (hl : storeLocals L k (.long x) = some L2) (p' : Nat) (hp : p' = pc + 2) (q : Goes tb e below P T (mkF m p' L2 (S))) : Goes tb e below P T (mkF m pc L (.long x :: S)) := by
  subst hp; exact q.via fun _ k => XS.lstore h hx rfl hd rfl hl k
theorem g_astoreN (h : At T m c below) (hx : tb.exec = Jvm.exec) {k : Fin 4} {x : Value} (hd : decode c.code pc = .ok (.astore_n k, 1)) (hv : x.isRef = true) (L2 : Array Slot) (hl : storeLocals L k.val x = some L2) (p' : Nat) (hp : p' = pc + 1) (q : Goes tb e below P T (mkF m p' L2 (S))) : Goes tb e below P T (mkF m pc L (x :: S)) := by
  subst hp; exact q.via fun _ k => XS.astoreN h hx rfl hd rfl hv hl k
theorem g_astore (h : At T m c below) (hx : tb.exec = Jvm.exec) {k : Nat} {x : Value} (hd : decode c.code pc = .ok (.astore k, 2)) (hv : x.isRef = true) (L2 : Array Slot) (hl : storeLocals L k x = some L2) (p' : Nat) (hp : p' = pc + 2) (q : Goes tb e below P T (mkF m p' L2 (S))) : Goes tb e below P T (mkF m pc L (x :: S)) := by
  subst hp; exact q.via fun _ k => XS.astore h hx rfl hd rfl hv hl k
theorem g_iconst (h : At T m c below) (hx : tb.exec = Jvm.exec) {i : Int} (hd : decode c.code pc = .ok (.iconst i, 1)) (v : Int32) (hv : Int32.ofInt i = v) (p' : Nat) (hp : p' = pc + 1) (q : Goes tb e below P T (mkF m p' L (.int v :: S))) : Goes tb e below P T (mkF m pc L (S)) := by
  subst hp hv; exact q.via fun _ k => XS.iconst h hx rfl hd  k
theorem g_bipush (h : At T m c below) (hx : tb.exec = Jvm.exec) {i : Int} (hd : decode c.code pc = .ok (.bipush i, 2)) (v : Int32) (hv : (Int8.ofInt i).toInt32 = v) (p' : Nat) (hp : p' = pc + 2) (q : Goes tb e below P T (mkF m p' L (.int v :: S))) : Goes tb e below P T (mkF m pc L (S)) := by
  subst hp hv; exact q.via fun _ k => XS.bipush h hx rfl hd  k
theorem g_sipush (h : At T m c below) (hx : tb.exec = Jvm.exec) {i : Int} (hd : decode c.code pc = .ok (.sipush i, 3)) (v : Int32) (hv : (Int16.ofInt i).toInt32 = v) (p' : Nat) (hp : p' = pc + 3) (q : Goes tb e below P T (mkF m p' L (.int v :: S))) : Goes tb e below P T (mkF m pc L (S)) := by
  subst hp hv; exact q.via fun _ k => XS.sipush h hx rfl hd  k
theorem g_aconst_null (h : At T m c below) (hx : tb.exec = Jvm.exec)  (hd : decode c.code pc = .ok (.aconst_null, 1))  (p' : Nat) (hp : p' = pc + 1) (q : Goes tb e below P T (mkF m p' L (.null :: S))) : Goes tb e below P T (mkF m pc L (S)) := by
  subst hp; exact q.via fun _ k => XS.aconstNull h hx rfl hd  k
theorem g_iadd (h : At T m c below) (hx : tb.exec = Jvm.exec) {x y : Int32} (hd : decode c.code pc = .ok (.iadd, 1))  (p' : Nat) (hp : p' = pc + 1) (q : Goes tb e below P T (mkF m p' L (.int (x + y) :: S))) : Goes tb e below P T (mkF m pc L (.int y :: .int x :: S)) := by
  subst hp; exact q.via fun _ k => XS.iadd h hx rfl hd rfl k
theorem g_isub (h : At T m c below) (hx : tb.exec = Jvm.exec) {x y : Int32} (hd : decode c.code pc = .ok (.isub, 1))  (p' : Nat) (hp : p' = pc + 1) (q : Goes tb e below P T (mkF m p' L (.int (x - y) :: S))) : Goes tb e below P T (mkF m pc L (.int y :: .int x :: S)) := by
  subst hp; exact q.via fun _ k => XS.isub h hx rfl hd rfl k
theorem g_imul (h : At T m c below) (hx : tb.exec = Jvm.exec) {x y : Int32} (hd : decode c.code pc = .ok (.imul, 1))  (p' : Nat) (hp : p' = pc + 1) (q : Goes tb e below P T (mkF m p' L (.int (x * y) :: S))) : Goes tb e below P T (mkF m pc L (.int y :: .int x :: S)) := by
  subst hp; exact q.via fun _ k => XS.imul h hx rfl hd rfl k
theorem g_iand (h : At T m c below) (hx : tb.exec = Jvm.exec) {x y : Int32} (hd : decode c.code pc = .ok (.iand, 1))  (p' : Nat) (hp : p' = pc + 1) (q : Goes tb e below P T (mkF m p' L (.int (x &&& y) :: S))) : Goes tb e below P T (mkF m pc L (.int y :: .int x :: S)) := by
  subst hp; exact q.via fun _ k => XS.iand h hx rfl hd rfl k
theorem g_ior (h : At T m c below) (hx : tb.exec = Jvm.exec) {x y : Int32} (hd : decode c.code pc = .ok (.ior, 1))  (p' : Nat) (hp : p' = pc + 1) (q : Goes tb e below P T (mkF m p' L (.int (x ||| y) :: S))) : Goes tb e below P T (mkF m pc L (.int y :: .int x :: S)) := by
  subst hp; exact q.via fun _ k => XS.ior h hx rfl hd rfl k
theorem g_ixor (h : At T m c below) (hx : tb.exec = Jvm.exec) {x y : Int32} (hd : decode c.code pc = .ok (.ixor, 1))  (p' : Nat) (hp : p' = pc + 1) (q : Goes tb e below P T (mkF m p' L (.int (x ^^^ y) :: S))) : Goes tb e below P T (mkF m pc L (.int y :: .int x :: S)) := by
  subst hp; exact q.via fun _ k => XS.ixor h hx rfl hd rfl k
theorem g_ishl (h : At T m c below) (hx : tb.exec = Jvm.exec) {x y : Int32} (hd : decode c.code pc = .ok (.ishl, 1))  (p' : Nat) (hp : p' = pc + 1) (q : Goes tb e below P T (mkF m p' L (.int (x <<< (y &&& 31)) :: S))) : Goes tb e below P T (mkF m pc L (.int y :: .int x :: S)) := by
  subst hp; exact q.via fun _ k => XS.ishl h hx rfl hd rfl k
theorem g_ishr (h : At T m c below) (hx : tb.exec = Jvm.exec) {x y : Int32} (hd : decode c.code pc = .ok (.ishr, 1))  (p' : Nat) (hp : p' = pc + 1) (q : Goes tb e below P T (mkF m p' L (.int (x >>> (y &&& 31)) :: S))) : Goes tb e below P T (mkF m pc L (.int y :: .int x :: S)) := by
  subst hp; exact q.via fun _ k => XS.ishr h hx rfl hd rfl k
theorem g_iushr (h : At T m c below) (hx : tb.exec = Jvm.exec) {x y : Int32} (hd : decode c.code pc = .ok (.iushr, 1))  (p' : Nat) (hp : p' = pc + 1) (q : Goes tb e below P T (mkF m p' L (.int ((x.toUInt32 >>> (y &&& 31).toUInt32).toInt32) :: S))) : Goes tb e below P T (mkF m pc L (.int y :: .int x :: S)) := by
  subst hp; exact q.via fun _ k => XS.iushr h hx rfl hd rfl k
theorem g_ladd (h : At T m c below) (hx : tb.exec = Jvm.exec) {x y : Int64} (hd : decode c.code pc = .ok (.ladd, 1))  (p' : Nat) (hp : p' = pc + 1) (q : Goes tb e below P T (mkF m p' L (.long (x + y) :: S))) : Goes tb e below P T (mkF m pc L (.long y :: .long x :: S)) := by
  subst hp; exact q.via fun _ k => XS.ladd h hx rfl hd rfl k
theorem g_lsub (h : At T m c below) (hx : tb.exec = Jvm.exec) {x y : Int64} (hd : decode c.code pc = .ok (.lsub, 1))  (p' : Nat) (hp : p' = pc + 1) (q : Goes tb e below P T (mkF m p' L (.long (x - y) :: S))) : Goes tb e below P T (mkF m pc L (.long y :: .long x :: S)) := by
  subst hp; exact q.via fun _ k => XS.lsub h hx rfl hd rfl k
theorem g_lmul (h : At T m c below) (hx : tb.exec = Jvm.exec) {x y : Int64} (hd : decode c.code pc = .ok (.lmul, 1))  (p' : Nat) (hp : p' = pc + 1) (q : Goes tb e below P T (mkF m p' L (.long (x * y) :: S))) : Goes tb e below P T (mkF m pc L (.long y :: .long x :: S)) := by
  subst hp; exact q.via fun _ k => XS.lmul h hx rfl hd rfl k
theorem g_land (h : At T m c below) (hx : tb.exec = Jvm.exec) {x y : Int64} (hd : decode c.code pc = .ok (.land, 1))  (p' : Nat) (hp : p' = pc + 1) (q : Goes tb e below P T (mkF m p' L (.long (x &&& y) :: S))) : Goes tb e below P T (mkF m pc L (.long y :: .long x :: S)) := by
  subst hp; exact q.via fun _ k => XS.land h hx rfl hd rfl k
theorem g_lor (h : At T m c below) (hx : tb.exec = Jvm.exec) {x y : Int64} (hd : decode c.code pc = .ok (.lor, 1))  (p' : Nat) (hp : p' = pc + 1) (q : Goes tb e below P T (mkF m p' L (.long (x ||| y) :: S))) : Goes tb e below P T (mkF m pc L (.long y :: .long x :: S)) := by
  subst hp; exact q.via fun _ k => XS.lor h hx rfl hd rfl k
theorem g_lshl (h : At T m c below) (hx : tb.exec = Jvm.exec) {x : Int64} {y : Int32} (hd : decode c.code pc = .ok (.lshl, 1))  (p' : Nat) (hp : p' = pc + 1) (q : Goes tb e below P T (mkF m p' L (.long (x <<< (y &&& 0x3f).toInt64) :: S))) : Goes tb e below P T (mkF m pc L (.int y :: .long x :: S)) := by
  subst hp; exact q.via fun _ k => XS.lshl h hx rfl hd rfl k
theorem g_lshr (h : At T m c below) (hx : tb.exec = Jvm.exec) {x : Int64} {y : Int32} (hd : decode c.code pc = .ok (.lshr, 1))  (p' : Nat) (hp : p' = pc + 1) (q : Goes tb e below P T (mkF m p' L (.long (x >>> (y &&& 0x3f).toInt64) :: S))) : Goes tb e below P T (mkF m pc L (.int y :: .long x :: S)) := by
  subst hp; exact q.via fun _ k => XS.lshr h hx rfl hd rfl k
theorem g_lushr (h : At T m c below) (hx : tb.exec = Jvm.exec) {x : Int64} {y : Int32} (hd : decode c.code pc = .ok (.lushr, 1))  (p' : Nat) (hp : p' = pc + 1) (q : Goes tb e below P T (mkF m p' L (.long ((x.toUInt64 >>> (y &&& 0x3f).toInt64.toUInt64).toInt64) :: S))) : Goes tb e below P T (mkF m pc L (.int y :: .long x :: S)) := by
  subst hp; exact q.via fun _ k => XS.lushr h hx rfl hd rfl k
theorem g_lcmp (h : At T m c below) (hx : tb.exec = Jvm.exec) {x y : Int64} (hd : decode c.code pc = .ok (.lcmp, 1))  (p' : Nat) (hp : p' = pc + 1) (q : Goes tb e below P T (mkF m p' L (.int (lcmpW x y) :: S))) : Goes tb e below P T (mkF m pc L (.long y :: .long x :: S)) := by
  subst hp; exact q.via fun _ k => XS.lcmp h hx rfl hd rfl k
theorem g_i2l (h : At T m c below) (hx : tb.exec = Jvm.exec) {x : Int32} (hd : decode c.code pc = .ok (.i2l, 1))  (p' : Nat) (hp : p' = pc + 1) (q : Goes tb e below P T (mkF m p' L (.long (x.toInt64) :: S))) : Goes tb e below P T (mkF m pc L (.int x :: S)) := by
  subst hp; exact q.via fun _ k => XS.i2l h hx rfl hd rfl k
theorem g_l2i (h : At T m c below) (hx : tb.exec = Jvm.exec) {x : Int64} (hd : decode c.code pc = .ok (.l2i, 1))  (p' : Nat) (hp : p' = pc + 1) (q : Goes tb e below P T (mkF m p' L (.int (x.toInt32) :: S))) : Goes tb e below P T (mkF m pc L (.long x :: S)) := by
  subst hp; exact q.via fun _ k => XS.l2i h hx rfl hd rfl k
theorem g_i2b (h : At T m c below) (hx : tb.exec = Jvm.exec) {x : Int32} (hd : decode c.code pc = .ok (.i2b, 1))  (p' : Nat) (hp : p' = pc + 1) (q : Goes tb e below P T (mkF m p' L (.int (x.toInt8.toInt32) :: S))) : Goes tb e below P T (mkF m pc L (.int x :: S)) := by
  subst hp; exact q.via fun _ k => XS.i2b h hx rfl hd rfl k
theorem g_i2c (h : At T m c below) (hx : tb.exec = Jvm.exec) {x : Int32} (hd : decode c.code pc = .ok (.i2c, 1))  (p' : Nat) (hp : p' = pc + 1) (q : Goes tb e below P T (mkF m p' L (.int (x.toUInt32.toUInt16.toUInt32.toInt32) :: S))) : Goes tb e below P T (mkF m pc L (.int x :: S)) := by
  subst hp; exact q.via fun _ k => XS.i2c h hx rfl hd rfl k
theorem g_i2s (h : At T m c below) (hx : tb.exec = Jvm.exec) {x : Int32} (hd : decode c.code pc = .ok (.i2s, 1))  (p' : Nat) (hp : p' = pc + 1) (q : Goes tb e below P T (mkF m p' L (.int (x.toInt16.toInt32) :: S))) : Goes tb e below P T (mkF m pc L (.int x :: S)) := by
  subst hp; exact q.via fun _ k => XS.i2s h hx rfl hd rfl k
theorem g_irem (h : At T m c below) (hx : tb.exec = Jvm.exec) {x y : Int32} (hd : decode c.code pc = .ok (.irem, 1)) (hy : y ≠ 0) (p' : Nat) (hp : p' = pc + 1) (q : Goes tb e below P T (mkF m p' L (.int (x % y) :: S))) : Goes tb e below P T (mkF m pc L (.int y :: .int x :: S)) := by
  subst hp; exact q.via fun _ k => XS.irem h hx rfl hd rfl hy (by rw [show x - x / y * y = x % y from irem_eq_mod x y]; exact k)
theorem g_idiv (h : At T m c below) (hx : tb.exec = Jvm.exec) {x y : Int32} (hd : decode c.code pc = .ok (.idiv, 1)) (hy : y ≠ 0) (p' : Nat) (hp : p' = pc + 1) (q : Goes tb e below P T (mkF m p' L (.int (x / y) :: S))) : Goes tb e below P T (mkF m pc L (.int y :: .int x :: S)) := by
  subst hp; exact q.via fun _ k => XS.idiv h hx rfl hd rfl hy k
theorem g_dup (h : At T m c below) (hx : tb.exec = Jvm.exec) {x : Value} (hd : decode c.code pc = .ok (.dup, 1)) (hc : x.category = 1) (p' : Nat) (hp : p' = pc + 1) (q : Goes tb e below P T (mkF m p' L (x :: x :: S))) : Goes tb e below P T (mkF m pc L (x :: S)) := by
  subst hp; exact q.via fun _ k => XS.dup h hx rfl hd rfl hc k
theorem g_pop (h : At T m c below) (hx : tb.exec = Jvm.exec) {x : Value} (hd : decode c.code pc = .ok (.pop, 1)) (hc : x.category = 1) (p' : Nat) (hp : p' = pc + 1) (q : Goes tb e below P T (mkF m p' L (S))) : Goes tb e below P T (mkF m pc L (x :: S)) := by
  subst hp; exact q.via fun _ k => XS.pop h hx rfl hd rfl hc k
theorem g_dup_x1 (h : At T m c below) (hx : tb.exec = Jvm.exec) {x y : Value} (hd : decode c.code pc = .ok (.dup_x1, 1)) (hc : x.category = 1) (hc' : y.category = 1) (p' : Nat) (hp : p' = pc + 1) (q : Goes tb e below P T (mkF m p' L (x :: y :: x :: S))) : Goes tb e below P T (mkF m pc L (x :: y :: S)) := by
  subst hp; exact q.via fun _ k => XS.dupX1 h hx rfl hd rfl hc hc' k
theorem g_lconst (h : At T m c below) (hx : tb.exec = Jvm.exec) {k : Fin 2} (hd : decode c.code pc = .ok (.lconst k, 1)) (v : Int64) (hv : Int64.ofNat k.val = v) (p' : Nat) (hp : p' = pc + 1) (q : Goes tb e below P T (mkF m p' L (.long v :: S))) : Goes tb e below P T (mkF m pc L (S)) := by
  subst hp hv; exact q.via fun _ k => XS.lconst h hx rfl hd  k
theorem g_iinc (h : At T m c below) (hx : tb.exec = Jvm.exec) {k : Nat} {i : Int} {x : Int32} (hd : decode c.code pc = .ok (.iinc k i, 3)) (hl : L[k]? = some (.val (.int x))) (L2 : Array Slot) (hl2 : storeLocals L k (.int (x + Int32.ofInt i)) = some L2) (p' : Nat) (hp : p' = pc + 3) (q : Goes tb e below P T (mkF m p' L2 (S))) : Goes tb e below P T (mkF m pc L (S)) := by
  subst hp; exact q.via fun _ k => XS.iinc h hx rfl hd hl hl2 k
theorem g_goto (h : At T m c below) (hx : tb.exec = Jvm.exec) {o : Int} (hd : decode c.code pc = .ok (.goto o, 3)) (p' : Nat) (ho : 0 ≤ (pc : Int) + o) (hp : ((pc : Int) + o).toNat = p') (q : Goes tb e below P T (mkF m p' L S)) : Goes tb e below P T (mkF m pc L S) := q.via fun _ k => XS.goto h hx rfl rfl hd ho hp k
theorem g_icmpT (h : At T m c below) (hx : tb.exec = Jvm.exec) {cd : ClassFile.Cond} {x y : Int32} {o : Int} (hd : decode c.code pc = .ok (.if_icmp cd o, 3)) (X Y : Int) (ex : x.toInt = X) (ey : y.toInt = Y) (hc : icR cd X Y) (p' : Nat) (ho : 0 ≤ (pc : Int) + o) (hp : ((pc : Int) + o).toNat = p') (q : Goes tb e below P T (mkF m p' L S)) : Goes tb e below P T (mkF m pc L (.int y :: .int x :: S)) := q.via fun _ k => XS.icmpYes h hx rfl rfl hd rfl (icR_yes ex ey hc) ho hp k
theorem g_icmpF (h : At T m c below) (hx : tb.exec = Jvm.exec) {cd : ClassFile.Cond} {x y : Int32} {o : Int} (hd : decode c.code pc = .ok (.if_icmp cd o, 3)) (X Y : Int) (ex : x.toInt = X) (ey : y.toInt = Y) (hc : ¬ icR cd X Y) (p' : Nat) (hp : p' = pc + 3) (q : Goes tb e below P T (mkF m p' L S)) : Goes tb e below P T (mkF m pc L (.int y :: .int x :: S)) := by
  subst hp; exact q.via fun _ k => XS.icmpNo h hx rfl hd rfl (icR_no ex ey hc) k
theorem g_icmp (h : At T m c below) (hx : tb.exec = Jvm.exec) {cd : ClassFile.Cond} {x y : Int32} {o : Int} (hd : decode c.code pc = .ok (.if_icmp cd o, 3)) (X Y : Int) (ex : x.toInt = X) (ey : y.toInt = Y) (p1 p2 : Nat) (ho : 0 ≤ (pc : Int) + o) (hp : ((pc : Int) + o).toNat = p1) (hp2 : p2 = pc + 3) (q1 : icR cd X Y → Goes tb e below P T (mkF m p1 L S)) (q2 : ¬ icR cd X Y → Goes tb e below P T (mkF m p2 L S)) : Goes tb e below P T (mkF m pc L (.int y :: .int x :: S)) := by
  by_cases hc : icR cd X Y
  · exact g_icmpT h hx hd X Y ex ey hc p1 ho hp (q1 hc)
  · exact g_icmpF h hx hd X Y ex ey hc p2 hp2 (q2 hc)
theorem g_ifT (h : At T m c below) (hx : tb.exec = Jvm.exec) {cd : ClassFile.Cond} {x : Int32} {o : Int} (hd : decode c.code pc = .ok (.ifCond cd o, 3)) (X : Int) (ex : x.toInt = X) (hc : icR cd X 0) (p' : Nat) (ho : 0 ≤ (pc : Int) + o) (hp : ((pc : Int) + o).toNat = p') (q : Goes tb e below P T (mkF m p' L S)) : Goes tb e below P T (mkF m pc L (.int x :: S)) := q.via fun _ k => XS.ifYes h hx rfl rfl hd rfl ((if0 _ _).trans (icR_yes ex (by decide) hc)) ho hp k
theorem g_ifF (h : At T m c below) (hx : tb.exec = Jvm.exec) {cd : ClassFile.Cond} {x : Int32} {o : Int} (hd : decode c.code pc = .ok (.ifCond cd o, 3)) (X : Int) (ex : x.toInt = X) (hc : ¬ icR cd X 0) (p' : Nat) (hp : p' = pc + 3) (q : Goes tb e below P T (mkF m p' L S)) : Goes tb e below P T (mkF m pc L (.int x :: S)) := by
  subst hp; exact q.via fun _ k => XS.ifNo h hx rfl hd rfl ((if0 _ _).trans (icR_no ex (by decide) hc)) k
theorem g_if (h : At T m c below) (hx : tb.exec = Jvm.exec) {cd : ClassFile.Cond} {x : Int32} {o : Int} (hd : decode c.code pc = .ok (.ifCond cd o, 3)) (X : Int) (ex : x.toInt = X) (p1 p2 : Nat) (ho : 0 ≤ (pc : Int) + o) (hp : ((pc : Int) + o).toNat = p1) (hp2 : p2 = pc + 3) (q1 : icR cd X 0 → Goes tb e below P T (mkF m p1 L S)) (q2 : ¬ icR cd X 0 → Goes tb e below P T (mkF m p2 L S)) : Goes tb e below P T (mkF m pc L (.int x :: S)) := by
  by_cases hc : icR cd X 0
  · exact g_ifT h hx hd X ex hc p1 ho hp (q1 hc)
  · exact g_ifF h hx hd X ex hc p2 hp2 (q2 hc)
theorem g_ifnullT (h : At T m c below) (hx : tb.exec = Jvm.exec) {o : Int} (hd : decode c.code pc = .ok (.ifnull o, 3)) (p' : Nat) (ho : 0 ≤ (pc : Int) + o) (hp : ((pc : Int) + o).toNat = p') (q : Goes tb e below P T (mkF m p' L S)) : Goes tb e below P T (mkF m pc L (.null :: S)) := q.via fun _ k => XS.ifnullYes h hx rfl rfl hd rfl ho hp k
theorem g_ifnullF (h : At T m c below) (hx : tb.exec = Jvm.exec) {o : Int} {b : Addr} (hd : decode c.code pc = .ok (.ifnull o, 3)) (p' : Nat) (hp : p' = pc + 3) (q : Goes tb e below P T (mkF m p' L S)) : Goes tb e below P T (mkF m pc L (.ref b :: S)) := by
  subst hp; exact q.via fun _ k => XS.ifnullNo h hx rfl hd rfl k
theorem g_ifnonnullT (h : At T m c below) (hx : tb.exec = Jvm.exec) {o : Int} {b : Addr} (hd : decode c.code pc = .ok (.ifnonnull o, 3)) (p' : Nat) (ho : 0 ≤ (pc : Int) + o) (hp : ((pc : Int) + o).toNat = p') (q : Goes tb e below P T (mkF m p' L S)) : Goes tb e below P T (mkF m pc L (.ref b :: S)) := q.via fun _ k => XS.ifnonnullYes h hx rfl rfl hd rfl ho hp k
theorem g_ifnonnullF (h : At T m c below) (hx : tb.exec = Jvm.exec) {o : Int} (hd : decode c.code pc = .ok (.ifnonnull o, 3)) (p' : Nat) (hp : p' = pc + 3) (q : Goes tb e below P T (mkF m p' L S)) : Goes tb e below P T (mkF m pc L (.null :: S)) := by
  subst hp; exact q.via fun _ k => XS.ifnonnullNo h hx rfl hd rfl k
end G
/-! part B: the walk's state (St), one law a step that reads the tables or the heap -/
/-- md 0: no String constant is loaded; 1: some may be; 2: and a stack trace may be filled in -/
def EndOf (md : Nat) (s : State) (o : Outcome) (t : State) (L : List Loc) (k n : Nat) : Prop := (md = 0 → FrameEnd s o t L k n) ∧ (md ≠ 0 → ReturnedEndW s o t L k n)
def KnOf (md : Nat) (vm : Vm) (bl : List Frame) : Prop := md = 2 → vm.MethodsKnown ∧ vm.FramesKnown bl
def St (md : Nat) (p : Program) (l : Launch) (e : Env) (R : Room) (s : State) (m : MethodId) (args : Array Value) (below : List Frame) (meth : Method) (c : Code) (own : String) (Z : State) (EL : List (String × Nat)) (vm : Vm) (T : State) (h : Heap) (cells slots : Nat) : Prop :=
  ∃ locs k, Stand p l e R (s.setVm vm) m args below meth c T locs cells slots ∧ T.heap = h ∧ Z.Warmed39 vm ∧ vm.findClass own = some m.cls ∧ s.Since vm k ∧ k ≤ h.size ∧ CHr Z EL s.vm s.heap vm h ∧ Fr Z.heap.size locs ∧ Old Z Z.heap.size h ∧ (md = 0 → vm = s.vm ∧ EL = []) ∧ KnOf md vm below ∧ ∃ a0, EW Z a0 EL ∧ Old Z Z.heap.size s.heap
/-- what a body leaves, as its caller is told -/
def Pof (md : Nat) (Z : State) (EL : List (String × Nat)) (s : State) (rm : Room) (Q : Option Value → Heap → Prop) : Outcome → State → Prop :=
  fun o U => ∃ v L, o = .returned v ∧ (Q v U.heap ∧ Fr Z.heap.size L ∧ Old Z Z.heap.size U.heap) ∧ CHr Z EL s.vm s.heap U.vm U.heap ∧ EndOf md s o U L rm.cells rm.slots
/-- a contract -/
def Ct (md : Nat) (l : Launch) (Z : State) (EL : List (String × Nat)) (sf : List Addr) (y : MethodName) (bytes : ByteArray) (maxL : Nat) (ret : Option FieldType) (rm : Room) (as' : Array Value) (h : Heap) (Q : Option Value → Heap → Prop) : Prop :=
  ∀ ws, MetFree l y (head1 (Cond.code y bytes maxL ret :: ws) rm) (fun a U => a = as' ∧ Z.Warmed39 U.vm ∧ U.heap = h ∧ CHv Z EL U.vm h ∧ ∀ x ∈ sf, Safe Z EL U.vm h x) (fun _ _ bl s _ => KnOf md s.vm bl) (fun _ U o U' => Pof md Z EL U rm Q o U')
section B
variable {md : Nat} {p : Program} {l : Launch} {e : Env} {R : Room} {s : State} {m : MethodId} {args : Array Value} {below : List Frame} {meth : Method} {c : Code} {own : String} {Z : State} {EL : List (String × Nat)} {vm vm' : Vm} {T : State} {h h' : Heap} {cells slots : Nat} {P : Outcome → State → Prop} {pc : Nat} {L : Array Slot} {K : List Value} {a0 : Array Value}
theorem safe_nil {x : Addr} : Safe Z [] vm h x := fun B => by obtain ⟨q, hq, -⟩ := B; cases hq
theorem chv_nil : CHv Z [] vm h := fun q hq => by cases hq
theorem chr_nil (g : h.size ≤ h'.size) : CHr Z [] vm h vm' h' := ⟨chv_nil, g, fun y B => by obtain ⟨q, hq, -⟩ := B; cases hq⟩
theorem ew_nil : EW Z a0 [] := EW.nil
theorem St.here (S : St md p l e R s m args below meth c own Z EL vm T h cells slots) : At T m c below := by obtain ⟨_, _, X, -⟩ := S; exact X.here
theorem St.old (S : St md p l e R s m args below meth c own Z EL vm T h cells slots) : Old Z Z.heap.size h := by obtain ⟨_, _, -, -, -, -, -, -, -, -, O, -⟩ := S; exact O
theorem St.warm (S : St md p l e R s m args below meth c own Z EL vm T h cells slots) : Z.Warmed39 vm := by obtain ⟨_, _, -, -, hZ, -⟩ := S; exact hZ
theorem St.chr (S : St md p l e R s m args below meth c own Z EL vm T h cells slots) : CHr Z EL s.vm s.heap vm h := by obtain ⟨_, _, -, -, -, -, -, -, C, -⟩ := S; exact C
theorem St.ew (S : St md p l e R s m args below meth c own Z EL vm T h cells slots) : ∃ a0, EW Z a0 EL := by obtain ⟨_, _, -, -, -, -, -, -, -, -, -, -, -, a0, E, -⟩ := S; exact ⟨a0, E⟩
theorem St.size (S : St md p l e R s m args below meth c own Z EL vm T h cells slots) : Z.heap.size ≤ h.size := S.old.2.1
theorem St.safeE (S : St md p l e R s m args below meth c own Z EL vm T h cells slots) {x : Addr} {C : String} (E : Exa Z h x C) (h1 : C ≠ "java/lang/String") (h2 : C ≠ "[B") : Safe Z EL vm h x := Safe.exa S.warm.alike E h1 h2
theorem St.safeA (S : St md p l e R s m args below meth c own Z EL vm T h cells slots) {x : Addr} {k : ClassId} {ty : FieldType} {z : Int32} {vs : List Value} {dv : Value} (F : Arv Z h x k ty z vs dv) (ht : ty ≠ .byte) : Safe Z EL vm h x := Safe.arv S.warm.alike F ht
/-- entering a body -/
theorem Ct.intro {y : MethodName} {bytes : ByteArray} {maxL : Nat} {ret : Option FieldType} {rm : Room} {as' : Array Value} {Q : Option Value → Heap → Prop} (hpl : plainFor y = true) (hO : Old Z Z.heap.size h) (hmd : md = 0 → EL = []) (hE : ∃ a0, EW Z a0 EL) {sf : List Addr}
    (body : ∀ p e s m below meth c T, p.tables.exec = Jvm.exec → c.code = bytes → c.maxLocals = maxL → meth.sig.returnType = ret → meth.name = y.name → meth.locks = false → (∀ x ∈ sf, Safe Z EL s.vm h x) →
      St md p l e rm s m as' below meth c y.cls Z EL s.vm T h 0 0 → Goes p.tables e below (Pof md Z EL s rm Q) T (entryFrame m as' maxL)) : Ct md l Z EL sf y bytes maxL ret rm as' h Q := by
  intro ws
  refine MetFree.of_bodySF hpl hisR ?_
  intro p e s m args below meth c s₁ Bd hml hP hK
  obtain ⟨rfl, hZ, rfl, hC, hsf⟩ := hP
  obtain ⟨a1, hE⟩ := hE
  have X0 : Stand p l e rm s m args below meth c s₁ [] 0 0 := Stand.of_body Bd
  have e0 : s₁.heap = s.heap := by rw [Bd.state]; rfl
  have hown : s.vm.findClass y.cls = some m.cls := findClass_of_methodNamed Bd.named
  refine body p e s m below meth c s₁ Bd.exec Bd.bytes hml Bd.returns (name_of_methodNamed Bd.named Bd.method).1 Bd.notSynchronized hsf ⟨[], 0, X0, e0, hZ, hown, (State.WarmedH.refl s).since 0, Nat.zero_le _, CHr.refl hC, Fr.nil _, hO, fun q => ⟨rfl, hmd q⟩, hK, a1, hE, hO⟩
/-- new -/
theorem St.new (S : St md p l e R s m args below meth c own Z EL vm T h cells slots) (hx : p.tables.exec = Jvm.exec) {C : String} {index n : Nat} (w : (Cond.classLink own index C).before a0 Z = true) (wi : (Cond.instantiable C n).before a0 Z = true) (wz : (Cond.initialized C).before a0 Z = true) (hd : decode c.code pc = .ok (.new index, 3)) (hc : cells + 1 ≤ R.cells) (hl : slots + n ≤ R.slots) (p' : Nat) (hp : p' = pc + 3)
    (q : ∀ T' h' a, St md p l e R s m args below meth c own Z EL vm T' h' (cells + 1) (slots + n) → a = h.size → Ext h h' → Exa Z h' a C → (∀ {O nm d : String} {ty : FieldType}, Laid Z a0 C O nm d → parseFieldDescriptor d = some ty → Fld Z h' a O nm d (defaultValue ty)) → Safe Z EL vm h' a → CHr Z EL vm h vm h' → (∃ cell : Cell, h'[a]? = some cell ∧ cell.vm = .none ∧ cell.monitor = {}) → Goes p.tables e below P T' (mkF m p' L (.ref a :: K))) : Goes p.tables e below P T (mkF m pc L K) := by
  subst hp
  obtain ⟨locs, k, X, eT, hZ, hown, hS, hk, hC, hF, hO, h0, h2, hE⟩ := S
  obtain ⟨T', h', X', e', E', A', D', U', st⟩ := newO X hx hZ hown w wi wz eT (g := mkF m pc L K) rfl hd hc hl
  exact (q T' h' h.size ⟨locs, k, X', e', hZ, hown, hS, Nat.le_trans hk E'.1, hC.trans (CHr.ext E' hC.1), hF, hO.ext E', h0, h2, hE⟩ rfl E' A' D' (Safe.ext E' hC.1 (Safe.new (Nat.le_refl _))) (CHr.ext E' hC.1) U').via st
theorem St.getF (S : St md p l e R s m args below meth c own Z EL vm T h cells slots) (hx : p.tables.exec = Jvm.exec) {R0 O n d host : String} {index : Nat} (w : (Cond.fieldLink own index R0 n d).before a0 Z = true ∨ (Cond.fieldLinkNest own index R0 n d host).before a0 Z = true) (via : Via Z R0 O n d) {a : Addr} {v : Value} (F : Fld Z h a O n d v) (hd : decode c.code pc = .ok (.getfield index, 3)) (p' : Nat) (hp : p' = pc + 3)
    (q : ∀ T', St md p l e R s m args below meth c own Z EL vm T' h cells slots → Goes p.tables e below P T' (mkF m p' L (v :: K))) : Goes p.tables e below P T (mkF m pc L (.ref a :: K)) := by
  subst hp
  obtain ⟨locs, k, X, eT, hZ, hown, r⟩ := S
  obtain ⟨T', X', e', st⟩ := RoadKit.getF X hx hZ hown w via eT F (g := mkF m pc L (.ref a :: K)) rfl rfl hd
  exact (q T' ⟨locs, k, X', e', hZ, hown, r⟩).via st
theorem St.putF (S : St md p l e R s m args below meth c own Z EL vm T h cells slots) (hx : p.tables.exec = Jvm.exec) {R0 O n d host C : String} {index kk : Nat} {ty : FieldType} (w : (Cond.fieldLink own index R0 n d).before a0 Z = true ∨ (Cond.fieldLinkNest own index R0 n d host).before a0 Z = true) (via : Via Z R0 O n d) {a : Addr} {v u : Value} (F : Fld Z h a O n d u) (E : Exa Z h a C)
    (Ly : (Cond.lays C O n d).before a0 Z = true ∨ ((Cond.laysFinal C O n d).before a0 Z = true ∧ own = O ∧ meth.name = "<init>")) (wi : (Cond.instantiable C kk).before a0 Z = true) (hty : parseFieldDescriptor d = some ty) (hn : narrow ty v = v) (hf : fits ty v = true) (sf : Safe Z EL vm h a) (ga : Z.heap.size ≤ a) (hd : decode c.code pc = .ok (.putfield index, 3)) (p' : Nat) (hp : p' = pc + 3)
    (q : ∀ T' h', St md p l e R s m args below meth c own Z EL vm T' h' cells slots → Wr h h' a (Jvm.RoadKit.slotOf Z O n d) v → CHr Z EL vm h vm h' → Goes p.tables e below P T' (mkF m p' L K)) : Goes p.tables e below P T (mkF m pc L (v :: .ref a :: K)) := by
  subst hp
  obtain ⟨locs, k, X, eT, hZ, hown, hS, hk, hC, hF, hO, h0, h2, hE⟩ := S
  obtain ⟨T', h', X', e', W', st⟩ := RoadKit.putF X hx hZ hown w via eT F E Ly wi hty hn hf (g := mkF m pc L (v :: .ref a :: K)) rfl rfl hd
  have hR := CHr.wr W' sf hC.1
  exact (q T' h' ⟨_, k, X', e', hZ, hown, hS, Nat.le_trans hk hR.2.1, hC.trans hR, Fr.snoc X' hF ga, hO.wr W' ga, h0, h2, hE⟩ W' hR).via st
theorem St.getS (S : St md p l e R s m args below meth c own Z EL vm T h cells slots) (hx : p.tables.exec = Jvm.exec) {R0 O n d host : String} {index : Nat} (w : (Cond.fieldLink own index R0 n d).before a0 Z = true ∨ (Cond.fieldLinkNest own index R0 n d host).before a0 Z = true) (via : Via Z R0 O n d) {v : Value} (F : Sta Z h O n d v) (hd : decode c.code pc = .ok (.getstatic index, 3)) (p' : Nat) (hp : p' = pc + 3)
    (q : ∀ T', St md p l e R s m args below meth c own Z EL vm T' h cells slots → Goes p.tables e below P T' (mkF m p' L (v :: K))) : Goes p.tables e below P T (mkF m pc L K) := by
  subst hp
  obtain ⟨locs, k, X, eT, hZ, hown, r⟩ := S
  obtain ⟨T', X', e', st⟩ := getS2 X hx hZ hown w via eT F (g := mkF m pc L K) rfl hd
  exact (q T' ⟨locs, k, X', e', hZ, hown, r⟩).via st
theorem St.castY (S : St md p l e R s m args below meth c own Z EL vm T h cells slots) (hx : p.tables.exec = Jvm.exec) {C : String} {index : Nat} (w : (Cond.classLink own index C).before a0 Z = true) {a : Addr} (F : Ins Z h a C true) (hd : decode c.code pc = .ok (.checkcast index, 3)) (p' : Nat) (hp : p' = pc + 3)
    (q : ∀ T', St md p l e R s m args below meth c own Z EL vm T' h cells slots → Goes p.tables e below P T' (mkF m p' L (.ref a :: K))) : Goes p.tables e below P T (mkF m pc L (.ref a :: K)) := by
  subst hp
  obtain ⟨locs, k, X, eT, hZ, hown, r⟩ := S
  obtain ⟨T', X', e', st⟩ := RoadKit.castY X hx hZ hown w eT F (g := mkF m pc L (.ref a :: K)) rfl rfl hd
  exact (q T' ⟨locs, k, X', e', hZ, hown, r⟩).via st
theorem St.instY (S : St md p l e R s m args below meth c own Z EL vm T h cells slots) (hx : p.tables.exec = Jvm.exec) {C : String} {index : Nat} (w : (Cond.classLink own index C).before a0 Z = true) {a : Addr} (F : Ins Z h a C true) (hd : decode c.code pc = .ok (.instanceof index, 3)) (p' : Nat) (hp : p' = pc + 3)
    (q : ∀ T', St md p l e R s m args below meth c own Z EL vm T' h cells slots → Goes p.tables e below P T' (mkF m p' L (.int 1 :: K))) : Goes p.tables e below P T (mkF m pc L (.ref a :: K)) := by
  subst hp
  obtain ⟨locs, k, X, eT, hZ, hown, r⟩ := S
  obtain ⟨T', X', e', st⟩ := RoadKit.instY X hx hZ hown w eT F (g := mkF m pc L (.ref a :: K)) rfl rfl hd
  exact (q T' ⟨locs, k, X', e', hZ, hown, r⟩).via st
theorem St.ldcI (S : St md p l e R s m args below meth c own Z EL vm T h cells slots) (hx : p.tables.exec = Jvm.exec) {index : Nat} {v : Int32} (w : (Cond.constant own index v).before a0 Z = true) (hd : decode c.code pc = .ok (.ldc index, 2)) (p' : Nat) (hp : p' = pc + 2)
    (q : Goes p.tables e below P T (mkF m p' L (.int v :: K))) : Goes p.tables e below P T (mkF m pc L K) := by
  subst hp
  obtain ⟨locs, k, X, eT, hZ, hown, r⟩ := S
  exact q.via fun t k => X.ldcInt hx hown (mvT (s := s.setVm vm) hZ w) (g := mkF m pc L K) rfl hd t k
theorem St.ldcJ (S : St md p l e R s m args below meth c own Z EL vm T h cells slots) (hx : p.tables.exec = Jvm.exec) {index : Nat} {v : Int64} (w : (Cond.constantLong own index v).before a0 Z = true) (hd : decode c.code pc = .ok (.ldc2_w index, 3)) (p' : Nat) (hp : p' = pc + 3)
    (q : Goes p.tables e below P T (mkF m p' L (.long v :: K))) : Goes p.tables e below P T (mkF m pc L K) := by
  subst hp
  obtain ⟨locs, k, X, eT, hZ, hown, r⟩ := S
  exact q.via fun t k => X.ldc2Long hx hown (mvT (s := s.setVm vm) hZ w) (g := mkF m pc L K) rfl hd t k
/-- newarray of a primitive kind -/
theorem St.newA (S : St md p l e R s m args below meth c own Z EL vm T h cells slots) (hx : p.tables.exec = Jvm.exec) {aty : ArrayType} (w : (Cond.arrayClass (newarray.typeOf aty)).before a0 Z = true) {n : Int32} (hn : ¬ n < 0) {cap : Nat} (hcap : n.toNatClampNeg ≤ cap) (hb : cap * 8 ≤ 536870912) (hd : decode c.code pc = .ok (.newarray aty, 2)) (hc : cells + 1 ≤ R.cells) (hl : slots + cap ≤ R.slots) (p' : Nat) (hp : p' = pc + 2)
    (q : ∀ T' h' a k, St md p l e R s m args below meth c own Z EL vm T' h' (cells + 1) (slots + cap) → a = h.size → Ext h h' → Arv Z h' a k (newarray.typeOf aty) n (List.replicate cap (defaultValue (newarray.typeOf aty))) (defaultValue (newarray.typeOf aty)) → Safe Z EL vm h' a → CHr Z EL vm h vm h' → Goes p.tables e below P T' (mkF m p' L (.ref a :: K))) : Goes p.tables e below P T (mkF m pc L (.int n :: K)) := by
  subst hp
  obtain ⟨locs, k, X, eT, hZ, hown, hS, hk, hC, hF, hO, h0, h2, hE⟩ := S
  obtain ⟨T', h', cA, X', e', E', A', st⟩ := newP X hx hZ w eT (g := mkF m pc L (.int n :: K)) rfl hd rfl hn hcap hb hc hl
  exact (q T' h' h.size cA ⟨locs, k, X', e', hZ, hown, hS, Nat.le_trans hk E'.1, hC.trans (CHr.ext E' hC.1), hF, hO.ext E', h0, h2, hE⟩ rfl E' ((Arv.new A' hn).pad (pad_rep [] _ cap)) (Safe.ext E' hC.1 (Safe.new (Nat.le_refl _))) (CHr.ext E' hC.1)).via st
/-- castore -/
theorem St.stC (S : St md p l e R s m args below meth c own Z EL vm T h cells slots) (hx : p.tables.exec = Jvm.exec) {a : Addr} {k : ClassId} {z j x : Int32} {vs : List Value} {dv : Value} (A : Arv Z h a k .char z vs dv) (i : Nat) (hj : ¬ j < 0 ∧ j < z) (hi : j.toNatClampNeg = i) (hv : i < vs.length) (ga : Z.heap.size ≤ a) (x' : Int32) (hx' : nar .char x = x') (hd : decode c.code pc = .ok (.castore, 1)) (p' : Nat) (hp : p' = pc + 1)
    (q : ∀ T' h', St md p l e R s m args below meth c own Z EL vm T' h' cells slots → Wr h h' a i (.int x') → Arv Z h' a k .char z (vs.set i (.int x')) dv → CHr Z EL vm h vm h' → Goes p.tables e below P T' (mkF m p' L K)) : Goes p.tables e below P T (mkF m pc L (.int x :: .int j :: .ref a :: K)) := by
  subst hp hx'
  have sf := S.safeA A (by decide)
  obtain ⟨locs, kk, X, eT, hZ, hown, hS, hk, hC, hF, hO, h0, h2, hE⟩ := S
  obtain ⟨cl, A1, A2, A3, A4, A5, A6⟩ := A
  obtain ⟨T', h', X', e', W', st⟩ := RoadKit.stC X hx hZ eT A1 (j := j) (inb_of A3 hj) (g := mkF m pc L (.int x :: .int j :: .ref a :: K)) rfl rfl hd
  have hR := CHr.wr W' sf hC.1
  exact (q T' h' ⟨_, kk, X', e', hZ, hown, hS, Nat.le_trans hk hR.2.1, hC.trans hR, Fr.snoc X' hF ga, hO.wr W' ga, h0, h2, hE⟩ (by rw [← hi]; exact W') (Arv.set A1 A2 A3 A4 A5 A6 (fits_nar_char x) W' i hi hv) hR).via st
theorem St.len (S : St md p l e R s m args below meth c own Z EL vm T h cells slots) (hx : p.tables.exec = Jvm.exec) {a : Addr} {k : ClassId} {ty : FieldType} {z : Int32} {vs : List Value} {dv : Value} (A : Arv Z h a k ty z vs dv) (hd : decode c.code pc = .ok (.arraylength, 1)) (p' : Nat) (hp : p' = pc + 1)
    (q : Goes p.tables e below P T (mkF m p' L (.int z :: K))) : Goes p.tables e below P T (mkF m pc L (.ref a :: K)) := by
  subst hp
  obtain ⟨locs, kk, X, eT, hZ, hown, r⟩ := S
  obtain ⟨cl, A1, A2, A3, A4, A5, A6⟩ := A
  refine q.via fun t k => X.arraylength hx (by rw [eT]; exact A1.1) (State.isArrayOf_alike (T := s.setVm vm) hZ.alike A1.2.1) (g := mkF m pc L (.ref a :: K)) rfl rfl hd t ?_
  rw [len_of A3 A4]; exact k
end B

/-! part C: calls, String constants, returns -/
abbrev PreN (R : Room) (as' : Array Value) (h : Heap) (k n : Nat) : Pt → Array Value → Prop := fun A a => a = as' ∧ A.U.heap = h ∧ A.cells + k ≤ R.cells ∧ A.slots + n ≤ R.slots
abbrev PostN (Q : Option Value → Heap → List Loc → Prop) (k n : Nat) : Pt → Array Value → Option Value → Pt → Prop := fun A _ v B => ∃ L, Q v B.U.heap L ∧ B.locs = A.locs ++ L ∧ B.cells = A.cells + k ∧ B.slots = A.slots + n
abbrev PostW (Q : Option Value → Heap → List Loc → Prop) (k n : Nat) (Z : State) (EL : List (String × Nat)) (vm : Vm) (h : Heap) : Pt → Array Value → Option Value → Pt → Prop := fun A _ v B => ∃ L, Q v B.U.heap L ∧ B.locs = A.locs ++ L ∧ B.cells = A.cells + k ∧ B.slots = A.slots + n ∧ CHr Z EL vm h B.U.vm B.U.heap
section C
variable {md : Nat} {p : Program} {l : Launch} {e : Env} {R : Room} {s : State} {m : MethodId} {args : Array Value} {below : List Frame} {meth : Method} {c : Code} {own : String} {Z : State} {EL : List (String × Nat)} {vm : Vm} {T : State} {h : Heap} {cells slots : Nat} {P : Outcome → State → Prop} {pc : Nat} {L : Array Slot} {K : List Value} {a0 : Array Value} {y : MethodName} {bytes : ByteArray} {maxL : Nat} {ret : Option FieldType} {rm : Room} {as' : Array Value} {Q : Option Value → Heap → Prop} {W len : Nat}
theorem nosf : ∀ x ∈ ([] : List Addr), x < h.size ∧ Safe Z EL vm h x := fun _ q => nomatch q
theorem ctBack {sf : List Addr} (hM : Ct 0 l Z [] sf y bytes maxL ret rm as' h Q) (hZ : Z.Warmed39 s.vm) (wc : (Cond.code y bytes maxL ret).before a0 Z = true) (wz : (Cond.initialized y.cls).before a0 Z = true) (hf : rm.frames + 1 ≤ R.frames) (hl : W + (maxL + 11) + rm.locals ≤ R.locals) :
    Back l R p e below s args y len W (PreN R as' h rm.cells rm.slots) (PostN (fun v h' L => Q v h' ∧ Fr Z.heap.size L ∧ Old Z Z.heap.size h' ∧ h.size ≤ h'.size) rm.cells rm.slots) := by
  have hM' : MetFree l y (head1 [Cond.code y bytes maxL ret] rm) (fun a U => a = as' ∧ Z.Warmed39 U.vm ∧ U.heap = h) (fun _ _ _ _ _ => True) (fun _ U o U' => ∃ v L, o = .returned v ∧ (Q v U'.heap ∧ Fr Z.heap.size L ∧ Old Z Z.heap.size U'.heap ∧ h.size ≤ U'.heap.size) ∧ FrameEnd U o U' L rm.cells rm.slots) := fun p e ha hc hk s m args below hf happ hP hK => by
    obtain ⟨n, o, h1, h2, h3, v, L, r1, r2, r3, r4⟩ := hM [] p e ha hc hk s m args below hf happ ⟨hP.1, hP.2.1, hP.2.2, chv_nil, fun _ _ => safe_nil⟩ (fun q => by cases q)
    exact ⟨n, o, h1, h2, h3, v, L, r1, ⟨r2.1, r2.2.1, r2.2.2, by rw [← hP.2.2]; exact r3.2.1⟩, r4.1 rfl⟩
  exact backOf (Q := fun v h' L => Q v h' ∧ Fr Z.heap.size L ∧ Old Z Z.heap.size h' ∧ h.size ≤ h'.size) hM' hZ wc wz hf hl
theorem ctBackS {sf : List Addr} (hmd : md ≠ 0) (hM : Ct md l Z EL sf y bytes maxL ret rm as' h Q) (hZ : Z.Warmed39 vm) (wc : (Cond.code y bytes maxL ret).before a0 Z = true) (wz : (Cond.initialized y.cls).before a0 Z = true) (hf : rm.frames + 1 ≤ R.frames) (hl : W + (maxL + 11) + rm.locals ≤ R.locals) {a1 : Array Value} (hEL : EW Z a1 EL) (H : CHv Z EL vm h) (hkn : KnOf md vm below) (hsf : ∀ x ∈ sf, x < h.size ∧ Safe Z EL vm h x) :
    BackS l R p e below (s.setVm vm) args y len W (PreN R as' h rm.cells rm.slots) (PostW (fun v h' L => Q v h' ∧ Fr Z.heap.size L ∧ Old Z Z.heap.size h') rm.cells rm.slots Z EL vm h) :=
  BackS.of_freeWG (bytes := bytes) (maxL := maxL) (ret := ret) (E := fun _ first o t L k n => k = rm.cells ∧ n = rm.slots ∧ (∃ v, o = .returned v ∧ Q v t.heap ∧ Fr Z.heap.size L ∧ Old Z Z.heap.size t.heap) ∧ CHr Z EL first.vm first.heap t.vm t.heap) (hM []) hf hl
    (fun m meth c A a Y hp => have hU : Z.Warmed39 A.U.vm := wtrans (s := s.setVm vm) hZ Y.warmed
      ⟨by show (Cond.and _ .tt).before a A.U = true; rw [Cond.before_and, mv hU wc]; rfl, mv hU wc, mv hU wz, hp.2.2.1, hp.2.2.2⟩)
    (fun m meth c A a g mk Y hp => ⟨hp.1, wtrans (s := s.setVm vm) hZ Y.warmed, hp.2.1, (CHv.at Y hZ hEL H).1, fun x hx => (CHv.at Y hZ hEL H).safe (hsf x hx).1 (hsf x hx).2⟩) (fun m meth c A a g mk Y _ hg q2 => known_frames Y hg (hkn q2).1 (hkn q2).2)
    (fun _ _ _ _ ⟨v, L, h1, h2, h3, h4⟩ => ⟨L, _, _, h4.2 hmd, rfl, rfl, ⟨v, h1, h2⟩, h3⟩)
    (fun m meth c A a g mk v t L k n Y hp _ _ ⟨e1, e2, ⟨v', e3, e4⟩, e5⟩ => by
      cases e3; subst e1 e2
      refine ⟨L, e4, rfl, rfl, rfl, (CHv.at Y hZ hEL H).trans ?_⟩
      rw [← hp.2.1]; exact e5)
theorem St.callSN (S : St md p l e R s m args below meth c own Z EL vm T h cells slots) (hx : p.tables.exec = Jvm.exec) {index : Nat}  (w1 : (Cond.methodLink own index y).before a0 Z = true) (w2 : (Cond.static y).before a0 Z = true) (w3 : (Cond.initialized y.cls).before a0 Z = true) (w4 : (Cond.code y bytes maxL ret).before a0 Z = true) (hy : y.cls ≠ "java/lang/invoke/MethodHandle" ∧ y.cls ≠ "java/lang/invoke/VarHandle") {k n : Nat} {QN : Option Value → Heap → List Loc → Prop} (hK : Back l R p e below (s.setVm vm) args y 3 W (PreN R as' h k n) (PostN QN k n)) (hQ : ∀ v h' Lc, QN v h' Lc → Fr Z.heap.size Lc ∧ Old Z Z.heap.size h' ∧ CHr Z EL vm h vm h') (hml : L.size = c.maxLocals) (argsL rest : List Value) (hlen : ∀ sig, parseMethodDescriptor y.desc = some sig → argsL.length = sig.parameters.length) (hst : K = argsL.reverse ++ rest) (has : argsL.toArray = as') (hW : (rest.map fun v => v.category).sum ≤ W) (hd : decode c.code pc = .ok (.invokestatic index, 3)) (hc : cells + k ≤ R.cells) (hs : slots + n ≤ R.slots) (p' : Nat) (hp : p' = pc + 3)
    (q : ∀ v T' h' Lc, St md p l e R s m args below meth c own Z EL vm T' h' (cells + k) (slots + n) → QN v h' Lc → CHr Z EL vm h vm h' → Goes p.tables e below P T' (mkF m p' L (v.toList ++ rest))) : Goes p.tables e below P T (mkF m pc L K) := by
  subst hp hst has
  obtain ⟨locs, k0, X, eT, hZ, hown, hS, hk, hC, hF, hO, h0, h2, hE⟩ := S
  obtain ⟨v, vm1, ⟨T', L', k', n'⟩, -, X', ⟨Lc, hq, l', y', z'⟩, st⟩ := Jvm.LawKit.callS X hx hown (mvT (s := s.setVm vm) hZ w1) (mvT (s := s.setVm vm) hZ w2) (mvT (s := s.setVm vm) hZ w3) (mvT (s := s.setVm vm) hZ w4) hy hK (g := mkF m pc L (argsL.reverse ++ rest)) rfl hml  (argsL := argsL) (rest := rest) hlen rfl (by show 2 * 0 + _ ≤ _; omega) hd (fun _ _ => ⟨rfl, eT, hc, hs⟩)
  dsimp only [Pt.U, Pt.locs, Pt.cells, Pt.slots] at X' l' y' z' st hq
  subst l' y' z'
  obtain ⟨r1, r2, r3⟩ := hQ v _ Lc hq
  exact (q v T' T'.heap Lc ⟨_, k0, X', rfl, hZ, hown, hS, Nat.le_trans hk r3.2.1, hC.trans r3, hF.app r1, r2, h0, h2, hE⟩ hq r3).via st
theorem St.callS {sf : List Addr} (S : St md p l e R s m args below meth c own Z EL vm T h cells slots) (hx : p.tables.exec = Jvm.exec) {index : Nat}  (w1 : (Cond.methodLink own index y).before a0 Z = true) (w2 : (Cond.static y).before a0 Z = true) (w3 : (Cond.initialized y.cls).before a0 Z = true) (w4 : (Cond.code y bytes maxL ret).before a0 Z = true) (hy : y.cls ≠ "java/lang/invoke/MethodHandle" ∧ y.cls ≠ "java/lang/invoke/VarHandle") (hM : Ct md l Z EL sf y bytes maxL ret rm as' h Q) (hsf : ∀ x ∈ sf, x < h.size ∧ Safe Z EL vm h x) (hf : rm.frames + 1 ≤ R.frames) (hl : W + (maxL + 11) + rm.locals ≤ R.locals) (hml : L.size = c.maxLocals) (argsL rest : List Value) (hlen : ∀ sig, parseMethodDescriptor y.desc = some sig → argsL.length = sig.parameters.length) (hst : K = argsL.reverse ++ rest) (has : argsL.toArray = as') (hW : (rest.map fun v => v.category).sum ≤ W) (hd : decode c.code pc = .ok (.invokestatic index, 3)) (hc : cells + rm.cells ≤ R.cells) (hs : slots + rm.slots ≤ R.slots) (p' : Nat) (hp : p' = pc + 3)
    (q : ∀ v vm' T' h', St md p l e R s m args below meth c own Z EL vm' T' h' (cells + rm.cells) (slots + rm.slots) → Q v h' → CHr Z EL vm h vm' h' → Goes p.tables e below P T' (mkF m p' L (v.toList ++ rest))) : Goes p.tables e below P T (mkF m pc L K) := by
  by_cases hmd : md = 0
  · subst hmd
    have hEL : EL = [] := by obtain ⟨_, _, -, -, -, -, -, -, -, -, -, h0, -⟩ := S; exact (h0 rfl).2
    subst hEL
    have hZ := S.warm
    exact St.callSN S hx w1 w2 w3 w4 hy (ctBack (s := s.setVm vm) hM hZ w4 w3 hf hl) (fun v h' Lc r => ⟨r.2.1, r.2.2.1, chr_nil r.2.2.2⟩) hml argsL rest hlen hst has hW hd hc hs p' hp (fun v T' h' Lc S' r R' => q v vm T' h' S' r.1 R')
  · subst hp hst has
    obtain ⟨locs, k0, X, eT, hZ, hown, hS, hk, hC, hF, hO, h0, h2, a1, hE⟩ := S
    have hK := ctBackS (s := s) (R := R) (p := p) (e := e) (below := below) (args := args) (W := W) (len := 3) hmd hM hZ w4 w3 hf hl hE.1 hC.1 h2 hsf
    obtain ⟨v, vm1, ⟨T', L', k', n'⟩, -, X', hS2, hgr, ⟨Lc, ⟨hq, r1, r2⟩, l', y', z', hR⟩, st⟩ := callSS X hx hown (mvT (s := s.setVm vm) hZ w1) (mvT (s := s.setVm vm) hZ w2) (mvT (s := s.setVm vm) hZ w3) (mvT (s := s.setVm vm) hZ w4) hy hK (g := mkF m pc L (argsL.reverse ++ rest)) rfl hml  (argsL := argsL) (rest := rest) hlen rfl (by show 2 * 0 + _ ≤ _; omega) hd (fun _ _ => ⟨rfl, eT, hc, hs⟩)
    dsimp only [Pt.U, Pt.locs, Pt.cells, Pt.slots] at X' l' y' z' st hq hS2 hgr hR
    subst l' y' z'
    obtain ⟨Y1, Y2, Y3, Y4⟩ := rebS hS (n1 := T.heap.size) (by rw [eT]; exact hk) X' hS2 hgr hZ hown
    exact (q v T'.vm T' T'.heap ⟨_, _, Y1, rfl, Y3, Y4, Y2, Nat.le_refl _, hC.trans hR, hF.app r1, r2, fun z => absurd z hmd, fun z => ⟨(h2 z).1.alikeC hS2.1.alike, (h2 z).2.alikeC hS2.1.alike⟩, a1, hE⟩ hq hR).to st
theorem St.callIN (S : St md p l e R s m args below meth c own Z EL vm T h cells slots) (hx : p.tables.exec = Jvm.exec) {index : Nat} {a : Addr} (hy1 : y.name = "<init>") (w1 : (Cond.methodLink own index y).before a0 Z = true) (w2 : (Cond.instanceMethod y).before a0 Z = true) (w4 : (Cond.code y bytes maxL none).before a0 Z = true) (hy : y.cls ≠ "java/lang/invoke/MethodHandle" ∧ y.cls ≠ "java/lang/invoke/VarHandle") {k n : Nat} {QN : Option Value → Heap → List Loc → Prop} (hK : Back l R p e below (s.setVm vm) args y 3 W (PreN R as' h k n) (PostN QN k n)) (hQ : ∀ v h' Lc, QN v h' Lc → Fr Z.heap.size Lc ∧ Old Z Z.heap.size h' ∧ CHr Z EL vm h vm h') (hml : L.size = c.maxLocals) (argsL rest : List Value) (hlen : ∀ sig, parseMethodDescriptor y.desc = some sig → argsL.length = sig.parameters.length) (hst : K = argsL.reverse ++ .ref a :: rest) (has : (.ref a :: argsL).toArray = as') (hW : (rest.map fun v => v.category).sum ≤ W) (hd : decode c.code pc = .ok (.invokespecial index, 3)) (hc : cells + k ≤ R.cells) (hs : slots + n ≤ R.slots) (p' : Nat) (hp : p' = pc + 3)
    (q : ∀ v T' h' Lc, St md p l e R s m args below meth c own Z EL vm T' h' (cells + k) (slots + n) → QN v h' Lc → CHr Z EL vm h vm h' → Goes p.tables e below P T' (mkF m p' L (v.toList ++ rest))) : Goes p.tables e below P T (mkF m pc L K) := by
  subst hp hst has
  obtain ⟨locs, k0, X, eT, hZ, hown, hS, hk, hC, hF, hO, h0, h2, hE⟩ := S
  obtain ⟨v, vm1, ⟨T', L', k', n'⟩, -, X', ⟨Lc, hq, l', y', z'⟩, st⟩ := X.specialBack hx hy1 hown (mvT (s := s.setVm vm) hZ w1) (mvT (s := s.setVm vm) hZ w2) (mvT (s := s.setVm vm) hZ w4) hy hK (g := mkF m pc L (argsL.reverse ++ .ref a :: rest)) rfl hml (Steps.refl _) (argsL := argsL) (rest := rest) hlen rfl (by show 2 * 0 + _ ≤ _; omega) hd (fun _ _ => ⟨rfl, eT, hc, hs⟩)
  dsimp only [Pt.U, Pt.locs, Pt.cells, Pt.slots] at X' l' y' z' st hq
  subst l' y' z'
  obtain ⟨r1, r2, r3⟩ := hQ v _ Lc hq
  exact (q v T' T'.heap Lc ⟨_, k0, X', rfl, hZ, hown, hS, Nat.le_trans hk r3.2.1, hC.trans r3, hF.app r1, r2, h0, h2, hE⟩ hq r3).to st
theorem St.callI {sf : List Addr} (S : St md p l e R s m args below meth c own Z EL vm T h cells slots) (hx : p.tables.exec = Jvm.exec) {index : Nat} {a : Addr} (hy1 : y.name = "<init>") (w1 : (Cond.methodLink own index y).before a0 Z = true) (w2 : (Cond.instanceMethod y).before a0 Z = true) (w4 : (Cond.code y bytes maxL none).before a0 Z = true) (hy : y.cls ≠ "java/lang/invoke/MethodHandle" ∧ y.cls ≠ "java/lang/invoke/VarHandle") (wz : (Cond.initialized y.cls).before a0 Z = true) (hM : Ct md l Z EL sf y bytes maxL none rm as' h Q) (hsf : ∀ x ∈ sf, x < h.size ∧ Safe Z EL vm h x) (hf : rm.frames + 1 ≤ R.frames) (hl : W + (maxL + 11) + rm.locals ≤ R.locals) (hml : L.size = c.maxLocals) (argsL rest : List Value) (hlen : ∀ sig, parseMethodDescriptor y.desc = some sig → argsL.length = sig.parameters.length) (hst : K = argsL.reverse ++ .ref a :: rest) (has : (.ref a :: argsL).toArray = as') (hW : (rest.map fun v => v.category).sum ≤ W) (hd : decode c.code pc = .ok (.invokespecial index, 3)) (hc : cells + rm.cells ≤ R.cells) (hs : slots + rm.slots ≤ R.slots) (p' : Nat) (hp : p' = pc + 3)
    (q : ∀ v vm' T' h', St md p l e R s m args below meth c own Z EL vm' T' h' (cells + rm.cells) (slots + rm.slots) → Q v h' → CHr Z EL vm h vm' h' → Goes p.tables e below P T' (mkF m p' L (v.toList ++ rest))) : Goes p.tables e below P T (mkF m pc L K) := by
  by_cases hmd : md = 0
  · subst hmd
    have hEL : EL = [] := by obtain ⟨_, _, -, -, -, -, -, -, -, -, -, h0, -⟩ := S; exact (h0 rfl).2
    subst hEL
    have hZ := S.warm
    exact St.callIN S hx hy1 w1 w2 w4 hy (ctBack (s := s.setVm vm) hM hZ w4 wz hf hl) (fun v h' Lc r => ⟨r.2.1, r.2.2.1, chr_nil r.2.2.2⟩) hml argsL rest hlen hst has hW hd hc hs p' hp (fun v T' h' Lc S' r R' => q v vm T' h' S' r.1 R')
  · subst hp hst has
    obtain ⟨locs, k0, X, eT, hZ, hown, hS, hk, hC, hF, hO, h0, h2, a1, hE⟩ := S
    have hK := ctBackS (s := s) (R := R) (p := p) (e := e) (below := below) (args := args) (W := W) (len := 3) hmd hM hZ w4 wz hf hl hE.1 hC.1 h2 hsf
    obtain ⟨v, vm1, ⟨T', L', k', n'⟩, -, X', hS2, hgr, ⟨Lc, ⟨hq, r1, r2⟩, l', y', z', hR⟩, st⟩ := X.specialBackS hx hy1 hown (mvT (s := s.setVm vm) hZ w1) (mvT (s := s.setVm vm) hZ w2) (mvT (s := s.setVm vm) hZ w4) hy hK (g := mkF m pc L (argsL.reverse ++ .ref a :: rest)) rfl hml (Steps.refl _) (argsL := argsL) (rest := rest) hlen rfl (by show 2 * 0 + _ ≤ _; omega) hd (fun _ _ => ⟨rfl, eT, hc, hs⟩)
    dsimp only [Pt.U, Pt.locs, Pt.cells, Pt.slots] at X' l' y' z' st hq hS2 hgr hR
    subst l' y' z'
    obtain ⟨Y1, Y2, Y3, Y4⟩ := rebS hS (n1 := T.heap.size) (by rw [eT]; exact hk) X' hS2 hgr hZ hown
    exact (q v T'.vm T' T'.heap ⟨_, _, Y1, rfl, Y3, Y4, Y2, Nat.le_refl _, hC.trans hR, hF.app r1, r2, fun z => absurd z hmd, fun z => ⟨(h2 z).1.alikeC hS2.1.alike, (h2 z).2.alikeC hS2.1.alike⟩, a1, hE⟩ hq hR).to st
theorem St.callVN (S : St md p l e R s m args below meth c own Z EL vm T h cells slots) (hx : p.tables.exec = Jvm.exec) {index : Nat} {a : Addr} {C : String} {x : MethodName} (w1 : (Cond.methodLink own index x).before a0 Z = true) (w2 : (Cond.declares x).before a0 Z = true) (nf : NotFace (s.setVm vm) x) (w5 : (Cond.selects C x y).before a0 Z = true) (w6 : (Cond.instanceMethod y).before a0 Z = true) (hy : x.cls ≠ "java/lang/invoke/MethodHandle" ∧ x.cls ≠ "java/lang/invoke/VarHandle") (E : Exa Z h a C) {k n : Nat} {QN : Option Value → Heap → List Loc → Prop} (hK : Back l R p e below (s.setVm vm) args y 3 W (PreN R as' h k n) (PostN QN k n)) (hQ : ∀ v h' Lc, QN v h' Lc → Fr Z.heap.size Lc ∧ Old Z Z.heap.size h' ∧ CHr Z EL vm h vm h') (hml : L.size = c.maxLocals) (argsL rest : List Value) (hlen : ∀ sig, parseMethodDescriptor x.desc = some sig → argsL.length = sig.parameters.length) (hst : K = argsL.reverse ++ .ref a :: rest) (has : (.ref a :: argsL).toArray = as') (hW : (rest.map fun v => v.category).sum ≤ W) (hd : decode c.code pc = .ok (.invokevirtual index, 3)) (hc : cells + k ≤ R.cells) (hs : slots + n ≤ R.slots) (p' : Nat) (hp : p' = pc + 3)
    (q : ∀ v T' h' Lc, St md p l e R s m args below meth c own Z EL vm T' h' (cells + k) (slots + n) → QN v h' Lc → CHr Z EL vm h vm h' → Goes p.tables e below P T' (mkF m p' L (v.toList ++ rest))) : Goes p.tables e below P T (mkF m pc L K) := by
  subst hp hst has
  obtain ⟨locs, k0, X, eT, hZ, hown, hS, hk, hC, hF, hO, h0, h2, hE⟩ := S
  obtain ⟨cq, kq, qa, qb, qc⟩ := isOf (s := s.setVm vm) hZ eT E
  obtain ⟨v, vm1, ⟨T', L', k', n'⟩, -, X', ⟨Lc, hq, l', y', z'⟩, st⟩ := X.virtualBack hx hown (mvT (s := s.setVm vm) hZ w1) (mvT (s := s.setVm vm) hZ w2) nf (mvT (s := s.setVm vm) hZ w5) (mvT (s := s.setVm vm) hZ w6) hy hK qa qc (g := mkF m pc L (argsL.reverse ++ .ref a :: rest)) rfl hml (Steps.refl _) (argsL := argsL) (rest := rest) hlen rfl (by show 2 * 0 + _ ≤ _; omega) hd (fun _ _ => ⟨rfl, eT, hc, hs⟩)
  dsimp only [Pt.U, Pt.locs, Pt.cells, Pt.slots] at X' l' y' z' st hq
  subst l' y' z'
  obtain ⟨r1, r2, r3⟩ := hQ v _ Lc hq
  exact (q v T' T'.heap Lc ⟨_, k0, X', rfl, hZ, hown, hS, Nat.le_trans hk r3.2.1, hC.trans r3, hF.app r1, r2, h0, h2, hE⟩ hq r3).to st
theorem St.callV {sf : List Addr} (S : St md p l e R s m args below meth c own Z EL vm T h cells slots) (hx : p.tables.exec = Jvm.exec) {index : Nat} {a : Addr} {C : String} {x : MethodName} (w1 : (Cond.methodLink own index x).before a0 Z = true) (w2 : (Cond.declares x).before a0 Z = true) (nf : NotFace (s.setVm vm) x) (w5 : (Cond.selects C x y).before a0 Z = true) (w6 : (Cond.instanceMethod y).before a0 Z = true) (hy : x.cls ≠ "java/lang/invoke/MethodHandle" ∧ x.cls ≠ "java/lang/invoke/VarHandle") (E : Exa Z h a C) (wc : (Cond.code y bytes maxL ret).before a0 Z = true) (wz : (Cond.initialized y.cls).before a0 Z = true) (hM : Ct md l Z EL sf y bytes maxL ret rm as' h Q) (hsf : ∀ x ∈ sf, x < h.size ∧ Safe Z EL vm h x) (hf : rm.frames + 1 ≤ R.frames) (hl : W + (maxL + 11) + rm.locals ≤ R.locals) (hml : L.size = c.maxLocals) (argsL rest : List Value) (hlen : ∀ sig, parseMethodDescriptor x.desc = some sig → argsL.length = sig.parameters.length) (hst : K = argsL.reverse ++ .ref a :: rest) (has : (.ref a :: argsL).toArray = as') (hW : (rest.map fun v => v.category).sum ≤ W) (hd : decode c.code pc = .ok (.invokevirtual index, 3)) (hc : cells + rm.cells ≤ R.cells) (hs : slots + rm.slots ≤ R.slots) (p' : Nat) (hp : p' = pc + 3)
    (q : ∀ v vm' T' h', St md p l e R s m args below meth c own Z EL vm' T' h' (cells + rm.cells) (slots + rm.slots) → Q v h' → CHr Z EL vm h vm' h' → Goes p.tables e below P T' (mkF m p' L (v.toList ++ rest))) : Goes p.tables e below P T (mkF m pc L K) := by
  by_cases hmd : md = 0
  · subst hmd
    have hEL : EL = [] := by obtain ⟨_, _, -, -, -, -, -, -, -, -, -, h0, -⟩ := S; exact (h0 rfl).2
    subst hEL
    have hZ := S.warm
    exact St.callVN S hx w1 w2 nf w5 w6 hy E (ctBack (s := s.setVm vm) hM hZ wc wz hf hl) (fun v h' Lc r => ⟨r.2.1, r.2.2.1, chr_nil r.2.2.2⟩) hml argsL rest hlen hst has hW hd hc hs p' hp (fun v T' h' Lc S' r R' => q v vm T' h' S' r.1 R')
  · subst hp hst has
    obtain ⟨locs, k0, X, eT, hZ, hown, hS, hk, hC, hF, hO, h0, h2, a1, hE⟩ := S
    obtain ⟨cq, kq, qa, qb, qc⟩ := isOf (s := s.setVm vm) hZ eT E
    have hK := ctBackS (s := s) (R := R) (p := p) (e := e) (below := below) (args := args) (W := W) (len := 3) hmd hM hZ wc wz hf hl hE.1 hC.1 h2 hsf
    obtain ⟨v, vm1, ⟨T', L', k', n'⟩, -, X', hS2, hgr, ⟨Lc, ⟨hq, r1, r2⟩, l', y', z', hR⟩, st⟩ := X.virtualBackS hx hown (mvT (s := s.setVm vm) hZ w1) (mvT (s := s.setVm vm) hZ w2) nf (mvT (s := s.setVm vm) hZ w5) (mvT (s := s.setVm vm) hZ w6) hy hK qa qc (g := mkF m pc L (argsL.reverse ++ .ref a :: rest)) rfl hml (Steps.refl _) (argsL := argsL) (rest := rest) hlen rfl (by show 2 * 0 + _ ≤ _; omega) hd (fun _ _ => ⟨rfl, eT, hc, hs⟩)
    dsimp only [Pt.U, Pt.locs, Pt.cells, Pt.slots] at X' l' y' z' st hq hS2 hgr hR
    subst l' y' z'
    obtain ⟨Y1, Y2, Y3, Y4⟩ := rebS hS (n1 := T.heap.size) (by rw [eT]; exact hk) X' hS2 hgr hZ hown
    exact (q v T'.vm T' T'.heap ⟨_, _, Y1, rfl, Y3, Y4, Y2, Nat.le_refl _, hC.trans hR, hF.app r1, r2, fun z => absurd z hmd, fun z => ⟨(h2 z).1.alikeC hS2.1.alike, (h2 z).2.alikeC hS2.1.alike⟩, a1, hE⟩ hq hR).to st
theorem St.callUN (S : St md p l e R s m args below meth c own Z EL vm T h cells slots) (hx : p.tables.exec = Jvm.exec) {index : Nat} {a : Addr} {C owner : String} {x : MethodName} (w1 : (Cond.methodLink own index x).before a0 Z = true) (w2 : (Cond.sameMethod x.cls owner x.name x.desc).before a0 Z = true) (w3 : (Cond.declares ⟨owner, x.name, x.desc⟩).before a0 Z = true) (w5 : (Cond.selects C x y).before a0 Z = true) (w6 : (Cond.instanceMethod y).before a0 Z = true) (hy : owner ≠ "java/lang/invoke/MethodHandle" ∧ owner ≠ "java/lang/invoke/VarHandle") (E : Exa Z h a C) {k n : Nat} {QN : Option Value → Heap → List Loc → Prop} (hK : Back l R p e below (s.setVm vm) args y 3 W (PreN R as' h k n) (PostN QN k n)) (hQ : ∀ v h' Lc, QN v h' Lc → Fr Z.heap.size Lc ∧ Old Z Z.heap.size h' ∧ CHr Z EL vm h vm h') (hml : L.size = c.maxLocals) (argsL rest : List Value) (hlen : ∀ sig, parseMethodDescriptor x.desc = some sig → argsL.length = sig.parameters.length) (hst : K = argsL.reverse ++ .ref a :: rest) (has : (.ref a :: argsL).toArray = as') (hW : (rest.map fun v => v.category).sum ≤ W) (hd : decode c.code pc = .ok (.invokevirtual index, 3)) (hc : cells + k ≤ R.cells) (hs : slots + n ≤ R.slots) (p' : Nat) (hp : p' = pc + 3)
    (q : ∀ v T' h' Lc, St md p l e R s m args below meth c own Z EL vm T' h' (cells + k) (slots + n) → QN v h' Lc → CHr Z EL vm h vm h' → Goes p.tables e below P T' (mkF m p' L (v.toList ++ rest))) : Goes p.tables e below P T (mkF m pc L K) := by
  subst hp hst has
  obtain ⟨locs, k0, X, eT, hZ, hown, hS, hk, hC, hF, hO, h0, h2, hE⟩ := S
  obtain ⟨cq, kq, qa, qb, qc⟩ := isOf (s := s.setVm vm) hZ eT E
  obtain ⟨v, vm1, ⟨T', L', k', n'⟩, -, X', ⟨Lc, hq, l', y', z'⟩, st⟩ := X.virtualBackUp hx hown (mvT (s := s.setVm vm) hZ w1) (mvT (s := s.setVm vm) hZ w2) (mvT (s := s.setVm vm) hZ w3) hy (mvT (s := s.setVm vm) hZ w5) (mvT (s := s.setVm vm) hZ w6) hK qa qc (g := mkF m pc L (argsL.reverse ++ .ref a :: rest)) rfl hml (Steps.refl _) (argsL := argsL) (rest := rest) hlen rfl (by show 2 * 0 + _ ≤ _; omega) hd (fun _ _ => ⟨rfl, eT, hc, hs⟩)
  dsimp only [Pt.U, Pt.locs, Pt.cells, Pt.slots] at X' l' y' z' st hq
  subst l' y' z'
  obtain ⟨r1, r2, r3⟩ := hQ v _ Lc hq
  exact (q v T' T'.heap Lc ⟨_, k0, X', rfl, hZ, hown, hS, Nat.le_trans hk r3.2.1, hC.trans r3, hF.app r1, r2, h0, h2, hE⟩ hq r3).to st
theorem St.callU {sf : List Addr} (S : St md p l e R s m args below meth c own Z EL vm T h cells slots) (hx : p.tables.exec = Jvm.exec) {index : Nat} {a : Addr} {C owner : String} {x : MethodName} (w1 : (Cond.methodLink own index x).before a0 Z = true) (w2 : (Cond.sameMethod x.cls owner x.name x.desc).before a0 Z = true) (w3 : (Cond.declares ⟨owner, x.name, x.desc⟩).before a0 Z = true) (w5 : (Cond.selects C x y).before a0 Z = true) (w6 : (Cond.instanceMethod y).before a0 Z = true) (hy : owner ≠ "java/lang/invoke/MethodHandle" ∧ owner ≠ "java/lang/invoke/VarHandle") (E : Exa Z h a C) (wc : (Cond.code y bytes maxL ret).before a0 Z = true) (wz : (Cond.initialized y.cls).before a0 Z = true) (hM : Ct md l Z EL sf y bytes maxL ret rm as' h Q) (hsf : ∀ x ∈ sf, x < h.size ∧ Safe Z EL vm h x) (hf : rm.frames + 1 ≤ R.frames) (hl : W + (maxL + 11) + rm.locals ≤ R.locals) (hml : L.size = c.maxLocals) (argsL rest : List Value) (hlen : ∀ sig, parseMethodDescriptor x.desc = some sig → argsL.length = sig.parameters.length) (hst : K = argsL.reverse ++ .ref a :: rest) (has : (.ref a :: argsL).toArray = as') (hW : (rest.map fun v => v.category).sum ≤ W) (hd : decode c.code pc = .ok (.invokevirtual index, 3)) (hc : cells + rm.cells ≤ R.cells) (hs : slots + rm.slots ≤ R.slots) (p' : Nat) (hp : p' = pc + 3)
    (q : ∀ v vm' T' h', St md p l e R s m args below meth c own Z EL vm' T' h' (cells + rm.cells) (slots + rm.slots) → Q v h' → CHr Z EL vm h vm' h' → Goes p.tables e below P T' (mkF m p' L (v.toList ++ rest))) : Goes p.tables e below P T (mkF m pc L K) := by
  by_cases hmd : md = 0
  · subst hmd
    have hEL : EL = [] := by obtain ⟨_, _, -, -, -, -, -, -, -, -, -, h0, -⟩ := S; exact (h0 rfl).2
    subst hEL
    have hZ := S.warm
    exact St.callUN S hx w1 w2 w3 w5 w6 hy E (ctBack (s := s.setVm vm) hM hZ wc wz hf hl) (fun v h' Lc r => ⟨r.2.1, r.2.2.1, chr_nil r.2.2.2⟩) hml argsL rest hlen hst has hW hd hc hs p' hp (fun v T' h' Lc S' r R' => q v vm T' h' S' r.1 R')
  · subst hp hst has
    obtain ⟨locs, k0, X, eT, hZ, hown, hS, hk, hC, hF, hO, h0, h2, a1, hE⟩ := S
    obtain ⟨cq, kq, qa, qb, qc⟩ := isOf (s := s.setVm vm) hZ eT E
    have hK := ctBackS (s := s) (R := R) (p := p) (e := e) (below := below) (args := args) (W := W) (len := 3) hmd hM hZ wc wz hf hl hE.1 hC.1 h2 hsf
    obtain ⟨v, vm1, ⟨T', L', k', n'⟩, -, X', hS2, hgr, ⟨Lc, ⟨hq, r1, r2⟩, l', y', z', hR⟩, st⟩ := virtualBackUpS X hx hown (mvT (s := s.setVm vm) hZ w1) (mvT (s := s.setVm vm) hZ w2) (mvT (s := s.setVm vm) hZ w3) hy (mvT (s := s.setVm vm) hZ w5) (mvT (s := s.setVm vm) hZ w6) hK qa qc (g := mkF m pc L (argsL.reverse ++ .ref a :: rest)) rfl hml (Steps.refl _) (argsL := argsL) (rest := rest) hlen rfl (by show 2 * 0 + _ ≤ _; omega) hd (fun _ _ => ⟨rfl, eT, hc, hs⟩)
    dsimp only [Pt.U, Pt.locs, Pt.cells, Pt.slots] at X' l' y' z' st hq hS2 hgr hR
    subst l' y' z'
    obtain ⟨Y1, Y2, Y3, Y4⟩ := rebS hS (n1 := T.heap.size) (by rw [eT]; exact hk) X' hS2 hgr hZ hown
    exact (q v T'.vm T' T'.heap ⟨_, _, Y1, rfl, Y3, Y4, Y2, Nat.le_refl _, hC.trans hR, hF.app r1, r2, fun z => absurd z hmd, fun z => ⟨(h2 z).1.alikeC hS2.1.alike, (h2 z).2.alikeC hS2.1.alike⟩, a1, hE⟩ hq hR).to st
theorem St.callPN (S : St md p l e R s m args below meth c own Z EL vm T h cells slots) (hx : p.tables.exec = Jvm.exec) {index : Nat} {a : Addr} (w1 : (Cond.methodLink own index y).before a0 Z = true) (w6 : (Cond.instanceMethod y).before a0 Z = true) (w5 : (Cond.selects y.cls y y).before a0 Z = true) (w7 : (Cond.privateMethod y).before a0 Z = true) (w4 : (Cond.code y bytes maxL ret).before a0 Z = true) (hy : y.cls ≠ "java/lang/invoke/MethodHandle" ∧ y.cls ≠ "java/lang/invoke/VarHandle") {C : String} (E : Exa Z h a C) {k n : Nat} {QN : Option Value → Heap → List Loc → Prop} (hK : Back l R p e below (s.setVm vm) args y 3 W (PreN R as' h k n) (PostN QN k n)) (hQ : ∀ v h' Lc, QN v h' Lc → Fr Z.heap.size Lc ∧ Old Z Z.heap.size h' ∧ CHr Z EL vm h vm h') (hml : L.size = c.maxLocals) (argsL rest : List Value) (hlen : ∀ sig, parseMethodDescriptor y.desc = some sig → argsL.length = sig.parameters.length) (hst : K = argsL.reverse ++ .ref a :: rest) (has : (.ref a :: argsL).toArray = as') (hW : (rest.map fun v => v.category).sum ≤ W) (hd : decode c.code pc = .ok (.invokevirtual index, 3)) (hc : cells + k ≤ R.cells) (hs : slots + n ≤ R.slots) (p' : Nat) (hp : p' = pc + 3)
    (q : ∀ v T' h' Lc, St md p l e R s m args below meth c own Z EL vm T' h' (cells + k) (slots + n) → QN v h' Lc → CHr Z EL vm h vm h' → Goes p.tables e below P T' (mkF m p' L (v.toList ++ rest))) : Goes p.tables e below P T (mkF m pc L K) := by
  subst hp hst has
  obtain ⟨locs, k0, X, eT, hZ, hown, hS, hk, hC, hF, hO, h0, h2, hE⟩ := S
  obtain ⟨cq, qa, qb⟩ := E.cell
  obtain ⟨v, vm1, ⟨T', L', k', n'⟩, -, X', ⟨Lc, hq, l', y', z'⟩, st⟩ := X.privateBack hx hown (mvT (s := s.setVm vm) hZ w1) (mvT (s := s.setVm vm) hZ w6) (mvT (s := s.setVm vm) hZ w5) (Cond.privateMethod_at (mvP (s := s.setVm vm) hZ w7 (args := #[]))) (mvT (s := s.setVm vm) hZ w4) hy hK (g := mkF m pc L (argsL.reverse ++ .ref a :: rest)) rfl hml (Steps.refl _) (a := a) (by rw [eT]; exact qa) qb (argsL := argsL) (rest := rest) hlen rfl (by show 2 * 0 + _ ≤ _; omega) hd (fun _ _ => ⟨rfl, eT, hc, hs⟩)
  dsimp only [Pt.U, Pt.locs, Pt.cells, Pt.slots] at X' l' y' z' st hq
  subst l' y' z'
  obtain ⟨r1, r2, r3⟩ := hQ v _ Lc hq
  exact (q v T' T'.heap Lc ⟨_, k0, X', rfl, hZ, hown, hS, Nat.le_trans hk r3.2.1, hC.trans r3, hF.app r1, r2, h0, h2, hE⟩ hq r3).to st
theorem St.callP {sf : List Addr} (S : St md p l e R s m args below meth c own Z EL vm T h cells slots) (hx : p.tables.exec = Jvm.exec) {index : Nat} {a : Addr} (w1 : (Cond.methodLink own index y).before a0 Z = true) (w6 : (Cond.instanceMethod y).before a0 Z = true) (w5 : (Cond.selects y.cls y y).before a0 Z = true) (w7 : (Cond.privateMethod y).before a0 Z = true) (w4 : (Cond.code y bytes maxL ret).before a0 Z = true) (hy : y.cls ≠ "java/lang/invoke/MethodHandle" ∧ y.cls ≠ "java/lang/invoke/VarHandle") {C : String} (E : Exa Z h a C) (wz : (Cond.initialized y.cls).before a0 Z = true) (hM : Ct md l Z EL sf y bytes maxL ret rm as' h Q) (hsf : ∀ x ∈ sf, x < h.size ∧ Safe Z EL vm h x) (hf : rm.frames + 1 ≤ R.frames) (hl : W + (maxL + 11) + rm.locals ≤ R.locals) (hml : L.size = c.maxLocals) (argsL rest : List Value) (hlen : ∀ sig, parseMethodDescriptor y.desc = some sig → argsL.length = sig.parameters.length) (hst : K = argsL.reverse ++ .ref a :: rest) (has : (.ref a :: argsL).toArray = as') (hW : (rest.map fun v => v.category).sum ≤ W) (hd : decode c.code pc = .ok (.invokevirtual index, 3)) (hc : cells + rm.cells ≤ R.cells) (hs : slots + rm.slots ≤ R.slots) (p' : Nat) (hp : p' = pc + 3)
    (q : ∀ v vm' T' h', St md p l e R s m args below meth c own Z EL vm' T' h' (cells + rm.cells) (slots + rm.slots) → Q v h' → CHr Z EL vm h vm' h' → Goes p.tables e below P T' (mkF m p' L (v.toList ++ rest))) : Goes p.tables e below P T (mkF m pc L K) := by
  by_cases hmd : md = 0
  · subst hmd
    have hEL : EL = [] := by obtain ⟨_, _, -, -, -, -, -, -, -, -, -, h0, -⟩ := S; exact (h0 rfl).2
    subst hEL
    have hZ := S.warm
    exact St.callPN S hx w1 w6 w5 w7 w4 hy E (ctBack (s := s.setVm vm) hM hZ w4 wz hf hl) (fun v h' Lc r => ⟨r.2.1, r.2.2.1, chr_nil r.2.2.2⟩) hml argsL rest hlen hst has hW hd hc hs p' hp (fun v T' h' Lc S' r R' => q v vm T' h' S' r.1 R')
  · subst hp hst has
    obtain ⟨locs, k0, X, eT, hZ, hown, hS, hk, hC, hF, hO, h0, h2, a1, hE⟩ := S
    obtain ⟨cq, qa, qb⟩ := E.cell
    have hK := ctBackS (s := s) (R := R) (p := p) (e := e) (below := below) (args := args) (W := W) (len := 3) hmd hM hZ w4 wz hf hl hE.1 hC.1 h2 hsf
    obtain ⟨v, vm1, ⟨T', L', k', n'⟩, -, X', hS2, hgr, ⟨Lc, ⟨hq, r1, r2⟩, l', y', z', hR⟩, st⟩ := privateBackS X hx hown (mvT (s := s.setVm vm) hZ w1) (mvT (s := s.setVm vm) hZ w6) (mvT (s := s.setVm vm) hZ w5) (Cond.privateMethod_at (mvP (s := s.setVm vm) hZ w7 (args := #[]))) (mvT (s := s.setVm vm) hZ w4) hy hK (g := mkF m pc L (argsL.reverse ++ .ref a :: rest)) rfl hml (Steps.refl _) (a := a) (by rw [eT]; exact qa) qb (argsL := argsL) (rest := rest) hlen rfl (by show 2 * 0 + _ ≤ _; omega) hd (fun _ _ => ⟨rfl, eT, hc, hs⟩)
    dsimp only [Pt.U, Pt.locs, Pt.cells, Pt.slots] at X' l' y' z' st hq hS2 hgr hR
    subst l' y' z'
    obtain ⟨Y1, Y2, Y3, Y4⟩ := rebS hS (n1 := T.heap.size) (by rw [eT]; exact hk) X' hS2 hgr hZ hown
    exact (q v T'.vm T' T'.heap ⟨_, _, Y1, rfl, Y3, Y4, Y2, Nat.le_refl _, hC.trans hR, hF.app r1, r2, fun z => absurd z hmd, fun z => ⟨(h2 z).1.alikeC hS2.1.alike, (h2 z).2.alikeC hS2.1.alike⟩, a1, hE⟩ hq hR).to st
theorem St.callFN (S : St md p l e R s m args below meth c own Z EL vm T h cells slots) (hx : p.tables.exec = Jvm.exec) {index : Nat} {a : Addr} {C : String} {x : MethodName} {count : Nat} (w1 : (Cond.methodLink own index x).before a0 Z = true) (w2 : (Cond.declares x).before a0 Z = true) (w3 : (Cond.interfaceMethod x.cls x.cls x.name x.desc).before a0 Z = true) (w5 : (Cond.selects C x y).before a0 Z = true) (w6 : (Cond.instanceMethod y).before a0 Z = true) (w7 : (Cond.publicMethod y).before a0 Z = true) (w8 : (Cond.unhidden C x.name x.desc).before a0 Z = true) (w9 : (Cond.castable C x.cls).before a0 Z = true) (hy : x.cls ≠ "java/lang/invoke/MethodHandle" ∧ x.cls ≠ "java/lang/invoke/VarHandle") (E : Exa Z h a C) {k n : Nat} {QN : Option Value → Heap → List Loc → Prop} (hK : Back l R p e below (s.setVm vm) args y 5 W (PreN R as' h k n) (PostN QN k n)) (hQ : ∀ v h' Lc, QN v h' Lc → Fr Z.heap.size Lc ∧ Old Z Z.heap.size h' ∧ CHr Z EL vm h vm h') (hml : L.size = c.maxLocals) (argsL rest : List Value) (hlen : ∀ sig, parseMethodDescriptor x.desc = some sig → argsL.length = sig.parameters.length) (hst : K = argsL.reverse ++ .ref a :: rest) (has : (.ref a :: argsL).toArray = as') (hW : (rest.map fun v => v.category).sum ≤ W) (hd : decode c.code pc = .ok (.invokeinterface index count, 5)) (hc : cells + k ≤ R.cells) (hs : slots + n ≤ R.slots) (p' : Nat) (hp : p' = pc + 5)
    (q : ∀ v T' h' Lc, St md p l e R s m args below meth c own Z EL vm T' h' (cells + k) (slots + n) → QN v h' Lc → CHr Z EL vm h vm h' → Goes p.tables e below P T' (mkF m p' L (v.toList ++ rest))) : Goes p.tables e below P T (mkF m pc L K) := by
  subst hp hst has
  obtain ⟨locs, k0, X, eT, hZ, hown, hS, hk, hC, hF, hO, h0, h2, hE⟩ := S
  obtain ⟨cq, kq, qa, qb, qc⟩ := isOf (s := s.setVm vm) hZ eT E
  obtain ⟨v, vm1, ⟨T', L', k', n'⟩, -, X', ⟨Lc, hq, l', y', z'⟩, st⟩ := X.interfaceBack hx hown (mvT (s := s.setVm vm) hZ w1) (mvT (s := s.setVm vm) hZ w2) (mvT (s := s.setVm vm) hZ w3 (by simp [Cond.onTables, Cond.keepsFace, Cond.keeps, Cond.steady, Cond.faceAtom]; exact hy)) (mvT (s := s.setVm vm) hZ w5) (mvT (s := s.setVm vm) hZ w6) (mvT (s := s.setVm vm) hZ w7) (mvT (s := s.setVm vm) hZ w8) (mvT (s := s.setVm vm) hZ w9) hy hK qa qb qc (g := mkF m pc L (argsL.reverse ++ .ref a :: rest)) rfl hml (Steps.refl _) (argsL := argsL) (rest := rest) hlen rfl (by show 2 * 0 + _ ≤ _; omega) hd (fun _ _ => ⟨rfl, eT, hc, hs⟩)
  dsimp only [Pt.U, Pt.locs, Pt.cells, Pt.slots] at X' l' y' z' st hq
  subst l' y' z'
  obtain ⟨r1, r2, r3⟩ := hQ v _ Lc hq
  exact (q v T' T'.heap Lc ⟨_, k0, X', rfl, hZ, hown, hS, Nat.le_trans hk r3.2.1, hC.trans r3, hF.app r1, r2, h0, h2, hE⟩ hq r3).to st
theorem St.callF {sf : List Addr} (S : St md p l e R s m args below meth c own Z EL vm T h cells slots) (hx : p.tables.exec = Jvm.exec) {index : Nat} {a : Addr} {C : String} {x : MethodName} {count : Nat} (w1 : (Cond.methodLink own index x).before a0 Z = true) (w2 : (Cond.declares x).before a0 Z = true) (w3 : (Cond.interfaceMethod x.cls x.cls x.name x.desc).before a0 Z = true) (w5 : (Cond.selects C x y).before a0 Z = true) (w6 : (Cond.instanceMethod y).before a0 Z = true) (w7 : (Cond.publicMethod y).before a0 Z = true) (w8 : (Cond.unhidden C x.name x.desc).before a0 Z = true) (w9 : (Cond.castable C x.cls).before a0 Z = true) (hy : x.cls ≠ "java/lang/invoke/MethodHandle" ∧ x.cls ≠ "java/lang/invoke/VarHandle") (E : Exa Z h a C) (wc : (Cond.code y bytes maxL ret).before a0 Z = true) (wz : (Cond.initialized y.cls).before a0 Z = true) (hM : Ct md l Z EL sf y bytes maxL ret rm as' h Q) (hsf : ∀ x ∈ sf, x < h.size ∧ Safe Z EL vm h x) (hf : rm.frames + 1 ≤ R.frames) (hl : W + (maxL + 11) + rm.locals ≤ R.locals) (hml : L.size = c.maxLocals) (argsL rest : List Value) (hlen : ∀ sig, parseMethodDescriptor x.desc = some sig → argsL.length = sig.parameters.length) (hst : K = argsL.reverse ++ .ref a :: rest) (has : (.ref a :: argsL).toArray = as') (hW : (rest.map fun v => v.category).sum ≤ W) (hd : decode c.code pc = .ok (.invokeinterface index count, 5)) (hc : cells + rm.cells ≤ R.cells) (hs : slots + rm.slots ≤ R.slots) (p' : Nat) (hp : p' = pc + 5)
    (q : ∀ v vm' T' h', St md p l e R s m args below meth c own Z EL vm' T' h' (cells + rm.cells) (slots + rm.slots) → Q v h' → CHr Z EL vm h vm' h' → Goes p.tables e below P T' (mkF m p' L (v.toList ++ rest))) : Goes p.tables e below P T (mkF m pc L K) := by
  by_cases hmd : md = 0
  · subst hmd
    have hEL : EL = [] := by obtain ⟨_, _, -, -, -, -, -, -, -, -, -, h0, -⟩ := S; exact (h0 rfl).2
    subst hEL
    have hZ := S.warm
    exact St.callFN S hx w1 w2 w3 w5 w6 w7 w8 w9 hy E (ctBack (s := s.setVm vm) hM hZ wc wz hf hl) (fun v h' Lc r => ⟨r.2.1, r.2.2.1, chr_nil r.2.2.2⟩) hml argsL rest hlen hst has hW hd hc hs p' hp (fun v T' h' Lc S' r R' => q v vm T' h' S' r.1 R')
  · subst hp hst has
    obtain ⟨locs, k0, X, eT, hZ, hown, hS, hk, hC, hF, hO, h0, h2, a1, hE⟩ := S
    obtain ⟨cq, kq, qa, qb, qc⟩ := isOf (s := s.setVm vm) hZ eT E
    have hK := ctBackS (s := s) (R := R) (p := p) (e := e) (below := below) (args := args) (W := W) (len := 5) hmd hM hZ wc wz hf hl hE.1 hC.1 h2 hsf
    obtain ⟨v, vm1, ⟨T', L', k', n'⟩, -, X', hS2, hgr, ⟨Lc, ⟨hq, r1, r2⟩, l', y', z', hR⟩, st⟩ := X.interfaceBackS hx hown (mvT (s := s.setVm vm) hZ w1) (mvT (s := s.setVm vm) hZ w2) (mvT (s := s.setVm vm) hZ w3 (by simp [Cond.onTables, Cond.keepsFace, Cond.keeps, Cond.steady, Cond.faceAtom]; exact hy)) (mvT (s := s.setVm vm) hZ w5) (mvT (s := s.setVm vm) hZ w6) (mvT (s := s.setVm vm) hZ w7) (mvT (s := s.setVm vm) hZ w8) (mvT (s := s.setVm vm) hZ w9) hy hK qa qb qc (g := mkF m pc L (argsL.reverse ++ .ref a :: rest)) rfl hml (Steps.refl _) (argsL := argsL) (rest := rest) hlen rfl (by show 2 * 0 + _ ≤ _; omega) hd (fun _ _ => ⟨rfl, eT, hc, hs⟩)
    dsimp only [Pt.U, Pt.locs, Pt.cells, Pt.slots] at X' l' y' z' st hq hS2 hgr hR
    subst l' y' z'
    obtain ⟨Y1, Y2, Y3, Y4⟩ := rebS hS (n1 := T.heap.size) (by rw [eT]; exact hk) X' hS2 hgr hZ hown
    exact (q v T'.vm T' T'.heap ⟨_, _, Y1, rfl, Y3, Y4, Y2, Nat.le_refl _, hC.trans hR, hF.app r1, r2, fun z => absurd z hmd, fun z => ⟨(h2 z).1.alikeC hS2.1.alike, (h2 z).2.alikeC hS2.1.alike⟩, a1, hE⟩ hq hR).to st
/-- a String constant, whatever it says -/
theorem St.ldcO (S : St md p l e R s m args below meth c own Z EL vm T h cells slots) (hx : p.tables.exec = Jvm.exec) (hmd : md ≠ 0) {index : Nat} {text : String} (w : (Cond.stringLink own index text).before a0 Z = true) (wS : ∀ a ∈ Bundle.stringAtoms, a.before a0 Z = true) (hd : decode c.code pc = .ok (.ldc index, 2)) {n : Nat} (hn : 4 * text.toList.length ≤ n) (hbig : n ≤ 536870912) (hc : cells + 2 ≤ R.cells) (hl : slots + (n + 4) ≤ R.slots) (p' : Nat) (hp : p' = pc + 2)
    (q : ∀ vm' T' h' a, St md p l e R s m args below meth c own Z EL vm' T' h' (cells + 2) (slots + (n + 4)) → Ext h h' → CHr Z EL vm h vm' h' → Goes p.tables e below P T' (mkF m p' L (.ref a :: K))) : Goes p.tables e below P T (mkF m pc L K) := by
  subst hp
  obtain ⟨locs, k0, X, eT, hZ, hown, hS, hk, hC, hF, hO, h0, h2, a1, hE⟩ := S
  obtain ⟨a, T', h', k1, X', e', E', hS', hk', hZ', hown', hR, -, st⟩ := ldcOH X hx hZ hown w wS eT hS hk hE.1 hC.1 (g := mkF m pc L K) rfl hd hn hbig hc hl
  have hal : vm.Alike T'.vm := hZ.alike.symm.trans hZ'.alike
  exact (q T'.vm T' h' a ⟨locs, k1, X', e', hZ', hown', hS', hk', hC.trans hR, hF, hO.ext E', fun z => absurd z hmd, fun z => ⟨(h2 z).1.alikeC hal, (h2 z).2.alikeC hal⟩, a1, hE⟩ E' hR).via st
/-- a String constant of the list, read -/
theorem St.ldcC (S : St md p l e R s m args below meth c own Z EL vm T h cells slots) (hx : p.tables.exec = Jvm.exec) (hmd : md ≠ 0) {index : Nat} {text : String} (w : (Cond.stringLink own index text).before a0 Z = true) (wS : ∀ a ∈ Bundle.stringAtoms, a.before a0 Z = true) (hmem : (own, index) ∈ EL) {vs : List Value} {z : Int32} (ht : (∀ c ∈ text.toList, c.toNat < 256) ∧ text.toList.map (fun c => Value.int (Jvm.Lit.byteI c.toNat.toUInt16)) = vs) (hz : ¬ z < 0) (hzl : z.toNatClampNeg = vs.length)
    (hd : decode c.code pc = .ok (.ldc index, 2)) {n : Nat} (hn : 4 * text.toList.length ≤ n) (hbig : n ≤ 536870912) (hc : cells + 2 ≤ R.cells) (hl : slots + (n + 4) ≤ R.slots) (p' : Nat) (hp : p' = pc + 2)
    (q : ∀ vm' T' h' a b k, St md p l e R s m args below meth c own Z EL vm' T' h' (cells + 2) (slots + (n + 4)) → Ext h h' → CHr Z EL vm h vm' h' → Exa Z h' a "java/lang/String" → Fld Z h' a "java/lang/String" "coder" "B" (.int 0) → Fld Z h' a "java/lang/String" "value" "[B" (.ref b) → Arv Z h' b k .byte z vs (.int 0) → (∀ x, Safe Z EL vm' h' x → x ≠ a ∧ x ≠ b) → Goes p.tables e below P T' (mkF m p' L (.ref a :: K))) : Goes p.tables e below P T (mkF m pc L K) := by
  subst hp
  obtain ⟨locs, k0, X, eT, hZ, hown, hS, hk, hC, hF, hO, h0, h2, a1, hE⟩ := S
  obtain ⟨a, T', h', k1, b, k, X', e', E', hS', hk', hZ', hown', q1, q2, q3, q4, -, -, hR, -, hne, st⟩ := ldcCH X hx hZ hown w wS eT hS hk hE.1 hmem hC.1 ht hz hzl (g := mkF m pc L K) rfl hd hn hbig hc hl
  have hal : vm.Alike T'.vm := hZ.alike.symm.trans hZ'.alike
  exact (q T'.vm T' h' a b k ⟨locs, k1, X', e', hZ', hown', hS', hk', hC.trans hR, hF, hO.ext E', fun z => absurd z hmd, fun z => ⟨(h2 z).1.alikeC hal, (h2 z).2.alikeC hal⟩, a1, hE⟩ E' hR q1 q2 q3 q4 hne).via st
/-- the end of a body -/
theorem St.leave' (S : St md p l e R s m args below meth c own Z EL vm T h cells slots) (hlk : meth.locks = false) {v : Option Value} (hv : meth.sig.returnType = none → v = none) (hq : Q v h) (hc : cells ≤ R.cells) (hs : slots ≤ R.slots) {F : JFrame}
    (step : ∀ (locs : List Loc) (fs : List Frame), Stand p l e R (s.setVm vm) m args below meth c T locs cells slots → (∀ (f : JFrame) (acts : List Action), f.method = m → f.locked = none → f.entered = [] → (doReturn e (T.setTop f) acts v).1 = T.setFrames fs) → Steps p.tables e below (T.setTop F) (T.setFrames fs)) :
    Goes p.tables e below (Pof md Z EL s R Q) T F := by
  obtain ⟨locs, k0, X, eT, hZ, hown, hS, hk, hC, hF, hO, h0, h2, a1, hE⟩ := S
  have hR := CHv.at X hZ hE.1 hC.1
  by_cases hmd : md = 0
  · obtain ⟨rfl, rfl⟩ := h0 hmd
    obtain ⟨fs, hr, hrun, hended, hW, hsame⟩ := X.leave hv
    exact ⟨_, _, step locs fs X hr, hrun, hended, v, locs, rfl, ⟨by show Q v T.heap; rw [eT]; exact hq, hF, by show Old Z _ T.heap; rw [eT]; exact hO⟩, by show CHr Z _ _ _ T.vm T.heap; rw [eT]; exact hC.trans hR, fun _ => ⟨⟨_, rfl⟩, hW, hsame.mono hc hs⟩, fun q => absurd hmd q⟩
  · obtain ⟨fs, hr, hrun, hended, r1, r2, r3, r4⟩ := leaveW X hS (by rw [eT]; exact hk) hv hlk
    exact ⟨_, _, step locs fs X hr, hrun, hended, v, locs, rfl, ⟨by show Q v T.heap; rw [eT]; exact hq, hF, by show Old Z _ T.heap; rw [eT]; exact hO⟩, by show CHr Z _ _ _ T.vm T.heap; rw [eT]; exact hC.trans hR, fun q => absurd q hmd, fun _ => ⟨r1, r2, r3, r4.mono hc hs⟩⟩
theorem St.iret (S : St md p l e R s m args below meth c own Z EL vm T h cells slots) (hx : p.tables.exec = Jvm.exec) (hlk : meth.locks = false) {t : FieldType} {z : Int32} (hret : meth.sig.returnType = some t) (ht : t = .int ∨ t = .boolean ∨ t = .byte ∨ t = .char ∨ t = .short) (hn : narrow t (.int z) = .int z) (hd : decode c.code pc = .ok (.ireturn, 1)) (hq : Q (some (.int z)) h) (hc : cells ≤ R.cells) (hs : slots ≤ R.slots) : Goes p.tables e below (Pof md Z EL s R Q) T (mkF m pc L (.int z :: K)) :=
  S.leave' hlk (fun q => by rw [hret] at q; cases q) hq hc hs fun locs fs X hr => retOut X hx hret hn (Or.inl ⟨rfl, ht, z, rfl⟩) hd hr
theorem St.lret (S : St md p l e R s m args below meth c own Z EL vm T h cells slots) (hx : p.tables.exec = Jvm.exec) (hlk : meth.locks = false) {z : Int64} (hret : meth.sig.returnType = some .long) (hd : decode c.code pc = .ok (.lreturn, 1)) (hq : Q (some (.long z)) h) (hc : cells ≤ R.cells) (hs : slots ≤ R.slots) : Goes p.tables e below (Pof md Z EL s R Q) T (mkF m pc L (.long z :: K)) :=
  S.leave' hlk (fun q => by rw [hret] at q; cases q) hq hc hs fun locs fs X hr => retOut X hx hret rfl (Or.inr (Or.inl ⟨rfl, rfl, z, rfl⟩)) hd hr
theorem St.aret (S : St md p l e R s m args below meth c own Z EL vm T h cells slots) (hx : p.tables.exec = Jvm.exec) (hlk : meth.locks = false) {t : FieldType} {v : Value} (hret : meth.sig.returnType = some t) (ht : t.isReference = true) (hv : v.isRef = true) (hn : narrow t v = v) (hd : decode c.code pc = .ok (.areturn, 1)) (hq : Q (some v) h) (hc : cells ≤ R.cells) (hs : slots ≤ R.slots) : Goes p.tables e below (Pof md Z EL s R Q) T (mkF m pc L (v :: K)) :=
  S.leave' hlk (fun q => by rw [hret] at q; cases q) hq hc hs fun locs fs X hr => retOut X hx hret hn (Or.inr (Or.inr (Or.inr (Or.inr ⟨rfl, ht, hv⟩)))) hd hr
theorem St.vret (S : St md p l e R s m args below meth c own Z EL vm T h cells slots) (hx : p.tables.exec = Jvm.exec) (hlk : meth.locks = false) (hret : meth.sig.returnType = none) (hd : decode c.code pc = .ok (.return_, 1)) (hq : Q none h) (hc : cells ≤ R.cells) (hs : slots ≤ R.slots) : Goes p.tables e below (Pof md Z EL s R Q) T (mkF m pc L []) :=
  S.leave' hlk (fun _ => rfl) hq hc hs fun locs fs X hr => X.returnOut hx hret hd hr
end C

/-! part E: more steps -/
section E
variable {md : Nat} {p : Program} {l : Launch} {e : Env} {R : Room} {s : State} {m : MethodId} {args : Array Value} {below : List Frame} {meth : Method} {c : Code} {own : String} {Z : State} {EL : List (String × Nat)} {vm : Vm} {T : State} {h : Heap} {cells slots : Nat} {P : Outcome → State → Prop} {pc : Nat} {L : Array Slot} {K : List Value} {a0 : Array Value}
theorem St.initO (S : St md p l e R s m args below meth c own Z EL vm T h cells slots) (hx : p.tables.exec = Jvm.exec) {index : Nat} (w1 : (Cond.methodLink own index Lib.objectInit).before a0 Z = true) (w2 : (Cond.instanceMethod Lib.objectInit).before a0 Z = true) (w3 : (Cond.code Lib.objectInit ⟨#[0xb1]⟩ 1 none).before a0 Z = true) (hml : L.size = c.maxLocals) {a : Addr} {W : Nat} (hf : 1 ≤ R.frames) (hW : (K.map fun v => v.category).sum ≤ W) (hl : W + 12 ≤ R.locals) (hd : decode c.code pc = .ok (.invokespecial index, 3)) (p' : Nat) (hp : p' = pc + 3)
    (q : ∀ T', St md p l e R s m args below meth c own Z EL vm T' h cells slots → Goes p.tables e below P T' (mkF m p' L K)) : Goes p.tables e below P T (mkF m pc L (.ref a :: K)) := by
  subst hp
  obtain ⟨locs, k, X, eT, hZ, hown, r⟩ := S
  obtain ⟨T', X', e', st⟩ := RoadKit.initO X hx hZ hown w1 w2 w3 eT (g := mkF m pc L (.ref a :: K)) rfl hml rfl hd hf (W := W) (by show 2 * 0 + _ ≤ _; omega) hl
  exact (q T' ⟨locs, k, X', e', hZ, hown, r⟩).via st
theorem St.instNull (S : St md p l e R s m args below meth c own Z EL vm T h cells slots) (hx : p.tables.exec = Jvm.exec) {index : Nat} (hd : decode c.code pc = .ok (.instanceof index, 3)) (p' : Nat) (hp : p' = pc + 3)
    (q : Goes p.tables e below P T (mkF m p' L (.int 0 :: K))) : Goes p.tables e below P T (mkF m pc L (.null :: K)) := by
  subst hp
  obtain ⟨locs, k, X, eT, hZ, hown, r⟩ := S
  exact q.via fun t k => X.instanceofNull hx (g := mkF m pc L (.null :: K)) rfl rfl hd t k
theorem St.acmp (S : St md p l e R s m args below meth c own Z EL vm T h cells slots) (hx : p.tables.exec = Jvm.exec) {cd : ACond} {x y : Value} {o : Int} (hd : decode c.code pc = .ok (.if_acmp cd o, 3)) (h1 : x.isRef = true) (h2 : y.isRef = true) (same : Bool) (hq : decide (x = y) = same) (ho : 0 ≤ (pc : Int) + o) (p' : Nat) (hp : p' = if acV cd same = true then ((pc : Int) + o).toNat else pc + 3)
    (q : Goes p.tables e below P T (mkF m p' L K)) : Goes p.tables e below P T (mkF m pc L (y :: x :: K)) := by
  obtain ⟨locs, k, X, eT, hZ, hown, r⟩ := S
  exact q.via fun t k => RoadKit.acmp X hx (g := mkF m pc L (y :: x :: K)) rfl h1 h2 rfl hd rfl hq ho hp k
theorem Arv.at' {a : Addr} {k : ClassId} {ty : FieldType} {z j : Int32} {vs : List Value} {dv v : Value} (A : Arv Z h a k ty z vs dv) (hj : ¬ j < 0 ∧ j < z) (hv : vs.getD j.toNatClampNeg dv = v) : ∃ cl : Cell, Arr Z h a cl ty ∧ ¬ (j < 0 ∨ cl.slots.size ≤ j.toNatClampNeg) ∧ cl.slots[j.toNatClampNeg]? = some v := by
  obtain ⟨cl, A1, A2, A3, A4, A5, A6⟩ := A
  exact ⟨cl, A1, inb_of A3 hj, A5.at (inb_of A3 hj) hv⟩
theorem St.aald (S : St md p l e R s m args below meth c own Z EL vm T h cells slots) (hx : p.tables.exec = Jvm.exec) {a : Addr} {k : ClassId} {ty : FieldType} {z j : Int32} {vs : List Value} {dv v : Value} (A : Arv Z h a k ty z vs dv) (hty : ty.isReference = true) (hj : ¬ j < 0 ∧ j < z) (hv : vs.getD j.toNatClampNeg dv = v) (hd : decode c.code pc = .ok (.aaload, 1)) (p' : Nat) (hp : p' = pc + 1)
    (q : Goes p.tables e below P T (mkF m p' L (v :: K))) : Goes p.tables e below P T (mkF m pc L (.int j :: .ref a :: K)) := by
  subst hp
  obtain ⟨locs, kk, X, eT, hZ, hown, r⟩ := S
  obtain ⟨cl, A1, A2, A3⟩ := Arv.at' A hj hv
  exact q.via fun t k => X.aaload hx (j := j) (v := v) (by rw [eT]; exact A1.1) (State.isArrayOf_alike (T := s.setVm vm) hZ.alike A1.2.1) hty A1.2.2 A2 A3 (g := mkF m pc L (.int j :: .ref a :: K)) rfl rfl hd t k
theorem St.cald (S : St md p l e R s m args below meth c own Z EL vm T h cells slots) (hx : p.tables.exec = Jvm.exec) {a : Addr} {k : ClassId} {z j : Int32} {vs : List Value} {dv v : Value} (A : Arv Z h a k .char z vs dv) (hj : ¬ j < 0 ∧ j < z) (hv : vs.getD j.toNatClampNeg dv = v) (hd : decode c.code pc = .ok (.caload, 1)) (p' : Nat) (hp : p' = pc + 1)
    (q : Goes p.tables e below P T (mkF m p' L (v :: K))) : Goes p.tables e below P T (mkF m pc L (.int j :: .ref a :: K)) := by
  subst hp
  obtain ⟨locs, kk, X, eT, hZ, hown, r⟩ := S
  obtain ⟨cl, A1, A2, A3⟩ := Arv.at' A hj hv
  exact q.via fun t k => X.caload hx (j := j) (v := v) (by rw [eT]; exact A1.1) (State.isArrayOf_alike (T := s.setVm vm) hZ.alike A1.2.1) A1.2.2 A2 A3 (g := mkF m pc L (.int j :: .ref a :: K)) rfl rfl hd t k
theorem St.bald (S : St md p l e R s m args below meth c own Z EL vm T h cells slots) (hx : p.tables.exec = Jvm.exec) {a : Addr} {k : ClassId} {z j : Int32} {vs : List Value} {dv v : Value} (A : Arv Z h a k .byte z vs dv) (hj : ¬ j < 0 ∧ j < z) (hv : vs.getD j.toNatClampNeg dv = v) (hd : decode c.code pc = .ok (.baload, 1)) (p' : Nat) (hp : p' = pc + 1)
    (q : Goes p.tables e below P T (mkF m p' L (v :: K))) : Goes p.tables e below P T (mkF m pc L (.int j :: .ref a :: K)) := by
  subst hp
  obtain ⟨locs, kk, X, eT, hZ, hown, r⟩ := S
  obtain ⟨cl, A1, A2, A3⟩ := Arv.at' A hj hv
  exact q.via fun t k => X.baloadBytes hx (j := j) (v := v) (by rw [eT]; exact A1.1) (State.isArrayOf_alike (T := s.setVm vm) hZ.alike A1.2.1) A1.2.2 A2 A3 (g := mkF m pc L (.int j :: .ref a :: K)) rfl rfl hd t k
theorem St.clone (S : St md p l e R s m args below meth c own Z EL vm T h cells slots) (hx : p.tables.exec = Jvm.exec) {ad : String} {index : Nat} (w1 : (Cond.methodLink own index ⟨ad, "clone", "()Ljava/lang/Object;"⟩).before a0 Z = true) (w2 : (Cond.sameMethod ad "java/lang/Object" "clone" "()Ljava/lang/Object;").before a0 Z = true) (w3 : (Cond.native ⟨"java/lang/Object", "clone", "()Ljava/lang/Object;"⟩).before a0 Z = true)
    (w4 : (Cond.instanceMethod ⟨"java/lang/Object", "clone", "()Ljava/lang/Object;"⟩).before a0 Z = true) (w5 : (Cond.selects ad ⟨ad, "clone", "()Ljava/lang/Object;"⟩ ⟨"java/lang/Object", "clone", "()Ljava/lang/Object;"⟩).before a0 Z = true) (w6 : (Cond.castable ad "java/lang/Cloneable").before a0 Z = true)
    {a : Addr} {k : ClassId} {ty : FieldType} {z : Int32} {vs : List Value} {dv : Value} (F : Arv Z h a k ty z vs dv) (E : Exa Z h a ad) (hml : L.size = c.maxLocals) {W cap : Nat} (hf : 1 ≤ R.frames) (hW : (K.map fun v => v.category).sum ≤ W) (hl : W + 14 ≤ R.locals) (hcap : z.toNatClampNeg ≤ cap) (hc : cells + 1 ≤ R.cells) (hsl : slots + cap ≤ R.slots) (hd : decode c.code pc = .ok (.invokevirtual index, 3)) (p' : Nat) (hp : p' = pc + 3)
    (q : ∀ T' h' b, St md p l e R s m args below meth c own Z EL vm T' h' (cells + 1) (slots + cap) → b = h.size → Ext h h' → Arv Z h' b k ty z vs dv → Exa Z h' b ad → Goes p.tables e below P T' (mkF m p' L (.ref b :: K))) : Goes p.tables e below P T (mkF m pc L (.ref a :: K)) := by
  subst hp
  obtain ⟨locs, k0, X, eT, hZ, hown, hS, hk, hC, hF, hO, h0, h2, hE⟩ := S
  obtain ⟨T', h', X', e', E', A', B', st⟩ := cloneH X hx hZ hown w1 w2 w3 w4 w5 w6 eT F.arh E (g := mkF m pc L (.ref a :: K)) rfl hml rfl hd hf (W := W) (by show 2 * 0 + _ ≤ _; omega) hl hcap hc hsl
  exact (q T' h' h.size ⟨locs, k0, X', e', hZ, hown, hS, Nat.le_trans hk E'.1, hC.trans (CHr.ext E' hC.1), hF, hO.ext E', h0, h2, hE⟩ rfl E' A' B').via st
/-- anewarray of a class -/
theorem St.newR (S : St md p l e R s m args below meth c own Z EL vm T h cells slots) (hx : p.tables.exec = Jvm.exec) {C : String} {index : Nat} (w1 : (Cond.classLink own index C).before a0 Z = true) (w2 : (Cond.arrayOver (.object C)).before a0 Z = true) {n : Int32} (hn : ¬ n < 0) {cap : Nat} (hcap : n.toNatClampNeg ≤ cap) (hb : cap * 8 ≤ 536870912) (hd : decode c.code pc = .ok (.anewarray index, 3)) (hc : cells + 1 ≤ R.cells) (hl : slots + cap ≤ R.slots) (p' : Nat) (hp : p' = pc + 3)
    (q : ∀ T' h' a k, St md p l e R s m args below meth c own Z EL vm T' h' (cells + 1) (slots + cap) → a = h.size → Ext h h' → Arv Z h' a k (.object C) n (List.replicate cap .null) .null → Ovr Z k C → CHr Z EL vm h vm h' → Goes p.tables e below P T' (mkF m p' L (.ref a :: K))) : Goes p.tables e below P T (mkF m pc L (.int n :: K)) := by
  subst hp
  obtain ⟨locs, k, X, eT, hZ, hown, hS, hk, hC, hF, hO, h0, h2, hE⟩ := S
  obtain ⟨T', h', cA, X', e', E', A', O', st⟩ := RoadKit.newR X hx hZ hown w1 w2 eT (g := mkF m pc L (.int n :: K)) rfl hd rfl hn hcap hb hc hl
  exact (q T' h' h.size cA ⟨locs, k, X', e', hZ, hown, hS, Nat.le_trans hk E'.1, hC.trans (CHr.ext E' hC.1), hF, hO.ext E', h0, h2, hE⟩ rfl E' ((Arv.new A' hn).pad (pad_rep [] _ cap)) O' (CHr.ext E' hC.1)).via st
/-- aastore -/
theorem St.stR (S : St md p l e R s m args below meth c own Z EL vm T h cells slots) (hx : p.tables.exec = Jvm.exec) {a : Addr} {k : ClassId} {ty : FieldType} {z j : Int32} {vs : List Value} {dv v : Value} (A : Arv Z h a k ty z vs dv) (hty : ty.isReference = true) (hf : fits ty v = true) (i : Nat) (hj : ¬ j < 0 ∧ j < z) (hi : j.toNatClampNeg = i) (hv : i < vs.length) (ga : Z.heap.size ≤ a) (F : Sto Z h a v) (sf : Safe Z EL vm h a) (hd : decode c.code pc = .ok (.aastore, 1)) (p' : Nat) (hp : p' = pc + 1)
    (q : ∀ T' h', St md p l e R s m args below meth c own Z EL vm T' h' cells slots → Wr h h' a i v → Arv Z h' a k ty z (vs.set i v) dv → CHr Z EL vm h vm h' → Goes p.tables e below P T' (mkF m p' L K)) : Goes p.tables e below P T (mkF m pc L (v :: .int j :: .ref a :: K)) := by
  subst hp
  obtain ⟨locs, kk, X, eT, hZ, hown, hS, hk, hC, hF, hO, h0, h2, hE⟩ := S
  obtain ⟨cl, A1, A2, A3, A4, A5, A6⟩ := A
  obtain ⟨T', h', X', e', W', st⟩ := RoadKit.stR X hx hZ eT A1 (j := j) (inb_of A3 hj) hty F (g := mkF m pc L (v :: .int j :: .ref a :: K)) rfl rfl hd
  have hR := CHr.wr W' sf hC.1
  exact (q T' h' ⟨_, kk, X', e', hZ, hown, hS, Nat.le_trans hk hR.2.1, hC.trans hR, Fr.snoc X' hF ga, hO.wr W' ga, h0, h2, hE⟩ (by rw [← hi]; exact W') (Arv.set A1 A2 A3 A4 A5 A6 hf W' i hi hv) hR).via st
/-- bastore into a byte[] -/
theorem St.stB (S : St md p l e R s m args below meth c own Z EL vm T h cells slots) (hx : p.tables.exec = Jvm.exec) {a : Addr} {k : ClassId} {z j x : Int32} {vs : List Value} {dv : Value} (A : Arv Z h a k .byte z vs dv) (i : Nat) (hj : ¬ j < 0 ∧ j < z) (hi : j.toNatClampNeg = i) (hv : i < vs.length) (ga : Z.heap.size ≤ a) (sf : Safe Z EL vm h a) (hd : decode c.code pc = .ok (.bastore, 1)) (p' : Nat) (hp : p' = pc + 1)
    (q : ∀ T' h', St md p l e R s m args below meth c own Z EL vm T' h' cells slots → Wr h h' a i (.int x.toInt8.toInt32) → Arv Z h' a k .byte z (vs.set i (.int x.toInt8.toInt32)) dv → CHr Z EL vm h vm h' → Goes p.tables e below P T' (mkF m p' L K)) : Goes p.tables e below P T (mkF m pc L (.int x :: .int j :: .ref a :: K)) := by
  subst hp
  obtain ⟨locs, kk, X, eT, hZ, hown, hS, hk, hC, hF, hO, h0, h2, hE⟩ := S
  obtain ⟨cl, A1, A2, A3, A4, A5, A6⟩ := A
  obtain ⟨T', h', X', e', W', st⟩ := RoadKit.stB X hx hZ eT A1 (j := j) (inb_of A3 hj) (g := mkF m pc L (.int x :: .int j :: .ref a :: K)) rfl rfl hd
  have hR := CHr.wr W' sf hC.1
  exact (q T' h' ⟨_, kk, X', e', hZ, hown, hS, Nat.le_trans hk hR.2.1, hC.trans hR, Fr.snoc X' hF ga, hO.wr W' ga, h0, h2, hE⟩ (by rw [← hi]; exact W') (Arv.set A1 A2 A3 A4 A5 A6 (fits_nar_byte x) W' i hi hv) hR).via st
/-- super(message) of a Throwable's subclass, the stack trace filled in -/
theorem St.exc1 (S : St 2 p l e R s m args below meth c own Z EL vm T h cells slots) (hx : p.tables.exec = Jvm.exec) (hl : l.stackTraces = true) {rc : String} {links : List Free.Exc.Link} {ic n : Nat} (hok : Free.Exc.linksOk 1 links = true) (w1 : (Cond.methodLink own ic (Free.Exc.ctor 1 (Free.Exc.headName links))).before a0 Z = true) (w2 : (Cond.instanceMethod (Free.Exc.ctor 1 (Free.Exc.headName links))).before a0 Z = true) (wT : (Free.Exc.chainTab 1 rc links).before a0 Z = true) (wi : (Cond.instantiable rc n).before a0 Z = true) (r : ∀ d ∈ twoRefs, d.before a0 Z = true)
    {a : Addr} (E : Exa Z h a rc) (N : Unt h a) (B : Fld Z h a "java/lang/Throwable" "backtrace" "Ljava/lang/Object;" .null) (B2 : Fld Z h a "java/lang/Throwable" "detailMessage" "Ljava/lang/String;" .null) {msg : Value} (hmsg : msg.isRef = true) (sf : Safe Z EL vm h a) (ga : Z.heap.size ≤ a) (hml : L.size = c.maxLocals) (hd : decode c.code pc = .ok (.invokespecial ic, 3))
    (hf : 4 + links.length ≤ R.frames) (hlo : (K.map fun v => v.category).sum + (56 + 14 * links.length) ≤ R.locals) (hc : cells + 1 ≤ R.cells) (hsl : slots + 2752 ≤ R.slots) (p' : Nat) (hp : p' = pc + 3)
    (q : ∀ T' h', St 2 p l e R s m args below meth c own Z EL vm T' h' (cells + 1) (slots + 2752) → Kp Z h h' a → Exa Z h' a rc → Fld Z h' a "java/lang/Throwable" "detailMessage" "Ljava/lang/String;" msg → CHr Z EL vm h vm h' → Goes p.tables e below P T' (mkF m p' L K)) : Goes p.tables e below P T (mkF m pc L (msg :: .ref a :: K)) := by
  subst hp
  obtain ⟨locs, k0, X, eT, hZ, hown, hS, hk, hC, hF, hO, h0, h2, a1, hE, hOs⟩ := S
  have hT0 : ThS Z (s.setVm vm).heap := ThS.start.ext hOs.2
  obtain ⟨T', h', X', e', K', E', -, M', -, -, st⟩ := excL1 X hx hl hZ hown hok w1 w2 wT wi r hT0 (ThS.start.ext hO.2) (h2 rfl).1 (h2 rfl).2 eT E N B B2 hmsg (g := mkF m pc L (msg :: .ref a :: K)) rfl hml rfl hd hf (by show 2 * 0 + _ + _ ≤ _; omega) hc hsl
  have hKe := keep_of_kp K'
  have hR : CHr Z EL vm h vm h' := CHr.keep hKe (fun x hx => by cases List.mem_singleton.mp hx; exact sf) hC.1
  exact (q T' h' ⟨_, k0, X', e', hZ, hown, hS, Nat.le_trans hk hR.2.1, hC.trans hR, Fr.six hF ga, hO.keep hKe (fun x hx => by cases List.mem_singleton.mp hx; exact ga), h0, h2, a1, hE, hOs⟩ K' E' M' hR).via st
theorem St.more (S : St md p l e R s m args below meth c own Z EL vm T h cells slots) {k n : Nat} (h1 : cells ≤ k) (h2 : slots ≤ n) : St md p l e R s m args below meth c own Z EL vm T h k n := by
  obtain ⟨locs, k0, X, r⟩ := S
  exact ⟨locs, k0, X.more h1 h2, r⟩
end E

end Jvm.Own

namespace Jvm.Pilot.@@N@@
open Jvm Jvm.ClassFile Sem Op Lib Jvm.Free Jvm.Stand Jvm.LawKit Jvm.RoadKit Jvm.Own Bundle Jvm.Pilot.@@N@@.Jvm.D
theorem own_q0 {Z : State} {a0 : Array Value} (hw : ∀ d ∈ tables_1, d.before a0 Z = true) : (Jvm.Cond.constantLong "com/example/binwright/binwright/CheapestFillCompareRatesPinLaw" (7 : Nat) (4294967295 : Int64)).before a0 Z = true := hw _ (List.mem_of_getElem? (i := 0) rfl)
theorem own_q1 {Z : State} {a0 : Array Value} (hw : ∀ d ∈ tables_1, d.before a0 Z = true) : (Jvm.Cond.constantLong "com/example/binwright/binwright/CheapestFillCompareRatesPinLaw" (9 : Nat) (2147483647 : Int64)).before a0 Z = true := hw _ (List.mem_of_getElem? (i := 1) rfl)
theorem own_q2 {Z : State} {a0 : Array Value} (hw : ∀ d ∈ tables_1, d.before a0 Z = true) : (Jvm.Cond.methodLink "com/example/binwright/binwright/CheapestFillCompareRatesPinLaw" (17 : Nat) ({ cls := "com/example/binwright/binwright/CheapestFill", name := "compareRates", desc := "(JJJJ)I" } : Jvm.MethodName)).before a0 Z = true := hw _ (List.mem_of_getElem? (i := 2) rfl)
theorem own_q3 {Z : State} {a0 : Array Value} (hw : ∀ d ∈ tables_1, d.before a0 Z = true) : (Jvm.Cond.static ({ cls := "com/example/binwright/binwright/CheapestFill", name := "compareRates", desc := "(JJJJ)I" } : Jvm.MethodName)).before a0 Z = true := hw _ (List.mem_of_getElem? (i := 3) rfl)
theorem own_q4 {Z : State} {a0 : Array Value} (hw : ∀ d ∈ tables_1, d.before a0 Z = true) : (Jvm.Cond.initialized "com/example/binwright/binwright/CheapestFill").before a0 Z = true := hw _ (List.mem_of_getElem? (i := 4) rfl)
theorem own_q5 {Z : State} {a0 : Array Value} (hw : ∀ d ∈ tables_1, d.before a0 Z = true) : (Jvm.Cond.code ({ cls := "com/example/binwright/binwright/CheapestFill", name := "compareRates", desc := "(JJJJ)I" } : Jvm.MethodName) prog_3_method_4_code (12 : Nat) (Option.some Jvm.ClassFile.FieldType.int)).before a0 Z = true := hw _ (List.mem_of_getElem? (i := 5) rfl)
theorem own_q6 {Z : State} {a0 : Array Value} (hw : ∀ d ∈ tables_1, d.before a0 Z = true) : (Jvm.Cond.methodLink "com/example/binwright/binwright/CheapestFill" (61 : Nat) ({ cls := "java/lang/Math", name := "multiplyHigh", desc := "(JJ)J" } : Jvm.MethodName)).before a0 Z = true := hw _ (List.mem_of_getElem? (i := 6) rfl)
theorem own_q7 {Z : State} {a0 : Array Value} (hw : ∀ d ∈ tables_1, d.before a0 Z = true) : (Jvm.Cond.static ({ cls := "java/lang/Math", name := "multiplyHigh", desc := "(JJ)J" } : Jvm.MethodName)).before a0 Z = true := hw _ (List.mem_of_getElem? (i := 7) rfl)
theorem own_q8 {Z : State} {a0 : Array Value} (hw : ∀ d ∈ tables_1, d.before a0 Z = true) : (Jvm.Cond.initialized "java/lang/Math").before a0 Z = true := hw _ (List.mem_of_getElem? (i := 8) rfl)
theorem own_q9 {Z : State} {a0 : Array Value} (hw : ∀ d ∈ tables_1, d.before a0 Z = true) : (Jvm.Cond.code ({ cls := "java/lang/Math", name := "multiplyHigh", desc := "(JJ)J" } : Jvm.MethodName) jdk_29_method_45_code (20 : Nat) (Option.some Jvm.ClassFile.FieldType.long)).before a0 Z = true := hw _ (List.mem_of_getElem? (i := 9) rfl)
theorem own_q10 {Z : State} {a0 : Array Value} (hw : ∀ d ∈ tables_1, d.before a0 Z = true) : (Jvm.Cond.constantLong "java/lang/Math" (138 : Nat) (4294967295 : Int64)).before a0 Z = true := hw _ (List.mem_of_getElem? (i := 10) rfl)
theorem own_q11 {Z : State} {a0 : Array Value} (hw : ∀ d ∈ tables_1, d.before a0 Z = true) : (Jvm.Cond.methodLink "com/example/binwright/binwright/CheapestFill" (72 : Nat) ({ cls := "java/lang/Long", name := "compareUnsigned", desc := "(JJ)I" } : Jvm.MethodName)).before a0 Z = true := hw _ (List.mem_of_getElem? (i := 11) rfl)
theorem own_q12 {Z : State} {a0 : Array Value} (hw : ∀ d ∈ tables_1, d.before a0 Z = true) : (Jvm.Cond.static ({ cls := "java/lang/Long", name := "compareUnsigned", desc := "(JJ)I" } : Jvm.MethodName)).before a0 Z = true := hw _ (List.mem_of_getElem? (i := 12) rfl)
theorem own_q13 {Z : State} {a0 : Array Value} (hw : ∀ d ∈ tables_1, d.before a0 Z = true) : (Jvm.Cond.initialized "java/lang/Long").before a0 Z = true := hw _ (List.mem_of_getElem? (i := 13) rfl)
theorem own_q14 {Z : State} {a0 : Array Value} (hw : ∀ d ∈ tables_1, d.before a0 Z = true) : (Jvm.Cond.code ({ cls := "java/lang/Long", name := "compareUnsigned", desc := "(JJ)I" } : Jvm.MethodName) jdk_35_method_43_code (4 : Nat) (Option.some Jvm.ClassFile.FieldType.int)).before a0 Z = true := hw _ (List.mem_of_getElem? (i := 14) rfl)
theorem own_q15 {Z : State} {a0 : Array Value} (hw : ∀ d ∈ tables_1, d.before a0 Z = true) : (Jvm.Cond.constantLong "java/lang/Long" (168 : Nat) (-9223372036854775808 : Int64)).before a0 Z = true := hw _ (List.mem_of_getElem? (i := 15) rfl)
theorem own_q16 {Z : State} {a0 : Array Value} (hw : ∀ d ∈ tables_1, d.before a0 Z = true) : (Jvm.Cond.methodLink "java/lang/Long" (302 : Nat) ({ cls := "java/lang/Long", name := "compare", desc := "(JJ)I" } : Jvm.MethodName)).before a0 Z = true := hw _ (List.mem_of_getElem? (i := 16) rfl)
theorem own_q17 {Z : State} {a0 : Array Value} (hw : ∀ d ∈ tables_1, d.before a0 Z = true) : (Jvm.Cond.static ({ cls := "java/lang/Long", name := "compare", desc := "(JJ)I" } : Jvm.MethodName)).before a0 Z = true := hw _ (List.mem_of_getElem? (i := 17) rfl)
theorem own_q18 {Z : State} {a0 : Array Value} (hw : ∀ d ∈ tables_1, d.before a0 Z = true) : (Jvm.Cond.code ({ cls := "java/lang/Long", name := "compare", desc := "(JJ)I" } : Jvm.MethodName) jdk_35_method_42_code (4 : Nat) (Option.some Jvm.ClassFile.FieldType.int)).before a0 Z = true := hw _ (List.mem_of_getElem? (i := 18) rfl)
theorem own_q19 {Z : State} {a0 : Array Value} (hw : ∀ d ∈ tables_1, d.before a0 Z = true) : (Jvm.Cond.methodLink "com/example/binwright/binwright/CheapestFillCompareRatesPinLaw" (11 : Nat) ({ cls := "com/example/binwright/binwright/CheapestFillCompareRatesPinLaw", name := "sign", desc := "(J)I" } : Jvm.MethodName)).before a0 Z = true := hw _ (List.mem_of_getElem? (i := 19) rfl)
theorem own_q20 {Z : State} {a0 : Array Value} (hw : ∀ d ∈ tables_1, d.before a0 Z = true) : (Jvm.Cond.static ({ cls := "com/example/binwright/binwright/CheapestFillCompareRatesPinLaw", name := "sign", desc := "(J)I" } : Jvm.MethodName)).before a0 Z = true := hw _ (List.mem_of_getElem? (i := 20) rfl)
theorem own_q21 {Z : State} {a0 : Array Value} (hw : ∀ d ∈ tables_1, d.before a0 Z = true) : (Jvm.Cond.initialized "com/example/binwright/binwright/CheapestFillCompareRatesPinLaw").before a0 Z = true := hw _ (List.mem_of_getElem? (i := 21) rfl)
theorem own_q22 {Z : State} {a0 : Array Value} (hw : ∀ d ∈ tables_1, d.before a0 Z = true) : (Jvm.Cond.code ({ cls := "com/example/binwright/binwright/CheapestFillCompareRatesPinLaw", name := "sign", desc := "(J)I" } : Jvm.MethodName) method_2_code (2 : Nat) (Option.some Jvm.ClassFile.FieldType.int)).before a0 Z = true := hw _ (List.mem_of_getElem? (i := 22) rfl)
theorem own_q23 {Z : State} {a0 : Array Value} (hw : ∀ d ∈ tables_1, d.before a0 Z = true) : (Jvm.Cond.methodLink "com/example/binwright/binwright/CheapestFill" (67 : Nat) ({ cls := "java/lang/Long", name := "compare", desc := "(JJ)I" } : Jvm.MethodName)).before a0 Z = true := hw _ (List.mem_of_getElem? (i := 23) rfl)

theorem own_mulb {a b A B : Int} (h1 : -A ≤ a) (h2 : a ≤ A) (h3 : 0 ≤ b) (h4 : b ≤ B) : -(A*B) ≤ a*b ∧ a*b ≤ A*B := by
  have hA : 0 ≤ A := by omega
  have h5 : a*b ≤ A*b := Int.mul_le_mul_of_nonneg_right h2 h3
  have h6 : A*b ≤ A*B := Int.mul_le_mul_of_nonneg_left h4 hA
  have h7 : (-A)*b ≤ a*b := Int.mul_le_mul_of_nonneg_right h1 h3
  have h8 : (-A)*b = -(A*b) := Int.neg_mul ..
  constructor <;> omega
theorem own_mulc {a b A A' B : Int} (h1 : -A ≤ a) (h2 : a ≤ A') (h0 : 0 ≤ A) (h0' : 0 ≤ A') (h3 : 0 ≤ b) (h4 : b ≤ B) : -(A*B) ≤ a*b ∧ a*b ≤ A'*B := by
  have h5 : a*b ≤ A'*b := Int.mul_le_mul_of_nonneg_right h2 h3
  have h6 : A'*b ≤ A'*B := Int.mul_le_mul_of_nonneg_left h4 h0'
  have h6' : A*b ≤ A*B := Int.mul_le_mul_of_nonneg_left h4 h0
  have h7 : (-A)*b ≤ a*b := Int.mul_le_mul_of_nonneg_right h1 h3
  have h8 : (-A)*b = -(A*b) := Int.neg_mul ..
  constructor <;> omega
theorem own_expand (x1 x2 y1 y2 : Int) : (x1 * 4294967296 + x2) * (y1 * 4294967296 + y2) = 18446744073709551616 * (x1*y1) + 4294967296 * (x1*y2 + x2*y1) + x2*y2 := by
  grind
theorem own_hi (x y : Int) : x * y / 18446744073709551616 = (x/4294967296)*(y/4294967296) + ((x/4294967296)*(y%4294967296) + (x%4294967296)*(y%4294967296)/4294967296)/4294967296
   + ((((x/4294967296)*(y%4294967296) + (x%4294967296)*(y%4294967296)/4294967296) % 4294967296) + (x%4294967296)*(y/4294967296))/4294967296 := by
  have e := own_expand (x/4294967296) (x%4294967296) (y/4294967296) (y%4294967296)
  have ex : x/4294967296 * 4294967296 + x%4294967296 = x := by omega
  have ey : y/4294967296 * 4294967296 + y%4294967296 = y := by omega
  rw [ex, ey] at e
  generalize x/4294967296*(y/4294967296) = A at *
  generalize x/4294967296*(y%4294967296) = B at *
  generalize x%4294967296*(y/4294967296) = C at *
  generalize x%4294967296*(y%4294967296) = D at *
  omega

def own_mh (q1 q2 : Int64) : Int64 := ((((q1 >>> ((32 : Int32) &&& 0x3f).toInt64) * (q2 >>> ((32 : Int32) &&& 0x3f).toInt64)) + ((((q1 >>> ((32 : Int32) &&& 0x3f).toInt64) * (q2 &&& (4294967295 : Int64))) + ((((q1 &&& (4294967295 : Int64)) * (q2 &&& (4294967295 : Int64))).toUInt64 >>> ((32 : Int32) &&& 0x3f).toInt64.toUInt64).toInt64)) >>> ((32 : Int32) &&& 0x3f).toInt64)) + ((((((q1 >>> ((32 : Int32) &&& 0x3f).toInt64) * (q2 &&& (4294967295 : Int64))) + ((((q1 &&& (4294967295 : Int64)) * (q2 &&& (4294967295 : Int64))).toUInt64 >>> ((32 : Int32) &&& 0x3f).toInt64.toUInt64).toInt64)) &&& (4294967295 : Int64)) + ((q1 &&& (4294967295 : Int64)) * (q2 >>> ((32 : Int32) &&& 0x3f).toInt64))) >>> ((32 : Int32) &&& 0x3f).toInt64))

theorem own_mh_eq (q1 q2 : Int64) : (own_mh q1 q2).toInt = q1.toInt * q2.toInt / 18446744073709551616 := by
  rw [own_hi]
  have r1 := rng64 q1
  have r2 := rng64 q2
  unfold own_mh
  have a1 := c_lshr q1 32 32 (by decide)
  have a2 := c_lshr q2 32 32 (by decide)
  have b1 := c_maskL q1 4294967295 32 (by decide) (by decide)
  have b2 := c_maskL q2 4294967295 32 (by decide) (by decide)
  generalize q1 >>> ((32 : Int32) &&& 0x3f).toInt64 = x1 at *
  generalize q2 >>> ((32 : Int32) &&& 0x3f).toInt64 = y1 at *
  generalize q1 &&& (4294967295 : Int64) = x2 at *
  generalize q2 &&& (4294967295 : Int64) = y2 at *
  generalize q1.toInt = X at *
  generalize q2.toInt = Y at *
  have hx1 : -2147483648 ≤ x1.toInt ∧ x1.toInt ≤ 2147483647 := by omega
  have hy1 : -2147483648 ≤ y1.toInt ∧ y1.toInt ≤ 2147483647 := by omega
  have hx2 : 0 ≤ x2.toInt ∧ x2.toInt ≤ 4294967295 := by omega
  have hy2 : 0 ≤ y2.toInt ∧ y2.toInt ≤ 4294967295 := by omega
  have eX1 : X / 4294967296 = x1.toInt := by omega
  have eY1 : Y / 4294967296 = y1.toInt := by omega
  have eX2 : X % 4294967296 = x2.toInt := by omega
  have eY2 : Y % 4294967296 = y2.toInt := by omega
  rw [eX1, eY1, eX2, eY2]
  -- products
  have p12 := own_mulc (a := x1.toInt) (b := y2.toInt) (A := 2147483648) (A' := 2147483647) (B := 4294967295) (by omega) (by omega) (by omega) (by omega) (by omega) (by omega)
  have p21 := own_mulc (a := y1.toInt) (b := x2.toInt) (A := 2147483648) (A' := 2147483647) (B := 4294967295) (by omega) (by omega) (by omega) (by omega) (by omega) (by omega)
  have p22 := own_mulb (a := x2.toInt) (b := y2.toInt) (A := 4294967295) (B := 4294967295) (by omega) (by omega) (by omega) (by omega)
  have p22' : 0 ≤ x2.toInt * y2.toInt := Int.mul_nonneg hx2.1 hy2.1
  have p11 : -4611686018427387904 ≤ x1.toInt * y1.toInt ∧ x1.toInt * y1.toInt ≤ 4611686018427387904 := by
    rcases Int.le_total 0 y1.toInt with h | h
    · have := own_mulb (a := x1.toInt) (b := y1.toInt) (A := 2147483648) (B := 2147483648) (by omega) (by omega) h (by omega); omega
    · have := own_mulb (a := x1.toInt) (b := -y1.toInt) (A := 2147483648) (B := 2147483648) (by omega) (by omega) (by omega) (by omega)
      rw [Int.mul_neg] at this; omega
  rw [Int.mul_comm y1.toInt x2.toInt] at p21
  have m22 := c_lmul x2 y2
  have m12 := c_lmul x1 y2
  have m21 := c_lmul x2 y1
  have m11 := c_lmul x1 y1
  have u := c_lushr (x2 * y2) 32 32 (by decide) (by decide)
  have q22 := rng64 (x2 * y2)
  have q12 := rng64 (x1 * y2)
  have q21 := rng64 (x2 * y1)
  have q11 := rng64 (x1 * y1)
  generalize x2 * y2 = z22 at *
  generalize x1 * y2 = z12 at *
  generalize x2 * y1 = z21 at *
  generalize x1 * y1 = z11 at *
  generalize x2.toInt * y2.toInt = D at *
  generalize x1.toInt * y2.toInt = B at *
  generalize x2.toInt * y1.toInt = C at *
  generalize x1.toInt * y1.toInt = A at *
  generalize (z22.toUInt64 >>> ((32 : Int32) &&& 0x3f).toInt64.toUInt64).toInt64 = z at *
  have ez : z.toInt = D / 4294967296 := by omega
  have t1 := c_ladd z12 z
  have rt := rng64 (z12 + z)
  generalize z12 + z = t at *
  have et : t.toInt = B + D / 4294967296 := by omega
  have t2 := c_lshr t 32 32 (by decide)
  have t3 := c_maskL t 4294967295 32 (by decide) (by decide)
  generalize t >>> ((32 : Int32) &&& 0x3f).toInt64 = th at *
  generalize t &&& (4294967295 : Int64) = tl at *
  have t4 := c_ladd tl z21
  have rt4 := rng64 (tl + z21)
  generalize tl + z21 = w at *
  have t5 := c_lshr w 32 32 (by decide)
  generalize w >>> ((32 : Int32) &&& 0x3f).toInt64 = wh at *
  have t6 := c_ladd z11 th
  have rt6 := rng64 (z11 + th)
  generalize z11 + th = v at *
  have t7 := c_ladd v wh
  have rt7 := rng64 (v + wh)
  generalize v + wh = r at *
  have eth : th.toInt = (B + D / 4294967296) / 4294967296 := by omega
  have etl : tl.toInt = (B + D / 4294967296) % 4294967296 := by omega
  have ew : w.toInt = (B + D / 4294967296) % 4294967296 + C := by omega
  have ewh : wh.toInt = ((B + D / 4294967296) % 4294967296 + C) / 4294967296 := by omega
  omega
def own_sgn (v : Int) : Int32 := if 0 < v then 1 else if v < 0 then -1 else 0
theorem own_sgn_pos {v : Int} (h : 0 < v) : own_sgn v = 1 := if_pos h
theorem own_sgn_neg {v : Int} (h : v < 0) : own_sgn v = -1 := (if_neg (by omega)).trans (if_pos h)
theorem own_sgn_zero {v : Int} (h : v = 0) : own_sgn v = 0 := (if_neg (by omega)).trans (if_neg (by omega))
theorem own_sgn_cases (v : Int) : (0 < v ∧ own_sgn v = 1) ∨ (v < 0 ∧ own_sgn v = -1) ∨ (v = 0 ∧ own_sgn v = 0) := by
  rcases Int.lt_trichotomy v 0 with h | h | h
  · exact Or.inr (Or.inl ⟨h, own_sgn_neg h⟩)
  · exact Or.inr (Or.inr ⟨h, own_sgn_zero h⟩)
  · exact Or.inl ⟨h, own_sgn_pos h⟩
theorem own_sgn_eq {v w : Int} (h1 : 0 < v ↔ 0 < w) (h2 : v < 0 ↔ w < 0) : own_sgn v = own_sgn w := by
  unfold own_sgn; simp only [h1, h2]
theorem own_lc (x y : Int64) : (x.toInt - y.toInt < 0 ∧ (lcmpW x y).toInt = -1) ∨ (x.toInt - y.toInt = 0 ∧ (lcmpW x y).toInt = 0) ∨ (0 < x.toInt - y.toInt ∧ (lcmpW x y).toInt = 1) := by
  have := c_lcmp x y
  omega
theorem own_lc0 (x : Int64) : (x.toInt < 0 ∧ (lcmpW x 0).toInt = -1) ∨ (x.toInt = 0 ∧ (lcmpW x 0).toInt = 0) ∨ (0 < x.toInt ∧ (lcmpW x 0).toInt = 1) := by
  have := own_lc x 0
  have e : (0 : Int64).toInt = 0 := by decide
  rw [e] at this; omega
theorem own_cu (q1 q2 : Int64) : own_sgn ((q1 + (-9223372036854775808 : Int64)).toInt - (q2 + (-9223372036854775808 : Int64)).toInt) = own_sgn (q1.toInt % 18446744073709551616 - q2.toInt % 18446744073709551616) := by
  have a1 := c_ladd q1 (-9223372036854775808)
  have a2 := c_ladd q2 (-9223372036854775808)
  have e : (-9223372036854775808 : Int64).toInt = -9223372036854775808 := by decide
  rw [e] at a1 a2
  have r1 := rng64 (q1 + (-9223372036854775808 : Int64))
  have r2 := rng64 (q2 + (-9223372036854775808 : Int64))
  have r3 := rng64 q1
  have r4 := rng64 q2
  refine congrArg own_sgn ?_
  omega
theorem own_cmpA (q1 q2 q3 q4 : Int64) (hc : ¬ (lcmpW (own_mh q1 q4) (own_mh q3 q2)).toInt = 0) : own_sgn ((own_mh q1 q4).toInt - (own_mh q3 q2).toInt) = own_sgn (q1.toInt * q4.toInt - q3.toInt * q2.toInt) := by
  have a := own_mh_eq q1 q4
  have b := own_mh_eq q3 q2
  have c := own_lc (own_mh q1 q4) (own_mh q3 q2)
  generalize q1.toInt * q4.toInt = X at *
  generalize q3.toInt * q2.toInt = Y at *
  exact own_sgn_eq (by omega) (by omega)
theorem own_cmpB (q1 q2 q3 q4 : Int64) (hc : (lcmpW (own_mh q1 q4) (own_mh q3 q2)).toInt = 0) : own_sgn ((q1 * q4).toInt % 18446744073709551616 - (q3 * q2).toInt % 18446744073709551616) = own_sgn (q1.toInt * q4.toInt - q3.toInt * q2.toInt) := by
  have a := own_mh_eq q1 q4
  have b := own_mh_eq q3 q2
  have c := own_lc (own_mh q1 q4) (own_mh q3 q2)
  have d := c_lmul q1 q4
  have f := c_lmul q3 q2
  generalize q1.toInt * q4.toInt = X at *
  generalize q3.toInt * q2.toInt = Y at *
  exact own_sgn_eq (by omega) (by omega)
theorem own_m32 (x : Int64) : 0 ≤ (x &&& (4294967295 : Int64)).toInt ∧ (x &&& (4294967295 : Int64)).toInt ≤ 4294967295 := by
  have := c_maskL x 4294967295 32 (by decide) (by decide)
  omega
theorem own_m31 (x : Int64) : 0 ≤ (x &&& (2147483647 : Int64)).toInt ∧ (x &&& (2147483647 : Int64)).toInt ≤ 2147483647 := by
  have := c_maskL x 2147483647 31 (by decide) (by decide)
  omega
theorem own_mule {x y : Int64} {A B : Int} (hx : 0 ≤ x.toInt ∧ x.toInt ≤ A) (hy : 0 ≤ y.toInt ∧ y.toInt ≤ B) (h : A * B < 9223372036854775808) : (x * y).toInt = x.toInt * y.toInt ∧ 0 ≤ x.toInt * y.toInt ∧ x.toInt * y.toInt ≤ A * B := by
  have a := c_lmul x y
  have b := own_mulb (a := x.toInt) (b := y.toInt) (A := A) (B := B) (by omega) hx.2 hy.1 hy.2
  have d := Int.mul_nonneg hx.1 hy.1
  have r := rng64 (x * y)
  generalize x.toInt * y.toInt = P at *
  generalize A * B = Q at *
  omega
theorem own_sgn_sgn (v : Int) : own_sgn ((own_sgn v).toInt64.toInt) = own_sgn v := by
  rcases own_sgn_cases v with ⟨h, e⟩ | ⟨h, e⟩ | ⟨h, e⟩ <;> rw [e] <;> decide
theorem own_sgn_mul {k d : Int} (hk : 0 < k) : own_sgn (k * d) = own_sgn d := by
  rcases own_sgn_cases d with ⟨h, e⟩ | ⟨h, e⟩ | ⟨h, e⟩
  · rw [e]; exact own_sgn_pos (Int.mul_pos hk h)
  · rw [e]; exact own_sgn_neg (Int.mul_neg_of_pos_of_neg hk h)
  · rw [e]; exact own_sgn_zero (by rw [h, Int.mul_zero])
theorem own_fin {pa qa pb qb mm nn : Int64} (b1 : 0 ≤ pa.toInt ∧ pa.toInt ≤ 4294967295) (b2 : 0 ≤ qa.toInt ∧ qa.toInt ≤ 2147483647) (b3 : 0 ≤ pb.toInt ∧ pb.toInt ≤ 4294967295) (b4 : 0 ≤ qb.toInt ∧ qb.toInt ≤ 2147483647) (b5 : 0 ≤ mm.toInt ∧ mm.toInt ≤ 2147483647) (b6 : 0 ≤ nn.toInt ∧ nn.toInt ≤ 4294967295) :
    own_sgn ((own_sgn ((pa * mm).toInt * (qb * nn).toInt - (pb * mm).toInt * (qa * nn).toInt)).toInt64.toInt) = if mm.toInt = 0 ∨ nn.toInt = 0 then 0 else own_sgn ((pa * qb - pb * qa).toInt) := by
  rw [own_sgn_sgn, (own_mule b1 b5 (by decide)).1, (own_mule b4 b6 (by decide)).1, (own_mule b3 b5 (by decide)).1, (own_mule b2 b6 (by decide)).1]
  have e : pa.toInt * mm.toInt * (qb.toInt * nn.toInt) - pb.toInt * mm.toInt * (qa.toInt * nn.toInt) = mm.toInt * nn.toInt * (pa.toInt * qb.toInt - pb.toInt * qa.toInt) := by grind
  rw [e]
  split
  · rename_i h
    exact own_sgn_zero (by rcases h with h | h <;> rw [h] <;> simp)
  · rename_i h
    have hk : 0 < mm.toInt * nn.toInt := Int.mul_pos (by omega) (by omega)
    rw [own_sgn_mul hk]
    have h1 := own_mule b1 b4 (by decide)
    have h2 := own_mule b3 b2 (by decide)
    have d := c_lsub (pa * qb) (pb * qa)
    have r := rng64 (pa * qb - pb * qa)
    refine congrArg own_sgn ?_
    omega
theorem own_z0 (mm : Int64) {P : Prop} (h : (lcmpW mm (0 : Int64)).toInt = 0) : mm.toInt = 0 ∨ P := Or.inl (by have := own_lc0 mm; omega)
theorem own_z1 (mm nn : Int64) (h : ¬ ¬ (lcmpW nn (0 : Int64)).toInt = 0) : mm.toInt = 0 ∨ nn.toInt = 0 := Or.inr (by have := own_lc0 nn; omega)
theorem own_z2 (mm nn : Int64) (h : ¬ (lcmpW mm (0 : Int64)).toInt = 0) (h' : ¬ (lcmpW nn (0 : Int64)).toInt = 0) : ¬ (mm.toInt = 0 ∨ nn.toInt = 0) := by
  have := own_lc0 mm; have := own_lc0 nn; omega

theorem own_ef0 (m : MethodId) (x0 : Int64) : entryFrame m #[(.long x0)] 2 = mkF m 0 #[.val (.long x0), .second] [] := by first | (simp [entryFrame, mkF, argsToLocals, Value.category]; done) | rfl
theorem own_d_method_2_code_1 : decode method_2_code 0 = .ok (.lload_n 0, 1) := by decide +kernel
theorem own_d_method_2_code_2 : decode method_2_code 1 = .ok (.lconst 0, 1) := by decide +kernel
theorem own_d_method_2_code_3 : decode method_2_code 2 = .ok (.lcmp, 1) := by decide +kernel
theorem own_d_method_2_code_4 : decode method_2_code 3 = .ok (.ifCond .le 5, 3) := by decide +kernel
theorem own_d_method_2_code_5 : decode method_2_code 8 = .ok (.lload_n 0, 1) := by decide +kernel
theorem own_d_method_2_code_6 : decode method_2_code 9 = .ok (.lconst 0, 1) := by decide +kernel
theorem own_d_method_2_code_7 : decode method_2_code 10 = .ok (.lcmp, 1) := by decide +kernel
theorem own_d_method_2_code_8 : decode method_2_code 11 = .ok (.ifCond .ge 5, 3) := by decide +kernel
theorem own_d_method_2_code_9 : decode method_2_code 16 = .ok (.iconst 0, 1) := by decide +kernel
theorem own_d_method_2_code_10 : decode method_2_code 17 = .ok (.ireturn, 1) := by decide +kernel
theorem own_d_method_2_code_11 : decode method_2_code 14 = .ok (.iconst (-1), 1) := by decide +kernel
theorem own_d_method_2_code_12 : decode method_2_code 15 = .ok (.ireturn, 1) := by decide +kernel
theorem own_d_method_2_code_13 : decode method_2_code 6 = .ok (.iconst 1, 1) := by decide +kernel
theorem own_d_method_2_code_14 : decode method_2_code 7 = .ok (.ireturn, 1) := by decide +kernel
theorem own_pn15 : plainName "com/example/binwright/binwright/CheapestFillCompareRatesPinLaw" = true := by first | (simp [plainName, overriddenIn]; done) | decide +kernel
set_option maxRecDepth 65536 in
set_option maxHeartbeats 40000000 in
theorem ctS (l : Launch) (Z : State) (a0 : Array Value) (hw : ∀ d ∈ tables_1, d.before a0 Z = true) (q1 : Int64) (h : Heap) (O : Old Z Z.heap.size h) :
    Ct 0 l Z [] [] (⟨"com/example/binwright/binwright/CheapestFillCompareRatesPinLaw", "sign", "(J)I"⟩ : MethodName) method_2_code 2 (some .int) ({ frames := 0, cells := 0, slots := 0, locals := 0 } : Room) #[(.long q1)] h (fun v h' => v = some (.int (own_sgn q1.toInt)) ∧ h = h') := by
  refine Ct.intro (plainFor_of_name own_pn15) O (fun _ => rfl) ⟨a0, EW.nil⟩ ?_
  intro p e s m below meth c T0 hx hby hml hret hnm hlk hsf S0
  refine Goes.cast (own_ef0 m q1) ?_
  refine g_lloadN S0.here hx (hb hby own_d_method_2_code_1) rfl 1 rfl ?_
  refine g_lconst S0.here hx (hb hby own_d_method_2_code_2) (0 : Int64) (by decide) 2 rfl ?_
  refine g_lcmp S0.here hx (hb hby own_d_method_2_code_3) 3 rfl ?_
  refine g_if S0.here hx (hb hby own_d_method_2_code_4) (lcmpW q1 (0 : Int64)).toInt rfl 8 6 (by decide) (by decide) rfl (fun (hc3 : (lcmpW q1 (0 : Int64)).toInt ≤ 0) => ?_) (fun (hc3 : ¬ ((lcmpW q1 (0 : Int64)).toInt ≤ 0)) => ?_)
  · refine g_lloadN S0.here hx (hb hby own_d_method_2_code_5) rfl 9 rfl ?_
    refine g_lconst S0.here hx (hb hby own_d_method_2_code_6) (0 : Int64) (by decide) 10 rfl ?_
    refine g_lcmp S0.here hx (hb hby own_d_method_2_code_7) 11 rfl ?_
    refine g_if S0.here hx (hb hby own_d_method_2_code_8) (lcmpW q1 (0 : Int64)).toInt rfl 16 14 (by decide) (by decide) rfl (fun (hc11 : 0 ≤ (lcmpW q1 (0 : Int64)).toInt) => ?_) (fun (hc11 : ¬ (0 ≤ (lcmpW q1 (0 : Int64)).toInt)) => ?_)
    · refine g_iconst S0.here hx (hb hby own_d_method_2_code_9) (0 : Int32) (by decide) 17 rfl ?_
      exact S0.iret hx hlk hret (Or.inl rfl) rfl (hb hby own_d_method_2_code_10) ⟨congrArg (fun z => some (Value.int z)) (own_sgn_zero (by have := own_lc0 q1; omega)).symm, rfl⟩ (by decide) (by decide)
    · refine g_iconst S0.here hx (hb hby own_d_method_2_code_11) (-1 : Int32) (by decide) 15 rfl ?_
      exact S0.iret hx hlk hret (Or.inl rfl) rfl (hb hby own_d_method_2_code_12) ⟨congrArg (fun z => some (Value.int z)) (own_sgn_neg (by have := own_lc0 q1; omega)).symm, rfl⟩ (by decide) (by decide)
  · refine g_iconst S0.here hx (hb hby own_d_method_2_code_13) (1 : Int32) (by decide) 7 rfl ?_
    exact S0.iret hx hlk hret (Or.inl rfl) rfl (hb hby own_d_method_2_code_14) ⟨congrArg (fun z => some (Value.int z)) (own_sgn_pos (by have := own_lc0 q1; omega)).symm, rfl⟩ (by decide) (by decide)
theorem own_ef16 (m : MethodId) (x0 : Int64) (x1 : Int64) : entryFrame m #[(.long x0), (.long x1)] 4 = mkF m 0 #[.val (.long x0), .second, .val (.long x1), .second] [] := by first | (simp [entryFrame, mkF, argsToLocals, Value.category]; done) | rfl
theorem own_d_jdk_35_method_42_code_17 : decode jdk_35_method_42_code 0 = .ok (.lload_n 0, 1) := by decide +kernel
theorem own_d_jdk_35_method_42_code_18 : decode jdk_35_method_42_code 1 = .ok (.lload_n 2, 1) := by decide +kernel
theorem own_d_jdk_35_method_42_code_19 : decode jdk_35_method_42_code 2 = .ok (.lcmp, 1) := by decide +kernel
theorem own_d_jdk_35_method_42_code_20 : decode jdk_35_method_42_code 3 = .ok (.ifCond .ge 7, 3) := by decide +kernel
theorem own_d_jdk_35_method_42_code_21 : decode jdk_35_method_42_code 10 = .ok (.lload_n 0, 1) := by decide +kernel
theorem own_d_jdk_35_method_42_code_22 : decode jdk_35_method_42_code 11 = .ok (.lload_n 2, 1) := by decide +kernel
theorem own_d_jdk_35_method_42_code_23 : decode jdk_35_method_42_code 12 = .ok (.lcmp, 1) := by decide +kernel
theorem own_d_jdk_35_method_42_code_24 : decode jdk_35_method_42_code 13 = .ok (.ifCond .ne 7, 3) := by decide +kernel
theorem own_d_jdk_35_method_42_code_25 : decode jdk_35_method_42_code 20 = .ok (.iconst 1, 1) := by decide +kernel
theorem own_d_jdk_35_method_42_code_26 : decode jdk_35_method_42_code 21 = .ok (.ireturn, 1) := by decide +kernel
theorem own_d_jdk_35_method_42_code_27 : decode jdk_35_method_42_code 16 = .ok (.iconst 0, 1) := by decide +kernel
theorem own_d_jdk_35_method_42_code_28 : decode jdk_35_method_42_code 17 = .ok (.goto 4, 3) := by decide +kernel
theorem own_d_jdk_35_method_42_code_29 : decode jdk_35_method_42_code 6 = .ok (.iconst (-1), 1) := by decide +kernel
theorem own_d_jdk_35_method_42_code_30 : decode jdk_35_method_42_code 7 = .ok (.goto 14, 3) := by decide +kernel
theorem own_pn31 : plainName "java/lang/Long" = true := by first | (simp [plainName, overriddenIn]; done) | decide +kernel
set_option maxRecDepth 65536 in
set_option maxHeartbeats 40000000 in
theorem ctC (l : Launch) (Z : State) (a0 : Array Value) (hw : ∀ d ∈ tables_1, d.before a0 Z = true) (q1 q2 : Int64) (h : Heap) (O : Old Z Z.heap.size h) :
    Ct 0 l Z [] [] (⟨"java/lang/Long", "compare", "(JJ)I"⟩ : MethodName) jdk_35_method_42_code 4 (some .int) ({ frames := 0, cells := 0, slots := 0, locals := 0 } : Room) #[(.long q1), (.long q2)] h (fun v h' => v = some (.int (own_sgn (q1.toInt - q2.toInt))) ∧ h = h') := by
  refine Ct.intro (plainFor_of_name own_pn31) O (fun _ => rfl) ⟨a0, EW.nil⟩ ?_
  intro p e s m below meth c T0 hx hby hml hret hnm hlk hsf S0
  refine Goes.cast (own_ef16 m q1 q2) ?_
  refine g_lloadN S0.here hx (hb hby own_d_jdk_35_method_42_code_17) rfl 1 rfl ?_
  refine g_lloadN S0.here hx (hb hby own_d_jdk_35_method_42_code_18) rfl 2 rfl ?_
  refine g_lcmp S0.here hx (hb hby own_d_jdk_35_method_42_code_19) 3 rfl ?_
  refine g_if S0.here hx (hb hby own_d_jdk_35_method_42_code_20) (lcmpW q1 q2).toInt rfl 10 6 (by decide) (by decide) rfl (fun (hc3 : 0 ≤ (lcmpW q1 q2).toInt) => ?_) (fun (hc3 : ¬ (0 ≤ (lcmpW q1 q2).toInt)) => ?_)
  · refine g_lloadN S0.here hx (hb hby own_d_jdk_35_method_42_code_21) rfl 11 rfl ?_
    refine g_lloadN S0.here hx (hb hby own_d_jdk_35_method_42_code_22) rfl 12 rfl ?_
    refine g_lcmp S0.here hx (hb hby own_d_jdk_35_method_42_code_23) 13 rfl ?_
    refine g_if S0.here hx (hb hby own_d_jdk_35_method_42_code_24) (lcmpW q1 q2).toInt rfl 20 16 (by decide) (by decide) rfl (fun (hc13 : ¬ (lcmpW q1 q2).toInt = 0) => ?_) (fun (hc13 : ¬ (¬ (lcmpW q1 q2).toInt = 0)) => ?_)
    · refine g_iconst S0.here hx (hb hby own_d_jdk_35_method_42_code_25) (1 : Int32) (by decide) 21 rfl ?_
      exact S0.iret hx hlk hret (Or.inl rfl) rfl (hb hby own_d_jdk_35_method_42_code_26) ⟨congrArg (fun z => some (Value.int z)) (own_sgn_pos (by have := own_lc q1 q2; omega)).symm, rfl⟩ (by decide) (by decide)
    · refine g_iconst S0.here hx (hb hby own_d_jdk_35_method_42_code_27) (0 : Int32) (by decide) 17 rfl ?_
      refine g_goto S0.here hx (hb hby own_d_jdk_35_method_42_code_28) 21 (by decide) (by decide) ?_
      exact S0.iret hx hlk hret (Or.inl rfl) rfl (hb hby own_d_jdk_35_method_42_code_26) ⟨congrArg (fun z => some (Value.int z)) (own_sgn_zero (by have := own_lc q1 q2; omega)).symm, rfl⟩ (by decide) (by decide)
  · refine g_iconst S0.here hx (hb hby own_d_jdk_35_method_42_code_29) (-1 : Int32) (by decide) 7 rfl ?_
    refine g_goto S0.here hx (hb hby own_d_jdk_35_method_42_code_30) 21 (by decide) (by decide) ?_
    exact S0.iret hx hlk hret (Or.inl rfl) rfl (hb hby own_d_jdk_35_method_42_code_26) ⟨congrArg (fun z => some (Value.int z)) (own_sgn_neg (by have := own_lc q1 q2; omega)).symm, rfl⟩ (by decide) (by decide)
theorem own_d_jdk_35_method_43_code_32 : decode jdk_35_method_43_code 0 = .ok (.lload_n 0, 1) := by decide +kernel
theorem own_d_jdk_35_method_43_code_33 : decode jdk_35_method_43_code 1 = .ok (.ldc2_w 168, 3) := by decide +kernel
theorem own_d_jdk_35_method_43_code_34 : decode jdk_35_method_43_code 4 = .ok (.ladd, 1) := by decide +kernel
theorem own_d_jdk_35_method_43_code_35 : decode jdk_35_method_43_code 5 = .ok (.lload_n 2, 1) := by decide +kernel
theorem own_d_jdk_35_method_43_code_36 : decode jdk_35_method_43_code 6 = .ok (.ldc2_w 168, 3) := by decide +kernel
theorem own_d_jdk_35_method_43_code_37 : decode jdk_35_method_43_code 9 = .ok (.ladd, 1) := by decide +kernel
theorem own_d_jdk_35_method_43_code_38 : decode jdk_35_method_43_code 10 = .ok (.invokestatic 302, 3) := by decide +kernel
theorem own_pd39 : parseMethodDescriptor "(JJ)I" = some ⟨[.long, .long], some .int⟩ := by decide +kernel
theorem own_d_jdk_35_method_43_code_40 : decode jdk_35_method_43_code 13 = .ok (.ireturn, 1) := by decide +kernel
set_option maxRecDepth 65536 in
set_option maxHeartbeats 40000000 in
theorem ctU (l : Launch) (Z : State) (a0 : Array Value) (hw : ∀ d ∈ tables_1, d.before a0 Z = true) (q1 q2 : Int64) (h : Heap) (O : Old Z Z.heap.size h) :
    Ct 0 l Z [] [] (⟨"java/lang/Long", "compareUnsigned", "(JJ)I"⟩ : MethodName) jdk_35_method_43_code 4 (some .int) ({ frames := 1, cells := 0, slots := 0, locals := 15 } : Room) #[(.long q1), (.long q2)] h (fun v h' => v = some (.int (own_sgn (q1.toInt % 18446744073709551616 - q2.toInt % 18446744073709551616))) ∧ h = h') := by
  refine Ct.intro (plainFor_of_name own_pn31) O (fun _ => rfl) ⟨a0, EW.nil⟩ ?_
  intro p e s m below meth c T0 hx hby hml hret hnm hlk hsf S0
  refine Goes.cast (own_ef16 m q1 q2) ?_
  refine g_lloadN S0.here hx (hb hby own_d_jdk_35_method_43_code_32) rfl 1 rfl ?_
  refine S0.ldcJ hx (own_q15 hw) (hb hby own_d_jdk_35_method_43_code_33) 4 rfl ?_
  refine g_ladd S0.here hx (hb hby own_d_jdk_35_method_43_code_34) 5 rfl ?_
  refine g_lloadN S0.here hx (hb hby own_d_jdk_35_method_43_code_35) rfl 6 rfl ?_
  refine S0.ldcJ hx (own_q15 hw) (hb hby own_d_jdk_35_method_43_code_36) 9 rfl ?_
  refine g_ladd S0.here hx (hb hby own_d_jdk_35_method_43_code_37) 10 rfl ?_
  refine S0.callS hx (W := 0) (own_q16 hw) (own_q17 hw) (own_q13 hw) (own_q18 hw) (by decide) (ctC l Z a0 hw (q1 + (-9223372036854775808 : Int64)) (q2 + (-9223372036854775808 : Int64)) h O) nosf (by decide) (by decide) (by rw [hml]; rfl) [(.long (q1 + (-9223372036854775808 : Int64))), (.long (q2 + (-9223372036854775808 : Int64)))] [] (lenOf own_pd39 rfl) rfl rfl (by decide) (hb hby own_d_jdk_35_method_43_code_38) (by decide) (by decide) 13 rfl (fun v1 vm1 T1 h1 S1 Q1 R1 => ?_)
  obtain ⟨rfl, rfl⟩ := Q1
  show Goes _ _ _ _ T1 (mkF m 13 #[.val (.long q1), .second, .val (.long q2), .second] [(.int (own_sgn ((q1 + (-9223372036854775808 : Int64)).toInt - (q2 + (-9223372036854775808 : Int64)).toInt)))])
  exact S1.iret hx hlk hret (Or.inl rfl) rfl (hb hby own_d_jdk_35_method_43_code_40) ⟨congrArg (fun z => some (Value.int z)) (own_cu q1 q2), rfl⟩ (by decide) (by decide)
theorem own_ef41 (m : MethodId) (x0 : Int64) (x1 : Int64) : entryFrame m #[(.long x0), (.long x1)] 20 = mkF m 0 #[.val (.long x0), .second, .val (.long x1), .second, .unset, .unset, .unset, .unset, .unset, .unset, .unset, .unset, .unset, .unset, .unset, .unset, .unset, .unset, .unset, .unset] [] := by first | (simp [entryFrame, mkF, argsToLocals, Value.category]; done) | rfl
theorem own_d_jdk_29_method_45_code_42 : decode jdk_29_method_45_code 0 = .ok (.lload_n 0, 1) := by decide +kernel
theorem own_d_jdk_29_method_45_code_43 : decode jdk_29_method_45_code 1 = .ok (.bipush 32, 2) := by decide +kernel
theorem own_d_jdk_29_method_45_code_44 : decode jdk_29_method_45_code 3 = .ok (.lshr, 1) := by decide +kernel
theorem own_d_jdk_29_method_45_code_45 : decode jdk_29_method_45_code 4 = .ok (.lstore 4, 2) := by decide +kernel
theorem own_d_jdk_29_method_45_code_46 : decode jdk_29_method_45_code 6 = .ok (.lload_n 0, 1) := by decide +kernel
theorem own_d_jdk_29_method_45_code_47 : decode jdk_29_method_45_code 7 = .ok (.ldc2_w 138, 3) := by decide +kernel
theorem own_d_jdk_29_method_45_code_48 : decode jdk_29_method_45_code 10 = .ok (.land, 1) := by decide +kernel
theorem own_d_jdk_29_method_45_code_49 : decode jdk_29_method_45_code 11 = .ok (.lstore 6, 2) := by decide +kernel
theorem own_d_jdk_29_method_45_code_50 : decode jdk_29_method_45_code 13 = .ok (.lload_n 2, 1) := by decide +kernel
theorem own_d_jdk_29_method_45_code_51 : decode jdk_29_method_45_code 14 = .ok (.bipush 32, 2) := by decide +kernel
theorem own_d_jdk_29_method_45_code_52 : decode jdk_29_method_45_code 16 = .ok (.lshr, 1) := by decide +kernel
theorem own_d_jdk_29_method_45_code_53 : decode jdk_29_method_45_code 17 = .ok (.lstore 8, 2) := by decide +kernel
theorem own_d_jdk_29_method_45_code_54 : decode jdk_29_method_45_code 19 = .ok (.lload_n 2, 1) := by decide +kernel
theorem own_d_jdk_29_method_45_code_55 : decode jdk_29_method_45_code 20 = .ok (.ldc2_w 138, 3) := by decide +kernel
theorem own_d_jdk_29_method_45_code_56 : decode jdk_29_method_45_code 23 = .ok (.land, 1) := by decide +kernel
theorem own_d_jdk_29_method_45_code_57 : decode jdk_29_method_45_code 24 = .ok (.lstore 10, 2) := by decide +kernel
theorem own_d_jdk_29_method_45_code_58 : decode jdk_29_method_45_code 26 = .ok (.lload 6, 2) := by decide +kernel
theorem own_d_jdk_29_method_45_code_59 : decode jdk_29_method_45_code 28 = .ok (.lload 10, 2) := by decide +kernel
theorem own_d_jdk_29_method_45_code_60 : decode jdk_29_method_45_code 30 = .ok (.lmul, 1) := by decide +kernel
theorem own_d_jdk_29_method_45_code_61 : decode jdk_29_method_45_code 31 = .ok (.lstore 12, 2) := by decide +kernel
theorem own_d_jdk_29_method_45_code_62 : decode jdk_29_method_45_code 33 = .ok (.lload 4, 2) := by decide +kernel
theorem own_d_jdk_29_method_45_code_63 : decode jdk_29_method_45_code 35 = .ok (.lload 10, 2) := by decide +kernel
theorem own_d_jdk_29_method_45_code_64 : decode jdk_29_method_45_code 37 = .ok (.lmul, 1) := by decide +kernel
theorem own_d_jdk_29_method_45_code_65 : decode jdk_29_method_45_code 38 = .ok (.lload 12, 2) := by decide +kernel
theorem own_d_jdk_29_method_45_code_66 : decode jdk_29_method_45_code 40 = .ok (.bipush 32, 2) := by decide +kernel
theorem own_d_jdk_29_method_45_code_67 : decode jdk_29_method_45_code 42 = .ok (.lushr, 1) := by decide +kernel
theorem own_d_jdk_29_method_45_code_68 : decode jdk_29_method_45_code 43 = .ok (.ladd, 1) := by decide +kernel
theorem own_d_jdk_29_method_45_code_69 : decode jdk_29_method_45_code 44 = .ok (.lstore 14, 2) := by decide +kernel
theorem own_d_jdk_29_method_45_code_70 : decode jdk_29_method_45_code 46 = .ok (.lload 14, 2) := by decide +kernel
theorem own_d_jdk_29_method_45_code_71 : decode jdk_29_method_45_code 48 = .ok (.ldc2_w 138, 3) := by decide +kernel
theorem own_d_jdk_29_method_45_code_72 : decode jdk_29_method_45_code 51 = .ok (.land, 1) := by decide +kernel
theorem own_d_jdk_29_method_45_code_73 : decode jdk_29_method_45_code 52 = .ok (.lstore 16, 2) := by decide +kernel
theorem own_d_jdk_29_method_45_code_74 : decode jdk_29_method_45_code 54 = .ok (.lload 14, 2) := by decide +kernel
theorem own_d_jdk_29_method_45_code_75 : decode jdk_29_method_45_code 56 = .ok (.bipush 32, 2) := by decide +kernel
theorem own_d_jdk_29_method_45_code_76 : decode jdk_29_method_45_code 58 = .ok (.lshr, 1) := by decide +kernel
theorem own_d_jdk_29_method_45_code_77 : decode jdk_29_method_45_code 59 = .ok (.lstore 18, 2) := by decide +kernel
theorem own_d_jdk_29_method_45_code_78 : decode jdk_29_method_45_code 61 = .ok (.lload 16, 2) := by decide +kernel
theorem own_d_jdk_29_method_45_code_79 : decode jdk_29_method_45_code 63 = .ok (.lload 6, 2) := by decide +kernel
theorem own_d_jdk_29_method_45_code_80 : decode jdk_29_method_45_code 65 = .ok (.lload 8, 2) := by decide +kernel
theorem own_d_jdk_29_method_45_code_81 : decode jdk_29_method_45_code 67 = .ok (.lmul, 1) := by decide +kernel
theorem own_d_jdk_29_method_45_code_82 : decode jdk_29_method_45_code 68 = .ok (.ladd, 1) := by decide +kernel
theorem own_d_jdk_29_method_45_code_83 : decode jdk_29_method_45_code 69 = .ok (.lstore 16, 2) := by decide +kernel
theorem own_d_jdk_29_method_45_code_84 : decode jdk_29_method_45_code 71 = .ok (.lload 4, 2) := by decide +kernel
theorem own_d_jdk_29_method_45_code_85 : decode jdk_29_method_45_code 73 = .ok (.lload 8, 2) := by decide +kernel
theorem own_d_jdk_29_method_45_code_86 : decode jdk_29_method_45_code 75 = .ok (.lmul, 1) := by decide +kernel
theorem own_d_jdk_29_method_45_code_87 : decode jdk_29_method_45_code 76 = .ok (.lload 18, 2) := by decide +kernel
theorem own_d_jdk_29_method_45_code_88 : decode jdk_29_method_45_code 78 = .ok (.ladd, 1) := by decide +kernel
theorem own_d_jdk_29_method_45_code_89 : decode jdk_29_method_45_code 79 = .ok (.lload 16, 2) := by decide +kernel
theorem own_d_jdk_29_method_45_code_90 : decode jdk_29_method_45_code 81 = .ok (.bipush 32, 2) := by decide +kernel
theorem own_d_jdk_29_method_45_code_91 : decode jdk_29_method_45_code 83 = .ok (.lshr, 1) := by decide +kernel
theorem own_d_jdk_29_method_45_code_92 : decode jdk_29_method_45_code 84 = .ok (.ladd, 1) := by decide +kernel
theorem own_d_jdk_29_method_45_code_93 : decode jdk_29_method_45_code 85 = .ok (.lreturn, 1) := by decide +kernel
set_option maxRecDepth 65536 in
set_option maxHeartbeats 40000000 in
theorem ctM (l : Launch) (Z : State) (a0 : Array Value) (hw : ∀ d ∈ tables_1, d.before a0 Z = true) (q1 q2 : Int64) (h : Heap) (O : Old Z Z.heap.size h) :
    Ct 0 l Z [] [] (⟨"java/lang/Math", "multiplyHigh", "(JJ)J"⟩ : MethodName) jdk_29_method_45_code 20 (some .long) ({ frames := 0, cells := 0, slots := 0, locals := 0 } : Room) #[(.long q1), (.long q2)] h (fun v h' => v = some (.long (own_mh q1 q2)) ∧ h = h') := by
  refine Ct.intro (Jvm.Free.JP.mathPlain rfl (by decide +kernel)) O (fun _ => rfl) ⟨a0, EW.nil⟩ ?_
  intro p e s m below meth c T0 hx hby hml hret hnm hlk hsf S0
  refine Goes.cast (own_ef41 m q1 q2) ?_
  refine g_lloadN S0.here hx (hb hby own_d_jdk_29_method_45_code_42) rfl 1 rfl ?_
  refine g_bipush S0.here hx (hb hby own_d_jdk_29_method_45_code_43) (32 : Int32) (by decide) 3 rfl ?_
  refine g_lshr S0.here hx (hb hby own_d_jdk_29_method_45_code_44) 4 rfl ?_
  refine g_lstore S0.here hx (hb hby own_d_jdk_29_method_45_code_45) #[.val (.long q1), .second, .val (.long q2), .second, .val (.long (q1 >>> ((32 : Int32) &&& 0x3f).toInt64)), .second, .unset, .unset, .unset, .unset, .unset, .unset, .unset, .unset, .unset, .unset, .unset, .unset, .unset, .unset] rfl 6 rfl ?_
  refine g_lloadN S0.here hx (hb hby own_d_jdk_29_method_45_code_46) rfl 7 rfl ?_
  refine S0.ldcJ hx (own_q10 hw) (hb hby own_d_jdk_29_method_45_code_47) 10 rfl ?_
  refine g_land S0.here hx (hb hby own_d_jdk_29_method_45_code_48) 11 rfl ?_
  refine g_lstore S0.here hx (hb hby own_d_jdk_29_method_45_code_49) #[.val (.long q1), .second, .val (.long q2), .second, .val (.long (q1 >>> ((32 : Int32) &&& 0x3f).toInt64)), .second, .val (.long (q1 &&& (4294967295 : Int64))), .second, .unset, .unset, .unset, .unset, .unset, .unset, .unset, .unset, .unset, .unset, .unset, .unset] rfl 13 rfl ?_
  refine g_lloadN S0.here hx (hb hby own_d_jdk_29_method_45_code_50) rfl 14 rfl ?_
  refine g_bipush S0.here hx (hb hby own_d_jdk_29_method_45_code_51) (32 : Int32) (by decide) 16 rfl ?_
  refine g_lshr S0.here hx (hb hby own_d_jdk_29_method_45_code_52) 17 rfl ?_
  refine g_lstore S0.here hx (hb hby own_d_jdk_29_method_45_code_53) #[.val (.long q1), .second, .val (.long q2), .second, .val (.long (q1 >>> ((32 : Int32) &&& 0x3f).toInt64)), .second, .val (.long (q1 &&& (4294967295 : Int64))), .second, .val (.long (q2 >>> ((32 : Int32) &&& 0x3f).toInt64)), .second, .unset, .unset, .unset, .unset, .unset, .unset, .unset, .unset, .unset, .unset] rfl 19 rfl ?_
  refine g_lloadN S0.here hx (hb hby own_d_jdk_29_method_45_code_54) rfl 20 rfl ?_
  refine S0.ldcJ hx (own_q10 hw) (hb hby own_d_jdk_29_method_45_code_55) 23 rfl ?_
  refine g_land S0.here hx (hb hby own_d_jdk_29_method_45_code_56) 24 rfl ?_
  refine g_lstore S0.here hx (hb hby own_d_jdk_29_method_45_code_57) #[.val (.long q1), .second, .val (.long q2), .second, .val (.long (q1 >>> ((32 : Int32) &&& 0x3f).toInt64)), .second, .val (.long (q1 &&& (4294967295 : Int64))), .second, .val (.long (q2 >>> ((32 : Int32) &&& 0x3f).toInt64)), .second, .val (.long (q2 &&& (4294967295 : Int64))), .second, .unset, .unset, .unset, .unset, .unset, .unset, .unset, .unset] rfl 26 rfl ?_
  refine g_lload S0.here hx (hb hby own_d_jdk_29_method_45_code_58) rfl 28 rfl ?_
  refine g_lload S0.here hx (hb hby own_d_jdk_29_method_45_code_59) rfl 30 rfl ?_
  refine g_lmul S0.here hx (hb hby own_d_jdk_29_method_45_code_60) 31 rfl ?_
  refine g_lstore S0.here hx (hb hby own_d_jdk_29_method_45_code_61) #[.val (.long q1), .second, .val (.long q2), .second, .val (.long (q1 >>> ((32 : Int32) &&& 0x3f).toInt64)), .second, .val (.long (q1 &&& (4294967295 : Int64))), .second, .val (.long (q2 >>> ((32 : Int32) &&& 0x3f).toInt64)), .second, .val (.long (q2 &&& (4294967295 : Int64))), .second, .val (.long ((q1 &&& (4294967295 : Int64)) * (q2 &&& (4294967295 : Int64)))), .second, .unset, .unset, .unset, .unset, .unset, .unset] rfl 33 rfl ?_
  refine g_lload S0.here hx (hb hby own_d_jdk_29_method_45_code_62) rfl 35 rfl ?_
  refine g_lload S0.here hx (hb hby own_d_jdk_29_method_45_code_63) rfl 37 rfl ?_
  refine g_lmul S0.here hx (hb hby own_d_jdk_29_method_45_code_64) 38 rfl ?_
  refine g_lload S0.here hx (hb hby own_d_jdk_29_method_45_code_65) rfl 40 rfl ?_
  refine g_bipush S0.here hx (hb hby own_d_jdk_29_method_45_code_66) (32 : Int32) (by decide) 42 rfl ?_
  refine g_lushr S0.here hx (hb hby own_d_jdk_29_method_45_code_67) 43 rfl ?_
  refine g_ladd S0.here hx (hb hby own_d_jdk_29_method_45_code_68) 44 rfl ?_
  refine g_lstore S0.here hx (hb hby own_d_jdk_29_method_45_code_69) #[.val (.long q1), .second, .val (.long q2), .second, .val (.long (q1 >>> ((32 : Int32) &&& 0x3f).toInt64)), .second, .val (.long (q1 &&& (4294967295 : Int64))), .second, .val (.long (q2 >>> ((32 : Int32) &&& 0x3f).toInt64)), .second, .val (.long (q2 &&& (4294967295 : Int64))), .second, .val (.long ((q1 &&& (4294967295 : Int64)) * (q2 &&& (4294967295 : Int64)))), .second, .val (.long (((q1 >>> ((32 : Int32) &&& 0x3f).toInt64) * (q2 &&& (4294967295 : Int64))) + ((((q1 &&& (4294967295 : Int64)) * (q2 &&& (4294967295 : Int64))).toUInt64 >>> ((32 : Int32) &&& 0x3f).toInt64.toUInt64).toInt64))), .second, .unset, .unset, .unset, .unset] rfl 46 rfl ?_
  refine g_lload S0.here hx (hb hby own_d_jdk_29_method_45_code_70) rfl 48 rfl ?_
  refine S0.ldcJ hx (own_q10 hw) (hb hby own_d_jdk_29_method_45_code_71) 51 rfl ?_
  refine g_land S0.here hx (hb hby own_d_jdk_29_method_45_code_72) 52 rfl ?_
  refine g_lstore S0.here hx (hb hby own_d_jdk_29_method_45_code_73) #[.val (.long q1), .second, .val (.long q2), .second, .val (.long (q1 >>> ((32 : Int32) &&& 0x3f).toInt64)), .second, .val (.long (q1 &&& (4294967295 : Int64))), .second, .val (.long (q2 >>> ((32 : Int32) &&& 0x3f).toInt64)), .second, .val (.long (q2 &&& (4294967295 : Int64))), .second, .val (.long ((q1 &&& (4294967295 : Int64)) * (q2 &&& (4294967295 : Int64)))), .second, .val (.long (((q1 >>> ((32 : Int32) &&& 0x3f).toInt64) * (q2 &&& (4294967295 : Int64))) + ((((q1 &&& (4294967295 : Int64)) * (q2 &&& (4294967295 : Int64))).toUInt64 >>> ((32 : Int32) &&& 0x3f).toInt64.toUInt64).toInt64))), .second, .val (.long ((((q1 >>> ((32 : Int32) &&& 0x3f).toInt64) * (q2 &&& (4294967295 : Int64))) + ((((q1 &&& (4294967295 : Int64)) * (q2 &&& (4294967295 : Int64))).toUInt64 >>> ((32 : Int32) &&& 0x3f).toInt64.toUInt64).toInt64)) &&& (4294967295 : Int64))), .second, .unset, .unset] rfl 54 rfl ?_
  refine g_lload S0.here hx (hb hby own_d_jdk_29_method_45_code_74) rfl 56 rfl ?_
  refine g_bipush S0.here hx (hb hby own_d_jdk_29_method_45_code_75) (32 : Int32) (by decide) 58 rfl ?_
  refine g_lshr S0.here hx (hb hby own_d_jdk_29_method_45_code_76) 59 rfl ?_
  refine g_lstore S0.here hx (hb hby own_d_jdk_29_method_45_code_77) #[.val (.long q1), .second, .val (.long q2), .second, .val (.long (q1 >>> ((32 : Int32) &&& 0x3f).toInt64)), .second, .val (.long (q1 &&& (4294967295 : Int64))), .second, .val (.long (q2 >>> ((32 : Int32) &&& 0x3f).toInt64)), .second, .val (.long (q2 &&& (4294967295 : Int64))), .second, .val (.long ((q1 &&& (4294967295 : Int64)) * (q2 &&& (4294967295 : Int64)))), .second, .val (.long (((q1 >>> ((32 : Int32) &&& 0x3f).toInt64) * (q2 &&& (4294967295 : Int64))) + ((((q1 &&& (4294967295 : Int64)) * (q2 &&& (4294967295 : Int64))).toUInt64 >>> ((32 : Int32) &&& 0x3f).toInt64.toUInt64).toInt64))), .second, .val (.long ((((q1 >>> ((32 : Int32) &&& 0x3f).toInt64) * (q2 &&& (4294967295 : Int64))) + ((((q1 &&& (4294967295 : Int64)) * (q2 &&& (4294967295 : Int64))).toUInt64 >>> ((32 : Int32) &&& 0x3f).toInt64.toUInt64).toInt64)) &&& (4294967295 : Int64))), .second, .val (.long ((((q1 >>> ((32 : Int32) &&& 0x3f).toInt64) * (q2 &&& (4294967295 : Int64))) + ((((q1 &&& (4294967295 : Int64)) * (q2 &&& (4294967295 : Int64))).toUInt64 >>> ((32 : Int32) &&& 0x3f).toInt64.toUInt64).toInt64)) >>> ((32 : Int32) &&& 0x3f).toInt64)), .second] rfl 61 rfl ?_
  refine g_lload S0.here hx (hb hby own_d_jdk_29_method_45_code_78) rfl 63 rfl ?_
  refine g_lload S0.here hx (hb hby own_d_jdk_29_method_45_code_79) rfl 65 rfl ?_
  refine g_lload S0.here hx (hb hby own_d_jdk_29_method_45_code_80) rfl 67 rfl ?_
  refine g_lmul S0.here hx (hb hby own_d_jdk_29_method_45_code_81) 68 rfl ?_
  refine g_ladd S0.here hx (hb hby own_d_jdk_29_method_45_code_82) 69 rfl ?_
  refine g_lstore S0.here hx (hb hby own_d_jdk_29_method_45_code_83) #[.val (.long q1), .second, .val (.long q2), .second, .val (.long (q1 >>> ((32 : Int32) &&& 0x3f).toInt64)), .second, .val (.long (q1 &&& (4294967295 : Int64))), .second, .val (.long (q2 >>> ((32 : Int32) &&& 0x3f).toInt64)), .second, .val (.long (q2 &&& (4294967295 : Int64))), .second, .val (.long ((q1 &&& (4294967295 : Int64)) * (q2 &&& (4294967295 : Int64)))), .second, .val (.long (((q1 >>> ((32 : Int32) &&& 0x3f).toInt64) * (q2 &&& (4294967295 : Int64))) + ((((q1 &&& (4294967295 : Int64)) * (q2 &&& (4294967295 : Int64))).toUInt64 >>> ((32 : Int32) &&& 0x3f).toInt64.toUInt64).toInt64))), .second, .val (.long (((((q1 >>> ((32 : Int32) &&& 0x3f).toInt64) * (q2 &&& (4294967295 : Int64))) + ((((q1 &&& (4294967295 : Int64)) * (q2 &&& (4294967295 : Int64))).toUInt64 >>> ((32 : Int32) &&& 0x3f).toInt64.toUInt64).toInt64)) &&& (4294967295 : Int64)) + ((q1 &&& (4294967295 : Int64)) * (q2 >>> ((32 : Int32) &&& 0x3f).toInt64)))), .second, .val (.long ((((q1 >>> ((32 : Int32) &&& 0x3f).toInt64) * (q2 &&& (4294967295 : Int64))) + ((((q1 &&& (4294967295 : Int64)) * (q2 &&& (4294967295 : Int64))).toUInt64 >>> ((32 : Int32) &&& 0x3f).toInt64.toUInt64).toInt64)) >>> ((32 : Int32) &&& 0x3f).toInt64)), .second] rfl 71 rfl ?_
  refine g_lload S0.here hx (hb hby own_d_jdk_29_method_45_code_84) rfl 73 rfl ?_
  refine g_lload S0.here hx (hb hby own_d_jdk_29_method_45_code_85) rfl 75 rfl ?_
  refine g_lmul S0.here hx (hb hby own_d_jdk_29_method_45_code_86) 76 rfl ?_
  refine g_lload S0.here hx (hb hby own_d_jdk_29_method_45_code_87) rfl 78 rfl ?_
  refine g_ladd S0.here hx (hb hby own_d_jdk_29_method_45_code_88) 79 rfl ?_
  refine g_lload S0.here hx (hb hby own_d_jdk_29_method_45_code_89) rfl 81 rfl ?_
  refine g_bipush S0.here hx (hb hby own_d_jdk_29_method_45_code_90) (32 : Int32) (by decide) 83 rfl ?_
  refine g_lshr S0.here hx (hb hby own_d_jdk_29_method_45_code_91) 84 rfl ?_
  refine g_ladd S0.here hx (hb hby own_d_jdk_29_method_45_code_92) 85 rfl ?_
  exact S0.lret hx hlk hret (hb hby own_d_jdk_29_method_45_code_93) ⟨rfl, rfl⟩ (by decide) (by decide)
theorem own_ef94 (m : MethodId) (x0 : Int64) (x1 : Int64) (x2 : Int64) (x3 : Int64) : entryFrame m #[(.long x0), (.long x1), (.long x2), (.long x3)] 12 = mkF m 0 #[.val (.long x0), .second, .val (.long x1), .second, .val (.long x2), .second, .val (.long x3), .second, .unset, .unset, .unset, .unset] [] := by first | (simp [entryFrame, mkF, argsToLocals, Value.category]; done) | rfl
theorem own_d_prog_3_method_4_code_95 : decode prog_3_method_4_code 0 = .ok (.lload_n 0, 1) := by decide +kernel
theorem own_d_prog_3_method_4_code_96 : decode prog_3_method_4_code 1 = .ok (.lload 6, 2) := by decide +kernel
theorem own_d_prog_3_method_4_code_97 : decode prog_3_method_4_code 3 = .ok (.invokestatic 61, 3) := by decide +kernel
theorem own_pd98 : parseMethodDescriptor "(JJ)J" = some ⟨[.long, .long], some .long⟩ := by decide +kernel
theorem own_d_prog_3_method_4_code_99 : decode prog_3_method_4_code 6 = .ok (.lstore 8, 2) := by decide +kernel
theorem own_d_prog_3_method_4_code_100 : decode prog_3_method_4_code 8 = .ok (.lload 4, 2) := by decide +kernel
theorem own_d_prog_3_method_4_code_101 : decode prog_3_method_4_code 10 = .ok (.lload_n 2, 1) := by decide +kernel
theorem own_d_prog_3_method_4_code_102 : decode prog_3_method_4_code 11 = .ok (.invokestatic 61, 3) := by decide +kernel
theorem own_d_prog_3_method_4_code_103 : decode prog_3_method_4_code 14 = .ok (.lstore 10, 2) := by decide +kernel
theorem own_d_prog_3_method_4_code_104 : decode prog_3_method_4_code 16 = .ok (.lload 8, 2) := by decide +kernel
theorem own_d_prog_3_method_4_code_105 : decode prog_3_method_4_code 18 = .ok (.lload 10, 2) := by decide +kernel
theorem own_d_prog_3_method_4_code_106 : decode prog_3_method_4_code 20 = .ok (.lcmp, 1) := by decide +kernel
theorem own_d_prog_3_method_4_code_107 : decode prog_3_method_4_code 21 = .ok (.ifCond .eq 11, 3) := by decide +kernel
theorem own_d_prog_3_method_4_code_108 : decode prog_3_method_4_code 32 = .ok (.lload_n 0, 1) := by decide +kernel
theorem own_d_prog_3_method_4_code_109 : decode prog_3_method_4_code 33 = .ok (.lload 6, 2) := by decide +kernel
theorem own_d_prog_3_method_4_code_110 : decode prog_3_method_4_code 35 = .ok (.lmul, 1) := by decide +kernel
theorem own_d_prog_3_method_4_code_111 : decode prog_3_method_4_code 36 = .ok (.lload 4, 2) := by decide +kernel
theorem own_d_prog_3_method_4_code_112 : decode prog_3_method_4_code 38 = .ok (.lload_n 2, 1) := by decide +kernel
theorem own_d_prog_3_method_4_code_113 : decode prog_3_method_4_code 39 = .ok (.lmul, 1) := by decide +kernel
theorem own_d_prog_3_method_4_code_114 : decode prog_3_method_4_code 40 = .ok (.invokestatic 72, 3) := by decide +kernel
theorem own_d_prog_3_method_4_code_115 : decode prog_3_method_4_code 43 = .ok (.ireturn, 1) := by decide +kernel
theorem own_d_prog_3_method_4_code_116 : decode prog_3_method_4_code 24 = .ok (.lload 8, 2) := by decide +kernel
theorem own_d_prog_3_method_4_code_117 : decode prog_3_method_4_code 26 = .ok (.lload 10, 2) := by decide +kernel
theorem own_d_prog_3_method_4_code_118 : decode prog_3_method_4_code 28 = .ok (.invokestatic 67, 3) := by decide +kernel
theorem own_d_prog_3_method_4_code_119 : decode prog_3_method_4_code 31 = .ok (.ireturn, 1) := by decide +kernel
theorem own_pn120 : plainName "com/example/binwright/binwright/CheapestFill" = true := by first | (simp [plainName, overriddenIn]; done) | decide +kernel
set_option maxRecDepth 65536 in
set_option maxHeartbeats 40000000 in
theorem ctR (l : Launch) (Z : State) (a0 : Array Value) (hw : ∀ d ∈ tables_1, d.before a0 Z = true) (q1 q2 q3 q4 : Int64) (h : Heap) (O : Old Z Z.heap.size h) :
    Ct 0 l Z [] [] (⟨"com/example/binwright/binwright/CheapestFill", "compareRates", "(JJJJ)I"⟩ : MethodName) prog_3_method_4_code 12 (some .int) ({ frames := 2, cells := 0, slots := 0, locals := 46 } : Room) #[(.long q1), (.long q2), (.long q3), (.long q4)] h (fun v h' => v = some (.int (own_sgn (q1.toInt * q4.toInt - q3.toInt * q2.toInt))) ∧ h = h') := by
  refine Ct.intro (plainFor_of_name own_pn120) O (fun _ => rfl) ⟨a0, EW.nil⟩ ?_
  intro p e s m below meth c T0 hx hby hml hret hnm hlk hsf S0
  refine Goes.cast (own_ef94 m q1 q2 q3 q4) ?_
  refine g_lloadN S0.here hx (hb hby own_d_prog_3_method_4_code_95) rfl 1 rfl ?_
  refine g_lload S0.here hx (hb hby own_d_prog_3_method_4_code_96) rfl 3 rfl ?_
  refine S0.callS hx (W := 0) (own_q6 hw) (own_q7 hw) (own_q8 hw) (own_q9 hw) (by decide) (ctM l Z a0 hw q1 q4 h O) nosf (by decide) (by decide) (by rw [hml]; rfl) [(.long q1), (.long q4)] [] (lenOf own_pd98 rfl) rfl rfl (by decide) (hb hby own_d_prog_3_method_4_code_97) (by decide) (by decide) 6 rfl (fun v2 vm2 T2 h2 S2 Q2 R2 => ?_)
  obtain ⟨rfl, rfl⟩ := Q2
  show Goes _ _ _ _ T2 (mkF m 6 #[.val (.long q1), .second, .val (.long q2), .second, .val (.long q3), .second, .val (.long q4), .second, .unset, .unset, .unset, .unset] [(.long (own_mh q1 q4))])
  refine g_lstore S2.here hx (hb hby own_d_prog_3_method_4_code_99) #[.val (.long q1), .second, .val (.long q2), .second, .val (.long q3), .second, .val (.long q4), .second, .val (.long (own_mh q1 q4)), .second, .unset, .unset] rfl 8 rfl ?_
  refine g_lload S2.here hx (hb hby own_d_prog_3_method_4_code_100) rfl 10 rfl ?_
  refine g_lloadN S2.here hx (hb hby own_d_prog_3_method_4_code_101) rfl 11 rfl ?_
  refine S2.callS hx (W := 0) (own_q6 hw) (own_q7 hw) (own_q8 hw) (own_q9 hw) (by decide) (ctM l Z a0 hw q3 q2 h O) nosf (by decide) (by decide) (by rw [hml]; rfl) [(.long q3), (.long q2)] [] (lenOf own_pd98 rfl) rfl rfl (by decide) (hb hby own_d_prog_3_method_4_code_102) (by decide) (by decide) 14 rfl (fun v3 vm3 T3 h3 S3 Q3 R3 => ?_)
  obtain ⟨rfl, rfl⟩ := Q3
  show Goes _ _ _ _ T3 (mkF m 14 #[.val (.long q1), .second, .val (.long q2), .second, .val (.long q3), .second, .val (.long q4), .second, .val (.long (own_mh q1 q4)), .second, .unset, .unset] [(.long (own_mh q3 q2))])
  refine g_lstore S3.here hx (hb hby own_d_prog_3_method_4_code_103) #[.val (.long q1), .second, .val (.long q2), .second, .val (.long q3), .second, .val (.long q4), .second, .val (.long (own_mh q1 q4)), .second, .val (.long (own_mh q3 q2)), .second] rfl 16 rfl ?_
  refine g_lload S3.here hx (hb hby own_d_prog_3_method_4_code_104) rfl 18 rfl ?_
  refine g_lload S3.here hx (hb hby own_d_prog_3_method_4_code_105) rfl 20 rfl ?_
  refine g_lcmp S3.here hx (hb hby own_d_prog_3_method_4_code_106) 21 rfl ?_
  refine g_if S3.here hx (hb hby own_d_prog_3_method_4_code_107) (lcmpW (own_mh q1 q4) (own_mh q3 q2)).toInt rfl 32 24 (by decide) (by decide) rfl (fun (hc21 : (lcmpW (own_mh q1 q4) (own_mh q3 q2)).toInt = 0) => ?_) (fun (hc21 : ¬ ((lcmpW (own_mh q1 q4) (own_mh q3 q2)).toInt = 0)) => ?_)
  · refine g_lloadN S3.here hx (hb hby own_d_prog_3_method_4_code_108) rfl 33 rfl ?_
    refine g_lload S3.here hx (hb hby own_d_prog_3_method_4_code_109) rfl 35 rfl ?_
    refine g_lmul S3.here hx (hb hby own_d_prog_3_method_4_code_110) 36 rfl ?_
    refine g_lload S3.here hx (hb hby own_d_prog_3_method_4_code_111) rfl 38 rfl ?_
    refine g_lloadN S3.here hx (hb hby own_d_prog_3_method_4_code_112) rfl 39 rfl ?_
    refine g_lmul S3.here hx (hb hby own_d_prog_3_method_4_code_113) 40 rfl ?_
    refine S3.callS hx (W := 0) (own_q11 hw) (own_q12 hw) (own_q13 hw) (own_q14 hw) (by decide) (ctU l Z a0 hw (q1 * q4) (q3 * q2) h O) nosf (by decide) (by decide) (by rw [hml]; rfl) [(.long (q1 * q4)), (.long (q3 * q2))] [] (lenOf own_pd39 rfl) rfl rfl (by decide) (hb hby own_d_prog_3_method_4_code_114) (by decide) (by decide) 43 rfl (fun v4 vm4 T4 h4 S4 Q4 R4 => ?_)
    obtain ⟨rfl, rfl⟩ := Q4
    show Goes _ _ _ _ T4 (mkF m 43 #[.val (.long q1), .second, .val (.long q2), .second, .val (.long q3), .second, .val (.long q4), .second, .val (.long (own_mh q1 q4)), .second, .val (.long (own_mh q3 q2)), .second] [(.int (own_sgn ((q1 * q4).toInt % 18446744073709551616 - (q3 * q2).toInt % 18446744073709551616)))])
    exact S4.iret hx hlk hret (Or.inl rfl) rfl (hb hby own_d_prog_3_method_4_code_115) ⟨congrArg (fun z => some (Value.int z)) (own_cmpB q1 q2 q3 q4 hc21), rfl⟩ (by decide) (by decide)
  · refine g_lload S3.here hx (hb hby own_d_prog_3_method_4_code_116) rfl 26 rfl ?_
    refine g_lload S3.here hx (hb hby own_d_prog_3_method_4_code_117) rfl 28 rfl ?_
    refine S3.callS hx (W := 0) (own_q23 hw) (own_q17 hw) (own_q13 hw) (own_q18 hw) (by decide) (ctC l Z a0 hw (own_mh q1 q4) (own_mh q3 q2) h O) nosf (by decide) (by decide) (by rw [hml]; rfl) [(.long (own_mh q1 q4)), (.long (own_mh q3 q2))] [] (lenOf own_pd39 rfl) rfl rfl (by decide) (hb hby own_d_prog_3_method_4_code_118) (by decide) (by decide) 31 rfl (fun v5 vm5 T5 h5 S5 Q5 R5 => ?_)
    obtain ⟨rfl, rfl⟩ := Q5
    show Goes _ _ _ _ T5 (mkF m 31 #[.val (.long q1), .second, .val (.long q2), .second, .val (.long q3), .second, .val (.long q4), .second, .val (.long (own_mh q1 q4)), .second, .val (.long (own_mh q3 q2)), .second] [(.int (own_sgn ((own_mh q1 q4).toInt - (own_mh q3 q2).toInt)))])
    exact S5.iret hx hlk hret (Or.inl rfl) rfl (hb hby own_d_prog_3_method_4_code_119) ⟨congrArg (fun z => some (Value.int z)) (own_cmpA q1 q2 q3 q4 hc21), rfl⟩ (by decide) (by decide)
theorem own_ef121 (m : MethodId) (x0 : Int32) (x1 : Int32) (x2 : Int32) (x3 : Int32) (x4 : Int32) (x5 : Int32) : entryFrame m #[(.int x0), (.int x1), (.int x2), (.int x3), (.int x4), (.int x5)] maxLocals = mkF m 0 #[.val (.int x0), .val (.int x1), .val (.int x2), .val (.int x3), .val (.int x4), .val (.int x5), .unset, .unset, .unset, .unset, .unset, .unset, .unset, .unset, .unset, .unset, .unset, .unset, .unset, .unset, .unset, .unset, .unset, .unset, .unset, .unset, .unset, .unset] [] := by first | (simp [entryFrame, mkF, argsToLocals, Value.category, maxLocals]; done) | rfl
theorem own_pd122 : parseMethodDescriptor "(JJJJ)I" = some ⟨[.long, .long, .long, .long], some .int⟩ := by decide +kernel
theorem own_pd123 : parseMethodDescriptor "(J)I" = some ⟨[.long], some .int⟩ := by decide +kernel
set_option maxRecDepth 65536 in
set_option maxHeartbeats 40000000 in
theorem ct0 (l : Launch) (Z : State) (a0 : Array Value) (hw : ∀ d ∈ tables_1, d.before a0 Z = true) (p1 p2 p3 p4 p5 p6 : Int32) (h : Heap) (O : Old Z Z.heap.size h) :
    Ct 0 l Z [] [] x code maxLocals ret room_1 #[(.int p1), (.int p2), (.int p3), (.int p4), (.int p5), (.int p6)] h (fun v h' => v = some (.int 1)) := by
  refine Ct.intro (plainFor_of_name own_pn15) O (fun _ => rfl) ⟨a0, EW.nil⟩ ?_
  intro p e s m below meth c T0 hx hby hml hret hnm hlk hsf S0
  refine Goes.cast (own_ef121 m p1 p2 p3 p4 p5 p6) ?_
  refine g_iloadN S0.here hx (hb hby at_0) rfl 1 rfl ?_
  refine g_i2l S0.here hx (hb hby at_1) 2 rfl ?_
  refine S0.ldcJ hx (own_q0 hw) (hb hby at_2) 5 rfl ?_
  refine g_land S0.here hx (hb hby at_5) 6 rfl ?_
  generalize hpa : ((p1.toInt64) &&& (4294967295 : Int64)) = pa
  refine g_lstore S0.here hx (hb hby at_6) #[.val (.int p1), .val (.int p2), .val (.int p3), .val (.int p4), .val (.int p5), .val (.int p6), .val (.long pa), .second, .unset, .unset, .unset, .unset, .unset, .unset, .unset, .unset, .unset, .unset, .unset, .unset, .unset, .unset, .unset, .unset, .unset, .unset, .unset, .unset] rfl 8 rfl ?_
  refine g_iloadN S0.here hx (hb hby at_8) rfl 9 rfl ?_
  refine g_i2l S0.here hx (hb hby at_9) 10 rfl ?_
  refine S0.ldcJ hx (own_q1 hw) (hb hby at_10) 13 rfl ?_
  refine g_land S0.here hx (hb hby at_13) 14 rfl ?_
  generalize hqa : ((p2.toInt64) &&& (2147483647 : Int64)) = qa
  refine g_lstore S0.here hx (hb hby at_14) #[.val (.int p1), .val (.int p2), .val (.int p3), .val (.int p4), .val (.int p5), .val (.int p6), .val (.long pa), .second, .val (.long qa), .second, .unset, .unset, .unset, .unset, .unset, .unset, .unset, .unset, .unset, .unset, .unset, .unset, .unset, .unset, .unset, .unset, .unset, .unset] rfl 16 rfl ?_
  refine g_iloadN S0.here hx (hb hby at_16) rfl 17 rfl ?_
  refine g_i2l S0.here hx (hb hby at_17) 18 rfl ?_
  refine S0.ldcJ hx (own_q0 hw) (hb hby at_18) 21 rfl ?_
  refine g_land S0.here hx (hb hby at_21) 22 rfl ?_
  generalize hpb : ((p3.toInt64) &&& (4294967295 : Int64)) = pb
  refine g_lstore S0.here hx (hb hby at_22) #[.val (.int p1), .val (.int p2), .val (.int p3), .val (.int p4), .val (.int p5), .val (.int p6), .val (.long pa), .second, .val (.long qa), .second, .val (.long pb), .second, .unset, .unset, .unset, .unset, .unset, .unset, .unset, .unset, .unset, .unset, .unset, .unset, .unset, .unset, .unset, .unset] rfl 24 rfl ?_
  refine g_iloadN S0.here hx (hb hby at_24) rfl 25 rfl ?_
  refine g_i2l S0.here hx (hb hby at_25) 26 rfl ?_
  refine S0.ldcJ hx (own_q1 hw) (hb hby at_26) 29 rfl ?_
  refine g_land S0.here hx (hb hby at_29) 30 rfl ?_
  generalize hqb : ((p4.toInt64) &&& (2147483647 : Int64)) = qb
  refine g_lstore S0.here hx (hb hby at_30) #[.val (.int p1), .val (.int p2), .val (.int p3), .val (.int p4), .val (.int p5), .val (.int p6), .val (.long pa), .second, .val (.long qa), .second, .val (.long pb), .second, .val (.long qb), .second, .unset, .unset, .unset, .unset, .unset, .unset, .unset, .unset, .unset, .unset, .unset, .unset, .unset, .unset] rfl 32 rfl ?_
  refine g_iload S0.here hx (hb hby at_32) rfl 34 rfl ?_
  refine g_i2l S0.here hx (hb hby at_34) 35 rfl ?_
  refine S0.ldcJ hx (own_q1 hw) (hb hby at_35) 38 rfl ?_
  refine g_land S0.here hx (hb hby at_38) 39 rfl ?_
  generalize hmm : ((p5.toInt64) &&& (2147483647 : Int64)) = mm
  refine g_lstore S0.here hx (hb hby at_39) #[.val (.int p1), .val (.int p2), .val (.int p3), .val (.int p4), .val (.int p5), .val (.int p6), .val (.long pa), .second, .val (.long qa), .second, .val (.long pb), .second, .val (.long qb), .second, .val (.long mm), .second, .unset, .unset, .unset, .unset, .unset, .unset, .unset, .unset, .unset, .unset, .unset, .unset] rfl 41 rfl ?_
  refine g_iload S0.here hx (hb hby at_41) rfl 43 rfl ?_
  refine g_i2l S0.here hx (hb hby at_43) 44 rfl ?_
  refine S0.ldcJ hx (own_q0 hw) (hb hby at_44) 47 rfl ?_
  refine g_land S0.here hx (hb hby at_47) 48 rfl ?_
  generalize hnn : ((p6.toInt64) &&& (4294967295 : Int64)) = nn
  refine g_lstore S0.here hx (hb hby at_48) #[.val (.int p1), .val (.int p2), .val (.int p3), .val (.int p4), .val (.int p5), .val (.int p6), .val (.long pa), .second, .val (.long qa), .second, .val (.long pb), .second, .val (.long qb), .second, .val (.long mm), .second, .val (.long nn), .second, .unset, .unset, .unset, .unset, .unset, .unset, .unset, .unset, .unset, .unset] rfl 50 rfl ?_
  refine g_lload S0.here hx (hb hby at_50) rfl 52 rfl ?_
  refine g_lload S0.here hx (hb hby at_52) rfl 54 rfl ?_
  refine g_lmul S0.here hx (hb hby at_54) 55 rfl ?_
  refine g_lstore S0.here hx (hb hby at_55) #[.val (.int p1), .val (.int p2), .val (.int p3), .val (.int p4), .val (.int p5), .val (.int p6), .val (.long pa), .second, .val (.long qa), .second, .val (.long pb), .second, .val (.long qb), .second, .val (.long mm), .second, .val (.long nn), .second, .val (.long (pa * mm)), .second, .unset, .unset, .unset, .unset, .unset, .unset, .unset, .unset] rfl 57 rfl ?_
  refine g_lload S0.here hx (hb hby at_57) rfl 59 rfl ?_
  refine g_lload S0.here hx (hb hby at_59) rfl 61 rfl ?_
  refine g_lmul S0.here hx (hb hby at_61) 62 rfl ?_
  refine g_lstore S0.here hx (hb hby at_62) #[.val (.int p1), .val (.int p2), .val (.int p3), .val (.int p4), .val (.int p5), .val (.int p6), .val (.long pa), .second, .val (.long qa), .second, .val (.long pb), .second, .val (.long qb), .second, .val (.long mm), .second, .val (.long nn), .second, .val (.long (pa * mm)), .second, .val (.long (qa * nn)), .second, .unset, .unset, .unset, .unset, .unset, .unset] rfl 64 rfl ?_
  refine g_lload S0.here hx (hb hby at_64) rfl 66 rfl ?_
  refine g_lload S0.here hx (hb hby at_66) rfl 68 rfl ?_
  refine g_lmul S0.here hx (hb hby at_68) 69 rfl ?_
  refine g_lstore S0.here hx (hb hby at_69) #[.val (.int p1), .val (.int p2), .val (.int p3), .val (.int p4), .val (.int p5), .val (.int p6), .val (.long pa), .second, .val (.long qa), .second, .val (.long pb), .second, .val (.long qb), .second, .val (.long mm), .second, .val (.long nn), .second, .val (.long (pa * mm)), .second, .val (.long (qa * nn)), .second, .val (.long (pb * mm)), .second, .unset, .unset, .unset, .unset] rfl 71 rfl ?_
  refine g_lload S0.here hx (hb hby at_71) rfl 73 rfl ?_
  refine g_lload S0.here hx (hb hby at_73) rfl 75 rfl ?_
  refine g_lmul S0.here hx (hb hby at_75) 76 rfl ?_
  refine g_lstore S0.here hx (hb hby at_76) #[.val (.int p1), .val (.int p2), .val (.int p3), .val (.int p4), .val (.int p5), .val (.int p6), .val (.long pa), .second, .val (.long qa), .second, .val (.long pb), .second, .val (.long qb), .second, .val (.long mm), .second, .val (.long nn), .second, .val (.long (pa * mm)), .second, .val (.long (qa * nn)), .second, .val (.long (pb * mm)), .second, .val (.long (qb * nn)), .second, .unset, .unset] rfl 78 rfl ?_
  refine g_lload S0.here hx (hb hby at_78) rfl 80 rfl ?_
  refine g_lconst S0.here hx (hb hby at_80) (0 : Int64) (by decide) 81 rfl ?_
  refine g_lcmp S0.here hx (hb hby at_81) 82 rfl ?_
  refine g_if S0.here hx (hb hby at_82) (lcmpW mm (0 : Int64)).toInt rfl 92 85 (by decide) (by decide) rfl (fun (hc82 : (lcmpW mm (0 : Int64)).toInt = 0) => ?_) (fun (hc82 : ¬ ((lcmpW mm (0 : Int64)).toInt = 0)) => ?_)
  · refine g_iconst S0.here hx (hb hby at_92) (0 : Int32) (by decide) 93 rfl ?_
    refine g_istore S0.here hx (hb hby at_93) #[.val (.int p1), .val (.int p2), .val (.int p3), .val (.int p4), .val (.int p5), .val (.int p6), .val (.long pa), .second, .val (.long qa), .second, .val (.long pb), .second, .val (.long qb), .second, .val (.long mm), .second, .val (.long nn), .second, .val (.long (pa * mm)), .second, .val (.long (qa * nn)), .second, .val (.long (pb * mm)), .second, .val (.long (qb * nn)), .second, .val (.int (0 : Int32)), .unset] rfl 95 rfl ?_
    refine g_goto S0.here hx (hb hby at_95) 114 (by decide) (by decide) ?_
    refine g_lload S0.here hx (hb hby at_114) rfl 116 rfl ?_
    refine g_lload S0.here hx (hb hby at_116) rfl 118 rfl ?_
    refine g_lload S0.here hx (hb hby at_118) rfl 120 rfl ?_
    refine g_lload S0.here hx (hb hby at_120) rfl 122 rfl ?_
    refine S0.callS hx (W := 0) (own_q2 hw) (own_q3 hw) (own_q4 hw) (own_q5 hw) (by decide) (ctR l Z a0 hw (pa * mm) (qa * nn) (pb * mm) (qb * nn) h O) nosf (by decide) (by decide) (by rw [hml]; rfl) [(.long (pa * mm)), (.long (qa * nn)), (.long (pb * mm)), (.long (qb * nn))] [] (lenOf own_pd122 rfl) rfl rfl (by decide) (hb hby at_122) (by decide) (by decide) 125 rfl (fun v6 vm6 T6 h6 S6 Q6 R6 => ?_)
    obtain ⟨rfl, rfl⟩ := Q6
    show Goes _ _ _ _ T6 (mkF m 125 #[.val (.int p1), .val (.int p2), .val (.int p3), .val (.int p4), .val (.int p5), .val (.int p6), .val (.long pa), .second, .val (.long qa), .second, .val (.long pb), .second, .val (.long qb), .second, .val (.long mm), .second, .val (.long nn), .second, .val (.long (pa * mm)), .second, .val (.long (qa * nn)), .second, .val (.long (pb * mm)), .second, .val (.long (qb * nn)), .second, .val (.int (0 : Int32)), .unset] [(.int (own_sgn ((pa * mm).toInt * (qb * nn).toInt - (pb * mm).toInt * (qa * nn).toInt)))])
    refine g_istore S6.here hx (hb hby at_125) #[.val (.int p1), .val (.int p2), .val (.int p3), .val (.int p4), .val (.int p5), .val (.int p6), .val (.long pa), .second, .val (.long qa), .second, .val (.long pb), .second, .val (.long qb), .second, .val (.long mm), .second, .val (.long nn), .second, .val (.long (pa * mm)), .second, .val (.long (qa * nn)), .second, .val (.long (pb * mm)), .second, .val (.long (qb * nn)), .second, .val (.int (0 : Int32)), .val (.int (own_sgn ((pa * mm).toInt * (qb * nn).toInt - (pb * mm).toInt * (qa * nn).toInt)))] rfl 127 rfl ?_
    refine g_iload S6.here hx (hb hby at_127) rfl 129 rfl ?_
    refine g_i2l S6.here hx (hb hby at_129) 130 rfl ?_
    refine S6.callS hx (W := 0) (own_q19 hw) (own_q20 hw) (own_q21 hw) (own_q22 hw) (by decide) (ctS l Z a0 hw ((own_sgn ((pa * mm).toInt * (qb * nn).toInt - (pb * mm).toInt * (qa * nn).toInt)).toInt64) h O) nosf (by decide) (by decide) (by rw [hml]; rfl) [(.long ((own_sgn ((pa * mm).toInt * (qb * nn).toInt - (pb * mm).toInt * (qa * nn).toInt)).toInt64))] [] (lenOf own_pd123 rfl) rfl rfl (by decide) (hb hby at_130) (by decide) (by decide) 133 rfl (fun v7 vm7 T7 h7 S7 Q7 R7 => ?_)
    obtain ⟨rfl, rfl⟩ := Q7
    show Goes _ _ _ _ T7 (mkF m 133 #[.val (.int p1), .val (.int p2), .val (.int p3), .val (.int p4), .val (.int p5), .val (.int p6), .val (.long pa), .second, .val (.long qa), .second, .val (.long pb), .second, .val (.long qb), .second, .val (.long mm), .second, .val (.long nn), .second, .val (.long (pa * mm)), .second, .val (.long (qa * nn)), .second, .val (.long (pb * mm)), .second, .val (.long (qb * nn)), .second, .val (.int (0 : Int32)), .val (.int (own_sgn ((pa * mm).toInt * (qb * nn).toInt - (pb * mm).toInt * (qa * nn).toInt)))] [(.int (own_sgn (((own_sgn ((pa * mm).toInt * (qb * nn).toInt - (pb * mm).toInt * (qa * nn).toInt)).toInt64)).toInt))])
    refine g_iload S7.here hx (hb hby at_133) rfl 135 rfl ?_
    refine g_icmpF S7.here hx (hb hby at_135) (own_sgn (((own_sgn ((pa * mm).toInt * (qb * nn).toInt - (pb * mm).toInt * (qa * nn).toInt)).toInt64)).toInt).toInt 0 rfl (by decide) (show ¬ (¬ (own_sgn (((own_sgn ((pa * mm).toInt * (qb * nn).toInt - (pb * mm).toInt * (qa * nn).toInt)).toInt64)).toInt).toInt = 0) from fun q => q (by rw [(own_fin (hpa ▸ own_m32 _) (hqa ▸ own_m31 _) (hpb ▸ own_m32 _) (hqb ▸ own_m31 _) (hmm ▸ own_m31 _) (hnn ▸ own_m32 _)), if_pos (own_z0 mm hc82)]; decide)) 138 rfl ?_
    refine g_iconst S7.here hx (hb hby at_138) (1 : Int32) (by decide) 139 rfl ?_
    refine g_goto S7.here hx (hb hby at_139) 143 (by decide) (by decide) ?_
    exact S7.iret hx hlk hret (Or.inr (Or.inl rfl)) rfl (hb hby at_143) rfl (by decide) (by decide)
  · refine g_lload S0.here hx (hb hby at_85) rfl 87 rfl ?_
    refine g_lconst S0.here hx (hb hby at_87) (0 : Int64) (by decide) 88 rfl ?_
    refine g_lcmp S0.here hx (hb hby at_88) 89 rfl ?_
    refine g_if S0.here hx (hb hby at_89) (lcmpW nn (0 : Int64)).toInt rfl 98 92 (by decide) (by decide) rfl (fun (hc89 : ¬ (lcmpW nn (0 : Int64)).toInt = 0) => ?_) (fun (hc89 : ¬ (¬ (lcmpW nn (0 : Int64)).toInt = 0)) => ?_)
    · refine g_lload S0.here hx (hb hby at_98) rfl 100 rfl ?_
      refine g_lload S0.here hx (hb hby at_100) rfl 102 rfl ?_
      refine g_lmul S0.here hx (hb hby at_102) 103 rfl ?_
      refine g_lload S0.here hx (hb hby at_103) rfl 105 rfl ?_
      refine g_lload S0.here hx (hb hby at_105) rfl 107 rfl ?_
      refine g_lmul S0.here hx (hb hby at_107) 108 rfl ?_
      refine g_lsub S0.here hx (hb hby at_108) 109 rfl ?_
      refine S0.callS hx (W := 0) (own_q19 hw) (own_q20 hw) (own_q21 hw) (own_q22 hw) (by decide) (ctS l Z a0 hw ((pa * qb) - (pb * qa)) h O) nosf (by decide) (by decide) (by rw [hml]; rfl) [(.long ((pa * qb) - (pb * qa)))] [] (lenOf own_pd123 rfl) rfl rfl (by decide) (hb hby at_109) (by decide) (by decide) 112 rfl (fun v8 vm8 T8 h8 S8 Q8 R8 => ?_)
      obtain ⟨rfl, rfl⟩ := Q8
      show Goes _ _ _ _ T8 (mkF m 112 #[.val (.int p1), .val (.int p2), .val (.int p3), .val (.int p4), .val (.int p5), .val (.int p6), .val (.long pa), .second, .val (.long qa), .second, .val (.long pb), .second, .val (.long qb), .second, .val (.long mm), .second, .val (.long nn), .second, .val (.long (pa * mm)), .second, .val (.long (qa * nn)), .second, .val (.long (pb * mm)), .second, .val (.long (qb * nn)), .second, .unset, .unset] [(.int (own_sgn (((pa * qb) - (pb * qa))).toInt))])
      refine g_istore S8.here hx (hb hby at_112) #[.val (.int p1), .val (.int p2), .val (.int p3), .val (.int p4), .val (.int p5), .val (.int p6), .val (.long pa), .second, .val (.long qa), .second, .val (.long pb), .second, .val (.long qb), .second, .val (.long mm), .second, .val (.long nn), .second, .val (.long (pa * mm)), .second, .val (.long (qa * nn)), .second, .val (.long (pb * mm)), .second, .val (.long (qb * nn)), .second, .val (.int (own_sgn (((pa * qb) - (pb * qa))).toInt)), .unset] rfl 114 rfl ?_
      refine g_lload S8.here hx (hb hby at_114) rfl 116 rfl ?_
      refine g_lload S8.here hx (hb hby at_116) rfl 118 rfl ?_
      refine g_lload S8.here hx (hb hby at_118) rfl 120 rfl ?_
      refine g_lload S8.here hx (hb hby at_120) rfl 122 rfl ?_
      refine S8.callS hx (W := 0) (own_q2 hw) (own_q3 hw) (own_q4 hw) (own_q5 hw) (by decide) (ctR l Z a0 hw (pa * mm) (qa * nn) (pb * mm) (qb * nn) h O) nosf (by decide) (by decide) (by rw [hml]; rfl) [(.long (pa * mm)), (.long (qa * nn)), (.long (pb * mm)), (.long (qb * nn))] [] (lenOf own_pd122 rfl) rfl rfl (by decide) (hb hby at_122) (by decide) (by decide) 125 rfl (fun v9 vm9 T9 h9 S9 Q9 R9 => ?_)
      obtain ⟨rfl, rfl⟩ := Q9
      show Goes _ _ _ _ T9 (mkF m 125 #[.val (.int p1), .val (.int p2), .val (.int p3), .val (.int p4), .val (.int p5), .val (.int p6), .val (.long pa), .second, .val (.long qa), .second, .val (.long pb), .second, .val (.long qb), .second, .val (.long mm), .second, .val (.long nn), .second, .val (.long (pa * mm)), .second, .val (.long (qa * nn)), .second, .val (.long (pb * mm)), .second, .val (.long (qb * nn)), .second, .val (.int (own_sgn (((pa * qb) - (pb * qa))).toInt)), .unset] [(.int (own_sgn ((pa * mm).toInt * (qb * nn).toInt - (pb * mm).toInt * (qa * nn).toInt)))])
      refine g_istore S9.here hx (hb hby at_125) #[.val (.int p1), .val (.int p2), .val (.int p3), .val (.int p4), .val (.int p5), .val (.int p6), .val (.long pa), .second, .val (.long qa), .second, .val (.long pb), .second, .val (.long qb), .second, .val (.long mm), .second, .val (.long nn), .second, .val (.long (pa * mm)), .second, .val (.long (qa * nn)), .second, .val (.long (pb * mm)), .second, .val (.long (qb * nn)), .second, .val (.int (own_sgn (((pa * qb) - (pb * qa))).toInt)), .val (.int (own_sgn ((pa * mm).toInt * (qb * nn).toInt - (pb * mm).toInt * (qa * nn).toInt)))] rfl 127 rfl ?_
      refine g_iload S9.here hx (hb hby at_127) rfl 129 rfl ?_
      refine g_i2l S9.here hx (hb hby at_129) 130 rfl ?_
      refine S9.callS hx (W := 0) (own_q19 hw) (own_q20 hw) (own_q21 hw) (own_q22 hw) (by decide) (ctS l Z a0 hw ((own_sgn ((pa * mm).toInt * (qb * nn).toInt - (pb * mm).toInt * (qa * nn).toInt)).toInt64) h O) nosf (by decide) (by decide) (by rw [hml]; rfl) [(.long ((own_sgn ((pa * mm).toInt * (qb * nn).toInt - (pb * mm).toInt * (qa * nn).toInt)).toInt64))] [] (lenOf own_pd123 rfl) rfl rfl (by decide) (hb hby at_130) (by decide) (by decide) 133 rfl (fun v10 vm10 T10 h10 S10 Q10 R10 => ?_)
      obtain ⟨rfl, rfl⟩ := Q10
      show Goes _ _ _ _ T10 (mkF m 133 #[.val (.int p1), .val (.int p2), .val (.int p3), .val (.int p4), .val (.int p5), .val (.int p6), .val (.long pa), .second, .val (.long qa), .second, .val (.long pb), .second, .val (.long qb), .second, .val (.long mm), .second, .val (.long nn), .second, .val (.long (pa * mm)), .second, .val (.long (qa * nn)), .second, .val (.long (pb * mm)), .second, .val (.long (qb * nn)), .second, .val (.int (own_sgn (((pa * qb) - (pb * qa))).toInt)), .val (.int (own_sgn ((pa * mm).toInt * (qb * nn).toInt - (pb * mm).toInt * (qa * nn).toInt)))] [(.int (own_sgn (((own_sgn ((pa * mm).toInt * (qb * nn).toInt - (pb * mm).toInt * (qa * nn).toInt)).toInt64)).toInt))])
      refine g_iload S10.here hx (hb hby at_133) rfl 135 rfl ?_
      refine g_icmpF S10.here hx (hb hby at_135) (own_sgn (((own_sgn ((pa * mm).toInt * (qb * nn).toInt - (pb * mm).toInt * (qa * nn).toInt)).toInt64)).toInt).toInt (own_sgn (((pa * qb) - (pb * qa))).toInt).toInt rfl rfl (show ¬ (¬ (own_sgn (((own_sgn ((pa * mm).toInt * (qb * nn).toInt - (pb * mm).toInt * (qa * nn).toInt)).toInt64)).toInt).toInt = (own_sgn (((pa * qb) - (pb * qa))).toInt).toInt) from fun q => q (by rw [(own_fin (hpa ▸ own_m32 _) (hqa ▸ own_m31 _) (hpb ▸ own_m32 _) (hqb ▸ own_m31 _) (hmm ▸ own_m31 _) (hnn ▸ own_m32 _)), if_neg (own_z2 mm nn hc82 hc89)])) 138 rfl ?_
      refine g_iconst S10.here hx (hb hby at_138) (1 : Int32) (by decide) 139 rfl ?_
      refine g_goto S10.here hx (hb hby at_139) 143 (by decide) (by decide) ?_
      exact S10.iret hx hlk hret (Or.inr (Or.inl rfl)) rfl (hb hby at_143) rfl (by decide) (by decide)
    · refine g_iconst S0.here hx (hb hby at_92) (0 : Int32) (by decide) 93 rfl ?_
      refine g_istore S0.here hx (hb hby at_93) #[.val (.int p1), .val (.int p2), .val (.int p3), .val (.int p4), .val (.int p5), .val (.int p6), .val (.long pa), .second, .val (.long qa), .second, .val (.long pb), .second, .val (.long qb), .second, .val (.long mm), .second, .val (.long nn), .second, .val (.long (pa * mm)), .second, .val (.long (qa * nn)), .second, .val (.long (pb * mm)), .second, .val (.long (qb * nn)), .second, .val (.int (0 : Int32)), .unset] rfl 95 rfl ?_
      refine g_goto S0.here hx (hb hby at_95) 114 (by decide) (by decide) ?_
      refine g_lload S0.here hx (hb hby at_114) rfl 116 rfl ?_
      refine g_lload S0.here hx (hb hby at_116) rfl 118 rfl ?_
      refine g_lload S0.here hx (hb hby at_118) rfl 120 rfl ?_
      refine g_lload S0.here hx (hb hby at_120) rfl 122 rfl ?_
      refine S0.callS hx (W := 0) (own_q2 hw) (own_q3 hw) (own_q4 hw) (own_q5 hw) (by decide) (ctR l Z a0 hw (pa * mm) (qa * nn) (pb * mm) (qb * nn) h O) nosf (by decide) (by decide) (by rw [hml]; rfl) [(.long (pa * mm)), (.long (qa * nn)), (.long (pb * mm)), (.long (qb * nn))] [] (lenOf own_pd122 rfl) rfl rfl (by decide) (hb hby at_122) (by decide) (by decide) 125 rfl (fun v11 vm11 T11 h11 S11 Q11 R11 => ?_)
      obtain ⟨rfl, rfl⟩ := Q11
      show Goes _ _ _ _ T11 (mkF m 125 #[.val (.int p1), .val (.int p2), .val (.int p3), .val (.int p4), .val (.int p5), .val (.int p6), .val (.long pa), .second, .val (.long qa), .second, .val (.long pb), .second, .val (.long qb), .second, .val (.long mm), .second, .val (.long nn), .second, .val (.long (pa * mm)), .second, .val (.long (qa * nn)), .second, .val (.long (pb * mm)), .second, .val (.long (qb * nn)), .second, .val (.int (0 : Int32)), .unset] [(.int (own_sgn ((pa * mm).toInt * (qb * nn).toInt - (pb * mm).toInt * (qa * nn).toInt)))])
      refine g_istore S11.here hx (hb hby at_125) #[.val (.int p1), .val (.int p2), .val (.int p3), .val (.int p4), .val (.int p5), .val (.int p6), .val (.long pa), .second, .val (.long qa), .second, .val (.long pb), .second, .val (.long qb), .second, .val (.long mm), .second, .val (.long nn), .second, .val (.long (pa * mm)), .second, .val (.long (qa * nn)), .second, .val (.long (pb * mm)), .second, .val (.long (qb * nn)), .second, .val (.int (0 : Int32)), .val (.int (own_sgn ((pa * mm).toInt * (qb * nn).toInt - (pb * mm).toInt * (qa * nn).toInt)))] rfl 127 rfl ?_
      refine g_iload S11.here hx (hb hby at_127) rfl 129 rfl ?_
      refine g_i2l S11.here hx (hb hby at_129) 130 rfl ?_
      refine S11.callS hx (W := 0) (own_q19 hw) (own_q20 hw) (own_q21 hw) (own_q22 hw) (by decide) (ctS l Z a0 hw ((own_sgn ((pa * mm).toInt * (qb * nn).toInt - (pb * mm).toInt * (qa * nn).toInt)).toInt64) h O) nosf (by decide) (by decide) (by rw [hml]; rfl) [(.long ((own_sgn ((pa * mm).toInt * (qb * nn).toInt - (pb * mm).toInt * (qa * nn).toInt)).toInt64))] [] (lenOf own_pd123 rfl) rfl rfl (by decide) (hb hby at_130) (by decide) (by decide) 133 rfl (fun v12 vm12 T12 h12 S12 Q12 R12 => ?_)
      obtain ⟨rfl, rfl⟩ := Q12
      show Goes _ _ _ _ T12 (mkF m 133 #[.val (.int p1), .val (.int p2), .val (.int p3), .val (.int p4), .val (.int p5), .val (.int p6), .val (.long pa), .second, .val (.long qa), .second, .val (.long pb), .second, .val (.long qb), .second, .val (.long mm), .second, .val (.long nn), .second, .val (.long (pa * mm)), .second, .val (.long (qa * nn)), .second, .val (.long (pb * mm)), .second, .val (.long (qb * nn)), .second, .val (.int (0 : Int32)), .val (.int (own_sgn ((pa * mm).toInt * (qb * nn).toInt - (pb * mm).toInt * (qa * nn).toInt)))] [(.int (own_sgn (((own_sgn ((pa * mm).toInt * (qb * nn).toInt - (pb * mm).toInt * (qa * nn).toInt)).toInt64)).toInt))])
      refine g_iload S12.here hx (hb hby at_133) rfl 135 rfl ?_
      refine g_icmpF S12.here hx (hb hby at_135) (own_sgn (((own_sgn ((pa * mm).toInt * (qb * nn).toInt - (pb * mm).toInt * (qa * nn).toInt)).toInt64)).toInt).toInt 0 rfl (by decide) (show ¬ (¬ (own_sgn (((own_sgn ((pa * mm).toInt * (qb * nn).toInt - (pb * mm).toInt * (qa * nn).toInt)).toInt64)).toInt).toInt = 0) from fun q => q (by rw [(own_fin (hpa ▸ own_m32 _) (hqa ▸ own_m31 _) (hpb ▸ own_m32 _) (hqb ▸ own_m31 _) (hmm ▸ own_m31 _) (hnn ▸ own_m32 _)), if_pos (own_z1 mm nn hc89)]; decide)) 138 rfl ?_
      refine g_iconst S12.here hx (hb hby at_138) (1 : Int32) (by decide) 139 rfl ?_
      refine g_goto S12.here hx (hb hby at_139) 143 (by decide) (by decide) ?_
      exact S12.iret hx hlk hret (Or.inr (Or.inl rfl)) rfl (hb hby at_143) rfl (by decide) (by decide)
set_option maxRecDepth 65536 in
set_option maxHeartbeats 40000000 in
theorem comes_1 {Post : Tables → Env → Array Value → State → Outcome → State → Prop} (hpost : ∀ tb e args s v u, (limb_1_1.after args s (.returned v) u = true ∧ limb_1_2.after args s (.returned v) u = true ∧ True) → FrameEnd s (.returned v) u (Jvm.fieldLocs frame_1_writes args s ++ Jvm.arrayLocs frame_1_arrays args s ++ Jvm.staticLocs frame_1_statics s) 0 0 → Post tb e args s (.returned v) u) :
    ArmFor flags0 classFile x code maxLocals ret World_1 tables_1 room_1 Calls_1 rest_1 Pre_1 Post := by
  intro l hfl _ _ p e ha hc hk s m args below hf hA hF happ hP
  obtain ⟨hcalls, hrest, hpre⟩ := hP
  obtain ⟨-, -, -, hnamed, -, -, -, hat⟩ := (Spec.applies_iff hf).mp happ
  obtain ⟨hg, hn⟩ := and_e (Cond.before_iff.mp (show (Jvm.Cond.and given_1 narrow_1).before args s = true from hpre))
  obtain ⟨gc, gr⟩ := and_e hg
  obtain ⟨g0, gr0⟩ := and_e gr
  obtain ⟨g1, gr1⟩ := and_e gr0
  obtain ⟨g2, gr2⟩ := and_e gr1
  obtain ⟨g3, gr3⟩ := and_e gr2
  obtain ⟨g4, gr4⟩ := and_e gr3
  have g5 := gr4
  obtain ⟨w0, w1, w2, w3, w4, w5, rfl⟩ : ∃ w0 w1 w2 w3 w4 w5 : Value, args = #[w0, w1, w2, w3, w4, w5] := by
    have hs : args.size = 6 := by simpa [Cond.value, given_1] using gc
    obtain ⟨L⟩ := args
    match L, hs with
    | [w0, w1, w2, w3, w4, w5], _ => exact ⟨w0, w1, w2, w3, w4, w5, rfl⟩
  have hw := fun d (hd : d ∈ tables_1) => atoms_spec (ws := Jvm.Cond.code x code maxLocals ret :: tables_1) hat d (List.mem_cons_of_mem _ hd)
  have hfit : Fit s := fun {y c} hc i hi => by
    obtain ⟨ha, rfl⟩ := Array.getElem?_eq_some_iff.mp hc
    have q := List.all_eq_true.mp ((Array.all_eq_true_iff_forall_mem.mp hF) _ (Array.getElem_mem ha)) i (List.mem_range.mpr hi)
    simpa [Array.getElem?_eq_getElem hi] using q
  obtain ⟨i0, e0⟩ := is_v g0
  obtain rfl : w0 = (.int i0) := Option.some.inj e0
  obtain ⟨i1, e1⟩ := is_v g1
  obtain rfl : w1 = (.int i1) := Option.some.inj e1
  obtain ⟨i2, e2⟩ := is_v g2
  obtain rfl : w2 = (.int i2) := Option.some.inj e2
  obtain ⟨i3, e3⟩ := is_v g3
  obtain rfl : w3 = (.int i3) := Option.some.inj e3
  obtain ⟨i4, e4⟩ := is_v g4
  obtain rfl : w4 = (.int i4) := Option.some.inj e4
  obtain ⟨i5, e5⟩ := is_v g5
  obtain rfl : w5 = (.int i5) := Option.some.inj e5
  obtain ⟨n, o, h1, h2, h3, v, L, rfl, ⟨rfl, N, -⟩, -, hq⟩ := ct0 l s _ hw i0 i1 i2 i3 i4 i5 s.heap (Old.start s) tables_1 p e ha hc hk s m _ below hf ((Spec.applies_iff_loose hf).mp happ).1 ⟨rfl, State.Warmed39.refl s, rfl, chv_nil, fun _ q => nomatch q⟩ (fun q => by cases q)
  have hq := hq.1 rfl
  refine ⟨n, _, h1, h2, h3, hpost _ _ _ _ _ _ ⟨Cond.after_iff.mpr rfl, Cond.after_iff.mpr (eq_i res_at (Term.int_eval (1)) rfl), trivial⟩ ⟨hq.1, hq.2.1, (hq.2.2.sift fun y hy => Or.inr (N y hy)).mono (by decide) (by decide)⟩⟩
theorem main_1_1 : Claimed_1_1 := comes_1 fun _ _ _ _ _ _ h hF => ⟨h.1, hF⟩
theorem main_1_2 : Claimed_1_2 := comes_1 fun _ _ _ _ _ _ h hF => ⟨h.2.1, hF⟩
end Jvm.Pilot.@@N@@
namespace Jvm.Pilot.@@N@@
open Jvm Jvm.ClassFile Sem Op Lib Jvm.Free Jvm.Stand Jvm.Pilot.@@N@@.Jvm.D
/-! MADE BY PROGRAM (witnessworld.py) out of the Statement's table words and the real class files: 15 classes; the members and pool entries that the words name. The judged class is class 1, her method 2. -/
namespace start1
open Jvm.ClassFile
def u (s : String) : CpInfo := .utf8 (stringToUtf16 s)
/-- a pool by its gaps: so many unusable entries, then the entry; so many at the end -/
def gap : Nat → List CpInfo → List CpInfo
  | 0, r => r
  | n + 1, r => .unusable :: gap n r
def poolList (es : List (Nat × CpInfo)) (last : Nat) : List CpInfo := es.foldr (fun e r => gap e.1 (e.2 :: r)) (gap last [])
def pool (es : List (Nat × CpInfo)) (last : Nat) : Array CpInfo := ⟨poolList es last⟩
def fileOf (pool : Array CpInfo) (this : Nat) (attrs : Array Attribute := #[]) (ms : Array MethodInfo := #[]) (fl : Nat := 33) (sup : Nat := 0) (ifs : Array Nat := #[]) (fds : Array FieldInfo := #[]) : ClassFile where
  minorVersion := 0
  majorVersion := 65
  constantPool := pool
  accessFlags := fl
  thisClass := this
  superClass := sup
  interfaces := ifs
  fields := fds
  methods := ms
  attributes := attrs
def plain (name : String) (sup : Option ClassId) : Class where
  name := name
  kind := .ordinary
  loader := none
  accessFlags := 33
  super := sup
  interfaces := #[]
  cf := none
  fields := #[]
  methods := #[]
  instanceTypes := #[]
  staticTypes := #[]
  resolved := #[]
  callSites := []
  init := .initialized
  statics := none
  mirror := none

def pool0 : Array CpInfo := pool [(5, u "<init>"), (0, u "()V"), (1, .class_ 10), (1, u "java/lang/Object")] 113

def k0m0 : Method := { name := "<init>", desc := "()V", sig := { parameters := [], returnType := none }, accessFlags := 1, code := none }
/-- java/lang/Object -/
def k0 : Class := { plain "java/lang/Object" none with
  accessFlags := 33
  interfaces := #[]
  cf := some (fileOf pool0 8 #[] #[{ accessFlags := 1, nameIndex := 5, descriptorIndex := 6, attributes := #[] }] 33 0 #[] #[])
  fields := #[]
  methods := #[k0m0]
  instanceTypes := #[]
  staticTypes := #[]
  resolved := Array.replicate 124 none
  statics := none }

def pool1 : Array CpInfo := pool [(2, .class_ 4), (1, u "java/lang/Object"), (0, u "<init>"), (0, u "()V"), (0, .long 4294967295), (1, .long 2147483647), (1, .methodref 12 13), (0, .class_ 14), (0, .nameAndType 15 16), (0, u "com/example/binwright/binwright/CheapestFillCompareRatesPinLaw"), (0, u "sign"), (0, u "(J)I"), (0, .methodref 18 19), (0, .class_ 20), (0, .nameAndType 21 22), (0, u "com/example/binwright/binwright/CheapestFill"), (0, u "compareRates"), (0, u "(JJJJ)I"), (3, u "law"), (0, u "(IIIIII)Z")] 2

def k1m0 : Method := { name := "<init>", desc := "()V", sig := { parameters := [], returnType := none }, accessFlags := 1, code := none }
def k1c1 : Code := { maxStack := 4, maxLocals := 2, code := method_2_code, exceptionTable := #[], attributes := #[] }
def k1m1 : Method := { name := "sign", desc := "(J)I", sig := { parameters := [.long], returnType := some .int }, accessFlags := 10, code := some k1c1 }
def k1c2 : Code := { maxStack := 8, maxLocals := 28, code := code, exceptionTable := #[], attributes := #[] }
def k1m2 : Method := { name := "law", desc := "(IIIIII)Z", sig := { parameters := [.int, .int, .int, .int, .int, .int], returnType := some .boolean }, accessFlags := 9, code := some k1c2 }
/-- com/example/binwright/binwright/CheapestFillCompareRatesPinLaw -/
def k1 : Class := { plain "com/example/binwright/binwright/CheapestFillCompareRatesPinLaw" (some 0) with
  accessFlags := 49
  interfaces := #[]
  cf := some (fileOf pool1 12 #[] #[{ accessFlags := 1, nameIndex := 5, descriptorIndex := 6, attributes := #[] }, { accessFlags := 10, nameIndex := 15, descriptorIndex := 16, attributes := #[] }, { accessFlags := 9, nameIndex := 26, descriptorIndex := 27, attributes := #[] }] 49 2 #[] #[])
  fields := #[]
  methods := #[k1m0, k1m1, k1m2]
  instanceTypes := #[]
  staticTypes := #[]
  resolved := Array.replicate 30 none
  statics := none }

def pool2 : Array CpInfo := pool [(2, .class_ 4), (1, u "java/lang/Object"), (3, .class_ 10), (1, u "com/example/binwright/binwright/CheapestFill"), (0, u "rooms"), (0, u "[J"), (2, u "fullMicros"), (2, u "byRate"), (0, u "[I"), (2, u "amounts"), (2, u "criticalRank"), (0, u "I"), (2, u "wholeMicros"), (0, u "J"), (2, u "covers"), (0, u "Z"), (14, u "compare"), (11, .methodref 62 63), (0, .class_ 64), (0, .nameAndType 65 66), (0, u "java/lang/Math"), (0, u "multiplyHigh"), (0, u "(JJ)J"), (0, .methodref 68 69), (0, .class_ 70), (0, .nameAndType 49 71), (0, u "java/lang/Long"), (0, u "(JJ)I"), (0, .methodref 68 73), (0, .nameAndType 74 71), (0, u "compareUnsigned"), (47, u "compareRates"), (0, u "(JJJJ)I")] 44

def k2c0 : Code := { maxStack := 6, maxLocals := 12, code := prog_3_method_4_code, exceptionTable := #[], attributes := #[] }
def k2m0 : Method := { name := "compareRates", desc := "(JJJJ)I", sig := { parameters := [.long, .long, .long, .long], returnType := some .int }, accessFlags := 8, code := some k2c0 }
/-- com/example/binwright/binwright/CheapestFill -/
def k2 : Class := { plain "com/example/binwright/binwright/CheapestFill" (some 0) with
  accessFlags := 48
  interfaces := #[]
  cf := some (fileOf pool2 8 #[] #[{ accessFlags := 8, nameIndex := 122, descriptorIndex := 123, attributes := #[] }] 48 2 #[] #[{ accessFlags := 18, nameIndex := 11, descriptorIndex := 12, attributes := #[] }, { accessFlags := 18, nameIndex := 15, descriptorIndex := 12, attributes := #[] }, { accessFlags := 18, nameIndex := 18, descriptorIndex := 19, attributes := #[] }, { accessFlags := 18, nameIndex := 22, descriptorIndex := 12, attributes := #[] }, { accessFlags := 18, nameIndex := 25, descriptorIndex := 26, attributes := #[] }, { accessFlags := 18, nameIndex := 29, descriptorIndex := 30, attributes := #[] }, { accessFlags := 18, nameIndex := 33, descriptorIndex := 34, attributes := #[] }])
  fields := #[{ name := "rooms", type := (.array .long), accessFlags := 18, slot := 0, constantValue := 0 }, { name := "fullMicros", type := (.array .long), accessFlags := 18, slot := 1, constantValue := 0 }, { name := "byRate", type := (.array .int), accessFlags := 18, slot := 2, constantValue := 0 }, { name := "amounts", type := (.array .long), accessFlags := 18, slot := 3, constantValue := 0 }, { name := "criticalRank", type := .int, accessFlags := 18, slot := 4, constantValue := 0 }, { name := "wholeMicros", type := .long, accessFlags := 18, slot := 5, constantValue := 0 }, { name := "covers", type := .boolean, accessFlags := 18, slot := 6, constantValue := 0 }]
  methods := #[k2m0]
  instanceTypes := #[(.array .long), (.array .long), (.array .int), (.array .long), .int, .long, .boolean]
  staticTypes := #[]
  resolved := Array.replicate 168 none
  statics := none }

def pool3 : Array CpInfo := pool [(1, .class_ 2), (0, u "java/lang/Math"), (1, .class_ 6), (1, u "java/lang/Object"), (0, u "<init>"), (0, u "()V"), (89, .class_ 100), (1, u "java/lang/Math$RandomNumberGeneratorHolder"), (20, u "(JJ)J"), (16, .long 4294967295), (3, u "multiplyHigh"), (29, u "negativeZeroFloatBits"), (0, u "J"), (2, u "negativeZeroDoubleBits"), (68, u "$assertionsDisabled"), (0, u "Z"), (91, u "twoToTheDoubleScaleDown"), (0, u "D"), (4, u "twoToTheDoubleScaleUp"), (9, u "E"), (3, u "PI"), (2, u "TAU"), (2, u "DEGREES_TO_RADIANS"), (0, u "RADIANS_TO_DEGREES")] 94

def k3m0 : Method := { name := "<init>", desc := "()V", sig := { parameters := [], returnType := none }, accessFlags := 2, code := none }
def k3c1 : Code := { maxStack := 6, maxLocals := 20, code := jdk_29_method_45_code, exceptionTable := #[], attributes := #[] }
def k3m1 : Method := { name := "multiplyHigh", desc := "(JJ)J", sig := { parameters := [.long, .long], returnType := some .long }, accessFlags := 9, code := some k3c1 }
/-- java/lang/Math -/
def k3 : Class := { plain "java/lang/Math" (some 0) with
  accessFlags := 49
  interfaces := #[]
  cf := some (fileOf pool3 1 #[.nestMembers #[98]] #[{ accessFlags := 2, nameIndex := 7, descriptorIndex := 8, attributes := #[] }, { accessFlags := 9, nameIndex := 142, descriptorIndex := 121, attributes := #[] }] 49 4 #[] #[{ accessFlags := 25, nameIndex := 354, descriptorIndex := 339, attributes := #[] }, { accessFlags := 25, nameIndex := 358, descriptorIndex := 339, attributes := #[] }, { accessFlags := 25, nameIndex := 361, descriptorIndex := 339, attributes := #[] }, { accessFlags := 26, nameIndex := 364, descriptorIndex := 339, attributes := #[] }, { accessFlags := 26, nameIndex := 365, descriptorIndex := 339, attributes := #[] }, { accessFlags := 26, nameIndex := 172, descriptorIndex := 173, attributes := #[] }, { accessFlags := 26, nameIndex := 176, descriptorIndex := 173, attributes := #[] }, { accessFlags := 8, nameIndex := 344, descriptorIndex := 339, attributes := #[] }, { accessFlags := 8, nameIndex := 338, descriptorIndex := 339, attributes := #[] }, { accessFlags := 4120, nameIndex := 245, descriptorIndex := 246, attributes := #[] }])
  fields := #[{ name := "E", type := .double, accessFlags := 25, slot := 0, constantValue := 0 }, { name := "PI", type := .double, accessFlags := 25, slot := 1, constantValue := 0 }, { name := "TAU", type := .double, accessFlags := 25, slot := 2, constantValue := 0 }, { name := "DEGREES_TO_RADIANS", type := .double, accessFlags := 26, slot := 3, constantValue := 0 }, { name := "RADIANS_TO_DEGREES", type := .double, accessFlags := 26, slot := 4, constantValue := 0 }, { name := "negativeZeroFloatBits", type := .long, accessFlags := 26, slot := 5, constantValue := 0 }, { name := "negativeZeroDoubleBits", type := .long, accessFlags := 26, slot := 6, constantValue := 0 }, { name := "twoToTheDoubleScaleUp", type := .double, accessFlags := 8, slot := 7, constantValue := 0 }, { name := "twoToTheDoubleScaleDown", type := .double, accessFlags := 8, slot := 8, constantValue := 0 }, { name := "$assertionsDisabled", type := .boolean, accessFlags := 4120, slot := 9, constantValue := 0 }]
  methods := #[k3m0, k3m1]
  instanceTypes := #[]
  staticTypes := #[.double, .double, .double, .double, .double, .long, .long, .double, .double, .boolean]
  resolved := Array.replicate 460 none
  statics := none }

def pool4 : Array CpInfo := pool [(1, .class_ 2), (0, u "java/io/Serializable"), (0, .class_ 4), (0, u "java/lang/Object")] 2

/-- java/io/Serializable -/
def k4 : Class := { plain "java/io/Serializable" (some 0) with
  accessFlags := 1537
  interfaces := #[]
  cf := some (fileOf pool4 1 #[] #[] 1537 3 #[] #[])
  fields := #[]
  methods := #[]
  instanceTypes := #[]
  staticTypes := #[]
  resolved := Array.replicate 7 none
  statics := none }

def pool5 : Array CpInfo := pool [(2, .class_ 4), (1, u "java/lang/Object"), (0, u "<init>"), (0, u "()V"), (1, .class_ 10), (1, u "java/lang/Number"), (2, .class_ 14), (0, u "java/io/Serializable"), (0, u "serialVersionUID"), (0, u "J")] 20

def k5m0 : Method := { name := "<init>", desc := "()V", sig := { parameters := [], returnType := none }, accessFlags := 1, code := none }
/-- java/lang/Number -/
def k5 : Class := { plain "java/lang/Number" (some 0) with
  accessFlags := 1057
  interfaces := #[4]
  cf := some (fileOf pool5 8 #[] #[{ accessFlags := 1, nameIndex := 5, descriptorIndex := 6, attributes := #[] }] 1057 2 #[13] #[{ accessFlags := 26, nameIndex := 15, descriptorIndex := 16, attributes := #[] }])
  fields := #[{ name := "serialVersionUID", type := .long, accessFlags := 26, slot := 0, constantValue := 0 }]
  methods := #[k5m0]
  instanceTypes := #[]
  staticTypes := #[.long]
  resolved := Array.replicate 37 none
  statics := none }

def pool6 : Array CpInfo := pool [(1, .class_ 2), (0, u "java/lang/Comparable"), (0, .class_ 4), (0, u "java/lang/Object")] 7

/-- java/lang/Comparable -/
def k6 : Class := { plain "java/lang/Comparable" (some 0) with
  accessFlags := 1537
  interfaces := #[]
  cf := some (fileOf pool6 1 #[] #[] 1537 3 #[] #[])
  fields := #[]
  methods := #[]
  instanceTypes := #[]
  staticTypes := #[]
  resolved := Array.replicate 12 none
  statics := none }

def pool7 : Array CpInfo := pool [(1, .class_ 2), (0, u "java/lang/constant/Constable"), (0, .class_ 4), (0, u "java/lang/Object")] 6

/-- java/lang/constant/Constable -/
def k7 : Class := { plain "java/lang/constant/Constable" (some 0) with
  accessFlags := 1537
  interfaces := #[]
  cf := some (fileOf pool7 1 #[] #[] 1537 3 #[] #[])
  fields := #[]
  methods := #[]
  instanceTypes := #[]
  staticTypes := #[]
  resolved := Array.replicate 11 none
  statics := none }

def pool8 : Array CpInfo := pool [(1, .class_ 2), (0, u "java/lang/constant/ConstantDesc"), (0, .class_ 4), (0, u "java/lang/Object")] 32

/-- java/lang/constant/ConstantDesc -/
def k8 : Class := { plain "java/lang/constant/ConstantDesc" (some 0) with
  accessFlags := 1537
  interfaces := #[]
  cf := some (fileOf pool8 1 #[] #[] 1537 3 #[] #[])
  fields := #[]
  methods := #[]
  instanceTypes := #[]
  staticTypes := #[]
  resolved := Array.replicate 37 none
  statics := none }

def pool9 : Array CpInfo := pool [(1, .class_ 2), (0, u "java/lang/Long"), (165, .long 9223372036854775808), (66, .class_ 237), (1, u "java/lang/Long$LongCache"), (33, .class_ 272), (0, u "java/lang/Number"), (2, u "value"), (0, u "J"), (25, .methodref 1 303), (0, .nameAndType 304 305), (0, u "compare"), (0, u "(JJ)I"), (55, u "TYPE"), (0, u "Ljava/lang/Class;"), (0, .class_ 364), (0, u "java/lang/Comparable"), (0, .class_ 366), (0, u "java/lang/constant/Constable"), (0, .class_ 368), (0, u "java/lang/constant/ConstantDesc"), (0, u "MIN_VALUE"), (1, u "MAX_VALUE"), (4, u "SIZE"), (0, u "I"), (1, u "BYTES"), (1, u "serialVersionUID"), (87, u "compareUnsigned")] 54

def k9c0 : Code := { maxStack := 4, maxLocals := 4, code := jdk_35_method_42_code, exceptionTable := #[], attributes := #[] }
def k9m0 : Method := { name := "compare", desc := "(JJ)I", sig := { parameters := [.long, .long], returnType := some .int }, accessFlags := 9, code := some k9c0 }
def k9c1 : Code := { maxStack := 6, maxLocals := 4, code := jdk_35_method_43_code, exceptionTable := #[], attributes := #[] }
def k9m1 : Method := { name := "compareUnsigned", desc := "(JJ)I", sig := { parameters := [.long, .long], returnType := some .int }, accessFlags := 9, code := some k9c1 }
/-- java/lang/Long -/
def k9 : Class := { plain "java/lang/Long" (some 5) with
  accessFlags := 49
  interfaces := #[6, 7, 8]
  cf := some (fileOf pool9 1 #[.nestMembers #[235]] #[{ accessFlags := 9, nameIndex := 304, descriptorIndex := 305, attributes := #[] }, { accessFlags := 9, nameIndex := 469, descriptorIndex := 305, attributes := #[] }] 49 271 #[363, 365, 367] #[{ accessFlags := 25, nameIndex := 369, descriptorIndex := 276, attributes := #[] }, { accessFlags := 25, nameIndex := 371, descriptorIndex := 276, attributes := #[] }, { accessFlags := 25, nameIndex := 361, descriptorIndex := 362, attributes := #[] }, { accessFlags := 18, nameIndex := 275, descriptorIndex := 276, attributes := #[] }, { accessFlags := 25, nameIndex := 376, descriptorIndex := 377, attributes := #[] }, { accessFlags := 25, nameIndex := 379, descriptorIndex := 377, attributes := #[] }, { accessFlags := 26, nameIndex := 381, descriptorIndex := 276, attributes := #[] }])
  fields := #[{ name := "MIN_VALUE", type := .long, accessFlags := 25, slot := 0, constantValue := 0 }, { name := "MAX_VALUE", type := .long, accessFlags := 25, slot := 1, constantValue := 0 }, { name := "TYPE", type := (.object "java/lang/Class"), accessFlags := 25, slot := 2, constantValue := 0 }, { name := "value", type := .long, accessFlags := 18, slot := 0, constantValue := 0 }, { name := "SIZE", type := .int, accessFlags := 25, slot := 3, constantValue := 0 }, { name := "BYTES", type := .int, accessFlags := 25, slot := 4, constantValue := 0 }, { name := "serialVersionUID", type := .long, accessFlags := 26, slot := 5, constantValue := 0 }]
  methods := #[k9m0, k9m1]
  instanceTypes := #[.long]
  staticTypes := #[.long, .long, (.object "java/lang/Class"), .int, .int, .long]
  resolved := Array.replicate 524 none
  statics := none }

def pool10 : Array CpInfo := pool [(1, u "java/lang/Cloneable"), (0, .class_ 1), (0, u "java/lang/Object"), (0, .class_ 3)] 3

/-- java/lang/Cloneable -/
def k10 : Class := { plain "java/lang/Cloneable" (some 0) with
  accessFlags := 1537
  interfaces := #[]
  cf := some (fileOf pool10 2 #[] #[] 1537 4 #[] #[])
  fields := #[]
  methods := #[]
  instanceTypes := #[]
  staticTypes := #[]
  resolved := Array.replicate 8 none
  statics := none }

/-- the primitive byte -/
def k11 : Class := { plain "byte" none with kind := .primitive 'B', accessFlags := 0x411 }
/-- [B -/
def k12 : Class := { plain "[B" (some 0) with kind := .array 11 .byte, interfaces := #[10, 4], accessFlags := 1041 }

/-- the primitive int -/
def k13 : Class := { plain "int" none with kind := .primitive 'I', accessFlags := 0x411 }
/-- [I -/
def k14 : Class := { plain "[I" (some 0) with kind := .array 13 .int, interfaces := #[10, 4], accessFlags := 1041 }

def heap : Heap := #[]
def classes : Array Class := #[k0, k1, k2, k3, k4, k5, k6, k7, k8, k9, k10, k11, k12, k13, k14]
def interned : List (Array UInt16 × Addr) := []
def slotsUsed : Nat := 0
def theMethod : MethodId := ⟨1, 2⟩
def args0 : Array Value := #[.int 5, .int 5, .int 5, .int 5, .int 5, .int 5]
def aboutOver (below : List Frame) : State where
  vm := { classes := classes, interned := interned.toArray }
  heap := heap
  slotsUsed := slotsUsed
  threads := #[{ frames := .invoking theMethod args0 :: below }]
def below0 : List Frame := [.native { method := ⟨0, 0⟩, args := #[] }]
def about1 : State := aboutOver below0
def p0 : Program := .bare "" "" ""
def e0 : Env := launch0.env 0 0 0
theorem w_frames : about1.frames = Frame.invoking theMethod args0 :: below0 := rfl
set_option maxRecDepth 65536 in
theorem w_args : argsFit about1.vm theMethod args0 = true := by decide +kernel
set_option maxRecDepth 65536 in
theorem w_heap : heapFits about1 = true := by decide +kernel
set_option maxRecDepth 65536 in
theorem w_runnable : about1.curStatus? = some .runnable := by decide +kernel
set_option maxRecDepth 65536 in
theorem w_alone : about1.alone = true := by decide +kernel
set_option maxRecDepth 65536 in
theorem w_named : about1.methodNamed? x = some theMethod := by decide +kernel
set_option maxRecDepth 65536 in
theorem w_hears : about1.hears theMethod below0 = true := by decide +kernel
set_option maxRecDepth 65536 in
theorem w_ripe : about1.ripe theMethod args0 below0 = true := by decide +kernel
theorem w_running : about1.status = .running := rfl
set_option maxRecDepth 65536 in
theorem w_room : about1.hasRoom e0.platform room_1 = true :=
  launch0.hasRoom_least _ room_1 (by decide +kernel) (by decide +kernel) (by decide +kernel) (by decide +kernel) (by decide +kernel) (by decide +kernel)
theorem allAtoms_all (ts : List Jvm.Cond) (a : Array Jvm.Value) (st : Jvm.State) : (allAtoms ts).before a st = ts.all (fun c => c.before a st) := by
  induction ts with
  | nil => rfl
  | cons c t ih =>
    show (Jvm.Cond.and c (allAtoms t)).before a st = _
    rw [Jvm.Cond.before_and, ih, List.all_cons]
def words1 : List Jvm.Cond := Jvm.Cond.code x code maxLocals ret :: tables_1
/-- a 'code' word, met by the world's own term for the bytes: nothing is compared byte by byte -/
theorem code_word {y : MethodName} {bytes : ByteArray} {mx : Nat} {rt : Option FieldType} {a : Array Value} {s : State} {m : MethodId} {meth : Method} {c : Code} (h1 : s.methodNamed? y = some m) (h2 : s.vm.method? m = some meth) (h3 : meth.code = some c) (h4 : c.code = bytes)
    (h5 : (c.maxLocals == mx && c.exceptionTable.isEmpty && decide (c.maxStack ≤ mostOperands) && decide (meth.sig.returnType = rt) && !meth.locks && decide (parseMethodDescriptor y.desc = some meth.sig)) = true) : (Jvm.Cond.code y bytes mx rt).before a s = true := by
  simp only [Bool.and_eq_true, beq_iff_eq, Bool.not_eq_true', decide_eq_true_eq] at h5
  obtain ⟨⟨⟨⟨⟨g1, g2⟩, g3⟩, g4⟩, g5⟩, g6⟩ := h5
  simp [Cond.before, Cond.holds, Cond.value, h1, h2, h3, h4, g1, g2, g3, g4, g5, g6]
def isCode : Jvm.Cond → Bool
  | .code _ _ _ _ => true
  | _ => false
theorem all_split {L : List Jvm.Cond} {P : Jvm.Cond → Bool} (h1 : L.all (fun c => isCode c || P c) = true) (h2 : ∀ c ∈ L.filter isCode, P c = true) : L.all P = true := by
  refine List.all_eq_true.mpr fun c hc => ?_
  have h := List.all_eq_true.mp h1 c hc
  rcases Bool.eq_false_or_eq_true (isCode c) with hi | hi
  · exact h2 c (List.mem_filter.mpr ⟨hc, hi⟩)
  · simpa [hi] using h
set_option maxRecDepth 65536 in
theorem w_c0 : (Jvm.Cond.code x code maxLocals ret).before args0 about1 = true := code_word (m := ⟨1, 2⟩) (meth := k1m2) (c := k1c2) (by decide +kernel) rfl rfl rfl (by decide +kernel)
set_option maxRecDepth 65536 in
theorem w_c1 : (Jvm.Cond.code ({ cls := "com/example/binwright/binwright/CheapestFill", name := "compareRates", desc := "(JJJJ)I" } : Jvm.MethodName) prog_3_method_4_code (12 : Nat) (Option.some Jvm.ClassFile.FieldType.int)).before args0 about1 = true := code_word (m := ⟨2, 0⟩) (meth := k2m0) (c := k2c0) (by decide +kernel) rfl rfl rfl (by decide +kernel)
set_option maxRecDepth 65536 in
theorem w_c2 : (Jvm.Cond.code ({ cls := "java/lang/Math", name := "multiplyHigh", desc := "(JJ)J" } : Jvm.MethodName) jdk_29_method_45_code (20 : Nat) (Option.some Jvm.ClassFile.FieldType.long)).before args0 about1 = true := code_word (m := ⟨3, 1⟩) (meth := k3m1) (c := k3c1) (by decide +kernel) rfl rfl rfl (by decide +kernel)
set_option maxRecDepth 65536 in
theorem w_c3 : (Jvm.Cond.code ({ cls := "java/lang/Long", name := "compareUnsigned", desc := "(JJ)I" } : Jvm.MethodName) jdk_35_method_43_code (4 : Nat) (Option.some Jvm.ClassFile.FieldType.int)).before args0 about1 = true := code_word (m := ⟨9, 1⟩) (meth := k9m1) (c := k9c1) (by decide +kernel) rfl rfl rfl (by decide +kernel)
set_option maxRecDepth 65536 in
theorem w_c4 : (Jvm.Cond.code ({ cls := "java/lang/Long", name := "compare", desc := "(JJ)I" } : Jvm.MethodName) jdk_35_method_42_code (4 : Nat) (Option.some Jvm.ClassFile.FieldType.int)).before args0 about1 = true := code_word (m := ⟨9, 0⟩) (meth := k9m0) (c := k9c0) (by decide +kernel) rfl rfl rfl (by decide +kernel)
set_option maxRecDepth 65536 in
theorem w_c5 : (Jvm.Cond.code ({ cls := "com/example/binwright/binwright/CheapestFillCompareRatesPinLaw", name := "sign", desc := "(J)I" } : Jvm.MethodName) method_2_code (2 : Nat) (Option.some Jvm.ClassFile.FieldType.int)).before args0 about1 = true := code_word (m := ⟨1, 1⟩) (meth := k1m1) (c := k1c1) (by decide +kernel) rfl rfl rfl (by decide +kernel)
def codes1 : List Jvm.Cond := [Jvm.Cond.code x code maxLocals ret, Jvm.Cond.code ({ cls := "com/example/binwright/binwright/CheapestFill", name := "compareRates", desc := "(JJJJ)I" } : Jvm.MethodName) prog_3_method_4_code (12 : Nat) (Option.some Jvm.ClassFile.FieldType.int), Jvm.Cond.code ({ cls := "java/lang/Math", name := "multiplyHigh", desc := "(JJ)J" } : Jvm.MethodName) jdk_29_method_45_code (20 : Nat) (Option.some Jvm.ClassFile.FieldType.long), Jvm.Cond.code ({ cls := "java/lang/Long", name := "compareUnsigned", desc := "(JJ)I" } : Jvm.MethodName) jdk_35_method_43_code (4 : Nat) (Option.some Jvm.ClassFile.FieldType.int), Jvm.Cond.code ({ cls := "java/lang/Long", name := "compare", desc := "(JJ)I" } : Jvm.MethodName) jdk_35_method_42_code (4 : Nat) (Option.some Jvm.ClassFile.FieldType.int), Jvm.Cond.code ({ cls := "com/example/binwright/binwright/CheapestFillCompareRatesPinLaw", name := "sign", desc := "(J)I" } : Jvm.MethodName) method_2_code (2 : Nat) (Option.some Jvm.ClassFile.FieldType.int)]
set_option maxRecDepth 65536 in
theorem codes_eq : words1.filter isCode = codes1 := rfl
theorem w_codes : ∀ c ∈ words1.filter isCode, c.before args0 about1 = true := by
  rw [codes_eq]
  intro c hc
  simp only [codes1, List.mem_cons, List.not_mem_nil, or_false] at hc
  rcases hc with rfl | rfl | rfl | rfl | rfl | rfl
  · exact w_c0
  · exact w_c1
  · exact w_c2
  · exact w_c3
  · exact w_c4
  · exact w_c5
set_option maxRecDepth 65536 in
theorem w_t1 : (words1.take 24).all (fun c => isCode c || c.before args0 about1) = true := by decide +kernel
set_option maxRecDepth 65536 in
theorem w_t2 : (words1.drop 24).all (fun c => isCode c || c.before args0 about1) = true := by decide +kernel
theorem w_tables : (allAtoms (Jvm.Cond.code x code maxLocals ret :: tables_1)).before args0 about1 = true := by
  rw [allAtoms_all]
  show words1.all (fun c => c.before args0 about1) = true
  refine all_split ?_ w_codes
  rw [← List.take_append_drop 24 words1, List.all_append, w_t1, w_t2]
  rfl
set_option maxRecDepth 65536 in
theorem w_case : (Jvm.Cond.and given_1 narrow_1).before args0 about1 = true := by decide +kernel
theorem w_applies : (headSpec (Jvm.Cond.code x code maxLocals ret :: tables_1) room_1).applies x e0.platform about1 = true :=
  (Spec.applies_iff w_frames).mpr ⟨w_running, w_runnable, w_alone, w_named, w_hears, w_ripe, w_room, w_tables⟩
theorem atStart : AtStart classFile x code maxLocals ret World_1 tables_1 room_1 Calls_1 rest_1 Pre_1 launch0 p0 e0 about1 theMethod args0 below0 :=
  ⟨lists_1, trivial, launch0.admits_env _ _ _, launch0.least_env, fairChoices_fair.cas, fairChoices_fair.clock, w_frames, w_args, w_heap, w_applies, trivial, trivial, w_case⟩
end start1
theorem witness_1 : WitnessClaimed_1 := ⟨start1.p0, start1.e0, start1.about1, start1.theMethod, start1.args0, start1.below0, start1.atStart⟩
end Jvm.Pilot.@@N@@
