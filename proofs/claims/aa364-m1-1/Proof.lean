import JvmDerived
import JvmDerived.Pilot.@@N@@Statement
import JvmDerived.Pilot.@@N@@Code
set_option linter.unusedVariables false
set_option linter.unusedSimpArgs false

namespace Jvm.Own
open Sem ClassFile Op Lib Jvm.Stand Jvm.Free Jvm.LawKit Jvm.RoadKit
/-- the goal of a walk: from here the invocation ends, and P holds of its end -/
def Goes (tb : Tables) (e : Env) (below : List Frame) (P : Outcome → State → Prop) (T : State) (F : JFrame) : Prop :=
  ∃ t o, Steps tb e below (T.setTop F) t ∧ t.status = .running ∧ Ended t below o ∧ P o t
/-- what a comparison says, of the integers -/
def icR : ClassFile.Cond → Int → Int → Prop
  | .eq, x, y => x = y
  | .ne, x, y => ¬ x = y
  | .lt, x, y => x < y
  | .ge, x, y => y ≤ x
  | .gt, x, y => y < x
  | .le, x, y => x ≤ y
theorem icR_iff (cd : ClassFile.Cond) (x y : Int32) : if_icmp.holds cd x y = true ↔ icR cd x.toInt y.toInt := by
  cases cd <;> simp [if_icmp.holds, icR, Int32.lt_iff_toInt_lt, Int32.le_iff_toInt_le, Int32.toInt_inj]
theorem icR_yes {cd : ClassFile.Cond} {x y : Int32} {X Y : Int} (ex : x.toInt = X) (ey : y.toInt = Y) (h : icR cd X Y) : if_icmp.holds cd x y = true := by
  subst ex ey; exact (icR_iff cd x y).mpr h
theorem icR_no {cd : ClassFile.Cond} {x y : Int32} {X Y : Int} (ex : x.toInt = X) (ey : y.toInt = Y) (h : ¬ icR cd X Y) : if_icmp.holds cd x y = false := by
  subst ex ey; exact Bool.eq_false_iff.mpr fun q => h ((icR_iff cd x y).mp q)
section G
variable {tb : Tables} {e : Env} {below : List Frame} {P : Outcome → State → Prop} {T T' : State} {F F' : JFrame}
theorem Goes.via (k : Goes tb e below P T' F') (st : ∀ target, Steps tb e below (T'.setTop F') target → Steps tb e below (T.setTop F) target) : Goes tb e below P T F := by
  obtain ⟨t, o, h1, h2⟩ := k; exact ⟨t, o, st _ h1, h2⟩
theorem Goes.to (k : Goes tb e below P T' F') (st : Steps tb e below (T.setTop F) (T'.setTop F')) : Goes tb e below P T F := k.via fun _ h => st.trans h
theorem Goes.cast (q : F = F') (k : Goes tb e below P T F') : Goes tb e below P T F := q ▸ k
variable [Ours tb] {m : MethodId} {c : Code} {pc : Nat} {L L' : Array Slot} {S : List Value}
theorem g_aloadN (h : At T m c below) (hx : tb.exec = Jvm.exec) {k : Fin 4} {v : Value} (hd : decode c.code pc = .ok (.aload_n k, 1)) (hl : L[k.val]? = some (.val v)) (hv : v.isRef = true) (p' : Nat) (hp : p' = pc + 1) (q : Goes tb e below P T (mkF m p' L (v :: S))) : Goes tb e below P T (mkF m pc L (S)) := by
  subst hp; exact q.via fun _ k => XS.aloadN h hx rfl hd hl hv k
theorem g_aload (h : At T m c below) (hx : tb.exec = Jvm.exec) {k : Nat} {v : Value} (hd : decode c.code pc = .ok (.aload k, 2)) (hl : L[k]? = some (.val v)) (hv : v.isRef = true) (p' : Nat) (hp : p' = pc + 2) (q : Goes tb e below P T (mkF m p' L (v :: S))) : Goes tb e below P T (mkF m pc L (S)) := by
  subst hp; exact q.via fun _ k => XS.aload h hx rfl hd hl hv k
theorem g_iloadN (h : At T m c below) (hx : tb.exec = Jvm.exec) {k : Fin 4} {v : Int32} (hd : decode c.code pc = .ok (.iload_n k, 1)) (hl : L[k.val]? = some (.val (.int v))) (p' : Nat) (hp : p' = pc + 1) (q : Goes tb e below P T (mkF m p' L (.int v :: S))) : Goes tb e below P T (mkF m pc L (S)) := by
  subst hp; exact q.via fun _ k => XS.iloadN h hx rfl hd hl k
theorem g_iload (h : At T m c below) (hx : tb.exec = Jvm.exec) {k : Nat} {v : Int32} (hd : decode c.code pc = .ok (.iload k, 2)) (hl : L[k]? = some (.val (.int v))) (p' : Nat) (hp : p' = pc + 2) (q : Goes tb e below P T (mkF m p' L (.int v :: S))) : Goes tb e below P T (mkF m pc L (S)) := by
  subst hp; exact q.via fun _ k => XS.iload h hx rfl hd hl k
theorem g_lloadN (h : At T m c below) (hx : tb.exec = Jvm.exec) {k : Fin 4} {v : Int64} (hd : decode c.code pc = .ok (.lload_n k, 1)) (hl : L[k.val]? = some (.val (.long v))) (p' : Nat) (hp : p' = pc + 1) (q : Goes tb e below P T (mkF m p' L (.long v :: S))) : Goes tb e below P T (mkF m pc L (S)) := by
  subst hp; exact q.via fun _ k => XS.lloadN h hx rfl hd hl k
theorem g_lload (h : At T m c below) (hx : tb.exec = Jvm.exec) {k : Nat} {v : Int64} (hd : decode c.code pc = .ok (.lload k, 2)) (hl : L[k]? = some (.val (.long v))) (p' : Nat) (hp : p' = pc + 2) (q : Goes tb e below P T (mkF m p' L (.long v :: S))) : Goes tb e below P T (mkF m pc L (S)) := by
  subst hp; exact q.via fun _ k => XS.lload h hx rfl hd hl k
theorem g_istoreN (h : At T m c below) (hx : tb.exec = Jvm.exec) {k : Fin 4} {x : Int32} (hd : decode c.code pc = .ok (.istore_n k, 1)) (L2 : Array Slot) (hl : storeLocals L k.val (.int x) = some L2) (p' : Nat) (hp : p' = pc + 1) (q : Goes tb e below P T (mkF m p' L2 (S))) : Goes tb e below P T (mkF m pc L (.int x :: S)) := by
  subst hp; exact q.via fun _ k => XS.istoreN h hx rfl hd rfl hl k
theorem g_istore (h : At T m c below) (hx : tb.exec = Jvm.exec) {k : Nat} {x : Int32} (hd : decode c.code pc = .ok (.istore k, 2)) (L2 : Array Slot) (hl : storeLocals L k (.int x) = some L2) (p' : Nat) (hp : p' = pc + 2) (q : Goes tb e below P T (mkF m p' L2 (S))) : Goes tb e below P T (mkF m pc L (.int x :: S)) := by
  subst hp; exact q.via fun _ k => XS.istore h hx rfl hd rfl hl k
theorem g_lstoreN (h : At T m c below) (hx : tb.exec = Jvm.exec) {k : Fin 4} {x : Int64} (hd : decode c.code pc = .ok (.lstore_n k, 1)) (L2 : Array Slot) (hl : storeLocals L k.val (.long x) = some L2) (p' : Nat) (hp : p' = pc + 1) (q : Goes tb e below P T (mkF m p' L2 (S))) : Goes tb e below P T (mkF m pc L (.long x :: S)) := by
  subst hp; exact q.via fun _ k => XS.lstoreN h hx rfl hd rfl hl k
theorem g_lstore (h : At T m c below) (hx : tb.exec = Jvm.exec) {k : Nat} {x : Int64} (hd : decode c.code pc = .ok (.lstore k, 2)) (L2 : Array Slot) (hl : storeLocals L k (.long x) = some L2) (p' : Nat) (hp : p' = pc + 2) (q : Goes tb e below P T (mkF m p' L2 (S))) : Goes tb e below P T (mkF m pc L (.long x :: S)) := by
  subst hp; exact q.via fun _ k => XS.lstore h hx rfl hd rfl hl k
theorem g_astoreN (h : At T m c below) (hx : tb.exec = Jvm.exec) {k : Fin 4} {x : Value} (hd : decode c.code pc = .ok (.astore_n k, 1)) (hv : x.isRef = true) (L2 : Array Slot) (hl : storeLocals L k.val x = some L2) (p' : Nat) (hp : p' = pc + 1) (q : Goes tb e below P T (mkF m p' L2 (S))) : Goes tb e below P T (mkF m pc L (x :: S)) := by
  subst hp; exact q.via fun _ k => XS.astoreN h hx rfl hd rfl hv hl k
theorem g_astore (h : At T m c below) (hx : tb.exec = Jvm.exec) {k : Nat} {x : Value} (hd : decode c.code pc = .ok (.astore k, 2)) (hv : x.isRef = true) (L2 : Array Slot) (hl : storeLocals L k x = some L2) (p' : Nat) (hp : p' = pc + 2) (q : Goes tb e below P T (mkF m p' L2 (S))) : Goes tb e below P T (mkF m pc L (x :: S)) := by
  subst hp; exact q.via fun _ k => XS.astore h hx rfl hd rfl hv hl k
theorem g_iconst (h : At T m c below) (hx : tb.exec = Jvm.exec) {i : Int} (hd : decode c.code pc = .ok (.iconst i, 1)) (v : Int32) (hv : Int32.ofInt i = v) (p' : Nat) (hp : p' = pc + 1) (q : Goes tb e below P T (mkF m p' L (.int v :: S))) : Goes tb e below P T (mkF m pc L (S)) := by
  subst hp hv; exact q.via fun _ k => XS.iconst h hx rfl hd  k
theorem g_bipush (h : At T m c below) (hx : tb.exec = Jvm.exec) {i : Int} (hd : decode c.code pc = .ok (.bipush i, 2)) (v : Int32) (hv : (Int8.ofInt i).toInt32 = v) (p' : Nat) (hp : p' = pc + 2) (q : Goes tb e below P T (mkF m p' L (.int v :: S))) : Goes tb e below P T (mkF m pc L (S)) := by
  subst hp hv; exact q.via fun _ k => XS.bipush h hx rfl hd  k
theorem g_sipush (h : At T m c below) (hx : tb.exec = Jvm.exec) {i : Int} (hd : decode c.code pc = .ok (.sipush i, 3)) (v : Int32) (hv : (Int16.ofInt i).toInt32 = v) (p' : Nat) (hp : p' = pc + 3) (q : Goes tb e below P T (mkF m p' L (.int v :: S))) : Goes tb e below P T (mkF m pc L (S)) := by
  subst hp hv; exact q.via fun _ k => XS.sipush h hx rfl hd  k
theorem g_aconst_null (h : At T m c below) (hx : tb.exec = Jvm.exec)  (hd : decode c.code pc = .ok (.aconst_null, 1))  (p' : Nat) (hp : p' = pc + 1) (q : Goes tb e below P T (mkF m p' L (.null :: S))) : Goes tb e below P T (mkF m pc L (S)) := by
  subst hp; exact q.via fun _ k => XS.aconstNull h hx rfl hd  k
theorem g_iadd (h : At T m c below) (hx : tb.exec = Jvm.exec) {x y : Int32} (hd : decode c.code pc = .ok (.iadd, 1))  (p' : Nat) (hp : p' = pc + 1) (q : Goes tb e below P T (mkF m p' L (.int (x + y) :: S))) : Goes tb e below P T (mkF m pc L (.int y :: .int x :: S)) := by
  subst hp; exact q.via fun _ k => XS.iadd h hx rfl hd rfl k
theorem g_isub (h : At T m c below) (hx : tb.exec = Jvm.exec) {x y : Int32} (hd : decode c.code pc = .ok (.isub, 1))  (p' : Nat) (hp : p' = pc + 1) (q : Goes tb e below P T (mkF m p' L (.int (x - y) :: S))) : Goes tb e below P T (mkF m pc L (.int y :: .int x :: S)) := by
  subst hp; exact q.via fun _ k => XS.isub h hx rfl hd rfl k
theorem g_imul (h : At T m c below) (hx : tb.exec = Jvm.exec) {x y : Int32} (hd : decode c.code pc = .ok (.imul, 1))  (p' : Nat) (hp : p' = pc + 1) (q : Goes tb e below P T (mkF m p' L (.int (x * y) :: S))) : Goes tb e below P T (mkF m pc L (.int y :: .int x :: S)) := by
  subst hp; exact q.via fun _ k => XS.imul h hx rfl hd rfl k
theorem g_iand (h : At T m c below) (hx : tb.exec = Jvm.exec) {x y : Int32} (hd : decode c.code pc = .ok (.iand, 1))  (p' : Nat) (hp : p' = pc + 1) (q : Goes tb e below P T (mkF m p' L (.int (x &&& y) :: S))) : Goes tb e below P T (mkF m pc L (.int y :: .int x :: S)) := by
  subst hp; exact q.via fun _ k => XS.iand h hx rfl hd rfl k
theorem g_ior (h : At T m c below) (hx : tb.exec = Jvm.exec) {x y : Int32} (hd : decode c.code pc = .ok (.ior, 1))  (p' : Nat) (hp : p' = pc + 1) (q : Goes tb e below P T (mkF m p' L (.int (x ||| y) :: S))) : Goes tb e below P T (mkF m pc L (.int y :: .int x :: S)) := by
  subst hp; exact q.via fun _ k => XS.ior h hx rfl hd rfl k
theorem g_ixor (h : At T m c below) (hx : tb.exec = Jvm.exec) {x y : Int32} (hd : decode c.code pc = .ok (.ixor, 1))  (p' : Nat) (hp : p' = pc + 1) (q : Goes tb e below P T (mkF m p' L (.int (x ^^^ y) :: S))) : Goes tb e below P T (mkF m pc L (.int y :: .int x :: S)) := by
  subst hp; exact q.via fun _ k => XS.ixor h hx rfl hd rfl k
theorem g_ishl (h : At T m c below) (hx : tb.exec = Jvm.exec) {x y : Int32} (hd : decode c.code pc = .ok (.ishl, 1))  (p' : Nat) (hp : p' = pc + 1) (q : Goes tb e below P T (mkF m p' L (.int (x <<< (y &&& 31)) :: S))) : Goes tb e below P T (mkF m pc L (.int y :: .int x :: S)) := by
  subst hp; exact q.via fun _ k => XS.ishl h hx rfl hd rfl k
theorem g_ishr (h : At T m c below) (hx : tb.exec = Jvm.exec) {x y : Int32} (hd : decode c.code pc = .ok (.ishr, 1))  (p' : Nat) (hp : p' = pc + 1) (q : Goes tb e below P T (mkF m p' L (.int (x >>> (y &&& 31)) :: S))) : Goes tb e below P T (mkF m pc L (.int y :: .int x :: S)) := by
  subst hp; exact q.via fun _ k => XS.ishr h hx rfl hd rfl k
theorem g_iushr (h : At T m c below) (hx : tb.exec = Jvm.exec) {x y : Int32} (hd : decode c.code pc = .ok (.iushr, 1))  (p' : Nat) (hp : p' = pc + 1) (q : Goes tb e below P T (mkF m p' L (.int ((x.toUInt32 >>> (y &&& 31).toUInt32).toInt32) :: S))) : Goes tb e below P T (mkF m pc L (.int y :: .int x :: S)) := by
  subst hp; exact q.via fun _ k => XS.iushr h hx rfl hd rfl k
theorem g_ladd (h : At T m c below) (hx : tb.exec = Jvm.exec) {x y : Int64} (hd : decode c.code pc = .ok (.ladd, 1))  (p' : Nat) (hp : p' = pc + 1) (q : Goes tb e below P T (mkF m p' L (.long (x + y) :: S))) : Goes tb e below P T (mkF m pc L (.long y :: .long x :: S)) := by
  subst hp; exact q.via fun _ k => XS.ladd h hx rfl hd rfl k
theorem g_lsub (h : At T m c below) (hx : tb.exec = Jvm.exec) {x y : Int64} (hd : decode c.code pc = .ok (.lsub, 1))  (p' : Nat) (hp : p' = pc + 1) (q : Goes tb e below P T (mkF m p' L (.long (x - y) :: S))) : Goes tb e below P T (mkF m pc L (.long y :: .long x :: S)) := by
  subst hp; exact q.via fun _ k => XS.lsub h hx rfl hd rfl k
theorem g_lmul (h : At T m c below) (hx : tb.exec = Jvm.exec) {x y : Int64} (hd : decode c.code pc = .ok (.lmul, 1))  (p' : Nat) (hp : p' = pc + 1) (q : Goes tb e below P T (mkF m p' L (.long (x * y) :: S))) : Goes tb e below P T (mkF m pc L (.long y :: .long x :: S)) := by
  subst hp; exact q.via fun _ k => XS.lmul h hx rfl hd rfl k
theorem g_land (h : At T m c below) (hx : tb.exec = Jvm.exec) {x y : Int64} (hd : decode c.code pc = .ok (.land, 1))  (p' : Nat) (hp : p' = pc + 1) (q : Goes tb e below P T (mkF m p' L (.long (x &&& y) :: S))) : Goes tb e below P T (mkF m pc L (.long y :: .long x :: S)) := by
  subst hp; exact q.via fun _ k => XS.land h hx rfl hd rfl k
theorem g_lor (h : At T m c below) (hx : tb.exec = Jvm.exec) {x y : Int64} (hd : decode c.code pc = .ok (.lor, 1))  (p' : Nat) (hp : p' = pc + 1) (q : Goes tb e below P T (mkF m p' L (.long (x ||| y) :: S))) : Goes tb e below P T (mkF m pc L (.long y :: .long x :: S)) := by
  subst hp; exact q.via fun _ k => XS.lor h hx rfl hd rfl k
theorem g_lshl (h : At T m c below) (hx : tb.exec = Jvm.exec) {x : Int64} {y : Int32} (hd : decode c.code pc = .ok (.lshl, 1))  (p' : Nat) (hp : p' = pc + 1) (q : Goes tb e below P T (mkF m p' L (.long (x <<< (y &&& 0x3f).toInt64) :: S))) : Goes tb e below P T (mkF m pc L (.int y :: .long x :: S)) := by
  subst hp; exact q.via fun _ k => XS.lshl h hx rfl hd rfl k
theorem g_lshr (h : At T m c below) (hx : tb.exec = Jvm.exec) {x : Int64} {y : Int32} (hd : decode c.code pc = .ok (.lshr, 1))  (p' : Nat) (hp : p' = pc + 1) (q : Goes tb e below P T (mkF m p' L (.long (x >>> (y &&& 0x3f).toInt64) :: S))) : Goes tb e below P T (mkF m pc L (.int y :: .long x :: S)) := by
  subst hp; exact q.via fun _ k => XS.lshr h hx rfl hd rfl k
theorem g_lushr (h : At T m c below) (hx : tb.exec = Jvm.exec) {x : Int64} {y : Int32} (hd : decode c.code pc = .ok (.lushr, 1))  (p' : Nat) (hp : p' = pc + 1) (q : Goes tb e below P T (mkF m p' L (.long ((x.toUInt64 >>> (y &&& 0x3f).toInt64.toUInt64).toInt64) :: S))) : Goes tb e below P T (mkF m pc L (.int y :: .long x :: S)) := by
  subst hp; exact q.via fun _ k => XS.lushr h hx rfl hd rfl k
theorem g_lcmp (h : At T m c below) (hx : tb.exec = Jvm.exec) {x y : Int64} (hd : decode c.code pc = .ok (.lcmp, 1))  (p' : Nat) (hp : p' = pc + 1) (q : Goes tb e below P T (mkF m p' L (.int (lcmpW x y) :: S))) : Goes tb e below P T (mkF m pc L (.long y :: .long x :: S)) := by
  subst hp; exact q.via fun _ k => XS.lcmp h hx rfl hd rfl k
theorem g_i2l (h : At T m c below) (hx : tb.exec = Jvm.exec) {x : Int32} (hd : decode c.code pc = .ok (.i2l, 1))  (p' : Nat) (hp : p' = pc + 1) (q : Goes tb e below P T (mkF m p' L (.long (x.toInt64) :: S))) : Goes tb e below P T (mkF m pc L (.int x :: S)) := by
  subst hp; exact q.via fun _ k => XS.i2l h hx rfl hd rfl k
theorem g_l2i (h : At T m c below) (hx : tb.exec = Jvm.exec) {x : Int64} (hd : decode c.code pc = .ok (.l2i, 1))  (p' : Nat) (hp : p' = pc + 1) (q : Goes tb e below P T (mkF m p' L (.int (x.toInt32) :: S))) : Goes tb e below P T (mkF m pc L (.long x :: S)) := by
  subst hp; exact q.via fun _ k => XS.l2i h hx rfl hd rfl k
theorem g_i2b (h : At T m c below) (hx : tb.exec = Jvm.exec) {x : Int32} (hd : decode c.code pc = .ok (.i2b, 1))  (p' : Nat) (hp : p' = pc + 1) (q : Goes tb e below P T (mkF m p' L (.int (x.toInt8.toInt32) :: S))) : Goes tb e below P T (mkF m pc L (.int x :: S)) := by
  subst hp; exact q.via fun _ k => XS.i2b h hx rfl hd rfl k
theorem g_i2c (h : At T m c below) (hx : tb.exec = Jvm.exec) {x : Int32} (hd : decode c.code pc = .ok (.i2c, 1))  (p' : Nat) (hp : p' = pc + 1) (q : Goes tb e below P T (mkF m p' L (.int (x.toUInt32.toUInt16.toUInt32.toInt32) :: S))) : Goes tb e below P T (mkF m pc L (.int x :: S)) := by
  subst hp; exact q.via fun _ k => XS.i2c h hx rfl hd rfl k
theorem g_i2s (h : At T m c below) (hx : tb.exec = Jvm.exec) {x : Int32} (hd : decode c.code pc = .ok (.i2s, 1))  (p' : Nat) (hp : p' = pc + 1) (q : Goes tb e below P T (mkF m p' L (.int (x.toInt16.toInt32) :: S))) : Goes tb e below P T (mkF m pc L (.int x :: S)) := by
  subst hp; exact q.via fun _ k => XS.i2s h hx rfl hd rfl k
theorem g_irem (h : At T m c below) (hx : tb.exec = Jvm.exec) {x y : Int32} (hd : decode c.code pc = .ok (.irem, 1)) (hy : y ≠ 0) (p' : Nat) (hp : p' = pc + 1) (q : Goes tb e below P T (mkF m p' L (.int (x % y) :: S))) : Goes tb e below P T (mkF m pc L (.int y :: .int x :: S)) := by
  subst hp; exact q.via fun _ k => XS.irem h hx rfl hd rfl hy (by rw [show x - x / y * y = x % y from irem_eq_mod x y]; exact k)
theorem g_idiv (h : At T m c below) (hx : tb.exec = Jvm.exec) {x y : Int32} (hd : decode c.code pc = .ok (.idiv, 1)) (hy : y ≠ 0) (p' : Nat) (hp : p' = pc + 1) (q : Goes tb e below P T (mkF m p' L (.int (x / y) :: S))) : Goes tb e below P T (mkF m pc L (.int y :: .int x :: S)) := by
  subst hp; exact q.via fun _ k => XS.idiv h hx rfl hd rfl hy k
theorem g_dup (h : At T m c below) (hx : tb.exec = Jvm.exec) {x : Value} (hd : decode c.code pc = .ok (.dup, 1)) (hc : x.category = 1) (p' : Nat) (hp : p' = pc + 1) (q : Goes tb e below P T (mkF m p' L (x :: x :: S))) : Goes tb e below P T (mkF m pc L (x :: S)) := by
  subst hp; exact q.via fun _ k => XS.dup h hx rfl hd rfl hc k
theorem g_pop (h : At T m c below) (hx : tb.exec = Jvm.exec) {x : Value} (hd : decode c.code pc = .ok (.pop, 1)) (hc : x.category = 1) (p' : Nat) (hp : p' = pc + 1) (q : Goes tb e below P T (mkF m p' L (S))) : Goes tb e below P T (mkF m pc L (x :: S)) := by
  subst hp; exact q.via fun _ k => XS.pop h hx rfl hd rfl hc k
theorem g_dup_x1 (h : At T m c below) (hx : tb.exec = Jvm.exec) {x y : Value} (hd : decode c.code pc = .ok (.dup_x1, 1)) (hc : x.category = 1) (hc' : y.category = 1) (p' : Nat) (hp : p' = pc + 1) (q : Goes tb e below P T (mkF m p' L (x :: y :: x :: S))) : Goes tb e below P T (mkF m pc L (x :: y :: S)) := by
  subst hp; exact q.via fun _ k => XS.dupX1 h hx rfl hd rfl hc hc' k
theorem g_lconst (h : At T m c below) (hx : tb.exec = Jvm.exec) {k : Fin 2} (hd : decode c.code pc = .ok (.lconst k, 1)) (v : Int64) (hv : Int64.ofNat k.val = v) (p' : Nat) (hp : p' = pc + 1) (q : Goes tb e below P T (mkF m p' L (.long v :: S))) : Goes tb e below P T (mkF m pc L (S)) := by
  subst hp hv; exact q.via fun _ k => XS.lconst h hx rfl hd  k
theorem g_iinc (h : At T m c below) (hx : tb.exec = Jvm.exec) {k : Nat} {i : Int} {x : Int32} (hd : decode c.code pc = .ok (.iinc k i, 3)) (hl : L[k]? = some (.val (.int x))) (L2 : Array Slot) (hl2 : storeLocals L k (.int (x + Int32.ofInt i)) = some L2) (p' : Nat) (hp : p' = pc + 3) (q : Goes tb e below P T (mkF m p' L2 (S))) : Goes tb e below P T (mkF m pc L (S)) := by
  subst hp; exact q.via fun _ k => XS.iinc h hx rfl hd hl hl2 k
theorem g_goto (h : At T m c below) (hx : tb.exec = Jvm.exec) {o : Int} (hd : decode c.code pc = .ok (.goto o, 3)) (p' : Nat) (ho : 0 ≤ (pc : Int) + o) (hp : ((pc : Int) + o).toNat = p') (q : Goes tb e below P T (mkF m p' L S)) : Goes tb e below P T (mkF m pc L S) := q.via fun _ k => XS.goto h hx rfl rfl hd ho hp k
theorem g_icmpT (h : At T m c below) (hx : tb.exec = Jvm.exec) {cd : ClassFile.Cond} {x y : Int32} {o : Int} (hd : decode c.code pc = .ok (.if_icmp cd o, 3)) (X Y : Int) (ex : x.toInt = X) (ey : y.toInt = Y) (hc : icR cd X Y) (p' : Nat) (ho : 0 ≤ (pc : Int) + o) (hp : ((pc : Int) + o).toNat = p') (q : Goes tb e below P T (mkF m p' L S)) : Goes tb e below P T (mkF m pc L (.int y :: .int x :: S)) := q.via fun _ k => XS.icmpYes h hx rfl rfl hd rfl (icR_yes ex ey hc) ho hp k
theorem g_icmpF (h : At T m c below) (hx : tb.exec = Jvm.exec) {cd : ClassFile.Cond} {x y : Int32} {o : Int} (hd : decode c.code pc = .ok (.if_icmp cd o, 3)) (X Y : Int) (ex : x.toInt = X) (ey : y.toInt = Y) (hc : ¬ icR cd X Y) (p' : Nat) (hp : p' = pc + 3) (q : Goes tb e below P T (mkF m p' L S)) : Goes tb e below P T (mkF m pc L (.int y :: .int x :: S)) := by
  subst hp; exact q.via fun _ k => XS.icmpNo h hx rfl hd rfl (icR_no ex ey hc) k
theorem g_icmp (h : At T m c below) (hx : tb.exec = Jvm.exec) {cd : ClassFile.Cond} {x y : Int32} {o : Int} (hd : decode c.code pc = .ok (.if_icmp cd o, 3)) (X Y : Int) (ex : x.toInt = X) (ey : y.toInt = Y) (p1 p2 : Nat) (ho : 0 ≤ (pc : Int) + o) (hp : ((pc : Int) + o).toNat = p1) (hp2 : p2 = pc + 3) (q1 : icR cd X Y → Goes tb e below P T (mkF m p1 L S)) (q2 : ¬ icR cd X Y → Goes tb e below P T (mkF m p2 L S)) : Goes tb e below P T (mkF m pc L (.int y :: .int x :: S)) := by
  by_cases hc : icR cd X Y
  · exact g_icmpT h hx hd X Y ex ey hc p1 ho hp (q1 hc)
  · exact g_icmpF h hx hd X Y ex ey hc p2 hp2 (q2 hc)
theorem g_ifT (h : At T m c below) (hx : tb.exec = Jvm.exec) {cd : ClassFile.Cond} {x : Int32} {o : Int} (hd : decode c.code pc = .ok (.ifCond cd o, 3)) (X : Int) (ex : x.toInt = X) (hc : icR cd X 0) (p' : Nat) (ho : 0 ≤ (pc : Int) + o) (hp : ((pc : Int) + o).toNat = p') (q : Goes tb e below P T (mkF m p' L S)) : Goes tb e below P T (mkF m pc L (.int x :: S)) := q.via fun _ k => XS.ifYes h hx rfl rfl hd rfl ((if0 _ _).trans (icR_yes ex (by decide) hc)) ho hp k
theorem g_ifF (h : At T m c below) (hx : tb.exec = Jvm.exec) {cd : ClassFile.Cond} {x : Int32} {o : Int} (hd : decode c.code pc = .ok (.ifCond cd o, 3)) (X : Int) (ex : x.toInt = X) (hc : ¬ icR cd X 0) (p' : Nat) (hp : p' = pc + 3) (q : Goes tb e below P T (mkF m p' L S)) : Goes tb e below P T (mkF m pc L (.int x :: S)) := by
  subst hp; exact q.via fun _ k => XS.ifNo h hx rfl hd rfl ((if0 _ _).trans (icR_no ex (by decide) hc)) k
theorem g_if (h : At T m c below) (hx : tb.exec = Jvm.exec) {cd : ClassFile.Cond} {x : Int32} {o : Int} (hd : decode c.code pc = .ok (.ifCond cd o, 3)) (X : Int) (ex : x.toInt = X) (p1 p2 : Nat) (ho : 0 ≤ (pc : Int) + o) (hp : ((pc : Int) + o).toNat = p1) (hp2 : p2 = pc + 3) (q1 : icR cd X 0 → Goes tb e below P T (mkF m p1 L S)) (q2 : ¬ icR cd X 0 → Goes tb e below P T (mkF m p2 L S)) : Goes tb e below P T (mkF m pc L (.int x :: S)) := by
  by_cases hc : icR cd X 0
  · exact g_ifT h hx hd X ex hc p1 ho hp (q1 hc)
  · exact g_ifF h hx hd X ex hc p2 hp2 (q2 hc)
theorem g_ifnullT (h : At T m c below) (hx : tb.exec = Jvm.exec) {o : Int} (hd : decode c.code pc = .ok (.ifnull o, 3)) (p' : Nat) (ho : 0 ≤ (pc : Int) + o) (hp : ((pc : Int) + o).toNat = p') (q : Goes tb e below P T (mkF m p' L S)) : Goes tb e below P T (mkF m pc L (.null :: S)) := q.via fun _ k => XS.ifnullYes h hx rfl rfl hd rfl ho hp k
theorem g_ifnullF (h : At T m c below) (hx : tb.exec = Jvm.exec) {o : Int} {b : Addr} (hd : decode c.code pc = .ok (.ifnull o, 3)) (p' : Nat) (hp : p' = pc + 3) (q : Goes tb e below P T (mkF m p' L S)) : Goes tb e below P T (mkF m pc L (.ref b :: S)) := by
  subst hp; exact q.via fun _ k => XS.ifnullNo h hx rfl hd rfl k
theorem g_ifnonnullT (h : At T m c below) (hx : tb.exec = Jvm.exec) {o : Int} {b : Addr} (hd : decode c.code pc = .ok (.ifnonnull o, 3)) (p' : Nat) (ho : 0 ≤ (pc : Int) + o) (hp : ((pc : Int) + o).toNat = p') (q : Goes tb e below P T (mkF m p' L S)) : Goes tb e below P T (mkF m pc L (.ref b :: S)) := q.via fun _ k => XS.ifnonnullYes h hx rfl rfl hd rfl ho hp k
theorem g_ifnonnullF (h : At T m c below) (hx : tb.exec = Jvm.exec) {o : Int} (hd : decode c.code pc = .ok (.ifnonnull o, 3)) (p' : Nat) (hp : p' = pc + 3) (q : Goes tb e below P T (mkF m p' L S)) : Goes tb e below P T (mkF m pc L (.null :: S)) := by
  subst hp; exact q.via fun _ k => XS.ifnonnullNo h hx rfl hd rfl k
end G
/-! part B: the walk's state (St), one law a step that reads the tables or the heap -/
/-- md 0: no String constant is loaded; 1: some may be; 2: and a stack trace may be filled in -/
def EndOf (md : Nat) (s : State) (o : Outcome) (t : State) (L : List Loc) (k n : Nat) : Prop := (md = 0 → FrameEnd s o t L k n) ∧ (md ≠ 0 → ReturnedEndW s o t L k n)
def KnOf (md : Nat) (vm : Vm) (bl : List Frame) : Prop := md = 2 → vm.MethodsKnown ∧ vm.FramesKnown bl
def St (md : Nat) (p : Program) (l : Launch) (e : Env) (R : Room) (s : State) (m : MethodId) (args : Array Value) (below : List Frame) (meth : Method) (c : Code) (own : String) (Z : State) (EL : List (String × Nat)) (vm : Vm) (T : State) (h : Heap) (cells slots : Nat) : Prop :=
  ∃ locs k, Stand p l e R (s.setVm vm) m args below meth c T locs cells slots ∧ T.heap = h ∧ Z.Warmed39 vm ∧ vm.findClass own = some m.cls ∧ s.Since vm k ∧ k ≤ h.size ∧ CHr Z EL s.vm s.heap vm h ∧ Fr Z.heap.size locs ∧ Old Z Z.heap.size h ∧ (md = 0 → vm = s.vm ∧ EL = []) ∧ KnOf md vm below ∧ ∃ a0, EW Z a0 EL ∧ Old Z Z.heap.size s.heap
/-- what a body leaves, as its caller is told -/
def Pof (md : Nat) (Z : State) (EL : List (String × Nat)) (s : State) (rm : Room) (Q : Option Value → Heap → Prop) : Outcome → State → Prop :=
  fun o U => ∃ v L, o = .returned v ∧ (Q v U.heap ∧ Fr Z.heap.size L ∧ Old Z Z.heap.size U.heap) ∧ CHr Z EL s.vm s.heap U.vm U.heap ∧ EndOf md s o U L rm.cells rm.slots
/-- a contract -/
def Ct (md : Nat) (l : Launch) (Z : State) (EL : List (String × Nat)) (sf : List Addr) (y : MethodName) (bytes : ByteArray) (maxL : Nat) (ret : Option FieldType) (rm : Room) (as' : Array Value) (h : Heap) (Q : Option Value → Heap → Prop) : Prop :=
  ∀ ws, MetFree l y (head1 (Cond.code y bytes maxL ret :: ws) rm) (fun a U => a = as' ∧ Z.Warmed39 U.vm ∧ U.heap = h ∧ CHv Z EL U.vm h ∧ ∀ x ∈ sf, Safe Z EL U.vm h x) (fun _ _ bl s _ => KnOf md s.vm bl) (fun _ U o U' => Pof md Z EL U rm Q o U')
theorem own_is1 {z : Int32} {Q : Prop} (h : (z = 1 ∧ Q) ∨ (z = 0 ∧ ¬ Q)) (q : Q) : z = 1 := h.elim (fun r => r.1) fun r => absurd q r.2
theorem own_is0 {z : Int32} {Q : Prop} (h : (z = 1 ∧ Q) ∨ (z = 0 ∧ ¬ Q)) (q : ¬ Q) : z = 0 := h.elim (fun r => absurd r.2 q) fun r => r.1
theorem own_two {Q : Addr → Prop} {a b : Addr} (h1 : Q a) (h2 : Q b) : ∀ x ∈ [a, b], Q x := fun x hx => (List.mem_cons.mp hx).elim (fun e => e ▸ h1) fun e => (List.mem_singleton.mp e) ▸ h2
theorem own_ne_new {a b : Addr} {h : Heap} (g : b = h.size) (l : a < h.size) : b ≠ a := fun q => absurd l (by rw [← q, g]; exact Nat.lt_irrefl _)
section B
variable {md : Nat} {p : Program} {l : Launch} {e : Env} {R : Room} {s : State} {m : MethodId} {args : Array Value} {below : List Frame} {meth : Method} {c : Code} {own : String} {Z : State} {EL : List (String × Nat)} {vm vm' : Vm} {T : State} {h h' : Heap} {cells slots : Nat} {P : Outcome → State → Prop} {pc : Nat} {L : Array Slot} {K : List Value} {a0 : Array Value}
theorem safe_nil {x : Addr} : Safe Z [] vm h x := fun B => by obtain ⟨q, hq, -⟩ := B; cases hq
theorem chv_nil : CHv Z [] vm h := fun q hq => by cases hq
theorem chr_nil (g : h.size ≤ h'.size) : CHr Z [] vm h vm' h' := ⟨chv_nil, g, fun y B => by obtain ⟨q, hq, -⟩ := B; cases hq⟩
theorem ew_nil : EW Z a0 [] := EW.nil
theorem St.here (S : St md p l e R s m args below meth c own Z EL vm T h cells slots) : At T m c below := by obtain ⟨_, _, X, -⟩ := S; exact X.here
theorem St.old (S : St md p l e R s m args below meth c own Z EL vm T h cells slots) : Old Z Z.heap.size h := by obtain ⟨_, _, -, -, -, -, -, -, -, -, O, -⟩ := S; exact O
theorem St.warm (S : St md p l e R s m args below meth c own Z EL vm T h cells slots) : Z.Warmed39 vm := by obtain ⟨_, _, -, -, hZ, -⟩ := S; exact hZ
theorem St.chr (S : St md p l e R s m args below meth c own Z EL vm T h cells slots) : CHr Z EL s.vm s.heap vm h := by obtain ⟨_, _, -, -, -, -, -, -, C, -⟩ := S; exact C
theorem St.ew (S : St md p l e R s m args below meth c own Z EL vm T h cells slots) : ∃ a0, EW Z a0 EL := by obtain ⟨_, _, -, -, -, -, -, -, -, -, -, -, -, a0, E, -⟩ := S; exact ⟨a0, E⟩
theorem St.size (S : St md p l e R s m args below meth c own Z EL vm T h cells slots) : Z.heap.size ≤ h.size := S.old.2.1
theorem St.safeE (S : St md p l e R s m args below meth c own Z EL vm T h cells slots) {x : Addr} {C : String} (E : Exa Z h x C) (h1 : C ≠ "java/lang/String") (h2 : C ≠ "[B") : Safe Z EL vm h x := Safe.exa S.warm.alike E h1 h2
theorem St.safeA (S : St md p l e R s m args below meth c own Z EL vm T h cells slots) {x : Addr} {k : ClassId} {ty : FieldType} {z : Int32} {vs : List Value} {dv : Value} (F : Arv Z h x k ty z vs dv) (ht : ty ≠ .byte) : Safe Z EL vm h x := Safe.arv S.warm.alike F ht
/-- entering a body -/
theorem Ct.intro {y : MethodName} {bytes : ByteArray} {maxL : Nat} {ret : Option FieldType} {rm : Room} {as' : Array Value} {Q : Option Value → Heap → Prop} (hpl : plainFor y = true) (hO : Old Z Z.heap.size h) (hmd : md = 0 → EL = []) (hE : ∃ a0, EW Z a0 EL) {sf : List Addr}
    (body : ∀ p e s m below meth c T, p.tables.exec = Jvm.exec → c.code = bytes → c.maxLocals = maxL → meth.sig.returnType = ret → meth.name = y.name → meth.locks = false → (∀ x ∈ sf, Safe Z EL s.vm h x) →
      St md p l e rm s m as' below meth c y.cls Z EL s.vm T h 0 0 → Goes p.tables e below (Pof md Z EL s rm Q) T (entryFrame m as' maxL)) : Ct md l Z EL sf y bytes maxL ret rm as' h Q := by
  intro ws
  refine MetFree.of_bodySF hpl hisR ?_
  intro p e s m args below meth c s₁ Bd hml hP hK
  obtain ⟨rfl, hZ, rfl, hC, hsf⟩ := hP
  obtain ⟨a1, hE⟩ := hE
  have X0 : Stand p l e rm s m args below meth c s₁ [] 0 0 := Stand.of_body Bd
  have e0 : s₁.heap = s.heap := by rw [Bd.state]; rfl
  have hown : s.vm.findClass y.cls = some m.cls := findClass_of_methodNamed Bd.named
  refine body p e s m below meth c s₁ Bd.exec Bd.bytes hml Bd.returns (name_of_methodNamed Bd.named Bd.method).1 Bd.notSynchronized hsf ⟨[], 0, X0, e0, hZ, hown, (State.WarmedH.refl s).since 0, Nat.zero_le _, CHr.refl hC, Fr.nil _, hO, fun q => ⟨rfl, hmd q⟩, hK, a1, hE, hO⟩
/-- new -/
theorem St.new (S : St md p l e R s m args below meth c own Z EL vm T h cells slots) (hx : p.tables.exec = Jvm.exec) {C : String} {index n : Nat} (w : (Cond.classLink own index C).before a0 Z = true) (wi : (Cond.instantiable C n).before a0 Z = true) (wz : (Cond.initialized C).before a0 Z = true) (hd : decode c.code pc = .ok (.new index, 3)) (hc : cells + 1 ≤ R.cells) (hl : slots + n ≤ R.slots) (p' : Nat) (hp : p' = pc + 3)
    (q : ∀ T' h' a, St md p l e R s m args below meth c own Z EL vm T' h' (cells + 1) (slots + n) → a = h.size → Ext h h' → Exa Z h' a C → (∀ {O nm d : String} {ty : FieldType}, Laid Z a0 C O nm d → parseFieldDescriptor d = some ty → Fld Z h' a O nm d (defaultValue ty)) → Safe Z EL vm h' a → CHr Z EL vm h vm h' → (∃ cell : Cell, h'[a]? = some cell ∧ cell.vm = .none ∧ cell.monitor = {}) → Goes p.tables e below P T' (mkF m p' L (.ref a :: K))) : Goes p.tables e below P T (mkF m pc L K) := by
  subst hp
  obtain ⟨locs, k, X, eT, hZ, hown, hS, hk, hC, hF, hO, h0, h2, hE⟩ := S
  obtain ⟨T', h', X', e', E', A', D', U', st⟩ := newO X hx hZ hown w wi wz eT (g := mkF m pc L K) rfl hd hc hl
  exact (q T' h' h.size ⟨locs, k, X', e', hZ, hown, hS, Nat.le_trans hk E'.1, hC.trans (CHr.ext E' hC.1), hF, hO.ext E', h0, h2, hE⟩ rfl E' A' D' (Safe.ext E' hC.1 (Safe.new (Nat.le_refl _))) (CHr.ext E' hC.1) U').via st
theorem St.getF (S : St md p l e R s m args below meth c own Z EL vm T h cells slots) (hx : p.tables.exec = Jvm.exec) {R0 O n d host : String} {index : Nat} (w : (Cond.fieldLink own index R0 n d).before a0 Z = true ∨ (Cond.fieldLinkNest own index R0 n d host).before a0 Z = true) (via : Via Z R0 O n d) {a : Addr} {v : Value} (F : Fld Z h a O n d v) (hd : decode c.code pc = .ok (.getfield index, 3)) (p' : Nat) (hp : p' = pc + 3)
    (q : ∀ T', St md p l e R s m args below meth c own Z EL vm T' h cells slots → Goes p.tables e below P T' (mkF m p' L (v :: K))) : Goes p.tables e below P T (mkF m pc L (.ref a :: K)) := by
  subst hp
  obtain ⟨locs, k, X, eT, hZ, hown, r⟩ := S
  obtain ⟨T', X', e', st⟩ := RoadKit.getF X hx hZ hown w via eT F (g := mkF m pc L (.ref a :: K)) rfl rfl hd
  exact (q T' ⟨locs, k, X', e', hZ, hown, r⟩).via st
theorem St.putF (S : St md p l e R s m args below meth c own Z EL vm T h cells slots) (hx : p.tables.exec = Jvm.exec) {R0 O n d host C : String} {index kk : Nat} {ty : FieldType} (w : (Cond.fieldLink own index R0 n d).before a0 Z = true ∨ (Cond.fieldLinkNest own index R0 n d host).before a0 Z = true) (via : Via Z R0 O n d) {a : Addr} {v u : Value} (F : Fld Z h a O n d u) (E : Exa Z h a C)
    (Ly : (Cond.lays C O n d).before a0 Z = true ∨ ((Cond.laysFinal C O n d).before a0 Z = true ∧ own = O ∧ meth.name = "<init>")) (wi : (Cond.instantiable C kk).before a0 Z = true) (hty : parseFieldDescriptor d = some ty) (hn : narrow ty v = v) (hf : fits ty v = true) (sf : Safe Z EL vm h a) (ga : Z.heap.size ≤ a) (hd : decode c.code pc = .ok (.putfield index, 3)) (p' : Nat) (hp : p' = pc + 3)
    (q : ∀ T' h', St md p l e R s m args below meth c own Z EL vm T' h' cells slots → Wr h h' a (Jvm.RoadKit.slotOf Z O n d) v → CHr Z EL vm h vm h' → Goes p.tables e below P T' (mkF m p' L K)) : Goes p.tables e below P T (mkF m pc L (v :: .ref a :: K)) := by
  subst hp
  obtain ⟨locs, k, X, eT, hZ, hown, hS, hk, hC, hF, hO, h0, h2, hE⟩ := S
  obtain ⟨T', h', X', e', W', st⟩ := RoadKit.putF X hx hZ hown w via eT F E Ly wi hty hn hf (g := mkF m pc L (v :: .ref a :: K)) rfl rfl hd
  have hR := CHr.wr W' sf hC.1
  exact (q T' h' ⟨_, k, X', e', hZ, hown, hS, Nat.le_trans hk hR.2.1, hC.trans hR, Fr.snoc X' hF ga, hO.wr W' ga, h0, h2, hE⟩ W' hR).via st
theorem St.getS (S : St md p l e R s m args below meth c own Z EL vm T h cells slots) (hx : p.tables.exec = Jvm.exec) {R0 O n d host : String} {index : Nat} (w : (Cond.fieldLink own index R0 n d).before a0 Z = true ∨ (Cond.fieldLinkNest own index R0 n d host).before a0 Z = true) (via : Via Z R0 O n d) {v : Value} (F : Sta Z h O n d v) (hd : decode c.code pc = .ok (.getstatic index, 3)) (p' : Nat) (hp : p' = pc + 3)
    (q : ∀ T', St md p l e R s m args below meth c own Z EL vm T' h cells slots → Goes p.tables e below P T' (mkF m p' L (v :: K))) : Goes p.tables e below P T (mkF m pc L K) := by
  subst hp
  obtain ⟨locs, k, X, eT, hZ, hown, r⟩ := S
  obtain ⟨T', X', e', st⟩ := getS2 X hx hZ hown w via eT F (g := mkF m pc L K) rfl hd
  exact (q T' ⟨locs, k, X', e', hZ, hown, r⟩).via st
theorem St.castY (S : St md p l e R s m args below meth c own Z EL vm T h cells slots) (hx : p.tables.exec = Jvm.exec) {C : String} {index : Nat} (w : (Cond.classLink own index C).before a0 Z = true) {a : Addr} (F : Ins Z h a C true) (hd : decode c.code pc = .ok (.checkcast index, 3)) (p' : Nat) (hp : p' = pc + 3)
    (q : ∀ T', St md p l e R s m args below meth c own Z EL vm T' h cells slots → Goes p.tables e below P T' (mkF m p' L (.ref a :: K))) : Goes p.tables e below P T (mkF m pc L (.ref a :: K)) := by
  subst hp
  obtain ⟨locs, k, X, eT, hZ, hown, r⟩ := S
  obtain ⟨T', X', e', st⟩ := RoadKit.castY X hx hZ hown w eT F (g := mkF m pc L (.ref a :: K)) rfl rfl hd
  exact (q T' ⟨locs, k, X', e', hZ, hown, r⟩).via st
theorem St.instY (S : St md p l e R s m args below meth c own Z EL vm T h cells slots) (hx : p.tables.exec = Jvm.exec) {C : String} {index : Nat} (w : (Cond.classLink own index C).before a0 Z = true) {a : Addr} (F : Ins Z h a C true) (hd : decode c.code pc = .ok (.instanceof index, 3)) (p' : Nat) (hp : p' = pc + 3)
    (q : ∀ T', St md p l e R s m args below meth c own Z EL vm T' h cells slots → Goes p.tables e below P T' (mkF m p' L (.int 1 :: K))) : Goes p.tables e below P T (mkF m pc L (.ref a :: K)) := by
  subst hp
  obtain ⟨locs, k, X, eT, hZ, hown, r⟩ := S
  obtain ⟨T', X', e', st⟩ := RoadKit.instY X hx hZ hown w eT F (g := mkF m pc L (.ref a :: K)) rfl rfl hd
  exact (q T' ⟨locs, k, X', e', hZ, hown, r⟩).via st
theorem St.ldcI (S : St md p l e R s m args below meth c own Z EL vm T h cells slots) (hx : p.tables.exec = Jvm.exec) {index : Nat} {v : Int32} (w : (Cond.constant own index v).before a0 Z = true) (hd : decode c.code pc = .ok (.ldc index, 2)) (p' : Nat) (hp : p' = pc + 2)
    (q : Goes p.tables e below P T (mkF m p' L (.int v :: K))) : Goes p.tables e below P T (mkF m pc L K) := by
  subst hp
  obtain ⟨locs, k, X, eT, hZ, hown, r⟩ := S
  exact q.via fun t k => X.ldcInt hx hown (mvT (s := s.setVm vm) hZ w) (g := mkF m pc L K) rfl hd t k
theorem St.ldcJ (S : St md p l e R s m args below meth c own Z EL vm T h cells slots) (hx : p.tables.exec = Jvm.exec) {index : Nat} {v : Int64} (w : (Cond.constantLong own index v).before a0 Z = true) (hd : decode c.code pc = .ok (.ldc2_w index, 3)) (p' : Nat) (hp : p' = pc + 3)
    (q : Goes p.tables e below P T (mkF m p' L (.long v :: K))) : Goes p.tables e below P T (mkF m pc L K) := by
  subst hp
  obtain ⟨locs, k, X, eT, hZ, hown, r⟩ := S
  exact q.via fun t k => X.ldc2Long hx hown (mvT (s := s.setVm vm) hZ w) (g := mkF m pc L K) rfl hd t k
/-- newarray of a primitive kind -/
theorem St.newA (S : St md p l e R s m args below meth c own Z EL vm T h cells slots) (hx : p.tables.exec = Jvm.exec) {aty : ArrayType} (w : (Cond.arrayClass (newarray.typeOf aty)).before a0 Z = true) {n : Int32} (hn : ¬ n < 0) {cap : Nat} (hcap : n.toNatClampNeg ≤ cap) (hb : cap * 8 ≤ 536870912) (hd : decode c.code pc = .ok (.newarray aty, 2)) (hc : cells + 1 ≤ R.cells) (hl : slots + cap ≤ R.slots) (p' : Nat) (hp : p' = pc + 2)
    (q : ∀ T' h' a k, St md p l e R s m args below meth c own Z EL vm T' h' (cells + 1) (slots + cap) → a = h.size → Ext h h' → Arv Z h' a k (newarray.typeOf aty) n (List.replicate cap (defaultValue (newarray.typeOf aty))) (defaultValue (newarray.typeOf aty)) → Safe Z EL vm h' a → CHr Z EL vm h vm h' → Goes p.tables e below P T' (mkF m p' L (.ref a :: K))) : Goes p.tables e below P T (mkF m pc L (.int n :: K)) := by
  subst hp
  obtain ⟨locs, k, X, eT, hZ, hown, hS, hk, hC, hF, hO, h0, h2, hE⟩ := S
  obtain ⟨T', h', cA, X', e', E', A', st⟩ := newP X hx hZ w eT (g := mkF m pc L (.int n :: K)) rfl hd rfl hn hcap hb hc hl
  exact (q T' h' h.size cA ⟨locs, k, X', e', hZ, hown, hS, Nat.le_trans hk E'.1, hC.trans (CHr.ext E' hC.1), hF, hO.ext E', h0, h2, hE⟩ rfl E' ((Arv.new A' hn).pad (pad_rep [] _ cap)) (Safe.ext E' hC.1 (Safe.new (Nat.le_refl _))) (CHr.ext E' hC.1)).via st
/-- castore -/
theorem St.stC (S : St md p l e R s m args below meth c own Z EL vm T h cells slots) (hx : p.tables.exec = Jvm.exec) {a : Addr} {k : ClassId} {z j x : Int32} {vs : List Value} {dv : Value} (A : Arv Z h a k .char z vs dv) (i : Nat) (hj : ¬ j < 0 ∧ j < z) (hi : j.toNatClampNeg = i) (hv : i < vs.length) (ga : Z.heap.size ≤ a) (x' : Int32) (hx' : nar .char x = x') (hd : decode c.code pc = .ok (.castore, 1)) (p' : Nat) (hp : p' = pc + 1)
    (q : ∀ T' h', St md p l e R s m args below meth c own Z EL vm T' h' cells slots → Wr h h' a i (.int x') → Arv Z h' a k .char z (vs.set i (.int x')) dv → CHr Z EL vm h vm h' → Goes p.tables e below P T' (mkF m p' L K)) : Goes p.tables e below P T (mkF m pc L (.int x :: .int j :: .ref a :: K)) := by
  subst hp hx'
  have sf := S.safeA A (by decide)
  obtain ⟨locs, kk, X, eT, hZ, hown, hS, hk, hC, hF, hO, h0, h2, hE⟩ := S
  obtain ⟨cl, A1, A2, A3, A4, A5, A6⟩ := A
  obtain ⟨T', h', X', e', W', st⟩ := RoadKit.stC X hx hZ eT A1 (j := j) (inb_of A3 hj) (g := mkF m pc L (.int x :: .int j :: .ref a :: K)) rfl rfl hd
  have hR := CHr.wr W' sf hC.1
  exact (q T' h' ⟨_, kk, X', e', hZ, hown, hS, Nat.le_trans hk hR.2.1, hC.trans hR, Fr.snoc X' hF ga, hO.wr W' ga, h0, h2, hE⟩ (by rw [← hi]; exact W') (Arv.set A1 A2 A3 A4 A5 A6 (fits_nar_char x) W' i hi hv) hR).via st
theorem St.len (S : St md p l e R s m args below meth c own Z EL vm T h cells slots) (hx : p.tables.exec = Jvm.exec) {a : Addr} {k : ClassId} {ty : FieldType} {z : Int32} {vs : List Value} {dv : Value} (A : Arv Z h a k ty z vs dv) (hd : decode c.code pc = .ok (.arraylength, 1)) (p' : Nat) (hp : p' = pc + 1)
    (q : Goes p.tables e below P T (mkF m p' L (.int z :: K))) : Goes p.tables e below P T (mkF m pc L (.ref a :: K)) := by
  subst hp
  obtain ⟨locs, kk, X, eT, hZ, hown, r⟩ := S
  obtain ⟨cl, A1, A2, A3, A4, A5, A6⟩ := A
  refine q.via fun t k => X.arraylength hx (by rw [eT]; exact A1.1) (State.isArrayOf_alike (T := s.setVm vm) hZ.alike A1.2.1) (g := mkF m pc L (.ref a :: K)) rfl rfl hd t ?_
  rw [len_of A3 A4]; exact k
end B

/-! part C: calls, String constants, returns -/
abbrev PreN (R : Room) (as' : Array Value) (h : Heap) (k n : Nat) : Pt → Array Value → Prop := fun A a => a = as' ∧ A.U.heap = h ∧ A.cells + k ≤ R.cells ∧ A.slots + n ≤ R.slots
abbrev PostN (Q : Option Value → Heap → List Loc → Prop) (k n : Nat) : Pt → Array Value → Option Value → Pt → Prop := fun A _ v B => ∃ L, Q v B.U.heap L ∧ B.locs = A.locs ++ L ∧ B.cells = A.cells + k ∧ B.slots = A.slots + n
abbrev PostW (Q : Option Value → Heap → List Loc → Prop) (k n : Nat) (Z : State) (EL : List (String × Nat)) (vm : Vm) (h : Heap) : Pt → Array Value → Option Value → Pt → Prop := fun A _ v B => ∃ L, Q v B.U.heap L ∧ B.locs = A.locs ++ L ∧ B.cells = A.cells + k ∧ B.slots = A.slots + n ∧ CHr Z EL vm h B.U.vm B.U.heap
section C
variable {md : Nat} {p : Program} {l : Launch} {e : Env} {R : Room} {s : State} {m : MethodId} {args : Array Value} {below : List Frame} {meth : Method} {c : Code} {own : String} {Z : State} {EL : List (String × Nat)} {vm : Vm} {T : State} {h : Heap} {cells slots : Nat} {P : Outcome → State → Prop} {pc : Nat} {L : Array Slot} {K : List Value} {a0 : Array Value} {y : MethodName} {bytes : ByteArray} {maxL : Nat} {ret : Option FieldType} {rm : Room} {as' : Array Value} {Q : Option Value → Heap → Prop} {W len : Nat}
theorem nosf : ∀ x ∈ ([] : List Addr), x < h.size ∧ Safe Z EL vm h x := fun _ q => nomatch q
theorem ctBack {sf : List Addr} (hM : Ct 0 l Z [] sf y bytes maxL ret rm as' h Q) (hZ : Z.Warmed39 s.vm) (wc : (Cond.code y bytes maxL ret).before a0 Z = true) (wz : (Cond.initialized y.cls).before a0 Z = true) (hf : rm.frames + 1 ≤ R.frames) (hl : W + (maxL + 11) + rm.locals ≤ R.locals) :
    Back l R p e below s args y len W (PreN R as' h rm.cells rm.slots) (PostN (fun v h' L => Q v h' ∧ Fr Z.heap.size L ∧ Old Z Z.heap.size h' ∧ h.size ≤ h'.size) rm.cells rm.slots) := by
  have hM' : MetFree l y (head1 [Cond.code y bytes maxL ret] rm) (fun a U => a = as' ∧ Z.Warmed39 U.vm ∧ U.heap = h) (fun _ _ _ _ _ => True) (fun _ U o U' => ∃ v L, o = .returned v ∧ (Q v U'.heap ∧ Fr Z.heap.size L ∧ Old Z Z.heap.size U'.heap ∧ h.size ≤ U'.heap.size) ∧ FrameEnd U o U' L rm.cells rm.slots) := fun p e ha hc hk s m args below hf happ hP hK => by
    obtain ⟨n, o, h1, h2, h3, v, L, r1, r2, r3, r4⟩ := hM [] p e ha hc hk s m args below hf happ ⟨hP.1, hP.2.1, hP.2.2, chv_nil, fun _ _ => safe_nil⟩ (fun q => by cases q)
    exact ⟨n, o, h1, h2, h3, v, L, r1, ⟨r2.1, r2.2.1, r2.2.2, by rw [← hP.2.2]; exact r3.2.1⟩, r4.1 rfl⟩
  exact backOf (Q := fun v h' L => Q v h' ∧ Fr Z.heap.size L ∧ Old Z Z.heap.size h' ∧ h.size ≤ h'.size) hM' hZ wc wz hf hl
theorem ctBackS {sf : List Addr} (hmd : md ≠ 0) (hM : Ct md l Z EL sf y bytes maxL ret rm as' h Q) (hZ : Z.Warmed39 vm) (wc : (Cond.code y bytes maxL ret).before a0 Z = true) (wz : (Cond.initialized y.cls).before a0 Z = true) (hf : rm.frames + 1 ≤ R.frames) (hl : W + (maxL + 11) + rm.locals ≤ R.locals) {a1 : Array Value} (hEL : EW Z a1 EL) (H : CHv Z EL vm h) (hkn : KnOf md vm below) (hsf : ∀ x ∈ sf, x < h.size ∧ Safe Z EL vm h x) :
    BackS l R p e below (s.setVm vm) args y len W (PreN R as' h rm.cells rm.slots) (PostW (fun v h' L => Q v h' ∧ Fr Z.heap.size L ∧ Old Z Z.heap.size h') rm.cells rm.slots Z EL vm h) :=
  BackS.of_freeWG (bytes := bytes) (maxL := maxL) (ret := ret) (E := fun _ first o t L k n => k = rm.cells ∧ n = rm.slots ∧ (∃ v, o = .returned v ∧ Q v t.heap ∧ Fr Z.heap.size L ∧ Old Z Z.heap.size t.heap) ∧ CHr Z EL first.vm first.heap t.vm t.heap) (hM []) hf hl
    (fun m meth c A a Y hp => have hU : Z.Warmed39 A.U.vm := wtrans (s := s.setVm vm) hZ Y.warmed
      ⟨by show (Cond.and _ .tt).before a A.U = true; rw [Cond.before_and, mv hU wc]; rfl, mv hU wc, mv hU wz, hp.2.2.1, hp.2.2.2⟩)
    (fun m meth c A a g mk Y hp => ⟨hp.1, wtrans (s := s.setVm vm) hZ Y.warmed, hp.2.1, (CHv.at Y hZ hEL H).1, fun x hx => (CHv.at Y hZ hEL H).safe (hsf x hx).1 (hsf x hx).2⟩) (fun m meth c A a g mk Y _ hg q2 => known_frames Y hg (hkn q2).1 (hkn q2).2)
    (fun _ _ _ _ ⟨v, L, h1, h2, h3, h4⟩ => ⟨L, _, _, h4.2 hmd, rfl, rfl, ⟨v, h1, h2⟩, h3⟩)
    (fun m meth c A a g mk v t L k n Y hp _ _ ⟨e1, e2, ⟨v', e3, e4⟩, e5⟩ => by
      cases e3; subst e1 e2
      refine ⟨L, e4, rfl, rfl, rfl, (CHv.at Y hZ hEL H).trans ?_⟩
      rw [← hp.2.1]; exact e5)
theorem St.callSN (S : St md p l e R s m args below meth c own Z EL vm T h cells slots) (hx : p.tables.exec = Jvm.exec) {index : Nat}  (w1 : (Cond.methodLink own index y).before a0 Z = true) (w2 : (Cond.static y).before a0 Z = true) (w3 : (Cond.initialized y.cls).before a0 Z = true) (w4 : (Cond.code y bytes maxL ret).before a0 Z = true) (hy : y.cls ≠ "java/lang/invoke/MethodHandle" ∧ y.cls ≠ "java/lang/invoke/VarHandle") {k n : Nat} {QN : Option Value → Heap → List Loc → Prop} (hK : Back l R p e below (s.setVm vm) args y 3 W (PreN R as' h k n) (PostN QN k n)) (hQ : ∀ v h' Lc, QN v h' Lc → Fr Z.heap.size Lc ∧ Old Z Z.heap.size h' ∧ CHr Z EL vm h vm h') (hml : L.size = c.maxLocals) (argsL rest : List Value) (hlen : ∀ sig, parseMethodDescriptor y.desc = some sig → argsL.length = sig.parameters.length) (hst : K = argsL.reverse ++ rest) (has : argsL.toArray = as') (hW : (rest.map fun v => v.category).sum ≤ W) (hd : decode c.code pc = .ok (.invokestatic index, 3)) (hc : cells + k ≤ R.cells) (hs : slots + n ≤ R.slots) (p' : Nat) (hp : p' = pc + 3)
    (q : ∀ v T' h' Lc, St md p l e R s m args below meth c own Z EL vm T' h' (cells + k) (slots + n) → QN v h' Lc → CHr Z EL vm h vm h' → Goes p.tables e below P T' (mkF m p' L (v.toList ++ rest))) : Goes p.tables e below P T (mkF m pc L K) := by
  subst hp hst has
  obtain ⟨locs, k0, X, eT, hZ, hown, hS, hk, hC, hF, hO, h0, h2, hE⟩ := S
  obtain ⟨v, vm1, ⟨T', L', k', n'⟩, -, X', ⟨Lc, hq, l', y', z'⟩, st⟩ := Jvm.LawKit.callS X hx hown (mvT (s := s.setVm vm) hZ w1) (mvT (s := s.setVm vm) hZ w2) (mvT (s := s.setVm vm) hZ w3) (mvT (s := s.setVm vm) hZ w4) hy hK (g := mkF m pc L (argsL.reverse ++ rest)) rfl hml  (argsL := argsL) (rest := rest) hlen rfl (by show 2 * 0 + _ ≤ _; omega) hd (fun _ _ => ⟨rfl, eT, hc, hs⟩)
  dsimp only [Pt.U, Pt.locs, Pt.cells, Pt.slots] at X' l' y' z' st hq
  subst l' y' z'
  obtain ⟨r1, r2, r3⟩ := hQ v _ Lc hq
  exact (q v T' T'.heap Lc ⟨_, k0, X', rfl, hZ, hown, hS, Nat.le_trans hk r3.2.1, hC.trans r3, hF.app r1, r2, h0, h2, hE⟩ hq r3).via st
theorem St.callS {sf : List Addr} (S : St md p l e R s m args below meth c own Z EL vm T h cells slots) (hx : p.tables.exec = Jvm.exec) {index : Nat}  (w1 : (Cond.methodLink own index y).before a0 Z = true) (w2 : (Cond.static y).before a0 Z = true) (w3 : (Cond.initialized y.cls).before a0 Z = true) (w4 : (Cond.code y bytes maxL ret).before a0 Z = true) (hy : y.cls ≠ "java/lang/invoke/MethodHandle" ∧ y.cls ≠ "java/lang/invoke/VarHandle") (hM : Ct md l Z EL sf y bytes maxL ret rm as' h Q) (hsf : ∀ x ∈ sf, x < h.size ∧ Safe Z EL vm h x) (hf : rm.frames + 1 ≤ R.frames) (hl : W + (maxL + 11) + rm.locals ≤ R.locals) (hml : L.size = c.maxLocals) (argsL rest : List Value) (hlen : ∀ sig, parseMethodDescriptor y.desc = some sig → argsL.length = sig.parameters.length) (hst : K = argsL.reverse ++ rest) (has : argsL.toArray = as') (hW : (rest.map fun v => v.category).sum ≤ W) (hd : decode c.code pc = .ok (.invokestatic index, 3)) (hc : cells + rm.cells ≤ R.cells) (hs : slots + rm.slots ≤ R.slots) (p' : Nat) (hp : p' = pc + 3)
    (q : ∀ v vm' T' h', St md p l e R s m args below meth c own Z EL vm' T' h' (cells + rm.cells) (slots + rm.slots) → Q v h' → CHr Z EL vm h vm' h' → Goes p.tables e below P T' (mkF m p' L (v.toList ++ rest))) : Goes p.tables e below P T (mkF m pc L K) := by
  by_cases hmd : md = 0
  · subst hmd
    have hEL : EL = [] := by obtain ⟨_, _, -, -, -, -, -, -, -, -, -, h0, -⟩ := S; exact (h0 rfl).2
    subst hEL
    have hZ := S.warm
    exact St.callSN S hx w1 w2 w3 w4 hy (ctBack (s := s.setVm vm) hM hZ w4 w3 hf hl) (fun v h' Lc r => ⟨r.2.1, r.2.2.1, chr_nil r.2.2.2⟩) hml argsL rest hlen hst has hW hd hc hs p' hp (fun v T' h' Lc S' r R' => q v vm T' h' S' r.1 R')
  · subst hp hst has
    obtain ⟨locs, k0, X, eT, hZ, hown, hS, hk, hC, hF, hO, h0, h2, a1, hE⟩ := S
    have hK := ctBackS (s := s) (R := R) (p := p) (e := e) (below := below) (args := args) (W := W) (len := 3) hmd hM hZ w4 w3 hf hl hE.1 hC.1 h2 hsf
    obtain ⟨v, vm1, ⟨T', L', k', n'⟩, -, X', hS2, hgr, ⟨Lc, ⟨hq, r1, r2⟩, l', y', z', hR⟩, st⟩ := callSS X hx hown (mvT (s := s.setVm vm) hZ w1) (mvT (s := s.setVm vm) hZ w2) (mvT (s := s.setVm vm) hZ w3) (mvT (s := s.setVm vm) hZ w4) hy hK (g := mkF m pc L (argsL.reverse ++ rest)) rfl hml  (argsL := argsL) (rest := rest) hlen rfl (by show 2 * 0 + _ ≤ _; omega) hd (fun _ _ => ⟨rfl, eT, hc, hs⟩)
    dsimp only [Pt.U, Pt.locs, Pt.cells, Pt.slots] at X' l' y' z' st hq hS2 hgr hR
    subst l' y' z'
    obtain ⟨Y1, Y2, Y3, Y4⟩ := rebS hS (n1 := T.heap.size) (by rw [eT]; exact hk) X' hS2 hgr hZ hown
    exact (q v T'.vm T' T'.heap ⟨_, _, Y1, rfl, Y3, Y4, Y2, Nat.le_refl _, hC.trans hR, hF.app r1, r2, fun z => absurd z hmd, fun z => ⟨(h2 z).1.alikeC hS2.1.alike, (h2 z).2.alikeC hS2.1.alike⟩, a1, hE⟩ hq hR).to st
theorem St.callIN (S : St md p l e R s m args below meth c own Z EL vm T h cells slots) (hx : p.tables.exec = Jvm.exec) {index : Nat} {a : Addr} (hy1 : y.name = "<init>") (w1 : (Cond.methodLink own index y).before a0 Z = true) (w2 : (Cond.instanceMethod y).before a0 Z = true) (w4 : (Cond.code y bytes maxL none).before a0 Z = true) (hy : y.cls ≠ "java/lang/invoke/MethodHandle" ∧ y.cls ≠ "java/lang/invoke/VarHandle") {k n : Nat} {QN : Option Value → Heap → List Loc → Prop} (hK : Back l R p e below (s.setVm vm) args y 3 W (PreN R as' h k n) (PostN QN k n)) (hQ : ∀ v h' Lc, QN v h' Lc → Fr Z.heap.size Lc ∧ Old Z Z.heap.size h' ∧ CHr Z EL vm h vm h') (hml : L.size = c.maxLocals) (argsL rest : List Value) (hlen : ∀ sig, parseMethodDescriptor y.desc = some sig → argsL.length = sig.parameters.length) (hst : K = argsL.reverse ++ .ref a :: rest) (has : (.ref a :: argsL).toArray = as') (hW : (rest.map fun v => v.category).sum ≤ W) (hd : decode c.code pc = .ok (.invokespecial index, 3)) (hc : cells + k ≤ R.cells) (hs : slots + n ≤ R.slots) (p' : Nat) (hp : p' = pc + 3)
    (q : ∀ v T' h' Lc, St md p l e R s m args below meth c own Z EL vm T' h' (cells + k) (slots + n) → QN v h' Lc → CHr Z EL vm h vm h' → Goes p.tables e below P T' (mkF m p' L (v.toList ++ rest))) : Goes p.tables e below P T (mkF m pc L K) := by
  subst hp hst has
  obtain ⟨locs, k0, X, eT, hZ, hown, hS, hk, hC, hF, hO, h0, h2, hE⟩ := S
  obtain ⟨v, vm1, ⟨T', L', k', n'⟩, -, X', ⟨Lc, hq, l', y', z'⟩, st⟩ := X.specialBack hx hy1 hown (mvT (s := s.setVm vm) hZ w1) (mvT (s := s.setVm vm) hZ w2) (mvT (s := s.setVm vm) hZ w4) hy hK (g := mkF m pc L (argsL.reverse ++ .ref a :: rest)) rfl hml (Steps.refl _) (argsL := argsL) (rest := rest) hlen rfl (by show 2 * 0 + _ ≤ _; omega) hd (fun _ _ => ⟨rfl, eT, hc, hs⟩)
  dsimp only [Pt.U, Pt.locs, Pt.cells, Pt.slots] at X' l' y' z' st hq
  subst l' y' z'
  obtain ⟨r1, r2, r3⟩ := hQ v _ Lc hq
  exact (q v T' T'.heap Lc ⟨_, k0, X', rfl, hZ, hown, hS, Nat.le_trans hk r3.2.1, hC.trans r3, hF.app r1, r2, h0, h2, hE⟩ hq r3).to st
theorem St.callI {sf : List Addr} (S : St md p l e R s m args below meth c own Z EL vm T h cells slots) (hx : p.tables.exec = Jvm.exec) {index : Nat} {a : Addr} (hy1 : y.name = "<init>") (w1 : (Cond.methodLink own index y).before a0 Z = true) (w2 : (Cond.instanceMethod y).before a0 Z = true) (w4 : (Cond.code y bytes maxL none).before a0 Z = true) (hy : y.cls ≠ "java/lang/invoke/MethodHandle" ∧ y.cls ≠ "java/lang/invoke/VarHandle") (wz : (Cond.initialized y.cls).before a0 Z = true) (hM : Ct md l Z EL sf y bytes maxL none rm as' h Q) (hsf : ∀ x ∈ sf, x < h.size ∧ Safe Z EL vm h x) (hf : rm.frames + 1 ≤ R.frames) (hl : W + (maxL + 11) + rm.locals ≤ R.locals) (hml : L.size = c.maxLocals) (argsL rest : List Value) (hlen : ∀ sig, parseMethodDescriptor y.desc = some sig → argsL.length = sig.parameters.length) (hst : K = argsL.reverse ++ .ref a :: rest) (has : (.ref a :: argsL).toArray = as') (hW : (rest.map fun v => v.category).sum ≤ W) (hd : decode c.code pc = .ok (.invokespecial index, 3)) (hc : cells + rm.cells ≤ R.cells) (hs : slots + rm.slots ≤ R.slots) (p' : Nat) (hp : p' = pc + 3)
    (q : ∀ v vm' T' h', St md p l e R s m args below meth c own Z EL vm' T' h' (cells + rm.cells) (slots + rm.slots) → Q v h' → CHr Z EL vm h vm' h' → Goes p.tables e below P T' (mkF m p' L (v.toList ++ rest))) : Goes p.tables e below P T (mkF m pc L K) := by
  by_cases hmd : md = 0
  · subst hmd
    have hEL : EL = [] := by obtain ⟨_, _, -, -, -, -, -, -, -, -, -, h0, -⟩ := S; exact (h0 rfl).2
    subst hEL
    have hZ := S.warm
    exact St.callIN S hx hy1 w1 w2 w4 hy (ctBack (s := s.setVm vm) hM hZ w4 wz hf hl) (fun v h' Lc r => ⟨r.2.1, r.2.2.1, chr_nil r.2.2.2⟩) hml argsL rest hlen hst has hW hd hc hs p' hp (fun v T' h' Lc S' r R' => q v vm T' h' S' r.1 R')
  · subst hp hst has
    obtain ⟨locs, k0, X, eT, hZ, hown, hS, hk, hC, hF, hO, h0, h2, a1, hE⟩ := S
    have hK := ctBackS (s := s) (R := R) (p := p) (e := e) (below := below) (args := args) (W := W) (len := 3) hmd hM hZ w4 wz hf hl hE.1 hC.1 h2 hsf
    obtain ⟨v, vm1, ⟨T', L', k', n'⟩, -, X', hS2, hgr, ⟨Lc, ⟨hq, r1, r2⟩, l', y', z', hR⟩, st⟩ := X.specialBackS hx hy1 hown (mvT (s := s.setVm vm) hZ w1) (mvT (s := s.setVm vm) hZ w2) (mvT (s := s.setVm vm) hZ w4) hy hK (g := mkF m pc L (argsL.reverse ++ .ref a :: rest)) rfl hml (Steps.refl _) (argsL := argsL) (rest := rest) hlen rfl (by show 2 * 0 + _ ≤ _; omega) hd (fun _ _ => ⟨rfl, eT, hc, hs⟩)
    dsimp only [Pt.U, Pt.locs, Pt.cells, Pt.slots] at X' l' y' z' st hq hS2 hgr hR
    subst l' y' z'
    obtain ⟨Y1, Y2, Y3, Y4⟩ := rebS hS (n1 := T.heap.size) (by rw [eT]; exact hk) X' hS2 hgr hZ hown
    exact (q v T'.vm T' T'.heap ⟨_, _, Y1, rfl, Y3, Y4, Y2, Nat.le_refl _, hC.trans hR, hF.app r1, r2, fun z => absurd z hmd, fun z => ⟨(h2 z).1.alikeC hS2.1.alike, (h2 z).2.alikeC hS2.1.alike⟩, a1, hE⟩ hq hR).to st
theorem St.callVN (S : St md p l e R s m args below meth c own Z EL vm T h cells slots) (hx : p.tables.exec = Jvm.exec) {index : Nat} {a : Addr} {C : String} {x : MethodName} (w1 : (Cond.methodLink own index x).before a0 Z = true) (w2 : (Cond.declares x).before a0 Z = true) (nf : NotFace (s.setVm vm) x) (w5 : (Cond.selects C x y).before a0 Z = true) (w6 : (Cond.instanceMethod y).before a0 Z = true) (hy : x.cls ≠ "java/lang/invoke/MethodHandle" ∧ x.cls ≠ "java/lang/invoke/VarHandle") (E : Exa Z h a C) {k n : Nat} {QN : Option Value → Heap → List Loc → Prop} (hK : Back l R p e below (s.setVm vm) args y 3 W (PreN R as' h k n) (PostN QN k n)) (hQ : ∀ v h' Lc, QN v h' Lc → Fr Z.heap.size Lc ∧ Old Z Z.heap.size h' ∧ CHr Z EL vm h vm h') (hml : L.size = c.maxLocals) (argsL rest : List Value) (hlen : ∀ sig, parseMethodDescriptor x.desc = some sig → argsL.length = sig.parameters.length) (hst : K = argsL.reverse ++ .ref a :: rest) (has : (.ref a :: argsL).toArray = as') (hW : (rest.map fun v => v.category).sum ≤ W) (hd : decode c.code pc = .ok (.invokevirtual index, 3)) (hc : cells + k ≤ R.cells) (hs : slots + n ≤ R.slots) (p' : Nat) (hp : p' = pc + 3)
    (q : ∀ v T' h' Lc, St md p l e R s m args below meth c own Z EL vm T' h' (cells + k) (slots + n) → QN v h' Lc → CHr Z EL vm h vm h' → Goes p.tables e below P T' (mkF m p' L (v.toList ++ rest))) : Goes p.tables e below P T (mkF m pc L K) := by
  subst hp hst has
  obtain ⟨locs, k0, X, eT, hZ, hown, hS, hk, hC, hF, hO, h0, h2, hE⟩ := S
  obtain ⟨cq, kq, qa, qb, qc⟩ := isOf (s := s.setVm vm) hZ eT E
  obtain ⟨v, vm1, ⟨T', L', k', n'⟩, -, X', ⟨Lc, hq, l', y', z'⟩, st⟩ := X.virtualBack hx hown (mvT (s := s.setVm vm) hZ w1) (mvT (s := s.setVm vm) hZ w2) nf (mvT (s := s.setVm vm) hZ w5) (mvT (s := s.setVm vm) hZ w6) hy hK qa qc (g := mkF m pc L (argsL.reverse ++ .ref a :: rest)) rfl hml (Steps.refl _) (argsL := argsL) (rest := rest) hlen rfl (by show 2 * 0 + _ ≤ _; omega) hd (fun _ _ => ⟨rfl, eT, hc, hs⟩)
  dsimp only [Pt.U, Pt.locs, Pt.cells, Pt.slots] at X' l' y' z' st hq
  subst l' y' z'
  obtain ⟨r1, r2, r3⟩ := hQ v _ Lc hq
  exact (q v T' T'.heap Lc ⟨_, k0, X', rfl, hZ, hown, hS, Nat.le_trans hk r3.2.1, hC.trans r3, hF.app r1, r2, h0, h2, hE⟩ hq r3).to st
theorem St.callV {sf : List Addr} (S : St md p l e R s m args below meth c own Z EL vm T h cells slots) (hx : p.tables.exec = Jvm.exec) {index : Nat} {a : Addr} {C : String} {x : MethodName} (w1 : (Cond.methodLink own index x).before a0 Z = true) (w2 : (Cond.declares x).before a0 Z = true) (nf : NotFace (s.setVm vm) x) (w5 : (Cond.selects C x y).before a0 Z = true) (w6 : (Cond.instanceMethod y).before a0 Z = true) (hy : x.cls ≠ "java/lang/invoke/MethodHandle" ∧ x.cls ≠ "java/lang/invoke/VarHandle") (E : Exa Z h a C) (wc : (Cond.code y bytes maxL ret).before a0 Z = true) (wz : (Cond.initialized y.cls).before a0 Z = true) (hM : Ct md l Z EL sf y bytes maxL ret rm as' h Q) (hsf : ∀ x ∈ sf, x < h.size ∧ Safe Z EL vm h x) (hf : rm.frames + 1 ≤ R.frames) (hl : W + (maxL + 11) + rm.locals ≤ R.locals) (hml : L.size = c.maxLocals) (argsL rest : List Value) (hlen : ∀ sig, parseMethodDescriptor x.desc = some sig → argsL.length = sig.parameters.length) (hst : K = argsL.reverse ++ .ref a :: rest) (has : (.ref a :: argsL).toArray = as') (hW : (rest.map fun v => v.category).sum ≤ W) (hd : decode c.code pc = .ok (.invokevirtual index, 3)) (hc : cells + rm.cells ≤ R.cells) (hs : slots + rm.slots ≤ R.slots) (p' : Nat) (hp : p' = pc + 3)
    (q : ∀ v vm' T' h', St md p l e R s m args below meth c own Z EL vm' T' h' (cells + rm.cells) (slots + rm.slots) → Q v h' → CHr Z EL vm h vm' h' → Goes p.tables e below P T' (mkF m p' L (v.toList ++ rest))) : Goes p.tables e below P T (mkF m pc L K) := by
  by_cases hmd : md = 0
  · subst hmd
    have hEL : EL = [] := by obtain ⟨_, _, -, -, -, -, -, -, -, -, -, h0, -⟩ := S; exact (h0 rfl).2
    subst hEL
    have hZ := S.warm
    exact St.callVN S hx w1 w2 nf w5 w6 hy E (ctBack (s := s.setVm vm) hM hZ wc wz hf hl) (fun v h' Lc r => ⟨r.2.1, r.2.2.1, chr_nil r.2.2.2⟩) hml argsL rest hlen hst has hW hd hc hs p' hp (fun v T' h' Lc S' r R' => q v vm T' h' S' r.1 R')
  · subst hp hst has
    obtain ⟨locs, k0, X, eT, hZ, hown, hS, hk, hC, hF, hO, h0, h2, a1, hE⟩ := S
    obtain ⟨cq, kq, qa, qb, qc⟩ := isOf (s := s.setVm vm) hZ eT E
    have hK := ctBackS (s := s) (R := R) (p := p) (e := e) (below := below) (args := args) (W := W) (len := 3) hmd hM hZ wc wz hf hl hE.1 hC.1 h2 hsf
    obtain ⟨v, vm1, ⟨T', L', k', n'⟩, -, X', hS2, hgr, ⟨Lc, ⟨hq, r1, r2⟩, l', y', z', hR⟩, st⟩ := X.virtualBackS hx hown (mvT (s := s.setVm vm) hZ w1) (mvT (s := s.setVm vm) hZ w2) nf (mvT (s := s.setVm vm) hZ w5) (mvT (s := s.setVm vm) hZ w6) hy hK qa qc (g := mkF m pc L (argsL.reverse ++ .ref a :: rest)) rfl hml (Steps.refl _) (argsL := argsL) (rest := rest) hlen rfl (by show 2 * 0 + _ ≤ _; omega) hd (fun _ _ => ⟨rfl, eT, hc, hs⟩)
    dsimp only [Pt.U, Pt.locs, Pt.cells, Pt.slots] at X' l' y' z' st hq hS2 hgr hR
    subst l' y' z'
    obtain ⟨Y1, Y2, Y3, Y4⟩ := rebS hS (n1 := T.heap.size) (by rw [eT]; exact hk) X' hS2 hgr hZ hown
    exact (q v T'.vm T' T'.heap ⟨_, _, Y1, rfl, Y3, Y4, Y2, Nat.le_refl _, hC.trans hR, hF.app r1, r2, fun z => absurd z hmd, fun z => ⟨(h2 z).1.alikeC hS2.1.alike, (h2 z).2.alikeC hS2.1.alike⟩, a1, hE⟩ hq hR).to st
theorem St.callUN (S : St md p l e R s m args below meth c own Z EL vm T h cells slots) (hx : p.tables.exec = Jvm.exec) {index : Nat} {a : Addr} {C owner : String} {x : MethodName} (w1 : (Cond.methodLink own index x).before a0 Z = true) (w2 : (Cond.sameMethod x.cls owner x.name x.desc).before a0 Z = true) (w3 : (Cond.declares ⟨owner, x.name, x.desc⟩).before a0 Z = true) (w5 : (Cond.selects C x y).before a0 Z = true) (w6 : (Cond.instanceMethod y).before a0 Z = true) (hy : owner ≠ "java/lang/invoke/MethodHandle" ∧ owner ≠ "java/lang/invoke/VarHandle") (E : Exa Z h a C) {k n : Nat} {QN : Option Value → Heap → List Loc → Prop} (hK : Back l R p e below (s.setVm vm) args y 3 W (PreN R as' h k n) (PostN QN k n)) (hQ : ∀ v h' Lc, QN v h' Lc → Fr Z.heap.size Lc ∧ Old Z Z.heap.size h' ∧ CHr Z EL vm h vm h') (hml : L.size = c.maxLocals) (argsL rest : List Value) (hlen : ∀ sig, parseMethodDescriptor x.desc = some sig → argsL.length = sig.parameters.length) (hst : K = argsL.reverse ++ .ref a :: rest) (has : (.ref a :: argsL).toArray = as') (hW : (rest.map fun v => v.category).sum ≤ W) (hd : decode c.code pc = .ok (.invokevirtual index, 3)) (hc : cells + k ≤ R.cells) (hs : slots + n ≤ R.slots) (p' : Nat) (hp : p' = pc + 3)
    (q : ∀ v T' h' Lc, St md p l e R s m args below meth c own Z EL vm T' h' (cells + k) (slots + n) → QN v h' Lc → CHr Z EL vm h vm h' → Goes p.tables e below P T' (mkF m p' L (v.toList ++ rest))) : Goes p.tables e below P T (mkF m pc L K) := by
  subst hp hst has
  obtain ⟨locs, k0, X, eT, hZ, hown, hS, hk, hC, hF, hO, h0, h2, hE⟩ := S
  obtain ⟨cq, kq, qa, qb, qc⟩ := isOf (s := s.setVm vm) hZ eT E
  obtain ⟨v, vm1, ⟨T', L', k', n'⟩, -, X', ⟨Lc, hq, l', y', z'⟩, st⟩ := X.virtualBackUp hx hown (mvT (s := s.setVm vm) hZ w1) (mvT (s := s.setVm vm) hZ w2) (mvT (s := s.setVm vm) hZ w3) hy (mvT (s := s.setVm vm) hZ w5) (mvT (s := s.setVm vm) hZ w6) hK qa qc (g := mkF m pc L (argsL.reverse ++ .ref a :: rest)) rfl hml (Steps.refl _) (argsL := argsL) (rest := rest) hlen rfl (by show 2 * 0 + _ ≤ _; omega) hd (fun _ _ => ⟨rfl, eT, hc, hs⟩)
  dsimp only [Pt.U, Pt.locs, Pt.cells, Pt.slots] at X' l' y' z' st hq
  subst l' y' z'
  obtain ⟨r1, r2, r3⟩ := hQ v _ Lc hq
  exact (q v T' T'.heap Lc ⟨_, k0, X', rfl, hZ, hown, hS, Nat.le_trans hk r3.2.1, hC.trans r3, hF.app r1, r2, h0, h2, hE⟩ hq r3).to st
theorem St.callU {sf : List Addr} (S : St md p l e R s m args below meth c own Z EL vm T h cells slots) (hx : p.tables.exec = Jvm.exec) {index : Nat} {a : Addr} {C owner : String} {x : MethodName} (w1 : (Cond.methodLink own index x).before a0 Z = true) (w2 : (Cond.sameMethod x.cls owner x.name x.desc).before a0 Z = true) (w3 : (Cond.declares ⟨owner, x.name, x.desc⟩).before a0 Z = true) (w5 : (Cond.selects C x y).before a0 Z = true) (w6 : (Cond.instanceMethod y).before a0 Z = true) (hy : owner ≠ "java/lang/invoke/MethodHandle" ∧ owner ≠ "java/lang/invoke/VarHandle") (E : Exa Z h a C) (wc : (Cond.code y bytes maxL ret).before a0 Z = true) (wz : (Cond.initialized y.cls).before a0 Z = true) (hM : Ct md l Z EL sf y bytes maxL ret rm as' h Q) (hsf : ∀ x ∈ sf, x < h.size ∧ Safe Z EL vm h x) (hf : rm.frames + 1 ≤ R.frames) (hl : W + (maxL + 11) + rm.locals ≤ R.locals) (hml : L.size = c.maxLocals) (argsL rest : List Value) (hlen : ∀ sig, parseMethodDescriptor x.desc = some sig → argsL.length = sig.parameters.length) (hst : K = argsL.reverse ++ .ref a :: rest) (has : (.ref a :: argsL).toArray = as') (hW : (rest.map fun v => v.category).sum ≤ W) (hd : decode c.code pc = .ok (.invokevirtual index, 3)) (hc : cells + rm.cells ≤ R.cells) (hs : slots + rm.slots ≤ R.slots) (p' : Nat) (hp : p' = pc + 3)
    (q : ∀ v vm' T' h', St md p l e R s m args below meth c own Z EL vm' T' h' (cells + rm.cells) (slots + rm.slots) → Q v h' → CHr Z EL vm h vm' h' → Goes p.tables e below P T' (mkF m p' L (v.toList ++ rest))) : Goes p.tables e below P T (mkF m pc L K) := by
  by_cases hmd : md = 0
  · subst hmd
    have hEL : EL = [] := by obtain ⟨_, _, -, -, -, -, -, -, -, -, -, h0, -⟩ := S; exact (h0 rfl).2
    subst hEL
    have hZ := S.warm
    exact St.callUN S hx w1 w2 w3 w5 w6 hy E (ctBack (s := s.setVm vm) hM hZ wc wz hf hl) (fun v h' Lc r => ⟨r.2.1, r.2.2.1, chr_nil r.2.2.2⟩) hml argsL rest hlen hst has hW hd hc hs p' hp (fun v T' h' Lc S' r R' => q v vm T' h' S' r.1 R')
  · subst hp hst has
    obtain ⟨locs, k0, X, eT, hZ, hown, hS, hk, hC, hF, hO, h0, h2, a1, hE⟩ := S
    obtain ⟨cq, kq, qa, qb, qc⟩ := isOf (s := s.setVm vm) hZ eT E
    have hK := ctBackS (s := s) (R := R) (p := p) (e := e) (below := below) (args := args) (W := W) (len := 3) hmd hM hZ wc wz hf hl hE.1 hC.1 h2 hsf
    obtain ⟨v, vm1, ⟨T', L', k', n'⟩, -, X', hS2, hgr, ⟨Lc, ⟨hq, r1, r2⟩, l', y', z', hR⟩, st⟩ := virtualBackUpS X hx hown (mvT (s := s.setVm vm) hZ w1) (mvT (s := s.setVm vm) hZ w2) (mvT (s := s.setVm vm) hZ w3) hy (mvT (s := s.setVm vm) hZ w5) (mvT (s := s.setVm vm) hZ w6) hK qa qc (g := mkF m pc L (argsL.reverse ++ .ref a :: rest)) rfl hml (Steps.refl _) (argsL := argsL) (rest := rest) hlen rfl (by show 2 * 0 + _ ≤ _; omega) hd (fun _ _ => ⟨rfl, eT, hc, hs⟩)
    dsimp only [Pt.U, Pt.locs, Pt.cells, Pt.slots] at X' l' y' z' st hq hS2 hgr hR
    subst l' y' z'
    obtain ⟨Y1, Y2, Y3, Y4⟩ := rebS hS (n1 := T.heap.size) (by rw [eT]; exact hk) X' hS2 hgr hZ hown
    exact (q v T'.vm T' T'.heap ⟨_, _, Y1, rfl, Y3, Y4, Y2, Nat.le_refl _, hC.trans hR, hF.app r1, r2, fun z => absurd z hmd, fun z => ⟨(h2 z).1.alikeC hS2.1.alike, (h2 z).2.alikeC hS2.1.alike⟩, a1, hE⟩ hq hR).to st
theorem St.callPN (S : St md p l e R s m args below meth c own Z EL vm T h cells slots) (hx : p.tables.exec = Jvm.exec) {index : Nat} {a : Addr} (w1 : (Cond.methodLink own index y).before a0 Z = true) (w6 : (Cond.instanceMethod y).before a0 Z = true) (w5 : (Cond.selects y.cls y y).before a0 Z = true) (w7 : (Cond.privateMethod y).before a0 Z = true) (w4 : (Cond.code y bytes maxL ret).before a0 Z = true) (hy : y.cls ≠ "java/lang/invoke/MethodHandle" ∧ y.cls ≠ "java/lang/invoke/VarHandle") {C : String} (E : Exa Z h a C) {k n : Nat} {QN : Option Value → Heap → List Loc → Prop} (hK : Back l R p e below (s.setVm vm) args y 3 W (PreN R as' h k n) (PostN QN k n)) (hQ : ∀ v h' Lc, QN v h' Lc → Fr Z.heap.size Lc ∧ Old Z Z.heap.size h' ∧ CHr Z EL vm h vm h') (hml : L.size = c.maxLocals) (argsL rest : List Value) (hlen : ∀ sig, parseMethodDescriptor y.desc = some sig → argsL.length = sig.parameters.length) (hst : K = argsL.reverse ++ .ref a :: rest) (has : (.ref a :: argsL).toArray = as') (hW : (rest.map fun v => v.category).sum ≤ W) (hd : decode c.code pc = .ok (.invokevirtual index, 3)) (hc : cells + k ≤ R.cells) (hs : slots + n ≤ R.slots) (p' : Nat) (hp : p' = pc + 3)
    (q : ∀ v T' h' Lc, St md p l e R s m args below meth c own Z EL vm T' h' (cells + k) (slots + n) → QN v h' Lc → CHr Z EL vm h vm h' → Goes p.tables e below P T' (mkF m p' L (v.toList ++ rest))) : Goes p.tables e below P T (mkF m pc L K) := by
  subst hp hst has
  obtain ⟨locs, k0, X, eT, hZ, hown, hS, hk, hC, hF, hO, h0, h2, hE⟩ := S
  obtain ⟨cq, qa, qb⟩ := E.cell
  obtain ⟨v, vm1, ⟨T', L', k', n'⟩, -, X', ⟨Lc, hq, l', y', z'⟩, st⟩ := X.privateBack hx hown (mvT (s := s.setVm vm) hZ w1) (mvT (s := s.setVm vm) hZ w6) (mvT (s := s.setVm vm) hZ w5) (Cond.privateMethod_at (mvP (s := s.setVm vm) hZ w7 (args := #[]))) (mvT (s := s.setVm vm) hZ w4) hy hK (g := mkF m pc L (argsL.reverse ++ .ref a :: rest)) rfl hml (Steps.refl _) (a := a) (by rw [eT]; exact qa) qb (argsL := argsL) (rest := rest) hlen rfl (by show 2 * 0 + _ ≤ _; omega) hd (fun _ _ => ⟨rfl, eT, hc, hs⟩)
  dsimp only [Pt.U, Pt.locs, Pt.cells, Pt.slots] at X' l' y' z' st hq
  subst l' y' z'
  obtain ⟨r1, r2, r3⟩ := hQ v _ Lc hq
  exact (q v T' T'.heap Lc ⟨_, k0, X', rfl, hZ, hown, hS, Nat.le_trans hk r3.2.1, hC.trans r3, hF.app r1, r2, h0, h2, hE⟩ hq r3).to st
theorem St.callP {sf : List Addr} (S : St md p l e R s m args below meth c own Z EL vm T h cells slots) (hx : p.tables.exec = Jvm.exec) {index : Nat} {a : Addr} (w1 : (Cond.methodLink own index y).before a0 Z = true) (w6 : (Cond.instanceMethod y).before a0 Z = true) (w5 : (Cond.selects y.cls y y).before a0 Z = true) (w7 : (Cond.privateMethod y).before a0 Z = true) (w4 : (Cond.code y bytes maxL ret).before a0 Z = true) (hy : y.cls ≠ "java/lang/invoke/MethodHandle" ∧ y.cls ≠ "java/lang/invoke/VarHandle") {C : String} (E : Exa Z h a C) (wz : (Cond.initialized y.cls).before a0 Z = true) (hM : Ct md l Z EL sf y bytes maxL ret rm as' h Q) (hsf : ∀ x ∈ sf, x < h.size ∧ Safe Z EL vm h x) (hf : rm.frames + 1 ≤ R.frames) (hl : W + (maxL + 11) + rm.locals ≤ R.locals) (hml : L.size = c.maxLocals) (argsL rest : List Value) (hlen : ∀ sig, parseMethodDescriptor y.desc = some sig → argsL.length = sig.parameters.length) (hst : K = argsL.reverse ++ .ref a :: rest) (has : (.ref a :: argsL).toArray = as') (hW : (rest.map fun v => v.category).sum ≤ W) (hd : decode c.code pc = .ok (.invokevirtual index, 3)) (hc : cells + rm.cells ≤ R.cells) (hs : slots + rm.slots ≤ R.slots) (p' : Nat) (hp : p' = pc + 3)
    (q : ∀ v vm' T' h', St md p l e R s m args below meth c own Z EL vm' T' h' (cells + rm.cells) (slots + rm.slots) → Q v h' → CHr Z EL vm h vm' h' → Goes p.tables e below P T' (mkF m p' L (v.toList ++ rest))) : Goes p.tables e below P T (mkF m pc L K) := by
  by_cases hmd : md = 0
  · subst hmd
    have hEL : EL = [] := by obtain ⟨_, _, -, -, -, -, -, -, -, -, -, h0, -⟩ := S; exact (h0 rfl).2
    subst hEL
    have hZ := S.warm
    exact St.callPN S hx w1 w6 w5 w7 w4 hy E (ctBack (s := s.setVm vm) hM hZ w4 wz hf hl) (fun v h' Lc r => ⟨r.2.1, r.2.2.1, chr_nil r.2.2.2⟩) hml argsL rest hlen hst has hW hd hc hs p' hp (fun v T' h' Lc S' r R' => q v vm T' h' S' r.1 R')
  · subst hp hst has
    obtain ⟨locs, k0, X, eT, hZ, hown, hS, hk, hC, hF, hO, h0, h2, a1, hE⟩ := S
    obtain ⟨cq, qa, qb⟩ := E.cell
    have hK := ctBackS (s := s) (R := R) (p := p) (e := e) (below := below) (args := args) (W := W) (len := 3) hmd hM hZ w4 wz hf hl hE.1 hC.1 h2 hsf
    obtain ⟨v, vm1, ⟨T', L', k', n'⟩, -, X', hS2, hgr, ⟨Lc, ⟨hq, r1, r2⟩, l', y', z', hR⟩, st⟩ := privateBackS X hx hown (mvT (s := s.setVm vm) hZ w1) (mvT (s := s.setVm vm) hZ w6) (mvT (s := s.setVm vm) hZ w5) (Cond.privateMethod_at (mvP (s := s.setVm vm) hZ w7 (args := #[]))) (mvT (s := s.setVm vm) hZ w4) hy hK (g := mkF m pc L (argsL.reverse ++ .ref a :: rest)) rfl hml (Steps.refl _) (a := a) (by rw [eT]; exact qa) qb (argsL := argsL) (rest := rest) hlen rfl (by show 2 * 0 + _ ≤ _; omega) hd (fun _ _ => ⟨rfl, eT, hc, hs⟩)
    dsimp only [Pt.U, Pt.locs, Pt.cells, Pt.slots] at X' l' y' z' st hq hS2 hgr hR
    subst l' y' z'
    obtain ⟨Y1, Y2, Y3, Y4⟩ := rebS hS (n1 := T.heap.size) (by rw [eT]; exact hk) X' hS2 hgr hZ hown
    exact (q v T'.vm T' T'.heap ⟨_, _, Y1, rfl, Y3, Y4, Y2, Nat.le_refl _, hC.trans hR, hF.app r1, r2, fun z => absurd z hmd, fun z => ⟨(h2 z).1.alikeC hS2.1.alike, (h2 z).2.alikeC hS2.1.alike⟩, a1, hE⟩ hq hR).to st
theorem St.callFN (S : St md p l e R s m args below meth c own Z EL vm T h cells slots) (hx : p.tables.exec = Jvm.exec) {index : Nat} {a : Addr} {C : String} {x : MethodName} {count : Nat} (w1 : (Cond.methodLink own index x).before a0 Z = true) (w2 : (Cond.declares x).before a0 Z = true) (w3 : (Cond.interfaceMethod x.cls x.cls x.name x.desc).before a0 Z = true) (w5 : (Cond.selects C x y).before a0 Z = true) (w6 : (Cond.instanceMethod y).before a0 Z = true) (w7 : (Cond.publicMethod y).before a0 Z = true) (w8 : (Cond.unhidden C x.name x.desc).before a0 Z = true) (w9 : (Cond.castable C x.cls).before a0 Z = true) (hy : x.cls ≠ "java/lang/invoke/MethodHandle" ∧ x.cls ≠ "java/lang/invoke/VarHandle") (E : Exa Z h a C) {k n : Nat} {QN : Option Value → Heap → List Loc → Prop} (hK : Back l R p e below (s.setVm vm) args y 5 W (PreN R as' h k n) (PostN QN k n)) (hQ : ∀ v h' Lc, QN v h' Lc → Fr Z.heap.size Lc ∧ Old Z Z.heap.size h' ∧ CHr Z EL vm h vm h') (hml : L.size = c.maxLocals) (argsL rest : List Value) (hlen : ∀ sig, parseMethodDescriptor x.desc = some sig → argsL.length = sig.parameters.length) (hst : K = argsL.reverse ++ .ref a :: rest) (has : (.ref a :: argsL).toArray = as') (hW : (rest.map fun v => v.category).sum ≤ W) (hd : decode c.code pc = .ok (.invokeinterface index count, 5)) (hc : cells + k ≤ R.cells) (hs : slots + n ≤ R.slots) (p' : Nat) (hp : p' = pc + 5)
    (q : ∀ v T' h' Lc, St md p l e R s m args below meth c own Z EL vm T' h' (cells + k) (slots + n) → QN v h' Lc → CHr Z EL vm h vm h' → Goes p.tables e below P T' (mkF m p' L (v.toList ++ rest))) : Goes p.tables e below P T (mkF m pc L K) := by
  subst hp hst has
  obtain ⟨locs, k0, X, eT, hZ, hown, hS, hk, hC, hF, hO, h0, h2, hE⟩ := S
  obtain ⟨cq, kq, qa, qb, qc⟩ := isOf (s := s.setVm vm) hZ eT E
  obtain ⟨v, vm1, ⟨T', L', k', n'⟩, -, X', ⟨Lc, hq, l', y', z'⟩, st⟩ := X.interfaceBack hx hown (mvT (s := s.setVm vm) hZ w1) (mvT (s := s.setVm vm) hZ w2) (mvT (s := s.setVm vm) hZ w3 (by simp [Cond.onTables, Cond.keepsFace, Cond.keeps, Cond.steady, Cond.faceAtom]; exact hy)) (mvT (s := s.setVm vm) hZ w5) (mvT (s := s.setVm vm) hZ w6) (mvT (s := s.setVm vm) hZ w7) (mvT (s := s.setVm vm) hZ w8) (mvT (s := s.setVm vm) hZ w9) hy hK qa qb qc (g := mkF m pc L (argsL.reverse ++ .ref a :: rest)) rfl hml (Steps.refl _) (argsL := argsL) (rest := rest) hlen rfl (by show 2 * 0 + _ ≤ _; omega) hd (fun _ _ => ⟨rfl, eT, hc, hs⟩)
  dsimp only [Pt.U, Pt.locs, Pt.cells, Pt.slots] at X' l' y' z' st hq
  subst l' y' z'
  obtain ⟨r1, r2, r3⟩ := hQ v _ Lc hq
  exact (q v T' T'.heap Lc ⟨_, k0, X', rfl, hZ, hown, hS, Nat.le_trans hk r3.2.1, hC.trans r3, hF.app r1, r2, h0, h2, hE⟩ hq r3).to st
theorem St.callF {sf : List Addr} (S : St md p l e R s m args below meth c own Z EL vm T h cells slots) (hx : p.tables.exec = Jvm.exec) {index : Nat} {a : Addr} {C : String} {x : MethodName} {count : Nat} (w1 : (Cond.methodLink own index x).before a0 Z = true) (w2 : (Cond.declares x).before a0 Z = true) (w3 : (Cond.interfaceMethod x.cls x.cls x.name x.desc).before a0 Z = true) (w5 : (Cond.selects C x y).before a0 Z = true) (w6 : (Cond.instanceMethod y).before a0 Z = true) (w7 : (Cond.publicMethod y).before a0 Z = true) (w8 : (Cond.unhidden C x.name x.desc).before a0 Z = true) (w9 : (Cond.castable C x.cls).before a0 Z = true) (hy : x.cls ≠ "java/lang/invoke/MethodHandle" ∧ x.cls ≠ "java/lang/invoke/VarHandle") (E : Exa Z h a C) (wc : (Cond.code y bytes maxL ret).before a0 Z = true) (wz : (Cond.initialized y.cls).before a0 Z = true) (hM : Ct md l Z EL sf y bytes maxL ret rm as' h Q) (hsf : ∀ x ∈ sf, x < h.size ∧ Safe Z EL vm h x) (hf : rm.frames + 1 ≤ R.frames) (hl : W + (maxL + 11) + rm.locals ≤ R.locals) (hml : L.size = c.maxLocals) (argsL rest : List Value) (hlen : ∀ sig, parseMethodDescriptor x.desc = some sig → argsL.length = sig.parameters.length) (hst : K = argsL.reverse ++ .ref a :: rest) (has : (.ref a :: argsL).toArray = as') (hW : (rest.map fun v => v.category).sum ≤ W) (hd : decode c.code pc = .ok (.invokeinterface index count, 5)) (hc : cells + rm.cells ≤ R.cells) (hs : slots + rm.slots ≤ R.slots) (p' : Nat) (hp : p' = pc + 5)
    (q : ∀ v vm' T' h', St md p l e R s m args below meth c own Z EL vm' T' h' (cells + rm.cells) (slots + rm.slots) → Q v h' → CHr Z EL vm h vm' h' → Goes p.tables e below P T' (mkF m p' L (v.toList ++ rest))) : Goes p.tables e below P T (mkF m pc L K) := by
  by_cases hmd : md = 0
  · subst hmd
    have hEL : EL = [] := by obtain ⟨_, _, -, -, -, -, -, -, -, -, -, h0, -⟩ := S; exact (h0 rfl).2
    subst hEL
    have hZ := S.warm
    exact St.callFN S hx w1 w2 w3 w5 w6 w7 w8 w9 hy E (ctBack (s := s.setVm vm) hM hZ wc wz hf hl) (fun v h' Lc r => ⟨r.2.1, r.2.2.1, chr_nil r.2.2.2⟩) hml argsL rest hlen hst has hW hd hc hs p' hp (fun v T' h' Lc S' r R' => q v vm T' h' S' r.1 R')
  · subst hp hst has
    obtain ⟨locs, k0, X, eT, hZ, hown, hS, hk, hC, hF, hO, h0, h2, a1, hE⟩ := S
    obtain ⟨cq, kq, qa, qb, qc⟩ := isOf (s := s.setVm vm) hZ eT E
    have hK := ctBackS (s := s) (R := R) (p := p) (e := e) (below := below) (args := args) (W := W) (len := 5) hmd hM hZ wc wz hf hl hE.1 hC.1 h2 hsf
    obtain ⟨v, vm1, ⟨T', L', k', n'⟩, -, X', hS2, hgr, ⟨Lc, ⟨hq, r1, r2⟩, l', y', z', hR⟩, st⟩ := X.interfaceBackS hx hown (mvT (s := s.setVm vm) hZ w1) (mvT (s := s.setVm vm) hZ w2) (mvT (s := s.setVm vm) hZ w3 (by simp [Cond.onTables, Cond.keepsFace, Cond.keeps, Cond.steady, Cond.faceAtom]; exact hy)) (mvT (s := s.setVm vm) hZ w5) (mvT (s := s.setVm vm) hZ w6) (mvT (s := s.setVm vm) hZ w7) (mvT (s := s.setVm vm) hZ w8) (mvT (s := s.setVm vm) hZ w9) hy hK qa qb qc (g := mkF m pc L (argsL.reverse ++ .ref a :: rest)) rfl hml (Steps.refl _) (argsL := argsL) (rest := rest) hlen rfl (by show 2 * 0 + _ ≤ _; omega) hd (fun _ _ => ⟨rfl, eT, hc, hs⟩)
    dsimp only [Pt.U, Pt.locs, Pt.cells, Pt.slots] at X' l' y' z' st hq hS2 hgr hR
    subst l' y' z'
    obtain ⟨Y1, Y2, Y3, Y4⟩ := rebS hS (n1 := T.heap.size) (by rw [eT]; exact hk) X' hS2 hgr hZ hown
    exact (q v T'.vm T' T'.heap ⟨_, _, Y1, rfl, Y3, Y4, Y2, Nat.le_refl _, hC.trans hR, hF.app r1, r2, fun z => absurd z hmd, fun z => ⟨(h2 z).1.alikeC hS2.1.alike, (h2 z).2.alikeC hS2.1.alike⟩, a1, hE⟩ hq hR).to st
/-- a String constant, whatever it says -/
theorem St.ldcO (S : St md p l e R s m args below meth c own Z EL vm T h cells slots) (hx : p.tables.exec = Jvm.exec) (hmd : md ≠ 0) {index : Nat} {text : String} (w : (Cond.stringLink own index text).before a0 Z = true) (wS : ∀ a ∈ Bundle.stringAtoms, a.before a0 Z = true) (hd : decode c.code pc = .ok (.ldc index, 2)) {n : Nat} (hn : 4 * text.toList.length ≤ n) (hbig : n ≤ 536870912) (hc : cells + 2 ≤ R.cells) (hl : slots + (n + 4) ≤ R.slots) (p' : Nat) (hp : p' = pc + 2)
    (q : ∀ vm' T' h' a, St md p l e R s m args below meth c own Z EL vm' T' h' (cells + 2) (slots + (n + 4)) → Ext h h' → CHr Z EL vm h vm' h' → Goes p.tables e below P T' (mkF m p' L (.ref a :: K))) : Goes p.tables e below P T (mkF m pc L K) := by
  subst hp
  obtain ⟨locs, k0, X, eT, hZ, hown, hS, hk, hC, hF, hO, h0, h2, a1, hE⟩ := S
  obtain ⟨a, T', h', k1, X', e', E', hS', hk', hZ', hown', hR, -, st⟩ := ldcOH X hx hZ hown w wS eT hS hk hE.1 hC.1 (g := mkF m pc L K) rfl hd hn hbig hc hl
  have hal : vm.Alike T'.vm := hZ.alike.symm.trans hZ'.alike
  exact (q T'.vm T' h' a ⟨locs, k1, X', e', hZ', hown', hS', hk', hC.trans hR, hF, hO.ext E', fun z => absurd z hmd, fun z => ⟨(h2 z).1.alikeC hal, (h2 z).2.alikeC hal⟩, a1, hE⟩ E' hR).via st
/-- a String constant of the list, read -/
theorem St.ldcC (S : St md p l e R s m args below meth c own Z EL vm T h cells slots) (hx : p.tables.exec = Jvm.exec) (hmd : md ≠ 0) {index : Nat} {text : String} (w : (Cond.stringLink own index text).before a0 Z = true) (wS : ∀ a ∈ Bundle.stringAtoms, a.before a0 Z = true) (hmem : (own, index) ∈ EL) {vs : List Value} {z : Int32} (ht : (∀ c ∈ text.toList, c.toNat < 256) ∧ text.toList.map (fun c => Value.int (Jvm.Lit.byteI c.toNat.toUInt16)) = vs) (hz : ¬ z < 0) (hzl : z.toNatClampNeg = vs.length)
    (hd : decode c.code pc = .ok (.ldc index, 2)) {n : Nat} (hn : 4 * text.toList.length ≤ n) (hbig : n ≤ 536870912) (hc : cells + 2 ≤ R.cells) (hl : slots + (n + 4) ≤ R.slots) (p' : Nat) (hp : p' = pc + 2)
    (q : ∀ vm' T' h' a b k, St md p l e R s m args below meth c own Z EL vm' T' h' (cells + 2) (slots + (n + 4)) → Ext h h' → CHr Z EL vm h vm' h' → Exa Z h' a "java/lang/String" → Fld Z h' a "java/lang/String" "coder" "B" (.int 0) → Fld Z h' a "java/lang/String" "value" "[B" (.ref b) → Arv Z h' b k .byte z vs (.int 0) → (∀ x, Safe Z EL vm' h' x → x ≠ a ∧ x ≠ b) → Goes p.tables e below P T' (mkF m p' L (.ref a :: K))) : Goes p.tables e below P T (mkF m pc L K) := by
  subst hp
  obtain ⟨locs, k0, X, eT, hZ, hown, hS, hk, hC, hF, hO, h0, h2, a1, hE⟩ := S
  obtain ⟨a, T', h', k1, b, k, X', e', E', hS', hk', hZ', hown', q1, q2, q3, q4, -, -, hR, -, hne, st⟩ := ldcCH X hx hZ hown w wS eT hS hk hE.1 hmem hC.1 ht hz hzl (g := mkF m pc L K) rfl hd hn hbig hc hl
  have hal : vm.Alike T'.vm := hZ.alike.symm.trans hZ'.alike
  exact (q T'.vm T' h' a b k ⟨locs, k1, X', e', hZ', hown', hS', hk', hC.trans hR, hF, hO.ext E', fun z => absurd z hmd, fun z => ⟨(h2 z).1.alikeC hal, (h2 z).2.alikeC hal⟩, a1, hE⟩ E' hR q1 q2 q3 q4 hne).via st
/-- the end of a body -/
theorem St.leave' (S : St md p l e R s m args below meth c own Z EL vm T h cells slots) (hlk : meth.locks = false) {v : Option Value} (hv : meth.sig.returnType = none → v = none) (hq : Q v h) (hc : cells ≤ R.cells) (hs : slots ≤ R.slots) {F : JFrame}
    (step : ∀ (locs : List Loc) (fs : List Frame), Stand p l e R (s.setVm vm) m args below meth c T locs cells slots → (∀ (f : JFrame) (acts : List Action), f.method = m → f.locked = none → f.entered = [] → (doReturn e (T.setTop f) acts v).1 = T.setFrames fs) → Steps p.tables e below (T.setTop F) (T.setFrames fs)) :
    Goes p.tables e below (Pof md Z EL s R Q) T F := by
  obtain ⟨locs, k0, X, eT, hZ, hown, hS, hk, hC, hF, hO, h0, h2, a1, hE⟩ := S
  have hR := CHv.at X hZ hE.1 hC.1
  by_cases hmd : md = 0
  · obtain ⟨rfl, rfl⟩ := h0 hmd
    obtain ⟨fs, hr, hrun, hended, hW, hsame⟩ := X.leave hv
    exact ⟨_, _, step locs fs X hr, hrun, hended, v, locs, rfl, ⟨by show Q v T.heap; rw [eT]; exact hq, hF, by show Old Z _ T.heap; rw [eT]; exact hO⟩, by show CHr Z _ _ _ T.vm T.heap; rw [eT]; exact hC.trans hR, fun _ => ⟨⟨_, rfl⟩, hW, hsame.mono hc hs⟩, fun q => absurd hmd q⟩
  · obtain ⟨fs, hr, hrun, hended, r1, r2, r3, r4⟩ := leaveW X hS (by rw [eT]; exact hk) hv hlk
    exact ⟨_, _, step locs fs X hr, hrun, hended, v, locs, rfl, ⟨by show Q v T.heap; rw [eT]; exact hq, hF, by show Old Z _ T.heap; rw [eT]; exact hO⟩, by show CHr Z _ _ _ T.vm T.heap; rw [eT]; exact hC.trans hR, fun q => absurd q hmd, fun _ => ⟨r1, r2, r3, r4.mono hc hs⟩⟩
theorem St.iret (S : St md p l e R s m args below meth c own Z EL vm T h cells slots) (hx : p.tables.exec = Jvm.exec) (hlk : meth.locks = false) {t : FieldType} {z : Int32} (hret : meth.sig.returnType = some t) (ht : t = .int ∨ t = .boolean ∨ t = .byte ∨ t = .char ∨ t = .short) (hn : narrow t (.int z) = .int z) (hd : decode c.code pc = .ok (.ireturn, 1)) (hq : Q (some (.int z)) h) (hc : cells ≤ R.cells) (hs : slots ≤ R.slots) : Goes p.tables e below (Pof md Z EL s R Q) T (mkF m pc L (.int z :: K)) :=
  S.leave' hlk (fun q => by rw [hret] at q; cases q) hq hc hs fun locs fs X hr => retOut X hx hret hn (Or.inl ⟨rfl, ht, z, rfl⟩) hd hr
theorem St.lret (S : St md p l e R s m args below meth c own Z EL vm T h cells slots) (hx : p.tables.exec = Jvm.exec) (hlk : meth.locks = false) {z : Int64} (hret : meth.sig.returnType = some .long) (hd : decode c.code pc = .ok (.lreturn, 1)) (hq : Q (some (.long z)) h) (hc : cells ≤ R.cells) (hs : slots ≤ R.slots) : Goes p.tables e below (Pof md Z EL s R Q) T (mkF m pc L (.long z :: K)) :=
  S.leave' hlk (fun q => by rw [hret] at q; cases q) hq hc hs fun locs fs X hr => retOut X hx hret rfl (Or.inr (Or.inl ⟨rfl, rfl, z, rfl⟩)) hd hr
theorem St.aret (S : St md p l e R s m args below meth c own Z EL vm T h cells slots) (hx : p.tables.exec = Jvm.exec) (hlk : meth.locks = false) {t : FieldType} {v : Value} (hret : meth.sig.returnType = some t) (ht : t.isReference = true) (hv : v.isRef = true) (hn : narrow t v = v) (hd : decode c.code pc = .ok (.areturn, 1)) (hq : Q (some v) h) (hc : cells ≤ R.cells) (hs : slots ≤ R.slots) : Goes p.tables e below (Pof md Z EL s R Q) T (mkF m pc L (v :: K)) :=
  S.leave' hlk (fun q => by rw [hret] at q; cases q) hq hc hs fun locs fs X hr => retOut X hx hret hn (Or.inr (Or.inr (Or.inr (Or.inr ⟨rfl, ht, hv⟩)))) hd hr
theorem St.vret (S : St md p l e R s m args below meth c own Z EL vm T h cells slots) (hx : p.tables.exec = Jvm.exec) (hlk : meth.locks = false) (hret : meth.sig.returnType = none) (hd : decode c.code pc = .ok (.return_, 1)) (hq : Q none h) (hc : cells ≤ R.cells) (hs : slots ≤ R.slots) : Goes p.tables e below (Pof md Z EL s R Q) T (mkF m pc L []) :=
  S.leave' hlk (fun _ => rfl) hq hc hs fun locs fs X hr => X.returnOut hx hret hd hr
end C

/-! part E: more steps -/
section E
variable {md : Nat} {p : Program} {l : Launch} {e : Env} {R : Room} {s : State} {m : MethodId} {args : Array Value} {below : List Frame} {meth : Method} {c : Code} {own : String} {Z : State} {EL : List (String × Nat)} {vm : Vm} {T : State} {h : Heap} {cells slots : Nat} {P : Outcome → State → Prop} {pc : Nat} {L : Array Slot} {K : List Value} {a0 : Array Value}
theorem St.initO (S : St md p l e R s m args below meth c own Z EL vm T h cells slots) (hx : p.tables.exec = Jvm.exec) {index : Nat} (w1 : (Cond.methodLink own index Lib.objectInit).before a0 Z = true) (w2 : (Cond.instanceMethod Lib.objectInit).before a0 Z = true) (w3 : (Cond.code Lib.objectInit ⟨#[0xb1]⟩ 1 none).before a0 Z = true) (hml : L.size = c.maxLocals) {a : Addr} {W : Nat} (hf : 1 ≤ R.frames) (hW : (K.map fun v => v.category).sum ≤ W) (hl : W + 12 ≤ R.locals) (hd : decode c.code pc = .ok (.invokespecial index, 3)) (p' : Nat) (hp : p' = pc + 3)
    (q : ∀ T', St md p l e R s m args below meth c own Z EL vm T' h cells slots → Goes p.tables e below P T' (mkF m p' L K)) : Goes p.tables e below P T (mkF m pc L (.ref a :: K)) := by
  subst hp
  obtain ⟨locs, k, X, eT, hZ, hown, r⟩ := S
  obtain ⟨T', X', e', st⟩ := RoadKit.initO X hx hZ hown w1 w2 w3 eT (g := mkF m pc L (.ref a :: K)) rfl hml rfl hd hf (W := W) (by show 2 * 0 + _ ≤ _; omega) hl
  exact (q T' ⟨locs, k, X', e', hZ, hown, r⟩).via st
theorem St.instNull (S : St md p l e R s m args below meth c own Z EL vm T h cells slots) (hx : p.tables.exec = Jvm.exec) {index : Nat} (hd : decode c.code pc = .ok (.instanceof index, 3)) (p' : Nat) (hp : p' = pc + 3)
    (q : Goes p.tables e below P T (mkF m p' L (.int 0 :: K))) : Goes p.tables e below P T (mkF m pc L (.null :: K)) := by
  subst hp
  obtain ⟨locs, k, X, eT, hZ, hown, r⟩ := S
  exact q.via fun t k => X.instanceofNull hx (g := mkF m pc L (.null :: K)) rfl rfl hd t k
theorem St.acmp (S : St md p l e R s m args below meth c own Z EL vm T h cells slots) (hx : p.tables.exec = Jvm.exec) {cd : ACond} {x y : Value} {o : Int} (hd : decode c.code pc = .ok (.if_acmp cd o, 3)) (h1 : x.isRef = true) (h2 : y.isRef = true) (same : Bool) (hq : decide (x = y) = same) (ho : 0 ≤ (pc : Int) + o) (p' : Nat) (hp : p' = if acV cd same = true then ((pc : Int) + o).toNat else pc + 3)
    (q : Goes p.tables e below P T (mkF m p' L K)) : Goes p.tables e below P T (mkF m pc L (y :: x :: K)) := by
  obtain ⟨locs, k, X, eT, hZ, hown, r⟩ := S
  exact q.via fun t k => RoadKit.acmp X hx (g := mkF m pc L (y :: x :: K)) rfl h1 h2 rfl hd rfl hq ho hp k
theorem Arv.at' {a : Addr} {k : ClassId} {ty : FieldType} {z j : Int32} {vs : List Value} {dv v : Value} (A : Arv Z h a k ty z vs dv) (hj : ¬ j < 0 ∧ j < z) (hv : vs.getD j.toNatClampNeg dv = v) : ∃ cl : Cell, Arr Z h a cl ty ∧ ¬ (j < 0 ∨ cl.slots.size ≤ j.toNatClampNeg) ∧ cl.slots[j.toNatClampNeg]? = some v := by
  obtain ⟨cl, A1, A2, A3, A4, A5, A6⟩ := A
  exact ⟨cl, A1, inb_of A3 hj, A5.at (inb_of A3 hj) hv⟩
theorem St.aald (S : St md p l e R s m args below meth c own Z EL vm T h cells slots) (hx : p.tables.exec = Jvm.exec) {a : Addr} {k : ClassId} {ty : FieldType} {z j : Int32} {vs : List Value} {dv v : Value} (A : Arv Z h a k ty z vs dv) (hty : ty.isReference = true) (hj : ¬ j < 0 ∧ j < z) (hv : vs.getD j.toNatClampNeg dv = v) (hd : decode c.code pc = .ok (.aaload, 1)) (p' : Nat) (hp : p' = pc + 1)
    (q : Goes p.tables e below P T (mkF m p' L (v :: K))) : Goes p.tables e below P T (mkF m pc L (.int j :: .ref a :: K)) := by
  subst hp
  obtain ⟨locs, kk, X, eT, hZ, hown, r⟩ := S
  obtain ⟨cl, A1, A2, A3⟩ := Arv.at' A hj hv
  exact q.via fun t k => X.aaload hx (j := j) (v := v) (by rw [eT]; exact A1.1) (State.isArrayOf_alike (T := s.setVm vm) hZ.alike A1.2.1) hty A1.2.2 A2 A3 (g := mkF m pc L (.int j :: .ref a :: K)) rfl rfl hd t k
theorem St.cald (S : St md p l e R s m args below meth c own Z EL vm T h cells slots) (hx : p.tables.exec = Jvm.exec) {a : Addr} {k : ClassId} {z j : Int32} {vs : List Value} {dv v : Value} (A : Arv Z h a k .char z vs dv) (hj : ¬ j < 0 ∧ j < z) (hv : vs.getD j.toNatClampNeg dv = v) (hd : decode c.code pc = .ok (.caload, 1)) (p' : Nat) (hp : p' = pc + 1)
    (q : Goes p.tables e below P T (mkF m p' L (v :: K))) : Goes p.tables e below P T (mkF m pc L (.int j :: .ref a :: K)) := by
  subst hp
  obtain ⟨locs, kk, X, eT, hZ, hown, r⟩ := S
  obtain ⟨cl, A1, A2, A3⟩ := Arv.at' A hj hv
  exact q.via fun t k => X.caload hx (j := j) (v := v) (by rw [eT]; exact A1.1) (State.isArrayOf_alike (T := s.setVm vm) hZ.alike A1.2.1) A1.2.2 A2 A3 (g := mkF m pc L (.int j :: .ref a :: K)) rfl rfl hd t k
theorem St.bald (S : St md p l e R s m args below meth c own Z EL vm T h cells slots) (hx : p.tables.exec = Jvm.exec) {a : Addr} {k : ClassId} {z j : Int32} {vs : List Value} {dv v : Value} (A : Arv Z h a k .byte z vs dv) (hj : ¬ j < 0 ∧ j < z) (hv : vs.getD j.toNatClampNeg dv = v) (hd : decode c.code pc = .ok (.baload, 1)) (p' : Nat) (hp : p' = pc + 1)
    (q : Goes p.tables e below P T (mkF m p' L (v :: K))) : Goes p.tables e below P T (mkF m pc L (.int j :: .ref a :: K)) := by
  subst hp
  obtain ⟨locs, kk, X, eT, hZ, hown, r⟩ := S
  obtain ⟨cl, A1, A2, A3⟩ := Arv.at' A hj hv
  exact q.via fun t k => X.baloadBytes hx (j := j) (v := v) (by rw [eT]; exact A1.1) (State.isArrayOf_alike (T := s.setVm vm) hZ.alike A1.2.1) A1.2.2 A2 A3 (g := mkF m pc L (.int j :: .ref a :: K)) rfl rfl hd t k
theorem St.clone (S : St md p l e R s m args below meth c own Z EL vm T h cells slots) (hx : p.tables.exec = Jvm.exec) {ad : String} {index : Nat} (w1 : (Cond.methodLink own index ⟨ad, "clone", "()Ljava/lang/Object;"⟩).before a0 Z = true) (w2 : (Cond.sameMethod ad "java/lang/Object" "clone" "()Ljava/lang/Object;").before a0 Z = true) (w3 : (Cond.native ⟨"java/lang/Object", "clone", "()Ljava/lang/Object;"⟩).before a0 Z = true)
    (w4 : (Cond.instanceMethod ⟨"java/lang/Object", "clone", "()Ljava/lang/Object;"⟩).before a0 Z = true) (w5 : (Cond.selects ad ⟨ad, "clone", "()Ljava/lang/Object;"⟩ ⟨"java/lang/Object", "clone", "()Ljava/lang/Object;"⟩).before a0 Z = true) (w6 : (Cond.castable ad "java/lang/Cloneable").before a0 Z = true)
    {a : Addr} {k : ClassId} {ty : FieldType} {z : Int32} {vs : List Value} {dv : Value} (F : Arv Z h a k ty z vs dv) (E : Exa Z h a ad) (hml : L.size = c.maxLocals) {W cap : Nat} (hf : 1 ≤ R.frames) (hW : (K.map fun v => v.category).sum ≤ W) (hl : W + 14 ≤ R.locals) (hcap : z.toNatClampNeg ≤ cap) (hc : cells + 1 ≤ R.cells) (hsl : slots + cap ≤ R.slots) (hd : decode c.code pc = .ok (.invokevirtual index, 3)) (p' : Nat) (hp : p' = pc + 3)
    (q : ∀ T' h' b, St md p l e R s m args below meth c own Z EL vm T' h' (cells + 1) (slots + cap) → b = h.size → Ext h h' → Arv Z h' b k ty z vs dv → Exa Z h' b ad → Goes p.tables e below P T' (mkF m p' L (.ref b :: K))) : Goes p.tables e below P T (mkF m pc L (.ref a :: K)) := by
  subst hp
  obtain ⟨locs, k0, X, eT, hZ, hown, hS, hk, hC, hF, hO, h0, h2, hE⟩ := S
  obtain ⟨T', h', X', e', E', A', B', st⟩ := cloneH X hx hZ hown w1 w2 w3 w4 w5 w6 eT F.arh E (g := mkF m pc L (.ref a :: K)) rfl hml rfl hd hf (W := W) (by show 2 * 0 + _ ≤ _; omega) hl hcap hc hsl
  exact (q T' h' h.size ⟨locs, k0, X', e', hZ, hown, hS, Nat.le_trans hk E'.1, hC.trans (CHr.ext E' hC.1), hF, hO.ext E', h0, h2, hE⟩ rfl E' A' B').via st
/-- anewarray of a class -/
theorem St.newR (S : St md p l e R s m args below meth c own Z EL vm T h cells slots) (hx : p.tables.exec = Jvm.exec) {C : String} {index : Nat} (w1 : (Cond.classLink own index C).before a0 Z = true) (w2 : (Cond.arrayOver (.object C)).before a0 Z = true) {n : Int32} (hn : ¬ n < 0) {cap : Nat} (hcap : n.toNatClampNeg ≤ cap) (hb : cap * 8 ≤ 536870912) (hd : decode c.code pc = .ok (.anewarray index, 3)) (hc : cells + 1 ≤ R.cells) (hl : slots + cap ≤ R.slots) (p' : Nat) (hp : p' = pc + 3)
    (q : ∀ T' h' a k, St md p l e R s m args below meth c own Z EL vm T' h' (cells + 1) (slots + cap) → a = h.size → Ext h h' → Arv Z h' a k (.object C) n (List.replicate cap .null) .null → Ovr Z k C → CHr Z EL vm h vm h' → Goes p.tables e below P T' (mkF m p' L (.ref a :: K))) : Goes p.tables e below P T (mkF m pc L (.int n :: K)) := by
  subst hp
  obtain ⟨locs, k, X, eT, hZ, hown, hS, hk, hC, hF, hO, h0, h2, hE⟩ := S
  obtain ⟨T', h', cA, X', e', E', A', O', st⟩ := RoadKit.newR X hx hZ hown w1 w2 eT (g := mkF m pc L (.int n :: K)) rfl hd rfl hn hcap hb hc hl
  exact (q T' h' h.size cA ⟨locs, k, X', e', hZ, hown, hS, Nat.le_trans hk E'.1, hC.trans (CHr.ext E' hC.1), hF, hO.ext E', h0, h2, hE⟩ rfl E' ((Arv.new A' hn).pad (pad_rep [] _ cap)) O' (CHr.ext E' hC.1)).via st
/-- aastore -/
theorem St.stR (S : St md p l e R s m args below meth c own Z EL vm T h cells slots) (hx : p.tables.exec = Jvm.exec) {a : Addr} {k : ClassId} {ty : FieldType} {z j : Int32} {vs : List Value} {dv v : Value} (A : Arv Z h a k ty z vs dv) (hty : ty.isReference = true) (hf : fits ty v = true) (i : Nat) (hj : ¬ j < 0 ∧ j < z) (hi : j.toNatClampNeg = i) (hv : i < vs.length) (ga : Z.heap.size ≤ a) (F : Sto Z h a v) (sf : Safe Z EL vm h a) (hd : decode c.code pc = .ok (.aastore, 1)) (p' : Nat) (hp : p' = pc + 1)
    (q : ∀ T' h', St md p l e R s m args below meth c own Z EL vm T' h' cells slots → Wr h h' a i v → Arv Z h' a k ty z (vs.set i v) dv → CHr Z EL vm h vm h' → Goes p.tables e below P T' (mkF m p' L K)) : Goes p.tables e below P T (mkF m pc L (v :: .int j :: .ref a :: K)) := by
  subst hp
  obtain ⟨locs, kk, X, eT, hZ, hown, hS, hk, hC, hF, hO, h0, h2, hE⟩ := S
  obtain ⟨cl, A1, A2, A3, A4, A5, A6⟩ := A
  obtain ⟨T', h', X', e', W', st⟩ := RoadKit.stR X hx hZ eT A1 (j := j) (inb_of A3 hj) hty F (g := mkF m pc L (v :: .int j :: .ref a :: K)) rfl rfl hd
  have hR := CHr.wr W' sf hC.1
  exact (q T' h' ⟨_, kk, X', e', hZ, hown, hS, Nat.le_trans hk hR.2.1, hC.trans hR, Fr.snoc X' hF ga, hO.wr W' ga, h0, h2, hE⟩ (by rw [← hi]; exact W') (Arv.set A1 A2 A3 A4 A5 A6 hf W' i hi hv) hR).via st
/-- bastore into a byte[] -/
theorem St.stB (S : St md p l e R s m args below meth c own Z EL vm T h cells slots) (hx : p.tables.exec = Jvm.exec) {a : Addr} {k : ClassId} {z j x : Int32} {vs : List Value} {dv : Value} (A : Arv Z h a k .byte z vs dv) (i : Nat) (hj : ¬ j < 0 ∧ j < z) (hi : j.toNatClampNeg = i) (hv : i < vs.length) (ga : Z.heap.size ≤ a) (sf : Safe Z EL vm h a) (hd : decode c.code pc = .ok (.bastore, 1)) (p' : Nat) (hp : p' = pc + 1)
    (q : ∀ T' h', St md p l e R s m args below meth c own Z EL vm T' h' cells slots → Wr h h' a i (.int x.toInt8.toInt32) → Arv Z h' a k .byte z (vs.set i (.int x.toInt8.toInt32)) dv → CHr Z EL vm h vm h' → Goes p.tables e below P T' (mkF m p' L K)) : Goes p.tables e below P T (mkF m pc L (.int x :: .int j :: .ref a :: K)) := by
  subst hp
  obtain ⟨locs, kk, X, eT, hZ, hown, hS, hk, hC, hF, hO, h0, h2, hE⟩ := S
  obtain ⟨cl, A1, A2, A3, A4, A5, A6⟩ := A
  obtain ⟨T', h', X', e', W', st⟩ := RoadKit.stB X hx hZ eT A1 (j := j) (inb_of A3 hj) (g := mkF m pc L (.int x :: .int j :: .ref a :: K)) rfl rfl hd
  have hR := CHr.wr W' sf hC.1
  exact (q T' h' ⟨_, kk, X', e', hZ, hown, hS, Nat.le_trans hk hR.2.1, hC.trans hR, Fr.snoc X' hF ga, hO.wr W' ga, h0, h2, hE⟩ (by rw [← hi]; exact W') (Arv.set A1 A2 A3 A4 A5 A6 (fits_nar_byte x) W' i hi hv) hR).via st
/-- super(message) of a Throwable's subclass, the stack trace filled in -/
theorem St.exc1 (S : St 2 p l e R s m args below meth c own Z EL vm T h cells slots) (hx : p.tables.exec = Jvm.exec) (hl : l.stackTraces = true) {rc : String} {links : List Free.Exc.Link} {ic n : Nat} (hok : Free.Exc.linksOk 1 links = true) (w1 : (Cond.methodLink own ic (Free.Exc.ctor 1 (Free.Exc.headName links))).before a0 Z = true) (w2 : (Cond.instanceMethod (Free.Exc.ctor 1 (Free.Exc.headName links))).before a0 Z = true) (wT : (Free.Exc.chainTab 1 rc links).before a0 Z = true) (wi : (Cond.instantiable rc n).before a0 Z = true) (r : ∀ d ∈ twoRefs, d.before a0 Z = true)
    {a : Addr} (E : Exa Z h a rc) (N : Unt h a) (B : Fld Z h a "java/lang/Throwable" "backtrace" "Ljava/lang/Object;" .null) (B2 : Fld Z h a "java/lang/Throwable" "detailMessage" "Ljava/lang/String;" .null) {msg : Value} (hmsg : msg.isRef = true) (sf : Safe Z EL vm h a) (ga : Z.heap.size ≤ a) (hml : L.size = c.maxLocals) (hd : decode c.code pc = .ok (.invokespecial ic, 3))
    (hf : 4 + links.length ≤ R.frames) (hlo : (K.map fun v => v.category).sum + (56 + 14 * links.length) ≤ R.locals) (hc : cells + 1 ≤ R.cells) (hsl : slots + 2752 ≤ R.slots) (p' : Nat) (hp : p' = pc + 3)
    (q : ∀ T' h', St 2 p l e R s m args below meth c own Z EL vm T' h' (cells + 1) (slots + 2752) → Kp Z h h' a → Exa Z h' a rc → Fld Z h' a "java/lang/Throwable" "detailMessage" "Ljava/lang/String;" msg → CHr Z EL vm h vm h' → Goes p.tables e below P T' (mkF m p' L K)) : Goes p.tables e below P T (mkF m pc L (msg :: .ref a :: K)) := by
  subst hp
  obtain ⟨locs, k0, X, eT, hZ, hown, hS, hk, hC, hF, hO, h0, h2, a1, hE, hOs⟩ := S
  have hT0 : ThS Z (s.setVm vm).heap := ThS.start.ext hOs.2
  obtain ⟨T', h', X', e', K', E', -, M', -, -, st⟩ := excL1 X hx hl hZ hown hok w1 w2 wT wi r hT0 (ThS.start.ext hO.2) (h2 rfl).1 (h2 rfl).2 eT E N B B2 hmsg (g := mkF m pc L (msg :: .ref a :: K)) rfl hml rfl hd hf (by show 2 * 0 + _ + _ ≤ _; omega) hc hsl
  have hKe := keep_of_kp K'
  have hR : CHr Z EL vm h vm h' := CHr.keep hKe (fun x hx => by cases List.mem_singleton.mp hx; exact sf) hC.1
  exact (q T' h' ⟨_, k0, X', e', hZ, hown, hS, Nat.le_trans hk hR.2.1, hC.trans hR, Fr.six hF ga, hO.keep hKe (fun x hx => by cases List.mem_singleton.mp hx; exact ga), h0, h2, a1, hE, hOs⟩ K' E' M' hR).via st
theorem St.more (S : St md p l e R s m args below meth c own Z EL vm T h cells slots) {k n : Nat} (h1 : cells ≤ k) (h2 : slots ≤ n) : St md p l e R s m args below meth c own Z EL vm T h k n := by
  obtain ⟨locs, k0, X, r⟩ := S
  exact ⟨locs, k0, X.more h1 h2, r⟩
end E

end Jvm.Own

/- laws to paste: Road.backV, Road.chN, Road.eqW, Road.codOf (cut by pick.py; bodies as the Statement names them) -/
namespace Jvm.Pilot.@@N@@
namespace StrChars
open Jvm Sem ClassFile Op Lib Jvm.Stand Jvm.Free.XT Jvm.Free.ALB Jvm.Free.JM Jvm.Free
open Jvm.Lib.Cold (StaticIs)
/-- a char array whose places are chars -/
def Ch (a : Addr) (A : Cell) (U : State) : Prop := Arr .char a A U ∧ Typed .char A
theorem Ch.mv {a : Addr} {A : Cell} {U U' : State} (h : Ch a A U) (hal : U.vm.Alike U'.vm) (hh : U'.heap = U.heap) : Ch a A U' := ⟨h.1.mv hal hh, h.2⟩
theorem Ch.keep {a : Addr} {A : Cell} {U U' : State} (h : Ch a A U) (hal : U.vm.Alike U'.vm) (hk : U'.heap[a]? = some A) : Ch a A U' := ⟨h.1.keep hal hk, h.2⟩
/-- what place i of a char[]'s cell holds -/
def cv (A : Cell) (i : Nat) : Int32 := match A.slots[i]? with | some (.int x) => x | _ => 0
theorem Ch.get {a : Addr} {A : Cell} {U : State} (h : Ch a A U) {i : Nat} (hi : i < A.slots.size) : A.slots[i]? = some (.int (cv A i)) := by
  have e := Array.getElem?_eq_getElem hi
  have f := h.2 i _ e
  unfold cv; rw [e]
  generalize A.slots[i] = v at f
  cases v <;> simp [fits] at f ⊢
/-- the byte that i2b leaves of a char -/
def lo8 (x : Int32) : Int32 := x.toInt8.toInt32
theorem fits_lo8 (y : Int32) : fits .byte (.int (lo8 y)) = true := by
  have h1 := y.toInt8.le_toInt
  have h2 := y.toInt8.toInt_lt
  simp only [lo8, fits, Bool.and_eq_true, decide_eq_true_eq, Int32.le_iff_toInt_le, Int8.toInt_toInt32, show (-128 : Int32).toInt = -128 from by decide, show (127 : Int32).toInt = 127 from by decide]
  omega
/-- A' is A but that each place j of lo .. hi - 1 holds f j -/
def Laid (A A' : Cell) (lo hi : Nat) (f : Nat → Value) : Prop := A'.cls = A.cls ∧ A'.vm = A.vm ∧ A'.slots.size = A.slots.size ∧ ∀ i, A'.slots[i]? = if lo ≤ i ∧ i < hi then some (f i) else A.slots[i]?
theorem Laid.zero (A : Cell) (lo : Nat) (f : Nat → Value) : Laid A A lo (lo + 0) f := ⟨rfl, rfl, rfl, fun i => by rw [if_neg (by omega)]⟩
theorem Laid.step {A Ak : Cell} {lo k : Nat} {f : Nat → Value} {v : Value} (h : Laid A Ak lo k f) (hlo : lo ≤ k) (hk : k < Ak.slots.size) (hv : v = f k) : Laid A (Ak.setSlot k v) lo (k + 1) f := by
  refine ⟨h.1, h.2.1, by simpa [Cell.setSlot] using h.2.2.1, fun i => ?_⟩
  by_cases e : k = i
  · subst e; rw [Cell.slots_setSlot_self v hk, if_pos (by omega), hv]
  · rw [Cell.slots_setSlot_ne v e, h.2.2.2 i]
    by_cases q : lo ≤ i ∧ i < k
    · rw [if_pos q, if_pos (by omega)]
    · rw [if_neg q, if_neg (by omega)]
def U16 : String := "java/lang/StringUTF16"
namespace Cmp5
def yN : MethodName := ⟨"java/lang/StringUTF16", "compress", "([CI[BII)I"⟩
abbrev yB : ByteArray := jdk_52_method_21_code
theorem d0 : decode yB 0 = .ok (.iconst 0, 1) := by decide +kernel
theorem d1 : decode yB 1 = .ok (.istore 5, 2) := by decide +kernel
theorem d3 : decode yB 3 = .ok (.iload 5, 2) := by decide +kernel
theorem d5 : decode yB 5 = .ok (.iload 4, 2) := by decide +kernel
theorem d7 : decode yB 7 = .ok (.if_icmp (.ge) 37, 3) := by decide +kernel
theorem d10 : decode yB 10 = .ok (.aload_n 0, 1) := by decide +kernel
theorem d11 : decode yB 11 = .ok (.iload_n 1, 1) := by decide +kernel
theorem d12 : decode yB 12 = .ok (.caload, 1) := by decide +kernel
theorem d13 : decode yB 13 = .ok (.istore 6, 2) := by decide +kernel
theorem d15 : decode yB 15 = .ok (.iload 6, 2) := by decide +kernel
theorem d17 : decode yB 17 = .ok (.sipush 255, 3) := by decide +kernel
theorem d20 : decode yB 20 = .ok (.if_icmp (.le) 6, 3) := by decide +kernel
theorem d26 : decode yB 26 = .ok (.aload_n 2, 1) := by decide +kernel
theorem d27 : decode yB 27 = .ok (.iload_n 3, 1) := by decide +kernel
theorem d28 : decode yB 28 = .ok (.iload 6, 2) := by decide +kernel
theorem d30 : decode yB 30 = .ok (.i2b, 1) := by decide +kernel
theorem d31 : decode yB 31 = .ok (.bastore, 1) := by decide +kernel
theorem d32 : decode yB 32 = .ok (.iinc 1 1, 3) := by decide +kernel
theorem d35 : decode yB 35 = .ok (.iinc 3 1, 3) := by decide +kernel
theorem d38 : decode yB 38 = .ok (.iinc 5 1, 3) := by decide +kernel
theorem d41 : decode yB 41 = .ok (.goto (-38), 3) := by decide +kernel
theorem d44 : decode yB 44 = .ok (.iload 4, 2) := by decide +kernel
theorem d46 : decode yB 46 = .ok (.ireturn, 1) := by decide +kernel
def site : List Cond := []
def tab : Cond := tabOf yN yB 7 (some .int) site
def P (b : Addr) (A : Cell) (d : Addr) (B : Cell) (o q len : Nat) (args : Array Value) (s : State) : Prop := args = #[.ref b, .int (Int32.ofNat o), .ref d, .int (Int32.ofNat q), .int (Int32.ofNat len)] ∧ Ch b A s ∧ Arr .byte d B s ∧ b ≠ d ∧ o + len ≤ A.slots.size ∧ q + len ≤ B.slots.size ∧ ∀ i, i < len → ¬ 255 < cv A (o + i)
def E (b : Addr) (A : Cell) (d : Addr) (B : Cell) (o q len : Nat) (r : Option Value) (s u : State) : Prop := r = some (.int (Int32.ofNat len)) ∧ ∃ B', Put d B' s u ∧ Laid B B' q (q + len) (fun j => Value.int (lo8 (cv A (o + (j - q)))))
/-- no char of the range above 255: len; the places written hold each char's low byte -/
theorem law (l : Launch) (b : Addr) (A : Cell) (d : Addr) (B : Cell) (o q len : Nat) : Law l yN 5 5 0 0 yB 7 (some .int) site (P b A d B o q len) (E b A d B o q len) (copyLocs d q len) 0 0 := by
  refine Law.of_walk (plainFor_of_name (by decide +kernel)) (by decide +kernel) (by decide +kernel) (by decide) (fun _ _ h => by rw [h.1]; rfl) (fun _ U U' hal hh h => ⟨h.1, h.2.1.mv hal hh, h.2.2.1.mv hal hh, h.2.2.2⟩) (fun r U U' V V' h1 hal h2 h => ⟨h.1, h.2.elim fun B' q => ⟨B', q.1.mv h1 h2, q.2⟩⟩) ?_
  intro p e s m args below meth c s₁ X0 hexec hbytes hml hret hlk hnm hown hh0 W hP
  obtain ⟨rfl, hA, hB, hne, l1, l2, hp⟩ := hP
  have c1 : Steps p.tables e below (s₁.setTop (entryFrame m #[.ref b, .int (Int32.ofNat o), .ref d, .int (Int32.ofNat q), .int (Int32.ofNat len)] 7)) (s₁.setTop (mkF m 0 #[.val (.ref b), .val (.int (Int32.ofNat o)), .val (.ref d), .val (.int (Int32.ofNat q)), .val (.int (Int32.ofNat len)), .unset, .unset] [])) := entry rfl
  have hA0 := hA.1.mv X0.warmed.alike hh0
  have hB0 := hB.mv X0.warmed.alike hh0
  have a31 := hA.1.2.2.2
  have c2 : Steps p.tables e below (s₁.setTop (entryFrame m #[.ref b, .int (Int32.ofNat o), .ref d, .int (Int32.ofNat q), .int (Int32.ofNat len)] 7)) (s₁.setTop (mkF m 3 #[.val (.ref b), .val (.int (Int32.ofNat o)), .val (.ref d), .val (.int (Int32.ofNat q)), .val (.int (Int32.ofNat len)), .val (.int 0), .unset] [])) := c1.trans (by
    refine iconstV X0.here hexec rfl 0 (hb hbytes d0) (by decide) ?_
    refine XS.istore X0.here hexec rfl (hb hbytes d1) rfl rfl ?_
    exact Steps.refl _)
  have loop : ∀ (r i : Nat), i + r = len → ∀ (z : Slot), (z = .unset ∨ ∃ w, z = .val w ∧ w.category = 1) → ∀ (Tl : State) (Bk : Cell), Stand p l e { frames := 0, locals := 0, cells := 0, slots := 0 } s m #[.ref b, .int (Int32.ofNat o), .ref d, .int (Int32.ofNat q), .int (Int32.ofNat len)] below meth c Tl ([] ++ copyLocs d q i) 0 0 → Put d Bk s₁ Tl → Laid B Bk q (q + i) (fun j => Value.int (lo8 (cv A (o + (j - q))))) →
      Steps p.tables e below (s₁.setTop (entryFrame m #[.ref b, .int (Int32.ofNat o), .ref d, .int (Int32.ofNat q), .int (Int32.ofNat len)] 7)) (Tl.setTop (mkF m 3 #[.val (.ref b), .val (.int (Int32.ofNat (o + i))), .val (.ref d), .val (.int (Int32.ofNat (q + i))), .val (.int (Int32.ofNat len)), .val (.int (Int32.ofNat i)), z] [])) → ∃ (T' : State) (B' : Cell) (z' : Slot), Stand p l e { frames := 0, locals := 0, cells := 0, slots := 0 } s m #[.ref b, .int (Int32.ofNat o), .ref d, .int (Int32.ofNat q), .int (Int32.ofNat len)] below meth c T' ([] ++ copyLocs d q len) 0 0 ∧ Put d B' s₁ T' ∧ Laid B B' q (q + len) (fun j => Value.int (lo8 (cv A (o + (j - q))))) ∧
      Steps p.tables e below (s₁.setTop (entryFrame m #[.ref b, .int (Int32.ofNat o), .ref d, .int (Int32.ofNat q), .int (Int32.ofNat len)] 7)) (T'.setTop (mkF m 3 #[.val (.ref b), .val (.int (Int32.ofNat (o + len))), .val (.ref d), .val (.int (Int32.ofNat (q + len))), .val (.int (Int32.ofNat len)), .val (.int (Int32.ofNat len)), z'] [])) := by
    intro r
    induction r with
    | zero =>
      intro i hi z hz Tl Bk Xl pl fl cl
      have hil : i = len := by omega
      rw [hil] at Xl fl cl
      exact ⟨Tl, Bk, z, Xl, pl, fl, cl⟩
    | succ r ih =>
      intro i hi z hz Tl Bk Xl pl fl cl
      have all := X0.warmed.alike.symm.trans Xl.warmed.alike
      have hAl := hA0.keep all (pl.other hne hA0.1)
      have hBk := hB0.like all pl.1 fl.1 fl.2.1 fl.2.2.1
      have hlt : q + i < Bk.slots.size := by rw [fl.2.2.1]; omega
      have c3 : Steps p.tables e below (s₁.setTop (entryFrame m #[.ref b, .int (Int32.ofNat o), .ref d, .int (Int32.ofNat q), .int (Int32.ofNat len)] 7)) (Tl.setTop (mkF m 12 #[.val (.ref b), .val (.int (Int32.ofNat (o + i))), .val (.ref d), .val (.int (Int32.ofNat (q + i))), .val (.int (Int32.ofNat len)), .val (.int (Int32.ofNat i)), z] [.int (Int32.ofNat (o + i)), .ref b])) := cl.trans (by
        refine XS.iload Xl.here hexec rfl (hb hbytes d3) rfl ?_
        refine XS.iload Xl.here hexec rfl (hb hbytes d5) rfl ?_
        refine XS.icmpNo Xl.here hexec rfl (hb hbytes d7) rfl (ii_ge_f (lt32 (by omega) (by omega))) ?_
        refine XS.aloadN Xl.here hexec rfl (hb hbytes d10) rfl rfl ?_
        refine XS.iloadN Xl.here hexec rfl (hb hbytes d11) rfl ?_
        exact Steps.refl _)
      have c4 : Steps p.tables e below (s₁.setTop (entryFrame m #[.ref b, .int (Int32.ofNat o), .ref d, .int (Int32.ofNat q), .int (Int32.ofNat len)] 7)) (Tl.setTop (mkF m 13 #[.val (.ref b), .val (.int (Int32.ofNat (o + i))), .val (.ref d), .val (.int (Int32.ofNat (q + i))), .val (.int (Int32.ofNat len)), .val (.int (Int32.ofNat i)), z] [.int (cv A (o + i))])) := c3.trans (by
        refine Xl.aget hexec hAl rfl (hA.get (i := o + i) (by omega)) rfl rfl (hb hbytes d12) ?_
        exact Steps.refl _)
      have c5 : Steps p.tables e below (s₁.setTop (entryFrame m #[.ref b, .int (Int32.ofNat o), .ref d, .int (Int32.ofNat q), .int (Int32.ofNat len)] 7)) (Tl.setTop (mkF m 15 #[.val (.ref b), .val (.int (Int32.ofNat (o + i))), .val (.ref d), .val (.int (Int32.ofNat (q + i))), .val (.int (Int32.ofNat len)), .val (.int (Int32.ofNat i)), .val (.int (cv A (o + i)))] [])) := c4.trans (by
        refine XS.istoreS Xl.here hexec rfl (hb hbytes d13) rfl rfl hz ?_
        exact Steps.refl _)
      have c6 : Steps p.tables e below (s₁.setTop (entryFrame m #[.ref b, .int (Int32.ofNat o), .ref d, .int (Int32.ofNat q), .int (Int32.ofNat len)] 7)) (Tl.setTop (mkF m 31 #[.val (.ref b), .val (.int (Int32.ofNat (o + i))), .val (.ref d), .val (.int (Int32.ofNat (q + i))), .val (.int (Int32.ofNat len)), .val (.int (Int32.ofNat i)), .val (.int (cv A (o + i)))] [.int (lo8 (cv A (o + i))), .int (Int32.ofNat (q + i)), .ref d])) := c5.trans (by
        refine XS.iload Xl.here hexec rfl (hb hbytes d15) rfl ?_
        refine sipushV Xl.here hexec rfl 255 (hb hbytes d17) (by decide) ?_
        refine XS.icmpYes Xl.here hexec rfl (pc0 := 20) rfl (hb hbytes d20) rfl (ii_le_t (hp i (by omega))) (by decide) rfl ?_
        refine XS.aloadN Xl.here hexec rfl (hb hbytes d26) rfl rfl ?_
        refine XS.iloadN Xl.here hexec rfl (hb hbytes d27) rfl ?_
        refine XS.iload Xl.here hexec rfl (hb hbytes d28) rfl ?_
        refine i2b Xl.here hexec rfl (hb hbytes d30) rfl ?_
        exact Steps.refl _)
      obtain ⟨T7, X7, p7, st7⟩ := Xl.aput hexec hBk rfl hlt rfl (fits_lo8 (cv A (o + i))) (g := (mkF m 31 #[.val (.ref b), .val (.int (Int32.ofNat (o + i))), .val (.ref d), .val (.int (Int32.ofNat (q + i))), .val (.int (Int32.ofNat len)), .val (.int (Int32.ofNat i)), .val (.int (cv A (o + i)))] [.int (lo8 (cv A (o + i))), .int (Int32.ofNat (q + i)), .ref d])) rfl (rest := []) rfl (hb hbytes d31)
      have c8 : Steps p.tables e below (s₁.setTop (entryFrame m #[.ref b, .int (Int32.ofNat o), .ref d, .int (Int32.ofNat q), .int (Int32.ofNat len)] 7)) (T7.setTop (mkF m 32 #[.val (.ref b), .val (.int (Int32.ofNat (o + i))), .val (.ref d), .val (.int (Int32.ofNat (q + i))), .val (.int (Int32.ofNat len)), .val (.int (Int32.ofNat i)), .val (.int (cv A (o + i)))] [])) := c6.trans (st7 _ (Steps.refl _))
      have c9 : Steps p.tables e below (s₁.setTop (entryFrame m #[.ref b, .int (Int32.ofNat o), .ref d, .int (Int32.ofNat q), .int (Int32.ofNat len)] 7)) (T7.setTop (mkF m 3 #[.val (.ref b), .val (.int (Int32.ofNat (o + i) + 1)), .val (.ref d), .val (.int (Int32.ofNat (q + i) + 1)), .val (.int (Int32.ofNat len)), .val (.int (Int32.ofNat i + 1)), .val (.int (cv A (o + i)))] [])) := c8.trans (by
        refine iincV X7.here hexec rfl 1 (hb hbytes d32) (by decide) rfl rfl ?_
        refine iincV X7.here hexec rfl 1 (hb hbytes d35) (by decide) rfl rfl ?_
        refine iincV X7.here hexec rfl 1 (hb hbytes d38) (by decide) rfl rfl ?_
        refine XS.goto X7.here hexec rfl (pc0 := 41) rfl (hb hbytes d41) (by decide) rfl ?_
        exact Steps.refl _)
      have c10 : Steps p.tables e below (s₁.setTop (entryFrame m #[.ref b, .int (Int32.ofNat o), .ref d, .int (Int32.ofNat q), .int (Int32.ofNat len)] 7)) (T7.setTop (mkF m 3 #[.val (.ref b), .val (.int (Int32.ofNat (o + (i + 1)))), .val (.ref d), .val (.int (Int32.ofNat (q + (i + 1)))), .val (.int (Int32.ofNat len)), .val (.int (Int32.ofNat (i + 1))), .val (.int (cv A (o + i)))] [])) := by
        have := c9
        rw [succ32, succ32, succ32] at this
        exact this
      exact ih (i + 1) (by omega) _ (Or.inr ⟨_, rfl, rfl⟩) T7 _ (by rw [copyLocs_step, ← List.append_assoc]; exact X7) (pl.trans p7) (fl.step (by omega) hlt (by simp)) c10
  obtain ⟨T9, B9, z9, X9, p9, f9, g9⟩ := loop len 0 (by omega) .unset (Or.inl rfl) s₁ B (by simpa [copyLocs] using X0) ⟨hB0.1, fun _ _ => rfl, rfl⟩ (Laid.zero _ _ _) c2
  have c11 : Steps p.tables e below (s₁.setTop (entryFrame m #[.ref b, .int (Int32.ofNat o), .ref d, .int (Int32.ofNat q), .int (Int32.ofNat len)] 7)) (T9.setTop (mkF m 46 #[.val (.ref b), .val (.int (Int32.ofNat (o + len))), .val (.ref d), .val (.int (Int32.ofNat (q + len))), .val (.int (Int32.ofNat len)), .val (.int (Int32.ofNat len)), z9] [.int (Int32.ofNat len)])) := g9.trans (by
    refine XS.iload X9.here hexec rfl (hb hbytes d3) rfl ?_
    refine XS.iload X9.here hexec rfl (hb hbytes d5) rfl ?_
    refine XS.icmpYes X9.here hexec rfl (pc0 := 7) rfl (hb hbytes d7) rfl (ii_ge_t (nlt32 (by omega) (Nat.le_refl _))) (by decide) rfl ?_
    refine XS.iload X9.here hexec rfl (hb hbytes d44) rfl ?_
    exact Steps.refl _)
  exact ⟨T9, some (.int (Int32.ofNat len)), _, _, _, X9, by simp, rfl, rfl, (fun h => by cases h), ⟨rfl, B9, p9.from hh0, f9⟩, fun fs hl => c11.trans (X9.ireturnOut hexec hret rfl (Or.inl rfl) (hb hbytes d46) hl)⟩
end Cmp5
namespace Cmp3
def yN : MethodName := ⟨"java/lang/StringUTF16", "compress", "([CII)[B"⟩
abbrev yB : ByteArray := jdk_52_method_16_code
theorem d0 : decode yB 0 = .ok (.iload_n 2, 1) := by decide +kernel
theorem d1 : decode yB 1 = .ok (.newarray .byte, 2) := by decide +kernel
theorem d3 : decode yB 3 = .ok (.astore_n 3, 1) := by decide +kernel
theorem d4 : decode yB 4 = .ok (.aload_n 0, 1) := by decide +kernel
theorem d5 : decode yB 5 = .ok (.iload_n 1, 1) := by decide +kernel
theorem d6 : decode yB 6 = .ok (.aload_n 3, 1) := by decide +kernel
theorem d7 : decode yB 7 = .ok (.iconst 0, 1) := by decide +kernel
theorem d8 : decode yB 8 = .ok (.iload_n 2, 1) := by decide +kernel
theorem d9 : decode yB 9 = .ok (.invokestatic 115, 3) := by decide +kernel
theorem d12 : decode yB 12 = .ok (.istore 4, 2) := by decide +kernel
theorem d14 : decode yB 14 = .ok (.iload 4, 2) := by decide +kernel
theorem d16 : decode yB 16 = .ok (.iload_n 2, 1) := by decide +kernel
theorem d17 : decode yB 17 = .ok (.if_icmp (.eq) 40, 3) := by decide +kernel
theorem d57 : decode yB 57 = .ok (.aload_n 3, 1) := by decide +kernel
theorem d58 : decode yB 58 = .ok (.areturn, 1) := by decide +kernel
def site : List Cond := [.arrayClass .byte, Cmp5.tab] ++ staticW U16 115 Cmp5.yN
def tab : Cond := tabOf yN yB 6 (some (.array .byte)) site
def P (b : Addr) (A : Cell) (o len : Nat) (args : Array Value) (s : State) : Prop := args = #[.ref b, .int (Int32.ofNat o), .int (Int32.ofNat len)] ∧ Ch b A s ∧ o + len ≤ A.slots.size ∧ len ≤ 536870912 ∧ ∀ i, i < len → ¬ 255 < cv A (o + i)
def E (b : Addr) (A : Cell) (o len : Nat) (r : Option Value) (s u : State) : Prop := NewArr .byte "[B" len (fun j => .int (lo8 (cv A (o + j)))) r s u ∧ u.heap.size = s.heap.size + 1
/-- no char of the range above 255: a new byte[] of their low bytes -/
theorem law (l : Launch) (b : Addr) (A : Cell) (o len : Nat) : Law l yN 3 3 1 18 yB 6 (some (.array .byte)) site (P b A o len) (E b A o len) [] 1 len := by
  refine Law.of_walk (plainFor_of_name (by decide +kernel)) (by decide +kernel) (by decide +kernel) (by decide) (fun _ _ h => by rw [h.1]; rfl) (fun _ U U' hal hh h => ⟨h.1, h.2.1.mv hal hh, h.2.2⟩) (fun r U U' V V' h1 hal h2 h => ⟨NewArr.mv r U U' V V' h1 hal h2 h.1, by rw [h1, h2]; exact h.2⟩) ?_
  intro p e s m args below meth c s₁ X0 hexec hbytes hml hret hlk hnm hown hh0 W hP
  obtain ⟨rfl, hA, l1, l2, hp⟩ := hP
  have a31 := hA.1.2.2.2
  have c1 : Steps p.tables e below (s₁.setTop (entryFrame m #[.ref b, .int (Int32.ofNat o), .int (Int32.ofNat len)] 6)) (s₁.setTop (mkF m 0 #[.val (.ref b), .val (.int (Int32.ofNat o)), .val (.int (Int32.ofNat len)), .unset, .unset, .unset] [])) := entry rfl
  have c2 : Steps p.tables e below (s₁.setTop (entryFrame m #[.ref b, .int (Int32.ofNat o), .int (Int32.ofNat len)] 6)) (s₁.setTop (mkF m 1 #[.val (.ref b), .val (.int (Int32.ofNat o)), .val (.int (Int32.ofNat len)), .unset, .unset, .unset] [.int (Int32.ofNat len)])) := c1.trans (by
    refine XS.iloadN X0.here hexec rfl (hb hbytes d0) rfl ?_
    exact Steps.refl _)
  obtain ⟨T3, B3, X3, ba3, bs3, bv3, bh3, bf3, st3⟩ := X0.anew hexec (atype := .byte) (wk W (.arrayClass .byte)) rfl (by show len * 1 ≤ _; omega) (by omega) (g := (mkF m 1 #[.val (.ref b), .val (.int (Int32.ofNat o)), .val (.int (Int32.ofNat len)), .unset, .unset, .unset] [.int (Int32.ofNat len)])) rfl (hb hbytes d1) (rest := []) rfl (Nat.le_refl _) (by show 0 + len ≤ len; omega)
  rw [hh0] at ba3 st3
  have kp3 : XT.Kept s T3 := (XT.Kept.of_eq hh0).push bh3
  have hA3 := hA.keep X3.warmed.alike (kp3 _ _ hA.1.1)
  have hne : b ≠ s.heap.size := hA.1.ne
  have c4 : Steps p.tables e below (s₁.setTop (entryFrame m #[.ref b, .int (Int32.ofNat o), .int (Int32.ofNat len)] 6)) (T3.setTop (mkF m 3 #[.val (.ref b), .val (.int (Int32.ofNat o)), .val (.int (Int32.ofNat len)), .unset, .unset, .unset] [.ref s.heap.size])) := c2.trans (st3 _ (Steps.refl _))
  have c5 : Steps p.tables e below (s₁.setTop (entryFrame m #[.ref b, .int (Int32.ofNat o), .int (Int32.ofNat len)] 6)) (T3.setTop (mkF m 9 #[.val (.ref b), .val (.int (Int32.ofNat o)), .val (.int (Int32.ofNat len)), .val (.ref s.heap.size), .unset, .unset] [.int (Int32.ofNat len), .int 0, .ref s.heap.size, .int (Int32.ofNat o), .ref b])) := c4.trans (by
    refine XS.astoreN X3.here hexec rfl (hb hbytes d3) rfl rfl rfl ?_
    refine XS.aloadN X3.here hexec rfl (hb hbytes d4) rfl rfl ?_
    refine XS.iloadN X3.here hexec rfl (hb hbytes d5) rfl ?_
    refine XS.aloadN X3.here hexec rfl (hb hbytes d6) rfl rfl ?_
    refine iconstV X3.here hexec rfl 0 (hb hbytes d7) (by decide) ?_
    refine XS.iloadN X3.here hexec rfl (hb hbytes d8) rfl ?_
    exact Steps.refl _)
  obtain ⟨v6, T6, X6, E6, g6⟩ := X3.callS hexec (Cmp5.law l b A s.heap.size B3 o 0 len) hown (wks W (staticW U16 115 Cmp5.yN)) (wk W Cmp5.tab) (W := 0) (Nat.le_of_ble_eq_true rfl) (Nat.le_of_ble_eq_true rfl) (Nat.le_refl _) (by show 0 + len + 0 ≤ len; omega) (g := (mkF m 9 #[.val (.ref b), .val (.int (Int32.ofNat o)), .val (.int (Int32.ofNat len)), .val (.ref s.heap.size), .unset, .unset] [.int (Int32.ofNat len), .int (Int32.ofNat 0), .ref s.heap.size, .int (Int32.ofNat o), .ref b])) rfl (by rw [hml]; rfl) c5 (argsL := [.ref b, .int (Int32.ofNat o), .ref s.heap.size, .int (Int32.ofNat 0), .int (Int32.ofNat len)]) (rest := []) rfl rfl (by show 2 * 0 + 0 ≤ _; decide) (hb hbytes d9) (⟨rfl, hA3, ba3, hne, l1, by rw [bs3]; simp, hp⟩)
  obtain ⟨rfl, B6, p6, f6⟩ := E6
  have c7 : Steps p.tables e below (s₁.setTop (entryFrame m #[.ref b, .int (Int32.ofNat o), .int (Int32.ofNat len)] 6)) (T6.setTop (mkF m 12 #[.val (.ref b), .val (.int (Int32.ofNat o)), .val (.int (Int32.ofNat len)), .val (.ref s.heap.size), .unset, .unset] [.int (Int32.ofNat len)])) := g6
  have c8 : Steps p.tables e below (s₁.setTop (entryFrame m #[.ref b, .int (Int32.ofNat o), .int (Int32.ofNat len)] 6)) (T6.setTop (mkF m 58 #[.val (.ref b), .val (.int (Int32.ofNat o)), .val (.int (Int32.ofNat len)), .val (.ref s.heap.size), .val (.int (Int32.ofNat len)), .unset] [.ref s.heap.size])) := c7.trans (by
    refine XS.istore X6.here hexec rfl (hb hbytes d12) rfl rfl ?_
    refine XS.iload X6.here hexec rfl (hb hbytes d14) rfl ?_
    refine XS.iloadN X6.here hexec rfl (hb hbytes d16) rfl ?_
    refine XS.icmpYes X6.here hexec rfl (pc0 := 17) rfl (hb hbytes d17) rfl (ii_eq_t rfl) (by decide) rfl ?_
    refine XS.aloadN X6.here hexec rfl (hb hbytes d57) rfl rfl ?_
    exact Steps.refl _)
  have X8 := X6.wide (L' := []) (cells' := 1) (slots' := len) (fun x hx hlt => by
    simp only [List.nil_append, copyLocs, List.mem_map, List.mem_range] at hx
    obtain ⟨i, -, rfl⟩ := hx
    exact absurd hlt (Nat.lt_irrefl _)) (Nat.le_refl _) (by omega)
  exact ⟨T6, some (.ref s.heap.size), _, _, _, X8, rfl, rfl, rfl, (fun h => by cases h), ⟨⟨rfl, B6, ba3.like (X3.warmed.alike.symm.trans X6.warmed.alike) p6.1 f6.1 f6.2.1 f6.2.2.1, f6.2.1.trans bv3, by rw [X6.warmed.alike.findClass, f6.1]; exact bf3, by rw [f6.2.2.1, bs3]; simp, fun j hj => by rw [f6.2.2.2 j, if_pos (by omega)]; rfl, kp3.put p6 (Nat.le_refl _)⟩, by rw [p6.2.2, bh3, hh0]; simp⟩, fun fs hl => c8.trans (X8.areturnOut hexec rfl hret rfl (hb hbytes d58) hl)⟩
end Cmp3
namespace CodL
def yN : MethodName := ⟨"java/lang/StringUTF16", "coderFromArrayLen", "([BI)B"⟩
abbrev yB : ByteArray := jdk_52_method_15_code
theorem d0 : decode yB 0 = .ok (.iload_n 1, 1) := by decide +kernel
theorem d1 : decode yB 1 = .ok (.aload_n 0, 1) := by decide +kernel
theorem d2 : decode yB 2 = .ok (.arraylength, 1) := by decide +kernel
theorem d3 : decode yB 3 = .ok (.isub, 1) := by decide +kernel
theorem d4 : decode yB 4 = .ok (.bipush 31, 2) := by decide +kernel
theorem d6 : decode yB 6 = .ok (.iushr, 1) := by decide +kernel
theorem d7 : decode yB 7 = .ok (.i2b, 1) := by decide +kernel
theorem d8 : decode yB 8 = .ok (.ireturn, 1) := by decide +kernel
def site : List Cond := []
def tab : Cond := tabOf yN yB 2 (some .byte) site
def P (d : Addr) (B : Cell) (args : Array Value) (s : State) : Prop := args = #[.ref d, .int (Int32.ofNat B.slots.size)] ∧ Arr .byte d B s
def E (r : Option Value) (s u : State) : Prop := XT.PureE (some (.int 0)) r s u
/-- an array as long as the number of chars: LATIN1 -/
theorem law (l : Launch) (d : Addr) (B : Cell) : Law l yN 2 2 0 0 yB 2 (some .byte) site (P d B) E [] 0 0 := by
  refine Law.of_walk (plainFor_of_name (by decide +kernel)) (by decide +kernel) (by decide +kernel) (by decide) (fun _ _ h => by rw [h.1]; rfl) (fun _ U U' hal hh h => ⟨h.1, h.2.mv hal hh⟩) (fun r U U' V V' h1 hal h2 h => XT.PureE.mv r U U' V V' h1 hal h2 h) ?_
  intro p e s m args below meth c s₁ X0 hexec hbytes hml hret hlk hnm hown hh0 W hP
  obtain ⟨rfl, hB⟩ := hP
  have hB0 := hB.mv X0.warmed.alike hh0
  have c1 : Steps p.tables e below (s₁.setTop (entryFrame m #[.ref d, .int (Int32.ofNat B.slots.size)] 2)) (s₁.setTop (mkF m 0 #[.val (.ref d), .val (.int (Int32.ofNat B.slots.size))] [])) := entry rfl
  have c2 : Steps p.tables e below (s₁.setTop (entryFrame m #[.ref d, .int (Int32.ofNat B.slots.size)] 2)) (s₁.setTop (mkF m 2 #[.val (.ref d), .val (.int (Int32.ofNat B.slots.size))] [.ref d, .int (Int32.ofNat B.slots.size)])) := c1.trans (by
    refine XS.iloadN X0.here hexec rfl (hb hbytes d0) rfl ?_
    refine XS.aloadN X0.here hexec rfl (hb hbytes d1) rfl rfl ?_
    exact Steps.refl _)
  have c3 : Steps p.tables e below (s₁.setTop (entryFrame m #[.ref d, .int (Int32.ofNat B.slots.size)] 2)) (s₁.setTop (mkF m 8 #[.val (.ref d), .val (.int (Int32.ofNat B.slots.size))] [.int (lo8 (ushr (Int32.ofNat B.slots.size - Int32.ofNat B.slots.size) 31))])) := c2.trans (by
    refine X0.alen hexec hB0 rfl rfl (hb hbytes d2) ?_
    refine XS.isub X0.here hexec rfl (hb hbytes d3) rfl ?_
    refine bipushV X0.here hexec rfl 31 (hb hbytes d4) (by decide) ?_
    refine iushr X0.here hexec rfl (hb hbytes d6) rfl ?_
    refine i2b X0.here hexec rfl (hb hbytes d7) rfl ?_
    exact Steps.refl _)
  have e0 : lo8 (ushr (Int32.ofNat B.slots.size - Int32.ofNat B.slots.size) 31) = 0 := by rw [Int32.sub_self]; decide
  rw [e0] at c3
  exact ⟨s₁, some (.int 0), _, _, _, X0, rfl, rfl, rfl, (fun h => by cases h), ⟨rfl, hh0⟩, fun fs hl => c3.trans (X0.ireturnOut hexec hret rfl (Or.inr (Or.inr (Or.inl rfl))) (hb hbytes d8) hl)⟩
end CodL
/-- the String at a is Latin-1 over a new byte[] (the heap's one new cell): the low bytes of the len chars of A from o on; every cell but a is kept -/
def Got (a : Addr) (D : Cell) (fV fC : Field) (A : Cell) (o len : Nat) (r : Option Value) (s u : State) : Prop := r = none ∧ ∃ D' V : Cell, Blank "java/lang/String" a D' u ∧ Same D D' [fV.slot, fC.slot] ∧ D'.slots[fV.slot]? = some (.ref s.heap.size) ∧ D'.slots[fC.slot]? = some (.int 0) ∧ Arr .byte s.heap.size V u ∧ V.vm = .none ∧ u.vm.findClass "[B" = some V.cls ∧ V.slots.size = len ∧ (∀ j, j < len → V.slots[j]? = some (.int (lo8 (cv A (o + j))))) ∧ (∀ (y : Addr) (c : Cell), y ≠ a → s.heap[y]? = some c → u.heap[y]? = some c) ∧ u.heap.size = s.heap.size + 1
theorem Got.mv {a : Addr} {D A : Cell} {fV fC : Field} {o len : Nat} : ∀ r (U U' V V' : State), U'.heap = U.heap → V.vm.Alike V'.vm → V'.heap = V.heap → Got a D fV fC A o len r U V → Got a D fV fC A o len r U' V' :=
  fun r U U' V V' h1 hal h2 ⟨e0, D', X, a1, a2, a3, a4, a5, a6, a7, a8, a9, a10, a11⟩ => ⟨e0, D', X, a1.mv hal h2, a2, by rw [h1]; exact a3, a4, by rw [h1]; exact a5.mv hal h2, a6, by rw [hal.findClass]; exact a7, a8, a9, by rw [h1, h2]; exact a10, by rw [h1, h2]; exact a11⟩
namespace New4
def yN : MethodName := ⟨"java/lang/String", "<init>", "([CIILjava/lang/Void;)V"⟩
abbrev yB : ByteArray := jdk_42_method_149_code
theorem d0 : decode yB 0 = .ok (.aload_n 0, 1) := by decide +kernel
theorem d1 : decode yB 1 = .ok (.invokespecial 1, 3) := by decide +kernel
theorem d4 : decode yB 4 = .ok (.iload_n 3, 1) := by decide +kernel
theorem d5 : decode yB 5 = .ok (.ifCond (.ne) 22, 3) := by decide +kernel
theorem d27 : decode yB 27 = .ok (.getstatic 38, 3) := by decide +kernel
theorem d30 : decode yB 30 = .ok (.ifCond (.eq) 28, 3) := by decide +kernel
theorem d33 : decode yB 33 = .ok (.aload_n 1, 1) := by decide +kernel
theorem d34 : decode yB 34 = .ok (.iload_n 2, 1) := by decide +kernel
theorem d35 : decode yB 35 = .ok (.iload_n 3, 1) := by decide +kernel
theorem d36 : decode yB 36 = .ok (.invokestatic 177, 3) := by decide +kernel
theorem d39 : decode yB 39 = .ok (.astore 5, 2) := by decide +kernel
theorem d41 : decode yB 41 = .ok (.aload_n 0, 1) := by decide +kernel
theorem d42 : decode yB 42 = .ok (.aload 5, 2) := by decide +kernel
theorem d44 : decode yB 44 = .ok (.iload_n 3, 1) := by decide +kernel
theorem d45 : decode yB 45 = .ok (.invokestatic 47, 3) := by decide +kernel
theorem d48 : decode yB 48 = .ok (.putfield 15, 3) := by decide +kernel
theorem d51 : decode yB 51 = .ok (.aload_n 0, 1) := by decide +kernel
theorem d52 : decode yB 52 = .ok (.aload 5, 2) := by decide +kernel
theorem d54 : decode yB 54 = .ok (.putfield 9, 3) := by decide +kernel
theorem d57 : decode yB 57 = .ok (.return_, 1) := by decide +kernel
def site : List Cond := [.fieldLink "java/lang/String" 38 "java/lang/String" "COMPACT_STRINGS" "Z", Cmp3.tab, CodL.tab, .laysFinal "java/lang/String" "java/lang/String" "value" "[B", .fieldLink "java/lang/String" 9 "java/lang/String" "value" "[B", .laysFinal "java/lang/String" "java/lang/String" "coder" "B", .fieldLink "java/lang/String" 15 "java/lang/String" "coder" "B"] ++ objW "java/lang/String" 1 ++ staticW "java/lang/String" 177 Cmp3.yN ++ staticW "java/lang/String" 47 CodL.yN
def tab : Cond := tabOf yN yB 6 none site
def P (a : Addr) (D : Cell) (fV fC : Field) (b : Addr) (A : Cell) (z : Int32) (o len : Nat) (args : Array Value) (s : State) : Prop := args = #[.ref a, .ref b, .int (Int32.ofNat o), .int (Int32.ofNat len), .null] ∧ Blank "java/lang/String" a D s ∧ Found "java/lang/String" "value" "[B" fV s ∧ Found "java/lang/String" "coder" "B" fC s ∧ Ch b A s ∧ StaticIs s "java/lang/String" "COMPACT_STRINGS" "Z" (.int z) ∧ ¬ z = 0 ∧ 0 < len ∧ o + len ≤ A.slots.size ∧ len ≤ 536870912 ∧ ∀ i, i < len → ¬ 255 < cv A (o + i)
def E (a : Addr) (D : Cell) (fV fC : Field) (A : Cell) (o len : Nat) (r : Option Value) (s u : State) : Prop := Got a D fV fC A o len r s u
/-- len > 0, no char of the range above 255: a Latin-1 String of their low bytes -/
theorem law (l : Launch) (a : Addr) (D : Cell) (fV fC : Field) (b : Addr) (A : Cell) (z : Int32) (o len : Nat) : Law l yN 5 4 2 35 yB 6 none site (P a D fV fC b A z o len) (E a D fV fC A o len) [⟨a, fC.slot⟩, ⟨a, fV.slot⟩] 1 len := by
  refine Law.of_walk (plainFor_of_name (by decide +kernel)) (by decide +kernel) (by decide +kernel) (by decide) (fun _ _ h => by rw [h.1]; rfl) (fun _ U U' hal hh h => ⟨h.1, h.2.1.mv hal hh, h.2.2.1.al hal, h.2.2.2.1.al hal, h.2.2.2.2.1.mv hal hh, h.2.2.2.2.2.1.there hal hh, h.2.2.2.2.2.2⟩) (fun r U U' V V' h1 hal h2 h => Got.mv r U U' V V' h1 hal h2 h) ?_
  intro p e s m args below meth c s₁ X0 hexec hbytes hml hret hlk hnm hown hh0 W hP
  obtain ⟨rfl, hB, f1, f2, hA, s1, hz, l0, l1, l2, hp⟩ := hP
  have a31 := hA.1.2.2.2
  have c1 : Steps p.tables e below (s₁.setTop (entryFrame m #[.ref a, .ref b, .int (Int32.ofNat o), .int (Int32.ofNat len), .null] 6)) (s₁.setTop (mkF m 0 #[.val (.ref a), .val (.ref b), .val (.int (Int32.ofNat o)), .val (.int (Int32.ofNat len)), .val .null, .unset] [])) := entry rfl
  have c2 : Steps p.tables e below (s₁.setTop (entryFrame m #[.ref a, .ref b, .int (Int32.ofNat o), .int (Int32.ofNat len), .null] 6)) (s₁.setTop (mkF m 1 #[.val (.ref a), .val (.ref b), .val (.int (Int32.ofNat o)), .val (.int (Int32.ofNat len)), .val .null, .unset] [.ref a])) := c1.trans (by
    refine XS.aloadN X0.here hexec rfl (hb hbytes d0) rfl rfl ?_
    exact Steps.refl _)
  obtain ⟨T3, X3, q3, st3⟩ := X0.oinit hexec hown (wks W (objW "java/lang/String" 1)) (g := (mkF m 1 #[.val (.ref a), .val (.ref b), .val (.int (Int32.ofNat o)), .val (.int (Int32.ofNat len)), .val .null, .unset] [.ref a])) rfl (by rw [hml]; rfl) (rest := []) rfl (hb hbytes d1) (W := 0) (by show 2 * 0 + 0 ≤ _; decide) (Nat.le_of_ble_eq_true rfl) (Nat.le_of_ble_eq_true rfl)
  have hh3 := q3.trans hh0
  have c4 : Steps p.tables e below (s₁.setTop (entryFrame m #[.ref a, .ref b, .int (Int32.ofNat o), .int (Int32.ofNat len), .null] 6)) (T3.setTop (mkF m 27 #[.val (.ref a), .val (.ref b), .val (.int (Int32.ofNat o)), .val (.int (Int32.ofNat len)), .val .null, .unset] [])) := (c2.trans (st3 _ (Steps.refl _))).trans (by
    refine XS.iloadN X3.here hexec rfl (hb hbytes d4) rfl ?_
    refine XS.ifYes X3.here hexec rfl (pc0 := 5) rfl (hb hbytes d5) rfl (i0_ne_t (nz32 (by omega) l0)) (by decide) rfl ?_
    exact Steps.refl _)
  obtain ⟨T5, X5, q5, st5⟩ := X3.sget hexec hown (wk W (.fieldLink "java/lang/String" 38 "java/lang/String" "COMPACT_STRINGS" "Z")) s1 (fun _ _ h => by rw [hh3]; exact h) (g := (mkF m 27 #[.val (.ref a), .val (.ref b), .val (.int (Int32.ofNat o)), .val (.int (Int32.ofNat len)), .val .null, .unset] [])) rfl (hb hbytes d27)
  have hh5 := q5.trans hh3
  have c6 : Steps p.tables e below (s₁.setTop (entryFrame m #[.ref a, .ref b, .int (Int32.ofNat o), .int (Int32.ofNat len), .null] 6)) (T5.setTop (mkF m 30 #[.val (.ref a), .val (.ref b), .val (.int (Int32.ofNat o)), .val (.int (Int32.ofNat len)), .val .null, .unset] [.int z])) := c4.trans (st5 _ (Steps.refl _))
  have c7 : Steps p.tables e below (s₁.setTop (entryFrame m #[.ref a, .ref b, .int (Int32.ofNat o), .int (Int32.ofNat len), .null] 6)) (T5.setTop (mkF m 36 #[.val (.ref a), .val (.ref b), .val (.int (Int32.ofNat o)), .val (.int (Int32.ofNat len)), .val .null, .unset] [.int (Int32.ofNat len), .int (Int32.ofNat o), .ref b])) := c6.trans (by
    refine XS.ifNo X5.here hexec rfl (hb hbytes d30) rfl (i0_eq_f hz) ?_
    refine XS.aloadN X5.here hexec rfl (hb hbytes d33) rfl rfl ?_
    refine XS.iloadN X5.here hexec rfl (hb hbytes d34) rfl ?_
    refine XS.iloadN X5.here hexec rfl (hb hbytes d35) rfl ?_
    exact Steps.refl _)
  obtain ⟨v8, T8, X8, E8, g8⟩ := X5.callS hexec (Cmp3.law l b A o len) hown (wks W (staticW "java/lang/String" 177 Cmp3.yN)) (wk W Cmp3.tab) (W := 0) (Nat.le_of_ble_eq_true rfl) (Nat.le_of_ble_eq_true rfl) (Nat.le_refl _) (by show 0 + len ≤ len; omega) (g := (mkF m 36 #[.val (.ref a), .val (.ref b), .val (.int (Int32.ofNat o)), .val (.int (Int32.ofNat len)), .val .null, .unset] [.int (Int32.ofNat len), .int (Int32.ofNat o), .ref b])) rfl (by rw [hml]; rfl) c7 (argsL := [.ref b, .int (Int32.ofNat o), .int (Int32.ofNat len)]) (rest := []) rfl rfl (by show 2 * 0 + 0 ≤ _; decide) (hb hbytes d36) (⟨rfl, hA.mv X5.warmed.alike hh5, l1, l2, hp⟩)
  obtain ⟨e8, z8⟩ := E8
  obtain ⟨rfl, N, n1, n2, n3, n4, n5, n6⟩ := NewArr.mv _ T5 s _ _ hh5.symm (Vm.Alike.refl _) rfl e8
  rw [hh5] at z8
  have hB1 := hB.keep X8.warmed.alike (n6 _ _ hB.1)
  have hne : s.heap.size ≠ a := (Nat.ne_of_lt (Array.getElem?_eq_some_iff.mp hB.1).1).symm
  have c9 : Steps p.tables e below (s₁.setTop (entryFrame m #[.ref a, .ref b, .int (Int32.ofNat o), .int (Int32.ofNat len), .null] 6)) (T8.setTop (mkF m 39 #[.val (.ref a), .val (.ref b), .val (.int (Int32.ofNat o)), .val (.int (Int32.ofNat len)), .val .null, .unset] [.ref s.heap.size])) := g8
  have c10 : Steps p.tables e below (s₁.setTop (entryFrame m #[.ref a, .ref b, .int (Int32.ofNat o), .int (Int32.ofNat len), .null] 6)) (T8.setTop (mkF m 45 #[.val (.ref a), .val (.ref b), .val (.int (Int32.ofNat o)), .val (.int (Int32.ofNat len)), .val .null, .val (.ref s.heap.size)] [.int (Int32.ofNat N.slots.size), .ref s.heap.size, .ref a])) := by
    have hc : Steps p.tables e below (s₁.setTop (entryFrame m #[.ref a, .ref b, .int (Int32.ofNat o), .int (Int32.ofNat len), .null] 6)) (T8.setTop (mkF m 45 #[.val (.ref a), .val (.ref b), .val (.int (Int32.ofNat o)), .val (.int (Int32.ofNat len)), .val .null, .val (.ref s.heap.size)] [.int (Int32.ofNat len), .ref s.heap.size, .ref a])) := c9.trans (by
      refine XS.astore X8.here hexec rfl (hb hbytes d39) rfl rfl rfl ?_
      refine XS.aloadN X8.here hexec rfl (hb hbytes d41) rfl rfl ?_
      refine XS.aload X8.here hexec rfl (hb hbytes d42) rfl rfl ?_
      refine XS.iloadN X8.here hexec rfl (hb hbytes d44) rfl ?_
      exact Steps.refl _)
    rw [n4]; exact hc
  obtain ⟨v11, T11, X11, E11, g11⟩ := X8.callS hexec (CodL.law l s.heap.size N) hown (wks W (staticW "java/lang/String" 47 CodL.yN)) (wk W CodL.tab) (W := 1) (Nat.le_of_ble_eq_true rfl) (Nat.le_of_ble_eq_true rfl) (Nat.le_refl _) (by show 0 + len + 0 ≤ len; omega) (g := (mkF m 45 #[.val (.ref a), .val (.ref b), .val (.int (Int32.ofNat o)), .val (.int (Int32.ofNat len)), .val .null, .val (.ref s.heap.size)] [.int (Int32.ofNat N.slots.size), .ref s.heap.size, .ref a])) rfl (by rw [hml]; rfl) c10 (argsL := [.ref s.heap.size, .int (Int32.ofNat N.slots.size)]) (rest := [.ref a]) rfl rfl (by show 2 * 0 + (1 + 0) ≤ _; decide) (hb hbytes d45) (⟨rfl, n1⟩)
  obtain ⟨rfl, q11⟩ := E11
  have hB11 := hB1.mv (X8.warmed.alike.symm.trans X11.warmed.alike) q11
  have c12 : Steps p.tables e below (s₁.setTop (entryFrame m #[.ref a, .ref b, .int (Int32.ofNat o), .int (Int32.ofNat len), .null] 6)) (T11.setTop (mkF m 48 #[.val (.ref a), .val (.ref b), .val (.int (Int32.ofNat o)), .val (.int (Int32.ofNat len)), .val .null, .val (.ref s.heap.size)] [.int 0, .ref a])) := g11
  obtain ⟨T13, X13, p13, bl13, sl13, st13⟩ := X11.finit hexec hown (wk W (.fieldLink "java/lang/String" 15 "java/lang/String" "coder" "B")) (Or.inr ⟨_, (wk W (.laysFinal "java/lang/String" "java/lang/String" "coder" "B"))⟩) (Or.inl ⟨rfl, hnm⟩) f2 (Or.inl rfl) hB11 (t := .byte) (by decide +kernel) rfl (g := (mkF m 48 #[.val (.ref a), .val (.ref b), .val (.int (Int32.ofNat o)), .val (.int (Int32.ofNat len)), .val .null, .val (.ref s.heap.size)] [.int 0, .ref a])) rfl (rest := []) rfl (hb hbytes d48)
  have c14 : Steps p.tables e below (s₁.setTop (entryFrame m #[.ref a, .ref b, .int (Int32.ofNat o), .int (Int32.ofNat len), .null] 6)) (T13.setTop (mkF m 54 #[.val (.ref a), .val (.ref b), .val (.int (Int32.ofNat o)), .val (.int (Int32.ofNat len)), .val .null, .val (.ref s.heap.size)] [.ref s.heap.size, .ref a])) := (c12.trans (st13 _ (Steps.refl _))).trans (by
    refine XS.aloadN X13.here hexec rfl (hb hbytes d51) rfl rfl ?_
    refine XS.aload X13.here hexec rfl (hb hbytes d52) rfl rfl ?_
    exact Steps.refl _)
  obtain ⟨T15, X15, p15, bl15, sl15, st15⟩ := X13.finit hexec hown (wk W (.fieldLink "java/lang/String" 9 "java/lang/String" "value" "[B")) (Or.inr ⟨_, (wk W (.laysFinal "java/lang/String" "java/lang/String" "value" "[B"))⟩) (Or.inl ⟨rfl, hnm⟩) f1 (Or.inl rfl) bl13 (t := (.array .byte)) (by decide +kernel) rfl (g := (mkF m 54 #[.val (.ref a), .val (.ref b), .val (.int (Int32.ofNat o)), .val (.int (Int32.ofNat len)), .val .null, .val (.ref s.heap.size)] [.ref s.heap.size, .ref a])) rfl (rest := []) rfl (hb hbytes d54)
  have c16 : Steps p.tables e below (s₁.setTop (entryFrame m #[.ref a, .ref b, .int (Int32.ofNat o), .int (Int32.ofNat len), .null] 6)) (T15.setTop (mkF m 57 #[.val (.ref a), .val (.ref b), .val (.int (Int32.ofNat o)), .val (.int (Int32.ofNat len)), .val .null, .val (.ref s.heap.size)] [])) := c14.trans (st15 _ (Steps.refl _))
  have ap := apart (Or.inr ⟨_, (wk W (.laysFinal "java/lang/String" "java/lang/String" "value" "[B"))⟩) (Or.inr ⟨_, (wk W (.laysFinal "java/lang/String" "java/lang/String" "coder" "B"))⟩) f1 f2 (t₁ := .array .byte) (t₂ := .byte) (by decide +kernel) (by decide +kernel) (by decide)
  have al := X8.warmed.alike.symm.trans X15.warmed.alike
  have n7 : T11.heap[s.heap.size]? = some N := by rw [q11]; exact n1.1
  exact ⟨T15, none, _, _, _, X15, by simp, rfl, by omega, (fun _ => rfl), ⟨rfl, _, N, bl15, ((Same.refl D _).set _ (by simp)).set _ (by simp), sl15, (Cell.slots_setSlot_ne _ ap).trans sl13, n1.keep al (p15.other hne (p13.other hne n7)), n2, by rw [al.findClass]; exact n3, n4, n5, fun y c h1 h2 => p15.other h1 (p13.other h1 (by rw [q11]; exact n6 y c h2)), by rw [p15.2.2, p13.2.2, q11]; exact z8⟩, fun fs hl => c16.trans (X15.returnOut hexec hret (hb hbytes d57) hl)⟩
end New4
namespace New1
def yN : MethodName := ⟨"java/lang/String", "<init>", "([C)V"⟩
abbrev yB : ByteArray := jdk_42_method_3_code
theorem d0 : decode yB 0 = .ok (.aload_n 0, 1) := by decide +kernel
theorem d1 : decode yB 1 = .ok (.aload_n 1, 1) := by decide +kernel
theorem d2 : decode yB 2 = .ok (.iconst 0, 1) := by decide +kernel
theorem d3 : decode yB 3 = .ok (.aload_n 1, 1) := by decide +kernel
theorem d4 : decode yB 4 = .ok (.arraylength, 1) := by decide +kernel
theorem d5 : decode yB 5 = .ok (.aconst_null, 1) := by decide +kernel
theorem d6 : decode yB 6 = .ok (.invokespecial 27, 3) := by decide +kernel
theorem d9 : decode yB 9 = .ok (.return_, 1) := by decide +kernel
def site : List Cond := [New4.tab] ++ initW "java/lang/String" 27 New4.yN
def tab : Cond := tabOf yN yB 2 none site
def P (a : Addr) (D : Cell) (fV fC : Field) (b : Addr) (A : Cell) (z : Int32) (args : Array Value) (s : State) : Prop := args = #[.ref a, .ref b] ∧ Blank "java/lang/String" a D s ∧ Found "java/lang/String" "value" "[B" fV s ∧ Found "java/lang/String" "coder" "B" fC s ∧ Ch b A s ∧ StaticIs s "java/lang/String" "COMPACT_STRINGS" "Z" (.int z) ∧ ¬ z = 0 ∧ 0 < A.slots.size ∧ A.slots.size ≤ 536870912 ∧ ∀ i, i < A.slots.size → ¬ 255 < cv A i
def E (a : Addr) (D : Cell) (fV fC : Field) (A : Cell) (r : Option Value) (s u : State) : Prop := Got a D fV fC A 0 A.slots.size r s u
/-- new String(chars), not empty, no char above 255: a Latin-1 String of their low bytes -/
theorem law (l : Launch) (a : Addr) (D : Cell) (fV fC : Field) (b : Addr) (A : Cell) (z : Int32) : Law l yN 2 1 3 52 yB 2 none site (P a D fV fC b A z) (E a D fV fC A) [⟨a, fC.slot⟩, ⟨a, fV.slot⟩] 1 A.slots.size := by
  refine Law.of_walk (plainFor_of_name (by decide +kernel)) (by decide +kernel) (by decide +kernel) (by decide) (fun _ _ h => by rw [h.1]; rfl) (fun _ U U' hal hh h => ⟨h.1, h.2.1.mv hal hh, h.2.2.1.al hal, h.2.2.2.1.al hal, h.2.2.2.2.1.mv hal hh, h.2.2.2.2.2.1.there hal hh, h.2.2.2.2.2.2⟩) (fun r U U' V V' h1 hal h2 h => Got.mv r U U' V V' h1 hal h2 h) ?_
  intro p e s m args below meth c s₁ X0 hexec hbytes hml hret hlk hnm hown hh0 W hP
  obtain ⟨rfl, hB, f1, f2, hA, s1, hz, l0, l2, hp⟩ := hP
  have c1 : Steps p.tables e below (s₁.setTop (entryFrame m #[.ref a, .ref b] 2)) (s₁.setTop (mkF m 0 #[.val (.ref a), .val (.ref b)] [])) := entry rfl
  have c2 : Steps p.tables e below (s₁.setTop (entryFrame m #[.ref a, .ref b] 2)) (s₁.setTop (mkF m 6 #[.val (.ref a), .val (.ref b)] [.null, .int (Int32.ofNat A.slots.size), .int 0, .ref b, .ref a])) := c1.trans (by
    refine XS.aloadN X0.here hexec rfl (hb hbytes d0) rfl rfl ?_
    refine XS.aloadN X0.here hexec rfl (hb hbytes d1) rfl rfl ?_
    refine iconstV X0.here hexec rfl 0 (hb hbytes d2) (by decide) ?_
    refine XS.aloadN X0.here hexec rfl (hb hbytes d3) rfl rfl ?_
    refine X0.alen hexec (hA.1.mv X0.warmed.alike hh0) rfl rfl (hb hbytes d4) ?_
    refine XS.aconstNull X0.here hexec rfl (hb hbytes d5) ?_
    exact Steps.refl _)
  obtain ⟨v3, T3, X3, E3, g3⟩ := X0.callN hexec (New4.law l a D fV fC b A z 0 A.slots.size) rfl hown (wks W (initW "java/lang/String" 27 New4.yN)) (W New4.tab (by simp only [site, List.mem_cons, List.mem_append, true_or, or_true])) (W := 0) (Nat.le_of_ble_eq_true rfl) (Nat.le_of_ble_eq_true rfl) (Nat.le_refl _) (by show 0 + A.slots.size ≤ A.slots.size; omega) (g := (mkF m 6 #[.val (.ref a), .val (.ref b)] [.null, .int (Int32.ofNat A.slots.size), .int (Int32.ofNat 0), .ref b, .ref a])) rfl (by rw [hml]; rfl) c2 (argsL := [.ref b, .int (Int32.ofNat 0), .int (Int32.ofNat A.slots.size), .null]) (rest := []) rfl rfl (by show 2 * 0 + 0 ≤ _; decide) (hb hbytes d6) (⟨rfl, hB.mv X0.warmed.alike hh0, f1.al X0.warmed.alike, f2.al X0.warmed.alike, hA.mv X0.warmed.alike hh0, s1.there X0.warmed.alike hh0, hz, l0, by omega, l2, fun i hi => by rw [Nat.zero_add]; exact hp i hi⟩)
  have e0 := Got.mv _ s₁ s _ _ hh0.symm (Vm.Alike.refl _) rfl E3
  obtain rfl := e0.1
  have c4 : Steps p.tables e below (s₁.setTop (entryFrame m #[.ref a, .ref b] 2)) (T3.setTop (mkF m 9 #[.val (.ref a), .val (.ref b)] [])) := g3
  exact ⟨T3, none, _, _, _, X3, by simp, rfl, by omega, (fun _ => rfl), e0, fun fs hl => c4.trans (X3.returnOut hexec hret (hb hbytes d9) hl)⟩
theorem pays {l : Launch} {R : Room} {p : Program} {e : Env} {below : List Frame} {s : State} {sargs : Array Value} {len W : Nat} (a : Addr) (D : Cell) (fV fC : Field) (b : Addr) (A : Cell) (z : Int32) (htab : tab.before sargs s = true) (hfr : 4 ≤ R.frames) (hlo : W + 65 ≤ R.locals) :
    Back l R p e below s sargs yN len W (fun A₁ a₁ => A₁.cells + 1 ≤ R.cells ∧ A₁.slots + A.slots.size ≤ R.slots ∧ P a D fV fC b A z a₁ A₁.U) (fun A₁ _ v₁ B₁ => E a D fV fC A v₁ A₁.U B₁.U ∧ B₁.locs = A₁.locs ++ [⟨a, fC.slot⟩, ⟨a, fV.slot⟩] ∧ B₁.cells = A₁.cells + 1 ∧ B₁.slots = A₁.slots + A.slots.size) :=
  (law l a D fV fC b A z).pays htab hfr (by omega)
end New1
/-- the byte, read back as charAt reads it, is the char -/
theorem lo8_mask {x : Int32} (h0 : ¬ x < 0) (h1 : ¬ 255 < x) : lo8 x &&& 255 = x := by
  have t : ∀ k : Fin 256, lo8 (Int32.ofNat k.val) &&& 255 = Int32.ofNat k.val := by decide +kernel
  rw [Int32.lt_iff_toInt_lt] at h0 h1
  have e0 : (0 : Int32).toInt = 0 := rfl
  have e1 : (255 : Int32).toInt = 255 := rfl
  obtain ⟨k, hk⟩ : ∃ k : Nat, x.toInt = k := ⟨x.toInt.toNat, by omega⟩
  have hx : x = Int32.ofNat k := Int32.toInt_inj.mp (by rw [hk, Int32.toInt_ofNat_small (by omega)])
  rw [hx]
  exact t ⟨k, by omega⟩
end StrChars
namespace StrChars.Road
open Jvm Sem ClassFile Op Lib Jvm.Stand Jvm.Free Jvm.Free.XT
open Jvm.Lib.Cold (StaticIs)
abbrev ST : String := "java/lang/String"
/-- every table word that New1's law asks, flat -/
abbrev words : List Jvm.Cond := [.code New1.yN New1.yB 2 none, .initialized ST, .methodLink ST 27 New4.yN, .instanceMethod New4.yN,
  .code New4.yN New4.yB 6 none, .fieldLink ST 38 ST "COMPACT_STRINGS" "Z", .laysFinal ST ST "value" "[B", .fieldLink ST 9 ST "value" "[B", .laysFinal ST ST "coder" "B", .fieldLink ST 15 ST "coder" "B",
  .methodLink ST 1 Lib.objectInit, .instanceMethod Lib.objectInit, .code Lib.objectInit ⟨#[0xb1]⟩ 1 none, .methodLink ST 177 Cmp3.yN, .static Cmp3.yN, .methodLink ST 47 CodL.yN, .static CodL.yN,
  .code Cmp3.yN Cmp3.yB 6 (some (.array .byte)), .initialized U16, .arrayClass .byte, .methodLink U16 115 Cmp5.yN, .static Cmp5.yN, .code Cmp5.yN Cmp5.yB 7 (some .int), .code CodL.yN CodL.yB 2 (some .byte)]
theorem tab_of {a : Array Value} {s : State} (h : ∀ w ∈ words, w.before a s = true) : New1.tab.before a s = true := by
  have h5 : Cmp5.tab.before a s = true := unparts (wk h (.code Cmp5.yN Cmp5.yB 7 (some .int))) (wks h (.initialized Cmp5.yN.cls :: Cmp5.site))
  have hc : CodL.tab.before a s = true := unparts (wk h (.code CodL.yN CodL.yB 2 (some .byte))) (wks h (.initialized CodL.yN.cls :: CodL.site))
  have q5 : ∀ w ∈ Cmp5.tab :: words, w.before a s = true := fun w hw => (List.mem_cons.mp hw).elim (fun e => e ▸ h5) (h w)
  have h3 : Cmp3.tab.before a s = true := unparts (wk q5 (.code Cmp3.yN Cmp3.yB 6 (some (.array .byte)))) (wks q5 (.initialized Cmp3.yN.cls :: Cmp3.site))
  have q3 : ∀ w ∈ Cmp3.tab :: CodL.tab :: words, w.before a s = true := fun w hw => (List.mem_cons.mp hw).elim (fun e => e ▸ h3) fun hw => (List.mem_cons.mp hw).elim (fun e => e ▸ hc) (h w)
  have h4 : New4.tab.before a s = true := unparts (wk q3 (.code New4.yN New4.yB 6 none)) (wks q3 (.initialized New4.yN.cls :: New4.site))
  have q4 : ∀ w ∈ New4.tab :: words, w.before a s = true := fun w hw => (List.mem_cons.mp hw).elim (fun e => e ▸ h4) (h w)
  exact unparts (wk q4 (.code New1.yN New1.yB 2 none)) (wks q4 (.initialized New1.yN.cls :: New1.site))
/-- the words ride from the start Z to the walk's own state -/
theorem moved {Z s : State} {a0 args : Array Value} (hZ : Z.Warmed39 s.vm) (hw : ∀ d ∈ words, d.before a0 Z = true) : ∀ d ∈ words, d.before args s = true := fun d hd => by
  have q := hw d hd
  have t : ∀ d ∈ words, d = .arrayClass .byte ∨ (d.onTables && d.keepsFace) = true := by decide +kernel
  rcases t d hd with rfl | t
  · exact RoadKit.mvA hZ q
  · exact RoadKit.mv hZ q t
/-- WHAT COMES BACK, over the tables of the start Z: h the heap at the call, h' behind it -/
def Q (Z : State) (x : Addr) (A : Cell) (h : Heap) (v : Option Value) (h' : Heap) (L : List Loc) : Prop := v = none ∧ (∀ y ∈ L, y.base = x) ∧ RoadKit.Keep h h' [x] ∧ h'.size = h.size + 1 ∧ RoadKit.Exa Z h' x ST ∧ RoadKit.Fld Z h' x ST "value" "[B" (.ref h.size) ∧ RoadKit.Fld Z h' x ST "coder" "B" (.int 0) ∧
  (∃ V : Cell, RoadKit.Arr Z h' h.size V .byte ∧ V.vm = .none ∧ Z.vm.findClass "[B" = some V.cls ∧ V.slots.size = A.slots.size ∧ ∀ j, j < A.slots.size → V.slots[j]? = some (.int (lo8 (cv A j)))) ∧
  ∀ (O n d : String) (w : Value), RoadKit.Fld Z h x O n d w → RoadKit.slotOf Z O n d ≠ RoadKit.slotOf Z ST "value" "[B" → RoadKit.slotOf Z O n d ≠ RoadKit.slotOf Z ST "coder" "B" → RoadKit.Fld Z h' x O n d w
/-- **new String(chars) AT A CALL, IN THE ROAD'S FORM**: for specialBack behind newO: x the fresh String, b the char[] with the cell A -/
theorem back {p : Program} {l : Launch} {e : Env} {R : Room} {s : State} {args : Array Value} {below : List Frame} {len W : Nat} {Z : State} {a0 : Array Value} {h : Heap} (hZ : Z.Warmed39 s.vm) (hw : ∀ d ∈ words, d.before a0 Z = true) {kI : Nat} (wi : (Jvm.Cond.instantiable ST kI).before a0 Z = true)
    {x b : Addr} {A : Cell} {z : Int32} {v0 c0 : Value} (E : RoadKit.Exa Z h x ST) (V : RoadKit.Fld Z h x ST "value" "[B" v0) (C : RoadKit.Fld Z h x ST "coder" "B" c0) (K : RoadKit.Arr Z h b A .char) (hty : Typed .char A) (S : RoadKit.Sta Z h ST "COMPACT_STRINGS" "Z" (.int z)) (hz : ¬ z = 0)
    (l0 : 0 < A.slots.size) (l2 : A.slots.size ≤ 536870912) (hp : ∀ i, i < A.slots.size → ¬ 255 < cv A i) (hfr : 4 ≤ R.frames) (hlo : W + 65 ≤ R.locals) :
    Back l R p e below s args New1.yN len W (fun P a => a = #[.ref x, .ref b] ∧ P.U.heap = h ∧ P.cells + 1 ≤ R.cells ∧ P.slots + A.slots.size ≤ R.slots)
      (fun P _ v B => ∃ L, Q Z x A h v B.U.heap L ∧ B.locs = P.locs ++ L ∧ B.cells = P.cells + 1 ∧ B.slots = P.slots + A.slots.size) := by
  intro m meth c P g ig mk a X hg hsize hdg hW hn hp'
  obtain ⟨rfl, rfl, r1, r2⟩ := hp'
  have al : Z.vm.Alike P.U.vm := hZ.alike.trans X.warmed.alike
  obtain ⟨D, cfV, kV, iV, fV, hD, gV, stV, knV, obV, asV, slV⟩ := id V
  obtain ⟨D', cfC, kC, iC, fC, hD', gC, stC, -, -, asC, slC⟩ := id C
  cases hD.symm.trans hD'
  obtain ⟨D2, kD, e1, e2, e3, e4, e5⟩ := id E
  cases hD.symm.trans e1
  obtain ⟨c2, k2, i1, i2, i3, -⟩ := Cond.instantiable_spec wi
  cases e2.symm.trans i1
  cases e3.symm.trans i2
  obtain ⟨kU, u1, u2⟩ := al.2.2 _ _ e3
  have hB : Blank ST x D P.U := ⟨hD, ⟨knV, fun q hq => by rw [hq] at obV; cases obV⟩, by rw [al.findClass]; exact e2, kU, u1, by rw [u2]; exact i3, by rw [u2]; exact e5 i3⟩
  have F1 : Found ST "value" "[B" fV P.U := ⟨SBG.found_only al ⟨cfV, kV, iV, gV⟩, stV⟩
  have F2 : Found ST "coder" "B" fC P.U := ⟨SBG.found_only al ⟨cfC, kC, iC, gC⟩, stC⟩
  have hA : Ch b A P.U := ⟨⟨K.1, State.isArrayOf_alike al K.2.1, K.2.2, by omega⟩, hty⟩
  have hS : StaticIs P.U ST "COMPACT_STRINGS" "Z" (.int z) := by
    obtain ⟨cfS, iS, kS, fS, st, cS, t1, t2, t3, t4, t5, t6, t7⟩ := S
    exact StaticIs.there (s := { Z with heap := P.U.heap }) ⟨cfS, iS, kS, fS, st, cS, t1, t2, t3, t4, t5, (fun q => by rw [q] at t6; cases t6), t7⟩ al rfl
  obtain ⟨v, B, X', ⟨⟨hv, E', V', q1, q2, q3, q4, q5, q6, q7, q8, q9, q10, q11⟩, hl, hc, hs⟩, st⟩ := New1.pays x D fV fC b A z (tab_of (moved hZ hw)) hfr hlo m meth c P g ig mk _ X hg hsize hdg hW hn ⟨r1, r2, rfl, hB, F1, F2, hA, hS, hz, l0, l2, hp⟩
  have al' : Z.vm.Alike B.U.vm := hZ.alike.trans X'.warmed.alike
  have hsz : E'.slots.size = D.slots.size := by
    obtain ⟨-, -, -, kB, w1, w2, w3⟩ := q1
    obtain ⟨kB', y1, y2⟩ := al'.2.2 _ _ e3
    rw [q2.2.1] at w1
    cases w1.symm.trans y1
    rw [w3, e5 i3, y2]
  refine ⟨v, B, X', ⟨_, ⟨hv, ?_, ⟨by omega, fun y cy hy hn' => q10 y cy (by simpa using hn') hy, fun y cy hy => ?_⟩, q11, ⟨E', _, q1.1, by rw [q2.2.1]; exact e2, by rw [q2.2.1]; exact e3, by rw [q2.1]; exact obV, fun _ => by rw [hsz]; exact e5 i3⟩,
    ⟨E', cfV, kV, iV, fV, q1.1, gV, stV, by rw [q2.1]; exact knV, by rw [q2.1]; exact obV, by rw [q2.2.1]; exact asV, q3⟩, ⟨E', cfC, kC, iC, fC, q1.1, gC, stC, by rw [q2.1]; exact knV, by rw [q2.1]; exact obV, by rw [q2.2.1]; exact asC, q4⟩,
    ⟨V', ⟨q5.1, State.isArrayOf_alike al'.symm q5.2.1, q5.2.2.1⟩, q6, by rw [← al'.findClass]; exact q7, q8, fun j hj => by have := q9 j hj; rwa [Nat.zero_add] at this⟩, fun O n d w F n1 n2 => ?_⟩, hl, hc, hs⟩, st⟩
  · intro y hy
    simp only [List.mem_cons, List.not_mem_nil, or_false] at hy
    rcases hy with rfl | rfl <;> rfl
  · by_cases q : y = x
    · subst q
      cases hD.symm.trans hy
      exact ⟨E', q1.1, q2.2.1, q2.1, hsz⟩
    · exact ⟨cy, q10 y cy q hy, rfl, rfl, rfl⟩
  · obtain ⟨D3, cf, k, i, f, g1, g2, g3, g4, g5, g6, g7⟩ := F
    cases hD.symm.trans g1
    simp only [RoadKit.slotOf, g2, gV, gC, Option.map_some, Option.getD_some] at n1 n2
    exact ⟨E', cf, k, i, f, q1.1, g2, g3, by rw [q2.1]; exact g4, by rw [q2.1]; exact g5, by rw [q2.2.1]; exact g6, by rw [q2.2.2 f.slot (by simp [n1, n2])]; exact g7⟩
end StrChars.Road
namespace StrChars.Road
open Jvm Sem ClassFile Op Lib Jvm.Stand Jvm.Free Jvm.Free.XT
/-- WHAT COMES BACK, the byte[] as a list of values -/
def QA (Z : State) (x : Addr) (zn : Int32) (cs : List Int32) (h : Heap) (v : Option Value) (h' : Heap) (L : List Loc) : Prop := v = none ∧ (∀ y ∈ L, y.base = x) ∧ RoadKit.Keep h h' [x] ∧ h'.size = h.size + 1 ∧ RoadKit.Exa Z h' x ST ∧ RoadKit.Fld Z h' x ST "value" "[B" (.ref h.size) ∧ RoadKit.Fld Z h' x ST "coder" "B" (.int 0) ∧
  (∃ kb, Z.vm.findClass "[B" = some kb ∧ RoadKit.Arv Z h' h.size kb .byte zn (cs.map fun c => .int (lo8 c)) (.int 0)) ∧
  ∀ (O n d : String) (w : Value), RoadKit.Fld Z h x O n d w → RoadKit.slotOf Z O n d ≠ RoadKit.slotOf Z ST "value" "[B" → RoadKit.slotOf Z O n d ≠ RoadKit.slotOf Z ST "coder" "B" → RoadKit.Fld Z h' x O n d w
/-- **new String(chars) AT A CALL, THE ARRAYS AS LISTS**: the char[] at b holds cs, not empty, no char above 255 -/
theorem backArv {p : Program} {l : Launch} {e : Env} {R : Room} {s : State} {args : Array Value} {below : List Frame} {len W : Nat} {Z : State} {a0 : Array Value} {h : Heap} (hZ : Z.Warmed39 s.vm) (hw : ∀ d ∈ words, d.before a0 Z = true) {kI : Nat} (wi : (Jvm.Cond.instantiable ST kI).before a0 Z = true)
    {x b : Addr} {k : ClassId} {zn z : Int32} {cs : List Int32} {dv v0 c0 : Value} (E : RoadKit.Exa Z h x ST) (V : RoadKit.Fld Z h x ST "value" "[B" v0) (C : RoadKit.Fld Z h x ST "coder" "B" c0) (K : RoadKit.Arv Z h b k .char zn (cs.map Value.int) dv) (S : RoadKit.Sta Z h ST "COMPACT_STRINGS" "Z" (.int z)) (hz : ¬ z = 0)
    (hlen : zn.toNatClampNeg = cs.length) (h0 : 0 < cs.length) (hbig : cs.length ≤ 536870912) (hall : ∀ c ∈ cs, ¬ 255 < c) (hfr : 4 ≤ R.frames) (hlo : W + 65 ≤ R.locals) :
    Back l R p e below s args New1.yN len W (fun P a => a = #[.ref x, .ref b] ∧ P.U.heap = h ∧ P.cells + 1 ≤ R.cells ∧ P.slots + cs.length ≤ R.slots)
      (fun P _ v B => ∃ L, QA Z x zn cs h v B.U.heap L ∧ B.locs = P.locs ++ L ∧ B.cells = P.cells + 1 ∧ B.slots = P.slots + cs.length) := by
  obtain ⟨A, K1, K2, K3, K4, K5, K6⟩ := K
  have e : A.slots.size = cs.length := K3.trans hlen
  have hat : ∀ (i : Nat) (hi : i < cs.length), A.slots[i]? = some (.int cs[i]) := fun i hi => by rw [K5 i (by omega)]; simp [List.getD_eq_getElem?_getD, hi]
  have hcv : ∀ (i : Nat) (hi : i < cs.length), cv A i = cs[i] := fun i hi => by unfold cv; rw [hat i hi]
  have hty : Typed .char A := fun i v hv => by
    have hi : i < A.slots.size := (Array.getElem?_eq_some_iff.mp hv).1
    have q := K5 i hi
    rw [hv] at q
    rw [Option.some.inj q]
    exact K6 i hi
  refine Back.mono (back hZ hw wi E V C K1 hty S hz (by omega) (by omega) (fun i hi => by rw [hcv i (by omega)]; exact hall _ (List.getElem_mem _)) hfr hlo) (fun P a hp => ⟨hp.1, hp.2.1, hp.2.2.1, by rw [e]; exact hp.2.2.2⟩) (fun P a v B hp hq => ?_)
  obtain ⟨L, ⟨q1, q2, q3, q4, q5, q6, q7, ⟨V', v1, v2, v3, v4, v5⟩, q9⟩, hl, hc, hs⟩ := hq
  refine ⟨L, ⟨q1, q2, q3, q4, q5, q6, q7, ⟨V'.cls, v3, V', v1, rfl, by rw [v4, e, hlen], K4, fun i hi => ?_, fun i hi => ?_⟩, q9⟩, hl, hc, by rw [hs, e]⟩
  · have hi' : i < cs.length := by omega
    rw [v5 i (by omega), hcv i hi']; simp [List.getD_eq_getElem?_getD, hi']
  · have hi' : i < cs.length := by omega
    simp only [List.getD_eq_getElem?_getD, List.getElem?_map, List.getElem?_eq_getElem hi', Option.map_some, Option.getD_some]
    exact fits_lo8 _
end StrChars.Road
namespace StrChars.Road
open Jvm Sem ClassFile Op Lib Jvm.Stand Jvm.Free Jvm.Free.XT
/-- WHAT COMES BACK, in the writer's own shape -/
def QV (Z : State) (x : Addr) (N : Int32) (bs : List Int32) (h : Heap) (n0 : Nat) (v : Option Value) (h' : Heap) (L : List Loc) : Prop := v = none ∧ RoadKit.Fr n0 L ∧ RoadKit.Keep h h' [x] ∧ RoadKit.Exa Z h' x ST ∧ RoadKit.Fld Z h' x ST "coder" "B" (.int 0) ∧
  ∃ (t : Addr) (kb : ClassId), n0 ≤ t ∧ h.size ≤ t ∧ ¬ t = x ∧ RoadKit.Fld Z h' x ST "value" "[B" (.ref t) ∧ RoadKit.Arv Z h' t kb .byte N (bs.map Value.int) (.int 0)
/-- **new String(chars) AT A CALL, FOR THE WRITER**: a char[] of n known ints, each 0 to 255 -/
theorem backV {p : Program} {l : Launch} {e : Env} {R : Room} {s : State} {args : Array Value} {below : List Frame} {len W : Nat} {Z : State} {a0 : Array Value} {h : Heap} (hZ : Z.Warmed39 s.vm) (hw : ∀ d ∈ words, d.before a0 Z = true) {kI : Nat} (wi : (Jvm.Cond.instantiable ST kI).before a0 Z = true)
    {x b : Addr} {kC : ClassId} {cs bs : List Int32} {d v0 c0 : Value} {z N : Int32} {n n0 : Nat} (hx0 : n0 ≤ x) (hh0 : n0 ≤ h.size) (E : RoadKit.Exa Z h x ST) (V : RoadKit.Fld Z h x ST "value" "[B" v0) (C : RoadKit.Fld Z h x ST "coder" "B" c0) (K : RoadKit.Arv Z h b kC .char N (cs.map Value.int) d) (S : RoadKit.Sta Z h ST "COMPACT_STRINGS" "Z" (.int z)) (hz : ¬ z = 0)
    (hn : cs.length = n) (hN : N = Int32.ofNat n) (l0 : 0 < n) (l2 : n ≤ 4000) (hp : ∀ c ∈ cs, ¬ c < 0 ∧ ¬ (255 : Int32) < c) (hb : bs = cs.map (fun c => c.toInt8.toInt32)) (hfr : 4 ≤ R.frames) (hlo : W + 65 ≤ R.locals) :
    Back l R p e below s args (⟨"java/lang/String", "<init>", "([C)V"⟩ : MethodName) len W (fun P a => a = #[.ref x, .ref b] ∧ P.U.heap = h ∧ P.cells + 1 ≤ R.cells ∧ P.slots + n ≤ R.slots)
      (fun P _ v B => ∃ L, QV Z x N bs h n0 v B.U.heap L ∧ B.locs = P.locs ++ L ∧ B.cells = P.cells + 1 ∧ B.slots = P.slots + n) := by
  subst hn hN hb
  refine Back.mono (backArv hZ hw wi E V C K S hz (n32 (by omega)) l0 (by omega) (fun c hc => (hp c hc).2) hfr hlo) (fun P a hp => hp) (fun P a v B hp hq => ?_)
  obtain ⟨L, ⟨q1, q2, q3, q4, q5, q6, q7, ⟨kb, v1, v2⟩, q9⟩, hl, hc, hs⟩ := hq
  exact ⟨L, ⟨q1, fun y hy => by rw [q2 y hy]; exact hx0, q3, q5, q7, h.size, kb, hh0, Nat.le_refl _, Nat.ne_of_gt E.lt, q6, by rw [List.map_map]; exact v2⟩, hl, hc, hs⟩
end StrChars.Road
namespace StrChars
open Jvm Sem ClassFile Op Lib Jvm.Stand Jvm.Free.XT Jvm.Free.ALB Jvm.Free.JM Jvm.Free
open Jvm.Lib.Cold (StaticIs)
def hi8 (x : Int32) : Int32 := lo8 (x >>> ((8 : Int32) &&& 31))
/-- what StringUTF16.getChar makes of two bytes -/
def pairCh (u v : Int32) : Int32 := (((u &&& 255) <<< ((0 : Int32) &&& 31)) ||| ((v &&& 255) <<< ((8 : Int32) &&& 31))).toUInt32.toUInt16.toUInt32.toInt32
theorem lo8_and (x : Int32) : (lo8 x &&& 255).toBitVec.toNat = x.toBitVec.toNat % 256 := by
  have h : (lo8 x).toBitVec = (x.toBitVec.signExtend 8).signExtend 32 := by rw [lo8, Int8.toBitVec_toInt32, Int32.toBitVec_toInt8]
  rw [Int32.toBitVec_and, BitVec.toNat_and, h]
  have e : ((x.toBitVec.signExtend 8).signExtend 32).toNat % 256 = x.toBitVec.toNat % 256 := by
    rw [BitVec.toNat_signExtend]
    have hlt := x.toBitVec.isLt
    simp only [BitVec.toNat_setWidth, BitVec.toNat_signExtend]
    split <;> split <;> omega
  rw [← e]
  exact Nat.and_two_pow_sub_one_eq_mod _ 8
theorem pair_says {c : Int32} (h0 : ¬ c < 0) (h1 : ¬ 65535 < c) : pairCh (lo8 c) (hi8 c) = c := by
  rw [Int32.lt_iff_toInt_lt] at h0 h1
  have e0 : (0 : Int32).toInt = 0 := rfl
  have e1 : (65535 : Int32).toInt = 65535 := rfl
  have hc : c.toInt = c.toBitVec.toNat := by
    have := c.toBitVec.isLt
    have e : c.toInt = c.toBitVec.toInt := rfl
    rw [e] at h0 h1
    rw [e]
    rw [BitVec.toInt_eq_toNat_cond] at h0 h1 ⊢
    split at h0 <;> split <;> omega
  have hn : c.toBitVec.toNat < 65536 := by omega
  have a1 := lo8_and c
  have a2 : (hi8 c &&& 255).toBitVec.toNat = c.toBitVec.toNat / 256 := by
    rw [hi8, lo8_and]
    have e : ((8 : Int32) &&& 31) = 8 := by decide
    rw [e, Int32.toBitVec_shiftRight]
    have e2 : ((8 : Int32).toBitVec.smod 32) = 8#32 := by decide
    rw [e2, BitVec.sshiftRight_eq', BitVec.toNat_sshiftRight_of_msb_false (by rw [BitVec.msb_eq_false_iff_two_mul_lt]; omega)]
    show c.toBitVec.toNat >>> 8 % 256 = _
    rw [Nat.shiftRight_eq_div_pow]
    omega
  unfold pairCh
  apply Int32.toBitVec_inj.mp
  apply BitVec.eq_of_toNat_eq
  have f0 : ((0 : Int32) &&& 31) = 0 := by decide
  have f8 : ((8 : Int32) &&& 31) = 8 := by decide
  rw [f0, f8]
  have g : (((lo8 c &&& 255) <<< (0 : Int32)) ||| ((hi8 c &&& 255) <<< (8 : Int32))).toBitVec.toNat = c.toBitVec.toNat := by
    rw [Int32.toBitVec_or, Int32.toBitVec_shiftLeft, Int32.toBitVec_shiftLeft]
    have s0 : ((0 : Int32).toBitVec.smod 32) = 0#32 := by decide
    have s8 : ((8 : Int32).toBitVec.smod 32) = 8#32 := by decide
    rw [s0, s8, BitVec.toNat_or]
    simp only [BitVec.shiftLeft_eq', BitVec.toNat_shiftLeft, a1, a2]
    show (c.toBitVec.toNat % 256) <<< 0 % 2 ^ 32 ||| (c.toBitVec.toNat / 256) <<< 8 % 2 ^ 32 = _
    rw [Nat.shiftLeft_zero, Nat.mod_eq_of_lt (show c.toBitVec.toNat % 256 < 2 ^ 32 by omega), Nat.mod_eq_of_lt (show (c.toBitVec.toNat / 256) <<< 8 < 2 ^ 32 by rw [Nat.shiftLeft_eq]; omega), Nat.or_comm, ← Nat.shiftLeft_add_eq_or_of_lt (by omega), Nat.shiftLeft_eq]
    omega
  show BitVec.toNat (((((lo8 c &&& 255) <<< (0 : Int32)) ||| ((hi8 c &&& 255) <<< (8 : Int32))).toBitVec.setWidth 16).setWidth 32) = _
  rw [BitVec.toNat_setWidth, BitVec.toNat_setWidth, g]
  omega
end StrChars
namespace StrChars
open Jvm Sem ClassFile Op Lib Jvm.Stand Jvm.Free.XT Jvm.Free.ALB Jvm.Free.JM Jvm.Free
open Jvm.Lib.Cold (StaticIs)
/-- charAt's cast of a byte read back -/
def chr8 (u : Int32) : Int32 := (u &&& 255).toUInt32.toUInt16.toUInt32.toInt32
theorem chr8_lo8 {c : Int32} (h0 : ¬ c < 0) (h1 : ¬ 255 < c) : chr8 (lo8 c) = c := by
  have t : ∀ k : Fin 256, (Int32.ofNat k.val).toUInt32.toUInt16.toUInt32.toInt32 = Int32.ofNat k.val := by decide +kernel
  unfold chr8
  rw [lo8_mask h0 h1]
  rw [Int32.lt_iff_toInt_lt] at h0 h1
  have e0 : (0 : Int32).toInt = 0 := rfl
  have e1 : (255 : Int32).toInt = 255 := rfl
  obtain ⟨k, hk⟩ : ∃ k : Nat, c.toInt = k := ⟨c.toInt.toNat, by omega⟩
  have hx : c = Int32.ofNat k := Int32.toInt_inj.mp (by rw [hk, Int32.toInt_ofNat_small (by omega)])
  rw [hx]
  exact t ⟨k, by omega⟩
theorem narrow_ch {c : Int32} (h0 : ¬ c < 0) (h1 : ¬ 65535 < c) : narrow .char (.int c) = .int c := by
  have q : narrow .char (.int (pairCh (lo8 c) (hi8 c))) = .int (pairCh (lo8 c) (hi8 c)) := narrow_c _
  rwa [pair_says h0 h1] at q
/-- the array's cell V codes the n chars f 0 .. f (n - 1) by the coder cd, as the JDK does: coder 1 just where some char is above 255 -/
def Cod (cd : Int32) (n : Nat) (f : Nat → Int32) (V : Cell) : Prop := (cd = 0 ∧ V.slots.size = n ∧ ∀ j, j < n → V.slots[j]? = some (.int (lo8 (f j))) ∧ ¬ 255 < f j) ∨ (cd = 1 ∧ V.slots.size = 2 * n ∧ (∀ j, j < n → V.slots[2 * j]? = some (.int (lo8 (f j))) ∧ V.slots[2 * j + 1]? = some (.int (hi8 (f j)))) ∧ ∃ j, j < n ∧ 255 < f j)
theorem Cod.cd {cd : Int32} {n : Nat} {f : Nat → Int32} {V : Cell} (h : Cod cd n f V) : cd = 0 ∨ cd = 1 := h.imp (fun q => q.1) fun q => q.1
/-- **x is a String of the n chars f 0 .. f (n - 1)**, Latin-1 or UTF-16; its array at t has the cell V -/
def Txt (x t : Addr) (V : Cell) (cd : Int32) (n : Nat) (f : Nat → Int32) (U : State) : Prop := Exact "java/lang/String" x U ∧ Has x "java/lang/String" "value" "[B" (.ref t) U ∧ Has x "java/lang/String" "coder" "B" (.int cd) U ∧ XT.Arr .byte t V U ∧ Cod cd n f V ∧ ∀ j, j < n → ¬ f j < 0 ∧ ¬ 65535 < f j
theorem Txt.mv {x t : Addr} {V : Cell} {cd : Int32} {n : Nat} {f : Nat → Int32} {U U' : State} (h : Txt x t V cd n f U) (hal : U.vm.Alike U'.vm) (hh : U'.heap = U.heap) : Txt x t V cd n f U' := ⟨h.1.mv hal hh, h.2.1.mv hal hh, h.2.2.1.mv hal hh, h.2.2.2.1.mv hal hh, h.2.2.2.2⟩
namespace IsL
def yN : MethodName := ⟨"java/lang/String", "isLatin1", "()Z"⟩
abbrev yB : ByteArray := jdk_42_method_154_code
theorem d0 : decode yB 0 = .ok (.getstatic 38, 3) := by decide +kernel
theorem d3 : decode yB 3 = .ok (.ifCond (.eq) 14, 3) := by decide +kernel
theorem d6 : decode yB 6 = .ok (.aload_n 0, 1) := by decide +kernel
theorem d7 : decode yB 7 = .ok (.getfield 15, 3) := by decide +kernel
theorem d10 : decode yB 10 = .ok (.ifCond (.ne) 7, 3) := by decide +kernel
theorem d13 : decode yB 13 = .ok (.iconst 1, 1) := by decide +kernel
theorem d14 : decode yB 14 = .ok (.goto 4, 3) := by decide +kernel
theorem d17 : decode yB 17 = .ok (.iconst 0, 1) := by decide +kernel
theorem d18 : decode yB 18 = .ok (.ireturn, 1) := by decide +kernel
def site : List Cond := [.fieldLink "java/lang/String" 38 "java/lang/String" "COMPACT_STRINGS" "Z", .fieldLink "java/lang/String" 15 "java/lang/String" "coder" "B"]
def tab : Cond := tabOf yN yB 1 (some .boolean) site
def P (x : Addr) (cd z : Int32) (args : Array Value) (s : State) : Prop := args = #[.ref x] ∧ Has x "java/lang/String" "coder" "B" (.int cd) s ∧ (cd = 0 ∨ cd = 1) ∧ StaticIs s "java/lang/String" "COMPACT_STRINGS" "Z" (.int z) ∧ ¬ z = 0
def E (cd : Int32) (r : Option Value) (s u : State) : Prop := XT.PureE (some (.int (1 - cd))) r s u
theorem law (l : Launch) (x : Addr) (cd z : Int32) : Law l yN 1 0 0 0 yB 1 (some .boolean) site (P x cd z) (E cd) [] 0 0 := by
  refine Law.of_walk (plainFor_of_name (by decide +kernel)) (by decide +kernel) (by decide +kernel) (by decide) (fun _ _ h => by rw [h.1]; rfl) (fun _ U U' hal hh h => ⟨h.1, h.2.1.mv hal hh, h.2.2.1, h.2.2.2.1.there hal hh, h.2.2.2.2⟩) (fun r U U' V V' h1 hal h2 h => XT.PureE.mv r U U' V V' h1 hal h2 h) ?_
  intro p e s m args below meth c s₁ X0 hexec hbytes hml hret hlk hnm hown hh0 W hP
  obtain ⟨rfl, hx, hc, s1, hz⟩ := hP
  have c1 : Steps p.tables e below (s₁.setTop (entryFrame m #[.ref x] 1)) (s₁.setTop (mkF m 0 #[.val (.ref x)] [])) := entry rfl
  obtain ⟨T2, X2, q2, st2⟩ := X0.sget hexec hown (wk W (.fieldLink "java/lang/String" 38 "java/lang/String" "COMPACT_STRINGS" "Z")) s1 (fun _ _ h => by rw [hh0]; exact h) (g := (mkF m 0 #[.val (.ref x)] [])) rfl (hb hbytes d0)
  have hh2 := q2.trans hh0
  have c3 : Steps p.tables e below (s₁.setTop (entryFrame m #[.ref x] 1)) (T2.setTop (mkF m 7 #[.val (.ref x)] [.ref x])) := (c1.trans (st2 _ (Steps.refl _))).trans (by
    refine XS.ifNo X2.here hexec rfl (hb hbytes d3) rfl (i0_eq_f hz) ?_
    refine XS.aloadN X2.here hexec rfl (hb hbytes d6) rfl rfl ?_
    exact Steps.refl _)
  obtain ⟨T4, X4, q4, st4⟩ := X2.hget hexec hown (wk W (.fieldLink "java/lang/String" 15 "java/lang/String" "coder" "B")) (hx.mv X2.warmed.alike hh2) (g := (mkF m 7 #[.val (.ref x)] [.ref x])) rfl (rest := []) rfl (hb hbytes d7)
  have c5 : Steps p.tables e below (s₁.setTop (entryFrame m #[.ref x] 1)) (T4.setTop (mkF m 10 #[.val (.ref x)] [.int cd])) := c3.trans (st4 _ (Steps.refl _))
  have c6 : Steps p.tables e below (s₁.setTop (entryFrame m #[.ref x] 1)) (T4.setTop (mkF m 18 #[.val (.ref x)] [.int (1 - cd)])) := by
    rcases hc with rfl | rfl
    · exact c5.trans (by
        refine XS.ifNo X4.here hexec rfl (hb hbytes d10) rfl (i0_ne_f rfl) ?_
        refine iconstV X4.here hexec rfl 1 (hb hbytes d13) (by decide) ?_
        refine XS.goto X4.here hexec rfl (pc0 := 14) rfl (hb hbytes d14) (by decide) rfl ?_
        exact Steps.refl _)
    · exact c5.trans (by
        refine XS.ifYes X4.here hexec rfl (pc0 := 10) rfl (hb hbytes d10) rfl (i0_ne_t (by decide)) (by decide) rfl ?_
        refine iconstV X4.here hexec rfl 0 (hb hbytes d17) (by decide) ?_
        exact Steps.refl _)
  exact ⟨T4, some (.int (1 - cd)), _, _, _, X4, rfl, rfl, rfl, (fun h => by cases h), ⟨rfl, q4.trans hh2⟩, fun fs hl => c6.trans (X4.ireturnOut hexec hret (by rcases hc with rfl | rfl <;> rfl) (Or.inr (Or.inl rfl)) (hb hbytes d18) hl)⟩
end IsL
namespace LChA
def yN : MethodName := ⟨"java/lang/StringLatin1", "charAt", "([BI)C"⟩
abbrev yB : ByteArray := jdk_43_method_2_code
theorem d0 : decode yB 0 = .ok (.iload_n 1, 1) := by decide +kernel
theorem d1 : decode yB 1 = .ok (.aload_n 0, 1) := by decide +kernel
theorem d2 : decode yB 2 = .ok (.arraylength, 1) := by decide +kernel
theorem d3 : decode yB 3 = .ok (.invokestatic 9, 3) := by decide +kernel
theorem d6 : decode yB 6 = .ok (.aload_n 0, 1) := by decide +kernel
theorem d7 : decode yB 7 = .ok (.iload_n 1, 1) := by decide +kernel
theorem d8 : decode yB 8 = .ok (.baload, 1) := by decide +kernel
theorem d9 : decode yB 9 = .ok (.sipush 255, 3) := by decide +kernel
theorem d12 : decode yB 12 = .ok (.iand, 1) := by decide +kernel
theorem d13 : decode yB 13 = .ok (.i2c, 1) := by decide +kernel
theorem d14 : decode yB 14 = .ok (.ireturn, 1) := by decide +kernel
def site : List Cond := [JO.Str_checkIndex.tab] ++ staticW "java/lang/StringLatin1" 9 JO.Str_checkIndex.yN
def tab : Cond := tabOf yN yB 2 (some .char) site
def P (t : Addr) (V : Cell) (i : Nat) (u : Int32) (fm : Value) (args : Array Value) (s : State) : Prop := args = #[.ref t, .int (Int32.ofNat i)] ∧ XT.Arr .byte t V s ∧ V.slots[i]? = some (.int u) ∧ (StaticIs s "jdk/internal/util/Preconditions" "SIOOBE_FORMATTER" "Ljava/util/function/BiFunction;" fm ∧ fm.isRef = true)
def E (u : Int32) (r : Option Value) (s w : State) : Prop := XT.PureE (some (.int (chr8 u))) r s w
theorem law (l : Launch) (t : Addr) (V : Cell) (i : Nat) (u : Int32) (fm : Value) : Law l yN 2 2 2 27 yB 2 (some .char) site (P t V i u fm) (E u) [] 0 0 := by
  refine Law.of_walk (plainFor_of_name (by decide +kernel)) (by decide +kernel) (by decide +kernel) (by decide) (fun _ _ h => by rw [h.1]; rfl) (fun _ U U' hal hh h => ⟨h.1, h.2.1.mv hal hh, h.2.2.1, h.2.2.2.1.there hal hh, h.2.2.2.2⟩) (fun r U U' V V' h1 hal h2 h => XT.PureE.mv r U U' V V' h1 hal h2 h) ?_
  intro p e s m args below meth c s₁ X0 hexec hbytes hml hret hlk hnm hown hh0 W hP
  obtain ⟨rfl, hV, hu, s1, rf⟩ := hP
  have v31 := hV.2.2.2
  have hi : i < V.slots.size := (Array.getElem?_eq_some_iff.mp hu).1
  have c1 : Steps p.tables e below (s₁.setTop (entryFrame m #[.ref t, .int (Int32.ofNat i)] 2)) (s₁.setTop (mkF m 0 #[.val (.ref t), .val (.int (Int32.ofNat i))] [])) := entry rfl
  have c2 : Steps p.tables e below (s₁.setTop (entryFrame m #[.ref t, .int (Int32.ofNat i)] 2)) (s₁.setTop (mkF m 3 #[.val (.ref t), .val (.int (Int32.ofNat i))] [.int (Int32.ofNat V.slots.size), .int (Int32.ofNat i)])) := c1.trans (by
    refine XS.iloadN X0.here hexec rfl (hb hbytes d0) rfl ?_
    refine XS.aloadN X0.here hexec rfl (hb hbytes d1) rfl rfl ?_
    refine X0.alen hexec (hV.mv X0.warmed.alike hh0) rfl rfl (hb hbytes d2) ?_
    exact Steps.refl _)
  obtain ⟨v3, T3, X3, E3, g3⟩ := X0.callS hexec (JO.Str_checkIndex.law l (Int32.ofNat i) (Int32.ofNat V.slots.size) fm) hown (wks W (staticW "java/lang/StringLatin1" 9 JO.Str_checkIndex.yN)) (wk W JO.Str_checkIndex.tab) (W := 0) (Nat.le_of_ble_eq_true rfl) (Nat.le_of_ble_eq_true rfl) (Nat.le_refl _) (Nat.le_refl _) (g := (mkF m 3 #[.val (.ref t), .val (.int (Int32.ofNat i))] [.int (Int32.ofNat V.slots.size), .int (Int32.ofNat i)])) rfl (by rw [hml]; rfl) c2 (argsL := [.int (Int32.ofNat i), .int (Int32.ofNat V.slots.size)]) (rest := []) rfl rfl (by show 2 * 0 + 0 ≤ _; decide) (hb hbytes d3) (⟨rfl, rf, s1.there X0.warmed.alike hh0, Int32.ofNat_not_neg (by omega), lt32 v31 hi⟩)
  obtain ⟨rfl, q3⟩ := E3
  have hh3 := q3.trans hh0
  have c4 : Steps p.tables e below (s₁.setTop (entryFrame m #[.ref t, .int (Int32.ofNat i)] 2)) (T3.setTop (mkF m 14 #[.val (.ref t), .val (.int (Int32.ofNat i))] [.int (chr8 u)])) := Steps.trans g3 (by
    refine XS.aloadN X3.here hexec rfl (hb hbytes d6) rfl rfl ?_
    refine XS.iloadN X3.here hexec rfl (hb hbytes d7) rfl ?_
    refine X3.aget hexec (hV.mv X3.warmed.alike hh3) rfl hu rfl rfl (hb hbytes d8) ?_
    refine sipushV X3.here hexec rfl 255 (hb hbytes d9) (by decide) ?_
    refine XS.iand X3.here hexec rfl (hb hbytes d12) rfl ?_
    refine i2c X3.here hexec rfl (hb hbytes d13) rfl ?_
    exact Steps.refl _)
  exact ⟨T3, some (.int (chr8 u)), _, _, _, X3, rfl, rfl, rfl, (fun h => by cases h), ⟨rfl, hh3⟩, fun fs hl => c4.trans (X3.ireturnOut hexec hret (narrow_c _) (Or.inr (Or.inr (Or.inr (Or.inl rfl)))) (hb hbytes d14) hl)⟩
end LChA
end StrChars
namespace StrChars.Road
open Jvm Sem ClassFile Op Lib Jvm.Stand Jvm.Free Jvm.Free.XT
open Jvm.Lib.Cold (StaticIs)
theorem consq {a : Array Value} {s : State} {c : Jvm.Cond} {L : List Jvm.Cond} (h0 : c.before a s = true) (h : ∀ w ∈ L, w.before a s = true) : ∀ w ∈ c :: L, w.before a s = true := fun w hw => (List.mem_cons.mp hw).elim (fun e => e ▸ h0) (h w)
/-- the bytes of the chars cs, low before high -/
def wideBytes : List Int32 → List Value
  | [] => []
  | c :: cs => .int (lo8 c) :: .int (hi8 c) :: wideBytes cs
theorem wide_lo (d : Value) : ∀ (cs : List Int32) (j : Nat), j < cs.length → (wideBytes cs).getD (2 * j) d = .int (lo8 (cs.getD j 0))
  | [], j, h => absurd h (Nat.not_lt_zero j)
  | c :: cs, 0, _ => rfl
  | c :: cs, j + 1, h => by
    have q := wide_lo d cs j (by simpa using h)
    rw [show 2 * (j + 1) = 2 * j + 1 + 1 from by omega]
    simpa [wideBytes] using q
theorem wide_hi (d : Value) : ∀ (cs : List Int32) (j : Nat), j < cs.length → (wideBytes cs).getD (2 * j + 1) d = .int (hi8 (cs.getD j 0))
  | [], j, h => absurd h (Nat.not_lt_zero j)
  | c :: cs, 0, _ => rfl
  | c :: cs, j + 1, h => by
    have q := wide_hi d cs j (by simpa using h)
    rw [show 2 * (j + 1) + 1 = 2 * j + 1 + 1 + 1 from by omega]
    simpa [wideBytes] using q
theorem low_at (d : Value) (cs : List Int32) (j : Nat) (h : j < cs.length) : (cs.map fun c => Value.int (lo8 c)).getD j d = .int (lo8 (cs.getD j 0)) := by
  simp [List.getD_eq_getElem?_getD, h]
/-- an array of N2 bytes vs codes the chars cs by the coder cd -/
def CodA (cs : List Int32) (cd N2 : Int32) (vs : List Value) : Prop := (cd = 0 ∧ N2 = Int32.ofNat cs.length ∧ vs = (cs.map fun c => Value.int (lo8 c)) ∧ ∀ c ∈ cs, ¬ 255 < c) ∨ (cd = 1 ∧ N2 = Int32.ofNat (2 * cs.length) ∧ vs = wideBytes cs ∧ ∃ c ∈ cs, 255 < c)
theorem CodA.cod {cs : List Int32} {cd N2 : Int32} {vs : List Value} {V : Cell} (h : CodA cs cd N2 vs) (hn : 2 * cs.length < 2 ^ 31) (hs : V.slots.size = N2.toNatClampNeg) (hv : RoadKit.Has V vs (.int 0)) : Cod cd cs.length (fun j => cs.getD j 0) V := by
  rcases h with ⟨rfl, rfl, rfl, h⟩ | ⟨rfl, rfl, rfl, c, hc, hw⟩
  · rw [n32 (by omega)] at hs
    exact Or.inl ⟨rfl, hs, fun j hj => ⟨by rw [hv j (by omega), low_at _ _ _ hj], by
      have e : cs.getD j 0 = cs[j] := by simp [List.getD_eq_getElem?_getD, hj]
      show ¬ 255 < cs.getD j 0
      rw [e]; exact h _ (List.getElem_mem _)⟩⟩
  · rw [n32 (by omega)] at hs
    obtain ⟨j, hj, rfl⟩ := List.getElem_of_mem hc
    exact Or.inr ⟨rfl, hs, fun j hj => ⟨by rw [hv _ (by omega), wide_lo _ _ _ hj], by rw [hv _ (by omega), wide_hi _ _ _ hj]⟩, j, hj, by
      have e : cs.getD j 0 = cs[j] := by simp [List.getD_eq_getElem?_getD, hj]
      show 255 < cs.getD j 0
      rw [e]; exact hw⟩
/-- an object of exactly java/lang/String, its two fields found: as the laws ask it -/
theorem strObj {Z U : State} {a0 : Array Value} {kI : Nat} (wi : (Jvm.Cond.instantiable ST kI).before a0 Z = true) (al : Z.vm.Alike U.vm) {x : Addr} {v0 c0 : Value} (E : RoadKit.Exa Z U.heap x ST) (V : RoadKit.Fld Z U.heap x ST "value" "[B" v0) (C : RoadKit.Fld Z U.heap x ST "coder" "B" c0) :
    ∃ (D : Cell) (fV fC : Field), Blank ST x D U ∧ Found ST "value" "[B" fV U ∧ Found ST "coder" "B" fC U ∧ D.slots[fV.slot]? = some v0 ∧ D.slots[fC.slot]? = some c0 ∧ RoadKit.slotOf Z ST "value" "[B" = fV.slot ∧ RoadKit.slotOf Z ST "coder" "B" = fC.slot := by
  obtain ⟨D, cfV, kV, iV, fV, hD, gV, stV, knV, obV, asV, slV⟩ := V
  obtain ⟨D', cfC, kC, iC, fC, hD', gC, stC, -, -, asC, slC⟩ := C
  cases hD.symm.trans hD'
  obtain ⟨D2, kD, e1, e2, e3, e4, e5⟩ := E
  cases hD.symm.trans e1
  obtain ⟨c2, k2, i1, i2, i3, -⟩ := Cond.instantiable_spec wi
  cases e2.symm.trans i1
  cases e3.symm.trans i2
  obtain ⟨kU, u1, u2⟩ := al.2.2 _ _ e3
  exact ⟨D, fV, fC, ⟨hD, ⟨knV, fun q hq => by rw [hq] at obV; cases obV⟩, by rw [al.findClass]; exact e2, kU, u1, by rw [u2]; exact i3, by rw [u2]; exact e5 i3⟩, ⟨SBG.found_only al ⟨cfV, kV, iV, gV⟩, stV⟩, ⟨SBG.found_only al ⟨cfC, kC, iC, gC⟩, stC⟩, slV, slC, by simp [RoadKit.slotOf, gV], by simp [RoadKit.slotOf, gC]⟩
theorem sta_is {Z U : State} (al : Z.vm.Alike U.vm) {C n d : String} {v : Value} (S : RoadKit.Sta Z U.heap C n d v) : StaticIs U C n d v := by
  obtain ⟨cfS, iS, kS, fS, st, cS, t1, t2, t3, t4, t5, t6, t7⟩ := S
  exact StaticIs.there (s := { Z with heap := U.heap }) ⟨cfS, iS, kS, fS, st, cS, t1, t2, t3, t4, t5, (fun q => by rw [q] at t6; cases t6), t7⟩ al rfl
end StrChars.Road
namespace StrChars
open Jvm Sem ClassFile Op Lib Jvm.Stand Jvm.Free.XT Jvm.Free.ALB Jvm.Free.JM Jvm.Free
open Jvm.Lib.Cold (StaticIs)
/-- what place i of a byte[]'s cell holds -/
def yv (A : Cell) (i : Nat) : Int32 := match A.slots[i]? with | some (.int x) => x | _ => 0
theorem yv_get {a : Addr} {A : Cell} {U : State} (h : XT.Arr .byte a A U) (ht : Typed .byte A) {i : Nat} (hi : i < A.slots.size) : A.slots[i]? = some (.int (yv A i)) := by
  have e := Array.getElem?_eq_getElem hi
  have f := ht i _ e
  unfold yv; rw [e]
  generalize A.slots[i] = v at f
  cases v <;> simp [fits] at f ⊢
/-- the two arrays are equal, place for place -/
def EqC (A B : Cell) : Prop := A.slots.size = B.slots.size ∧ ∀ i, i < A.slots.size → yv A i = yv B i
/-- a boolean that says whether p -/
def Says01 (q : Prop) (r : Option Value) (s u : State) : Prop := ∃ v : Int32, r = some (.int v) ∧ u.heap = s.heap ∧ ((v = 1 ∧ q) ∨ (v = 0 ∧ ¬ q))
theorem Says01.mv {q : Prop} : ∀ r (U U' V V' : State), U'.heap = U.heap → V.vm.Alike V'.vm → V'.heap = V.heap → Says01 q r U V → Says01 q r U' V' :=
  fun r U U' V V' h1 _ h2 ⟨v, a, b, c⟩ => ⟨v, a, by rw [h1, h2]; exact b, c⟩
namespace LEq
def yN : MethodName := ⟨"java/lang/StringLatin1", "equals", "([B[B)Z"⟩
abbrev yB : ByteArray := jdk_43_method_13_code
theorem d0 : decode yB 0 = .ok (.aload_n 0, 1) := by decide +kernel
theorem d1 : decode yB 1 = .ok (.arraylength, 1) := by decide +kernel
theorem d2 : decode yB 2 = .ok (.aload_n 1, 1) := by decide +kernel
theorem d3 : decode yB 3 = .ok (.arraylength, 1) := by decide +kernel
theorem d4 : decode yB 4 = .ok (.if_icmp (.ne) 30, 3) := by decide +kernel
theorem d7 : decode yB 7 = .ok (.iconst 0, 1) := by decide +kernel
theorem d8 : decode yB 8 = .ok (.istore_n 2, 1) := by decide +kernel
theorem d9 : decode yB 9 = .ok (.iload_n 2, 1) := by decide +kernel
theorem d10 : decode yB 10 = .ok (.aload_n 0, 1) := by decide +kernel
theorem d11 : decode yB 11 = .ok (.arraylength, 1) := by decide +kernel
theorem d12 : decode yB 12 = .ok (.if_icmp (.ge) 20, 3) := by decide +kernel
theorem d15 : decode yB 15 = .ok (.aload_n 0, 1) := by decide +kernel
theorem d16 : decode yB 16 = .ok (.iload_n 2, 1) := by decide +kernel
theorem d17 : decode yB 17 = .ok (.baload, 1) := by decide +kernel
theorem d18 : decode yB 18 = .ok (.aload_n 1, 1) := by decide +kernel
theorem d19 : decode yB 19 = .ok (.iload_n 2, 1) := by decide +kernel
theorem d20 : decode yB 20 = .ok (.baload, 1) := by decide +kernel
theorem d21 : decode yB 21 = .ok (.if_icmp (.eq) 5, 3) := by decide +kernel
theorem d24 : decode yB 24 = .ok (.iconst 0, 1) := by decide +kernel
theorem d25 : decode yB 25 = .ok (.ireturn, 1) := by decide +kernel
theorem d26 : decode yB 26 = .ok (.iinc 2 1, 3) := by decide +kernel
theorem d29 : decode yB 29 = .ok (.goto (-20), 3) := by decide +kernel
theorem d32 : decode yB 32 = .ok (.iconst 1, 1) := by decide +kernel
theorem d33 : decode yB 33 = .ok (.ireturn, 1) := by decide +kernel
theorem d34 : decode yB 34 = .ok (.iconst 0, 1) := by decide +kernel
theorem d35 : decode yB 35 = .ok (.ireturn, 1) := by decide +kernel
def site : List Cond := []
def tab : Cond := tabOf yN yB 3 (some .boolean) site
def P (a : Addr) (A : Cell) (b : Addr) (B : Cell) (args : Array Value) (s : State) : Prop := args = #[.ref a, .ref b] ∧ XT.Arr .byte a A s ∧ Typed .byte A ∧ XT.Arr .byte b B s ∧ Typed .byte B
/-- whether two byte[] are equal, place for place -/
theorem law (l : Launch) (a : Addr) (A : Cell) (b : Addr) (B : Cell) : Law l yN 2 2 0 0 yB 3 (some .boolean) site (P a A b B) (Says01 (EqC A B)) [] 0 0 := by
  refine Law.of_walk (plainFor_of_name (by decide +kernel)) (by decide +kernel) (by decide +kernel) (by decide) (fun _ _ h => by rw [h.1]; rfl) (fun _ U U' hal hh h => ⟨h.1, h.2.1.mv hal hh, h.2.2.1, h.2.2.2.1.mv hal hh, h.2.2.2.2⟩) (fun r U U' V V' h1 hal h2 h => Says01.mv r U U' V V' h1 hal h2 h) ?_
  intro p e s m args below meth c s₁ X0 hexec hbytes hml hret hlk hnm hown hh0 W hP
  obtain ⟨rfl, hA, tA, hB, tB⟩ := hP
  have a31 := hA.2.2.2
  have b31 := hB.2.2.2
  have hA0 := hA.mv X0.warmed.alike hh0
  have hB0 := hB.mv X0.warmed.alike hh0
  have c1 : Steps p.tables e below (s₁.setTop (entryFrame m #[.ref a, .ref b] 3)) (s₁.setTop (mkF m 0 #[.val (.ref a), .val (.ref b), .unset] [])) := entry rfl
  have c2 : Steps p.tables e below (s₁.setTop (entryFrame m #[.ref a, .ref b] 3)) (s₁.setTop (mkF m 4 #[.val (.ref a), .val (.ref b), .unset] [.int (Int32.ofNat B.slots.size), .int (Int32.ofNat A.slots.size)])) := c1.trans (by
    refine XS.aloadN X0.here hexec rfl (hb hbytes d0) rfl rfl ?_
    refine X0.alen hexec hA0 rfl rfl (hb hbytes d1) ?_
    refine XS.aloadN X0.here hexec rfl (hb hbytes d2) rfl rfl ?_
    refine X0.alen hexec hB0 rfl rfl (hb hbytes d3) ?_
    exact Steps.refl _)
  by_cases hs : A.slots.size = B.slots.size
  · have c3 : Steps p.tables e below (s₁.setTop (entryFrame m #[.ref a, .ref b] 3)) (s₁.setTop (mkF m 9 #[.val (.ref a), .val (.ref b), .val (.int 0)] [])) := c2.trans (by
      refine XS.icmpNo X0.here hexec rfl (hb hbytes d4) rfl (ii_ne_f (by rw [hs])) ?_
      refine iconstV X0.here hexec rfl 0 (hb hbytes d7) (by decide) ?_
      refine XS.istoreN X0.here hexec rfl (hb hbytes d8) rfl rfl ?_
      exact Steps.refl _)
    have loop : ∀ (r i : Nat), i + r = A.slots.size → (∀ j, j < i → yv A j = yv B j) → Steps p.tables e below (s₁.setTop (entryFrame m #[.ref a, .ref b] 3)) (s₁.setTop (mkF m 9 #[.val (.ref a), .val (.ref b), .val (.int (Int32.ofNat i))] [])) → ∃ (pc : Nat) (Ls : Array Slot) (v : Int32), (pc = 25 ∨ pc = 33) ∧ ((v = 1 ∧ EqC A B) ∨ (v = 0 ∧ ¬ EqC A B)) ∧ Steps p.tables e below (s₁.setTop (entryFrame m #[.ref a, .ref b] 3)) (s₁.setTop (mkF m pc Ls [.int v])) := by
      intro r
      induction r with
      | zero =>
        intro i hi he cl
        exact ⟨33, _, 1, Or.inr rfl, Or.inl ⟨rfl, hs, fun j hj => he j (by omega)⟩, cl.trans (by
          refine XS.iloadN X0.here hexec rfl (hb hbytes d9) rfl ?_
          refine XS.aloadN X0.here hexec rfl (hb hbytes d10) rfl rfl ?_
          refine X0.alen hexec hA0 rfl rfl (hb hbytes d11) ?_
          refine XS.icmpYes X0.here hexec rfl (pc0 := 12) rfl (hb hbytes d12) rfl (ii_ge_t (nlt32 (by omega) (by omega))) (by decide) rfl ?_
          refine iconstV X0.here hexec rfl 1 (hb hbytes d32) (by decide) ?_
          exact Steps.refl _)⟩
      | succ r ih =>
        intro i hi he cl
        have c4 : Steps p.tables e below (s₁.setTop (entryFrame m #[.ref a, .ref b] 3)) (s₁.setTop (mkF m 21 #[.val (.ref a), .val (.ref b), .val (.int (Int32.ofNat i))] [.int (yv B i), .int (yv A i)])) := cl.trans (by
          refine XS.iloadN X0.here hexec rfl (hb hbytes d9) rfl ?_
          refine XS.aloadN X0.here hexec rfl (hb hbytes d10) rfl rfl ?_
          refine X0.alen hexec hA0 rfl rfl (hb hbytes d11) ?_
          refine XS.icmpNo X0.here hexec rfl (hb hbytes d12) rfl (ii_ge_f (lt32 (by omega) (by omega))) ?_
          refine XS.aloadN X0.here hexec rfl (hb hbytes d15) rfl rfl ?_
          refine XS.iloadN X0.here hexec rfl (hb hbytes d16) rfl ?_
          refine X0.aget hexec hA0 rfl (yv_get hA tA (i := i) (by omega)) rfl rfl (hb hbytes d17) ?_
          refine XS.aloadN X0.here hexec rfl (hb hbytes d18) rfl rfl ?_
          refine XS.iloadN X0.here hexec rfl (hb hbytes d19) rfl ?_
          refine X0.aget hexec hB0 rfl (yv_get hB tB (i := i) (by omega)) rfl rfl (hb hbytes d20) ?_
          exact Steps.refl _)
        by_cases hv : yv A i = yv B i
        · have c5 : Steps p.tables e below (s₁.setTop (entryFrame m #[.ref a, .ref b] 3)) (s₁.setTop (mkF m 9 #[.val (.ref a), .val (.ref b), .val (.int (Int32.ofNat i + 1))] [])) := c4.trans (by
            refine XS.icmpYes X0.here hexec rfl (pc0 := 21) rfl (hb hbytes d21) rfl (ii_eq_t hv) (by decide) rfl ?_
            refine iincV X0.here hexec rfl 1 (hb hbytes d26) (by decide) rfl rfl ?_
            refine XS.goto X0.here hexec rfl (pc0 := 29) rfl (hb hbytes d29) (by decide) rfl ?_
            exact Steps.refl _)
          rw [succ32] at c5
          exact ih (i + 1) (by omega) (fun j hj => by
            by_cases e : j = i
            · rw [e]; exact hv
            · exact he j (by omega)) c5
        · exact ⟨25, _, 0, Or.inl rfl, Or.inr ⟨rfl, fun q => hv (q.2 i (by omega))⟩, c4.trans (by
            refine XS.icmpNo X0.here hexec rfl (hb hbytes d21) rfl (ii_eq_f hv) ?_
            refine iconstV X0.here hexec rfl 0 (hb hbytes d24) (by decide) ?_
            exact Steps.refl _)⟩
    obtain ⟨pc, Ls, v, hpc, hv, cz⟩ := loop A.slots.size 0 (by omega) (fun j hj => absurd hj (Nat.not_lt_zero j)) c3
    have nv : narrow .boolean (.int v) = .int v := by rcases hv with ⟨rfl, -⟩ | ⟨rfl, -⟩ <;> rfl
    rcases hpc with rfl | rfl
    · exact ⟨s₁, some (.int v), _, _, _, X0, rfl, rfl, rfl, (fun h => by cases h), ⟨v, rfl, hh0, hv⟩, fun fs hl => cz.trans (X0.ireturnOut hexec hret nv (Or.inr (Or.inl rfl)) (hb hbytes d25) hl)⟩
    · exact ⟨s₁, some (.int v), _, _, _, X0, rfl, rfl, rfl, (fun h => by cases h), ⟨v, rfl, hh0, hv⟩, fun fs hl => cz.trans (X0.ireturnOut hexec hret nv (Or.inr (Or.inl rfl)) (hb hbytes d33) hl)⟩
  · have c3 : Steps p.tables e below (s₁.setTop (entryFrame m #[.ref a, .ref b] 3)) (s₁.setTop (mkF m 35 #[.val (.ref a), .val (.ref b), .unset] [.int 0])) := c2.trans (by
      refine XS.icmpYes X0.here hexec rfl (pc0 := 4) rfl (hb hbytes d4) rfl (ii_ne_t (ne32 a31 b31 hs)) (by decide) rfl ?_
      refine iconstV X0.here hexec rfl 0 (hb hbytes d34) (by decide) ?_
      exact Steps.refl _)
    exact ⟨s₁, some (.int 0), _, _, _, X0, rfl, rfl, rfl, (fun h => by cases h), ⟨0, rfl, hh0, Or.inr ⟨rfl, fun q => hs q.1⟩⟩, fun fs hl => c3.trans (X0.ireturnOut hexec hret rfl (Or.inr (Or.inl rfl)) (hb hbytes d35) hl)⟩
end LEq
theorem Cod.ty {cd : Int32} {n : Nat} {f : Nat → Int32} {V : Cell} (h : Cod cd n f V) : Typed .byte V := fun i v hv => by
  have hi : i < V.slots.size := (Array.getElem?_eq_some_iff.mp hv).1
  rcases h with ⟨-, k1, k2⟩ | ⟨-, k1, k2, -⟩
  · rw [(k2 i (by omega)).1] at hv; cases hv; exact fits_lo8 _
  · rcases Nat.mod_two_eq_zero_or_one i with e | e
    · obtain ⟨j, rfl⟩ : ∃ j, i = 2 * j := ⟨i / 2, by omega⟩
      rw [(k2 j (by omega)).1] at hv; cases hv; exact fits_lo8 _
    · obtain ⟨j, rfl⟩ : ∃ j, i = 2 * j + 1 := ⟨i / 2, by omega⟩
      rw [(k2 j (by omega)).2] at hv; cases hv; exact fits_lo8 _
/-- the same text -/
def SameT (n : Nat) (f : Nat → Int32) (k : Nat) (g : Nat → Int32) : Prop := n = k ∧ ∀ j, j < n → f j = g j
theorem lo8_inj {x y : Int32} (h0 : ¬ x < 0) (h1 : ¬ 255 < x) (k0 : ¬ y < 0) (k1 : ¬ 255 < y) (h : lo8 x = lo8 y) : x = y := by
  rw [← lo8_mask h0 h1, ← lo8_mask k0 k1, h]
/-- arrays coded by one coder are equal just where the texts are -/
theorem Cod.eqv {cd : Int32} {n k : Nat} {f g : Nat → Int32} {V V' : Cell} (h : Cod cd n f V) (h' : Cod cd k g V') (hf : ∀ j, j < n → ¬ f j < 0 ∧ ¬ 65535 < f j) (hg : ∀ j, j < k → ¬ g j < 0 ∧ ¬ 65535 < g j) : EqC V V' ↔ SameT n f k g := by
  have yvv : ∀ {W : Cell} {i : Nat} {x : Int32}, W.slots[i]? = some (.int x) → yv W i = x := fun q => by unfold yv; rw [q]
  rcases h with ⟨rfl, k1, k2⟩ | ⟨rfl, k1, k2, -⟩
  · rcases h' with ⟨-, m1, m2⟩ | ⟨e, -⟩
    · constructor
      · rintro ⟨e1, e2⟩
        refine ⟨by omega, fun j hj => ?_⟩
        have q := e2 j (by omega)
        rw [yvv (k2 j hj).1, yvv (m2 j (by omega)).1] at q
        exact lo8_inj (hf j hj).1 (k2 j hj).2 (hg j (by omega)).1 (m2 j (by omega)).2 q
      · rintro ⟨rfl, e2⟩
        refine ⟨by omega, fun j hj => ?_⟩
        rw [yvv (k2 j (by omega)).1, yvv (m2 j (by omega)).1, e2 j (by omega)]
    · exact absurd e (by decide)
  · rcases h' with ⟨e, -⟩ | ⟨-, m1, m2, -⟩
    · exact absurd e (by decide)
    · constructor
      · rintro ⟨e1, e2⟩
        refine ⟨by omega, fun j hj => ?_⟩
        have q1 := e2 (2 * j) (by omega)
        have q2 := e2 (2 * j + 1) (by omega)
        rw [yvv (k2 j hj).1, yvv (m2 j (by omega)).1] at q1
        rw [yvv (k2 j hj).2, yvv (m2 j (by omega)).2] at q2
        rw [← pair_says (hf j hj).1 (hf j hj).2, ← pair_says (hg j (by omega)).1 (hg j (by omega)).2, q1, q2]
      · rintro ⟨rfl, e2⟩
        refine ⟨by omega, fun i hi => ?_⟩
        rcases Nat.mod_two_eq_zero_or_one i with e | e
        · obtain ⟨j, rfl⟩ : ∃ j, i = 2 * j := ⟨i / 2, by omega⟩
          rw [yvv (k2 j (by omega)).1, yvv (m2 j (by omega)).1, e2 j (by omega)]
        · obtain ⟨j, rfl⟩ : ∃ j, i = 2 * j + 1 := ⟨i / 2, by omega⟩
          rw [yvv (k2 j (by omega)).2, yvv (m2 j (by omega)).2, e2 j (by omega)]
/-- two codings differ: so do the texts -/
theorem Cod.dif {cd cd' : Int32} {n k : Nat} {f g : Nat → Int32} {V V' : Cell} (h : Cod cd n f V) (h' : Cod cd' k g V') (hne : ¬ cd = cd') : ¬ SameT n f k g := by
  rintro ⟨rfl, e⟩
  rcases h with ⟨rfl, -, k2⟩ | ⟨rfl, -, -, j, hj, hw⟩
  · rcases h' with ⟨rfl, -⟩ | ⟨-, -, -, j, hj, hw⟩
    · exact hne rfl
    · exact (k2 j hj).2 (by rw [e j hj]; exact hw)
  · rcases h' with ⟨-, -, m2⟩ | ⟨rfl, -⟩
    · exact (m2 j hj).2 (by rw [← e j hj]; exact hw)
    · exact hne rfl
/-- an object of exactly C is an instance of C -/
theorem cinst {p : Program} {l : Launch} {e : Env} {R : Room} {s : State} {m : MethodId} {args : Array Value} {below : List Frame} {meth : Method} {c : Code} {T : State} {locs : List Loc} {cells slots : Nat} (X : Stand p l e R s m args below meth c T locs cells slots) (hexec : p.tables.exec = Jvm.exec) {own C : String} {index : Nat} (hown : s.vm.findClass own = some m.cls) (hlink : (Cond.classLink own index C).before args s = true) {a : Addr} (hE : Exact C a T)
    {g : JFrame} (hg : g.method = m) {rest : List Value} (hstack : g.stack = .ref a :: rest) (hdg : decode c.code g.pc = .ok (.instanceof index, 3)) :
    ∃ T', Stand p l e R s m args below meth c T' locs cells slots ∧ T'.heap = T.heap ∧ ∀ target, Steps p.tables e below (T'.setTop { g with pc := g.pc + 3, stack := .int 1 :: rest }) target → Steps p.tables e below (T.setTop g) target := by
  obtain ⟨cB, h1, D, h2, h3, h4⟩ := hE
  have h1' : s.vm.findClass C = some cB := by rw [← X.warmed.alike.findClass]; exact h1
  obtain ⟨vm', X', st⟩ := X.instanceofYes hexec hown hlink h2 h4 h1' (by rw [h3]; exact Jvm.Free.SB.assignable_self _ _) hg hstack hdg
  exact ⟨_, X', rfl, st⟩
theorem cself {p : Program} {l : Launch} {e : Env} {R : Room} {s : State} {m : MethodId} {args : Array Value} {below : List Frame} {meth : Method} {c : Code} {T : State} {locs : List Loc} {cells slots : Nat} (X : Stand p l e R s m args below meth c T locs cells slots) (hexec : p.tables.exec = Jvm.exec) {own C : String} {index : Nat} (hown : s.vm.findClass own = some m.cls) (hlink : (Cond.classLink own index C).before args s = true) {a : Addr} (hE : Exact C a T)
    {g : JFrame} (hg : g.method = m) {rest : List Value} (hstack : g.stack = .ref a :: rest) (hdg : decode c.code g.pc = .ok (.checkcast index, 3)) :
    ∃ T', Stand p l e R s m args below meth c T' locs cells slots ∧ T'.heap = T.heap ∧ ∀ target, Steps p.tables e below (T'.setTop { g with pc := g.pc + 3, stack := .ref a :: rest }) target → Steps p.tables e below (T.setTop g) target := by
  obtain ⟨cB, h1, D, h2, h3, h4⟩ := hE
  have h1' : s.vm.findClass C = some cB := by rw [← X.warmed.alike.findClass]; exact h1
  obtain ⟨vm', X', st⟩ := X.checkcastYes hexec hown hlink h2 h4 h1' (by rw [h3]; exact Jvm.Free.SB.assignable_self _ _) hg hstack hdg
  exact ⟨_, X', rfl, fun t h => st t (by rw [← hstack] at h; exact h)⟩
namespace SEq
def yN : MethodName := ⟨"java/lang/String", "equals", "(Ljava/lang/Object;)Z"⟩
abbrev yB : ByteArray := jdk_42_method_66_code
theorem d0 : decode yB 0 = .ok (.aload_n 0, 1) := by decide +kernel
theorem d1 : decode yB 1 = .ok (.aload_n 1, 1) := by decide +kernel
theorem d2 : decode yB 2 = .ok (.if_acmp (.ne) 5, 3) := by decide +kernel
theorem d5 : decode yB 5 = .ok (.iconst 1, 1) := by decide +kernel
theorem d6 : decode yB 6 = .ok (.ireturn, 1) := by decide +kernel
theorem d7 : decode yB 7 = .ok (.aload_n 1, 1) := by decide +kernel
theorem d8 : decode yB 8 = .ok (.instanceof 10, 3) := by decide +kernel
theorem d11 : decode yB 11 = .ok (.ifCond (.eq) 43, 3) := by decide +kernel
theorem d14 : decode yB 14 = .ok (.aload_n 1, 1) := by decide +kernel
theorem d15 : decode yB 15 = .ok (.checkcast 10, 3) := by decide +kernel
theorem d18 : decode yB 18 = .ok (.astore_n 2, 1) := by decide +kernel
theorem d19 : decode yB 19 = .ok (.getstatic 38, 3) := by decide +kernel
theorem d22 : decode yB 22 = .ok (.ifCond (.eq) 14, 3) := by decide +kernel
theorem d25 : decode yB 25 = .ok (.aload_n 0, 1) := by decide +kernel
theorem d26 : decode yB 26 = .ok (.getfield 15, 3) := by decide +kernel
theorem d29 : decode yB 29 = .ok (.aload_n 2, 1) := by decide +kernel
theorem d30 : decode yB 30 = .ok (.getfield 15, 3) := by decide +kernel
theorem d33 : decode yB 33 = .ok (.if_icmp (.ne) 21, 3) := by decide +kernel
theorem d36 : decode yB 36 = .ok (.aload_n 0, 1) := by decide +kernel
theorem d37 : decode yB 37 = .ok (.getfield 9, 3) := by decide +kernel
theorem d40 : decode yB 40 = .ok (.aload_n 2, 1) := by decide +kernel
theorem d41 : decode yB 41 = .ok (.getfield 9, 3) := by decide +kernel
theorem d44 : decode yB 44 = .ok (.invokestatic 541, 3) := by decide +kernel
theorem d47 : decode yB 47 = .ok (.ifCond (.eq) 7, 3) := by decide +kernel
theorem d50 : decode yB 50 = .ok (.iconst 1, 1) := by decide +kernel
theorem d51 : decode yB 51 = .ok (.goto 4, 3) := by decide +kernel
theorem d54 : decode yB 54 = .ok (.iconst 0, 1) := by decide +kernel
theorem d55 : decode yB 55 = .ok (.ireturn, 1) := by decide +kernel
def site : List Cond := [.classLink "java/lang/String" 10 "java/lang/String", .fieldLink "java/lang/String" 38 "java/lang/String" "COMPACT_STRINGS" "Z", .fieldLink "java/lang/String" 15 "java/lang/String" "coder" "B", .fieldLink "java/lang/String" 9 "java/lang/String" "value" "[B", LEq.tab] ++ staticW "java/lang/String" 541 LEq.yN
def tab : Cond := tabOf yN yB 3 (some .boolean) site
def P (x t : Addr) (V : Cell) (cd : Int32) (n : Nat) (f : Nat → Int32) (y t' : Addr) (V' : Cell) (cd' : Int32) (k : Nat) (g : Nat → Int32) (z : Int32) (args : Array Value) (s : State) : Prop := args = #[.ref x, .ref y] ∧ Txt x t V cd n f s ∧ Txt y t' V' cd' k g s ∧ StaticIs s "java/lang/String" "COMPACT_STRINGS" "Z" (.int z) ∧ ¬ z = 0
/-- equals(Object) of two Strings: whether the texts are the same -/
theorem law (l : Launch) (x t : Addr) (V : Cell) (cd : Int32) (n : Nat) (f : Nat → Int32) (y t' : Addr) (V' : Cell) (cd' : Int32) (k : Nat) (g : Nat → Int32) (z : Int32) : Law l yN 2 1 1 14 yB 3 (some .boolean) site (P x t V cd n f y t' V' cd' k g z) (Says01 (SameT n f k g)) [] 0 0 := by
  refine Law.of_walk (plainFor_of_name (by decide +kernel)) (by decide +kernel) (by decide +kernel) (by decide) (fun _ _ h => by rw [h.1]; rfl) (fun _ U U' hal hh h => ⟨h.1, h.2.1.mv hal hh, h.2.2.1.mv hal hh, h.2.2.2.1.there hal hh, h.2.2.2.2⟩) (fun r U U' V V' h1 hal h2 h => Says01.mv r U U' V V' h1 hal h2 h) ?_
  intro p e s m args below meth c s₁ X0 hexec hbytes hml hret hlk hnm hown hh0 W hP
  obtain ⟨rfl, hx, hy, s1, hz⟩ := hP
  have c1 : Steps p.tables e below (s₁.setTop (entryFrame m #[.ref x, .ref y] 3)) (s₁.setTop (mkF m 2 #[.val (.ref x), .val (.ref y), .unset] [.ref y, .ref x])) := Steps.trans (entry rfl) (by
    show Steps p.tables e below (s₁.setTop (mkF m 0 #[.val (.ref x), .val (.ref y), .unset] [])) _
    refine XS.aloadN X0.here hexec rfl (hb hbytes d0) rfl rfl ?_
    refine XS.aloadN X0.here hexec rfl (hb hbytes d1) rfl rfl ?_
    exact Steps.refl _)
  by_cases hxy : x = y
  · have c2 : Steps p.tables e below (s₁.setTop (entryFrame m #[.ref x, .ref y] 3)) (s₁.setTop (mkF m 6 #[.val (.ref x), .val (.ref y), .unset] [.int 1])) := c1.trans (by
      refine acmpNo X0.here hexec rfl (hb hbytes d2) rfl rfl rfl (by simp [acmp, hxy]) ?_
      refine iconstV X0.here hexec rfl 1 (hb hbytes d5) (by decide) ?_
      exact Steps.refl _)
    subst hxy
    have ec : cd = cd' := by
      obtain ⟨D, fd, a1, a2, a3⟩ := hx.2.2.1
      obtain ⟨D', fd', b1, b2, b3⟩ := hy.2.2.1
      cases a1.symm.trans b1
      obtain ⟨q1, q2, q3, q4⟩ := a2.1
      obtain ⟨r1, r2, r3, r4⟩ := b2.1
      cases q4.symm.trans r4
      cases a3.symm.trans b3; rfl
    have et : t = t' := by
      obtain ⟨D, fd, a1, a2, a3⟩ := hx.2.1
      obtain ⟨D', fd', b1, b2, b3⟩ := hy.2.1
      cases a1.symm.trans b1
      obtain ⟨q1, q2, q3, q4⟩ := a2.1
      obtain ⟨r1, r2, r3, r4⟩ := b2.1
      cases q4.symm.trans r4
      cases a3.symm.trans b3; rfl
    subst ec et
    have ev : V = V' := by cases hx.2.2.2.1.1.symm.trans hy.2.2.2.1.1; rfl
    subst ev
    have hs : SameT n f k g := (Cod.eqv hx.2.2.2.2.1 hy.2.2.2.2.1 hx.2.2.2.2.2 hy.2.2.2.2.2).mp ⟨rfl, fun _ _ => rfl⟩
    exact ⟨s₁, some (.int 1), _, _, _, X0, rfl, rfl, rfl, (fun h => by cases h), ⟨1, rfl, hh0, Or.inl ⟨rfl, hs⟩⟩, fun fs hl => c2.trans (X0.ireturnOut hexec hret rfl (Or.inr (Or.inl rfl)) (hb hbytes d6) hl)⟩
  · have c2 : Steps p.tables e below (s₁.setTop (entryFrame m #[.ref x, .ref y] 3)) (s₁.setTop (mkF m 8 #[.val (.ref x), .val (.ref y), .unset] [.ref y])) := c1.trans (by
      refine acmpYes X0.here hexec rfl (pc0 := 2) rfl (hb hbytes d2) rfl rfl rfl (by simp [acmp, hxy]) (by decide) rfl ?_
      refine XS.aloadN X0.here hexec rfl (hb hbytes d7) rfl rfl ?_
      exact Steps.refl _)
    obtain ⟨T3, X3, q3, st3⟩ := cinst X0 hexec hown (wk W (.classLink "java/lang/String" 10 "java/lang/String")) (hy.mv X0.warmed.alike hh0).1 (g := (mkF m 8 #[.val (.ref x), .val (.ref y), .unset] [.ref y])) rfl (rest := []) rfl (hb hbytes d8)
    have hh3 := q3.trans hh0
    have c4 : Steps p.tables e below (s₁.setTop (entryFrame m #[.ref x, .ref y] 3)) (T3.setTop (mkF m 15 #[.val (.ref x), .val (.ref y), .unset] [.ref y])) := (c2.trans (st3 _ (Steps.refl _))).trans (by
      refine XS.ifNo X3.here hexec rfl (hb hbytes d11) rfl (i0_eq_f (by decide)) ?_
      refine XS.aloadN X3.here hexec rfl (hb hbytes d14) rfl rfl ?_
      exact Steps.refl _)
    obtain ⟨T5, X5, q5, st5⟩ := cself X3 hexec hown (wk W (.classLink "java/lang/String" 10 "java/lang/String")) (hy.mv X3.warmed.alike hh3).1 (g := (mkF m 15 #[.val (.ref x), .val (.ref y), .unset] [.ref y])) rfl (rest := []) rfl (hb hbytes d15)
    have hh5 := q5.trans hh3
    have c6 : Steps p.tables e below (s₁.setTop (entryFrame m #[.ref x, .ref y] 3)) (T5.setTop (mkF m 19 #[.val (.ref x), .val (.ref y), .val (.ref y)] [])) := (c4.trans (st5 _ (Steps.refl _))).trans (by
      refine XS.astoreN X5.here hexec rfl (hb hbytes d18) rfl rfl rfl ?_
      exact Steps.refl _)
    obtain ⟨T7, X7, q7, st7⟩ := X5.sget hexec hown (wk W (.fieldLink "java/lang/String" 38 "java/lang/String" "COMPACT_STRINGS" "Z")) s1 (fun _ _ h => by rw [hh5]; exact h) (g := (mkF m 19 #[.val (.ref x), .val (.ref y), .val (.ref y)] [])) rfl (hb hbytes d19)
    have hh7 := q7.trans hh5
    have c8 : Steps p.tables e below (s₁.setTop (entryFrame m #[.ref x, .ref y] 3)) (T7.setTop (mkF m 26 #[.val (.ref x), .val (.ref y), .val (.ref y)] [.ref x])) := (c6.trans (st7 _ (Steps.refl _))).trans (by
      refine XS.ifNo X7.here hexec rfl (hb hbytes d22) rfl (i0_eq_f hz) ?_
      refine XS.aloadN X7.here hexec rfl (hb hbytes d25) rfl rfl ?_
      exact Steps.refl _)
    obtain ⟨T9, X9, q9, st9⟩ := X7.hget hexec hown (wk W (.fieldLink "java/lang/String" 15 "java/lang/String" "coder" "B")) (hx.mv X7.warmed.alike hh7).2.2.1 (g := (mkF m 26 #[.val (.ref x), .val (.ref y), .val (.ref y)] [.ref x])) rfl (rest := []) rfl (hb hbytes d26)
    have hh9 := q9.trans hh7
    have c10 : Steps p.tables e below (s₁.setTop (entryFrame m #[.ref x, .ref y] 3)) (T9.setTop (mkF m 30 #[.val (.ref x), .val (.ref y), .val (.ref y)] [.ref y, .int cd])) := (c8.trans (st9 _ (Steps.refl _))).trans (by
      refine XS.aloadN X9.here hexec rfl (hb hbytes d29) rfl rfl ?_
      exact Steps.refl _)
    obtain ⟨T11, X11, q11, st11⟩ := X9.hget hexec hown (wk W (.fieldLink "java/lang/String" 15 "java/lang/String" "coder" "B")) (hy.mv X9.warmed.alike hh9).2.2.1 (g := (mkF m 30 #[.val (.ref x), .val (.ref y), .val (.ref y)] [.ref y, .int cd])) rfl (rest := [.int cd]) rfl (hb hbytes d30)
    have hh11 := q11.trans hh9
    have c12 : Steps p.tables e below (s₁.setTop (entryFrame m #[.ref x, .ref y] 3)) (T11.setTop (mkF m 33 #[.val (.ref x), .val (.ref y), .val (.ref y)] [.int cd', .int cd])) := c10.trans (st11 _ (Steps.refl _))
    by_cases hcd : cd = cd'
    · subst hcd
      have c13 : Steps p.tables e below (s₁.setTop (entryFrame m #[.ref x, .ref y] 3)) (T11.setTop (mkF m 37 #[.val (.ref x), .val (.ref y), .val (.ref y)] [.ref x])) := c12.trans (by
        refine XS.icmpNo X11.here hexec rfl (hb hbytes d33) rfl (ii_ne_f rfl) ?_
        refine XS.aloadN X11.here hexec rfl (hb hbytes d36) rfl rfl ?_
        exact Steps.refl _)
      obtain ⟨T14, X14, q14, st14⟩ := X11.hget hexec hown (wk W (.fieldLink "java/lang/String" 9 "java/lang/String" "value" "[B")) (hx.mv X11.warmed.alike hh11).2.1 (g := (mkF m 37 #[.val (.ref x), .val (.ref y), .val (.ref y)] [.ref x])) rfl (rest := []) rfl (hb hbytes d37)
      have hh14 := q14.trans hh11
      have c15 : Steps p.tables e below (s₁.setTop (entryFrame m #[.ref x, .ref y] 3)) (T14.setTop (mkF m 41 #[.val (.ref x), .val (.ref y), .val (.ref y)] [.ref y, .ref t])) := (c13.trans (st14 _ (Steps.refl _))).trans (by
        refine XS.aloadN X14.here hexec rfl (hb hbytes d40) rfl rfl ?_
        exact Steps.refl _)
      obtain ⟨T16, X16, q16, st16⟩ := X14.hget hexec hown (wk W (.fieldLink "java/lang/String" 9 "java/lang/String" "value" "[B")) (hy.mv X14.warmed.alike hh14).2.1 (g := (mkF m 41 #[.val (.ref x), .val (.ref y), .val (.ref y)] [.ref y, .ref t])) rfl (rest := [.ref t]) rfl (hb hbytes d41)
      have hh16 := q16.trans hh14
      have c17 : Steps p.tables e below (s₁.setTop (entryFrame m #[.ref x, .ref y] 3)) (T16.setTop (mkF m 44 #[.val (.ref x), .val (.ref y), .val (.ref y)] [.ref t', .ref t])) := c15.trans (st16 _ (Steps.refl _))
      obtain ⟨v18, T18, X18, E18, g18⟩ := X16.callS hexec (LEq.law l t V t' V') hown (wks W (staticW "java/lang/String" 541 LEq.yN)) (wk W LEq.tab) (W := 0) (Nat.le_of_ble_eq_true rfl) (Nat.le_of_ble_eq_true rfl) (Nat.le_refl _) (Nat.le_refl _) (g := (mkF m 44 #[.val (.ref x), .val (.ref y), .val (.ref y)] [.ref t', .ref t])) rfl (by rw [hml]; rfl) c17 (argsL := [.ref t, .ref t']) (rest := []) rfl rfl (by show 2 * 0 + 0 ≤ _; decide) (hb hbytes d44) (⟨rfl, hx.2.2.2.1.mv X16.warmed.alike hh16, hx.2.2.2.2.1.ty, hy.2.2.2.1.mv X16.warmed.alike hh16, hy.2.2.2.2.1.ty⟩)
      obtain ⟨v, rfl, q18, hv⟩ := E18
      have iff := Cod.eqv hx.2.2.2.2.1 hy.2.2.2.2.1 hx.2.2.2.2.2 hy.2.2.2.2.2
      rcases hv with ⟨rfl, he⟩ | ⟨rfl, he⟩
      · have c19 : Steps p.tables e below (s₁.setTop (entryFrame m #[.ref x, .ref y] 3)) (T18.setTop (mkF m 55 #[.val (.ref x), .val (.ref y), .val (.ref y)] [.int 1])) := Steps.trans g18 (by
          refine XS.ifNo X18.here hexec rfl (hb hbytes d47) rfl (i0_eq_f (by decide)) ?_
          refine iconstV X18.here hexec rfl 1 (hb hbytes d50) (by decide) ?_
          refine XS.goto X18.here hexec rfl (pc0 := 51) rfl (hb hbytes d51) (by decide) rfl ?_
          exact Steps.refl _)
        exact ⟨T18, some (.int 1), _, _, _, X18, rfl, rfl, rfl, (fun h => by cases h), ⟨1, rfl, q18.trans hh16, Or.inl ⟨rfl, iff.mp he⟩⟩, fun fs hl => c19.trans (X18.ireturnOut hexec hret rfl (Or.inr (Or.inl rfl)) (hb hbytes d55) hl)⟩
      · have c19 : Steps p.tables e below (s₁.setTop (entryFrame m #[.ref x, .ref y] 3)) (T18.setTop (mkF m 55 #[.val (.ref x), .val (.ref y), .val (.ref y)] [.int 0])) := Steps.trans g18 (by
          refine XS.ifYes X18.here hexec rfl (pc0 := 47) rfl (hb hbytes d47) rfl (i0_eq_t rfl) (by decide) rfl ?_
          refine iconstV X18.here hexec rfl 0 (hb hbytes d54) (by decide) ?_
          exact Steps.refl _)
        exact ⟨T18, some (.int 0), _, _, _, X18, rfl, rfl, rfl, (fun h => by cases h), ⟨0, rfl, q18.trans hh16, Or.inr ⟨rfl, fun q => he (iff.mpr q)⟩⟩, fun fs hl => c19.trans (X18.ireturnOut hexec hret rfl (Or.inr (Or.inl rfl)) (hb hbytes d55) hl)⟩
    · have c13 : Steps p.tables e below (s₁.setTop (entryFrame m #[.ref x, .ref y] 3)) (T11.setTop (mkF m 55 #[.val (.ref x), .val (.ref y), .val (.ref y)] [.int 0])) := c12.trans (by
        refine XS.icmpYes X11.here hexec rfl (pc0 := 33) rfl (hb hbytes d33) rfl (ii_ne_t hcd) (by decide) rfl ?_
        refine iconstV X11.here hexec rfl 0 (hb hbytes d54) (by decide) ?_
        exact Steps.refl _)
      exact ⟨T11, some (.int 0), _, _, _, X11, rfl, rfl, rfl, (fun h => by cases h), ⟨0, rfl, hh11, Or.inr ⟨rfl, Cod.dif hx.2.2.2.2.1 hy.2.2.2.2.1 hcd⟩⟩, fun fs hl => c13.trans (X11.ireturnOut hexec hret rfl (Or.inr (Or.inl rfl)) (hb hbytes d55) hl)⟩
theorem pays {l : Launch} {R : Room} {p : Program} {e : Env} {below : List Frame} {s : State} {sargs : Array Value} {len W : Nat} (x t : Addr) (V : Cell) (cd : Int32) (n : Nat) (f : Nat → Int32) (y t' : Addr) (V' : Cell) (cd' : Int32) (k : Nat) (g : Nat → Int32) (z : Int32) (htab : tab.before sargs s = true) (hfr : 2 ≤ R.frames) (hlo : W + 28 ≤ R.locals) :
    Back l R p e below s sargs yN len W (fun A₁ a₁ => A₁.cells + 0 ≤ R.cells ∧ A₁.slots + 0 ≤ R.slots ∧ P x t V cd n f y t' V' cd' k g z a₁ A₁.U) (fun A₁ _ v₁ B₁ => Says01 (SameT n f k g) v₁ A₁.U B₁.U ∧ B₁.locs = A₁.locs ++ [] ∧ B₁.cells = A₁.cells + 0 ∧ B₁.slots = A₁.slots + 0) :=
  (law l x t V cd n f y t' V' cd' k g z).pays htab hfr (by omega)
end SEq
end StrChars
namespace StrChars.Road
open Jvm Sem ClassFile Op Lib Jvm.Stand Jvm.Free Jvm.Free.XT
open Jvm.Lib.Cold (StaticIs)
/-- the words of String.equals(Object) -/
abbrev wordsEq : List Jvm.Cond := [.code SEq.yN SEq.yB 3 (some .boolean), .initialized ST, .classLink ST 10 ST, .fieldLink ST 38 ST "COMPACT_STRINGS" "Z", .fieldLink ST 15 ST "coder" "B", .fieldLink ST 9 ST "value" "[B", .methodLink ST 541 LEq.yN, .static LEq.yN, .code LEq.yN LEq.yB 3 (some .boolean), .initialized "java/lang/StringLatin1"]
theorem tabEq_of {a : Array Value} {s : State} (h : ∀ w ∈ wordsEq, w.before a s = true) : SEq.tab.before a s = true := by
  have hl : LEq.tab.before a s = true := unparts (wk h (.code LEq.yN LEq.yB 3 (some .boolean))) (wks h (.initialized LEq.yN.cls :: LEq.site))
  have q := consq hl h
  exact unparts (wk q (.code SEq.yN SEq.yB 3 (some .boolean))) (wks q (.initialized SEq.yN.cls :: SEq.site))
theorem movedEq {Z s : State} {a0 args : Array Value} (hZ : Z.Warmed39 s.vm) (hw : ∀ d ∈ wordsEq, d.before a0 Z = true) : ∀ d ∈ wordsEq, d.before args s = true := fun d hd => by
  have t : ∀ d ∈ wordsEq, (d.onTables && d.keepsFace) = true := by decide +kernel
  exact RoadKit.mv hZ (hw d hd) (t d hd)
/-- the road's facts of a String, as the laws ask it -/
theorem txt_of {Z U : State} {a0 : Array Value} {kI : Nat} (wi : (Jvm.Cond.instantiable ST kI).before a0 Z = true) (al : Z.vm.Alike U.vm) {x t : Addr} {kb : ClassId} {cs : List Int32} {cd N2 : Int32} {vs : List Value} (E : RoadKit.Exa Z U.heap x ST) (V : RoadKit.Fld Z U.heap x ST "value" "[B" (.ref t)) (C : RoadKit.Fld Z U.heap x ST "coder" "B" (.int cd)) (K : RoadKit.Arv Z U.heap t kb .byte N2 vs (.int 0)) (hc : CodA cs cd N2 vs) (hb : ∀ c ∈ cs, ¬ c < 0 ∧ ¬ (65535 : Int32) < c) (l2 : cs.length ≤ 4000) :
    ∃ A, Txt x t A cd cs.length (fun j => cs.getD j 0) U := by
  obtain ⟨A, K1, K2, K3, K4, K5, K6⟩ := K
  have hcod := hc.cod (by omega) K3 K5
  obtain ⟨D, fV, fC, hB, F1, F2, g1, g2, -, -⟩ := strObj wi al E V C
  exact ⟨A, ⟨_, hB.2.2.1, D, hB.1, rfl, by cases q : D.vm <;> first | rfl | exact absurd q (hB.2.1.2 _)⟩, Has.of hB F1 g1, Has.of hB F2 g2, ⟨K1.1, State.isArrayOf_alike al K1.2.1, K1.2.2, by rcases hcod with ⟨-, q, -⟩ | ⟨-, q, -⟩ <;> omega⟩, hcod, fun j hj => by
    have e : cs.getD j 0 = cs[j] := by simp [List.getD_eq_getElem?_getD, hj]
    show ¬ cs.getD j 0 < 0 ∧ ¬ 65535 < cs.getD j 0
    rw [e]; exact hb _ (List.getElem_mem _)⟩
theorem same_list (cs ds : List Int32) : SameT cs.length (fun j => cs.getD j 0) ds.length (fun j => ds.getD j 0) ↔ cs = ds := by
  constructor
  · rintro ⟨e, q⟩
    refine List.ext_getElem e fun j h1 h2 => ?_
    have := q j h1
    simpa [List.getD_eq_getElem?_getD, h1, h2] using this
  · rintro rfl
    exact ⟨rfl, fun _ _ => rfl⟩
/-- **equals(Object) OF TWO SUCH STRINGS**: 1 just where the chars are the same -/
theorem eqW {p : Program} {l : Launch} {e : Env} {R : Room} {s : State} {args : Array Value} {below : List Frame} {len W : Nat} {Z : State} {a0 : Array Value} {h : Heap} (hZ : Z.Warmed39 s.vm) (hw : ∀ d ∈ wordsEq, d.before a0 Z = true) {kI : Nat} (wi : (Jvm.Cond.instantiable ST kI).before a0 Z = true)
    {x t : Addr} {kb : ClassId} {cs : List Int32} {cd N2 : Int32} {vs : List Value} (E : RoadKit.Exa Z h x ST) (V : RoadKit.Fld Z h x ST "value" "[B" (.ref t)) (C : RoadKit.Fld Z h x ST "coder" "B" (.int cd)) (K : RoadKit.Arv Z h t kb .byte N2 vs (.int 0)) (hc : CodA cs cd N2 vs) (hb : ∀ c ∈ cs, ¬ c < 0 ∧ ¬ (65535 : Int32) < c) (l2 : cs.length ≤ 4000)
    {y t' : Addr} {kb' : ClassId} {ds : List Int32} {cd' N2' : Int32} {vs' : List Value} (E' : RoadKit.Exa Z h y ST) (V' : RoadKit.Fld Z h y ST "value" "[B" (.ref t')) (C' : RoadKit.Fld Z h y ST "coder" "B" (.int cd')) (K' : RoadKit.Arv Z h t' kb' .byte N2' vs' (.int 0)) (hc' : CodA ds cd' N2' vs') (hb' : ∀ c ∈ ds, ¬ c < 0 ∧ ¬ (65535 : Int32) < c) (l2' : ds.length ≤ 4000)
    {z : Int32} (S : RoadKit.Sta Z h ST "COMPACT_STRINGS" "Z" (.int z)) (hz : ¬ z = 0) (hfr : 2 ≤ R.frames) (hlo : W + 28 ≤ R.locals) :
    Back l R p e below s args (⟨"java/lang/String", "equals", "(Ljava/lang/Object;)Z"⟩ : MethodName) len W (fun P a => a = #[.ref x, .ref y] ∧ P.U.heap = h ∧ P.cells + 0 ≤ R.cells ∧ P.slots + 0 ≤ R.slots)
      (fun P _ v B => ∃ L, (((v = some (.int 1) ∧ cs = ds) ∨ (v = some (.int 0) ∧ ¬ cs = ds)) ∧ L = [] ∧ B.U.heap = h) ∧ B.locs = P.locs ++ L ∧ B.cells = P.cells + 0 ∧ B.slots = P.slots + 0) := by
  intro m meth c P g ig mk a X hg hsize hdg hW hn hp'
  obtain ⟨rfl, rfl, r1, r2⟩ := hp'
  have al : Z.vm.Alike P.U.vm := hZ.alike.trans X.warmed.alike
  obtain ⟨A, hx⟩ := txt_of wi al E V C K hc hb l2
  obtain ⟨A', hy⟩ := txt_of wi al E' V' C' K' hc' hb' l2'
  obtain ⟨v, B, X', ⟨⟨w, hv, hh, hq⟩, hl, hk, hs⟩, st⟩ := SEq.pays x t A cd cs.length (fun j => cs.getD j 0) y t' A' cd' ds.length (fun j => ds.getD j 0) z (tabEq_of (movedEq hZ hw)) hfr hlo m meth c P g ig mk _ X hg hsize hdg hW hn ⟨r1, r2, rfl, hx, hy, sta_is al S, hz⟩
  refine ⟨v, B, X', ⟨[], ⟨?_, rfl, hh⟩, hl, hk, hs⟩, st⟩
  rcases hq with ⟨rfl, q⟩ | ⟨rfl, q⟩
  · exact Or.inl ⟨hv, (same_list cs ds).mp q⟩
  · exact Or.inr ⟨hv, fun e => q ((same_list cs ds).mpr e)⟩
end StrChars.Road
namespace StrChars
open Jvm Sem ClassFile Op Lib Jvm.Stand Jvm.Free.XT Jvm.Free.ALB Jvm.Free.JM Jvm.Free
open Jvm.Lib.Cold (StaticIs)
namespace ChN
def yN : MethodName := ⟨"java/lang/String", "charAt", "(I)C"⟩
abbrev yB : ByteArray := jdk_42_method_56_code
theorem d0 : decode yB 0 = .ok (.aload_n 0, 1) := by decide +kernel
theorem d1 : decode yB 1 = .ok (.invokevirtual 492, 3) := by decide +kernel
theorem d4 : decode yB 4 = .ok (.ifCond (.eq) 12, 3) := by decide +kernel
theorem d7 : decode yB 7 = .ok (.aload_n 0, 1) := by decide +kernel
theorem d8 : decode yB 8 = .ok (.getfield 9, 3) := by decide +kernel
theorem d11 : decode yB 11 = .ok (.iload_n 1, 1) := by decide +kernel
theorem d12 : decode yB 12 = .ok (.invokestatic 495, 3) := by decide +kernel
theorem d15 : decode yB 15 = .ok (.ireturn, 1) := by decide +kernel
def site : List Cond := [.fieldLink "java/lang/String" 9 "java/lang/String" "value" "[B", IsL.tab, LChA.tab] ++ virtW "java/lang/String" 492 "java/lang/String" IsL.yN IsL.yN ++ staticW "java/lang/String" 495 LChA.yN
def tab : Cond := tabOf yN yB 2 (some .char) site
def P (x t : Addr) (V : Cell) (n : Nat) (f : Nat → Int32) (z : Int32) (fm : Value) (i : Nat) (args : Array Value) (s : State) : Prop := args = #[.ref x, .int (Int32.ofNat i)] ∧ Txt x t V 0 n f s ∧ i < n ∧ StaticIs s "java/lang/String" "COMPACT_STRINGS" "Z" (.int z) ∧ ¬ z = 0 ∧ StaticIs s "jdk/internal/util/Preconditions" "SIOOBE_FORMATTER" "Ljava/util/function/BiFunction;" fm ∧ fm.isRef = true
def E (f : Nat → Int32) (i : Nat) (r : Option Value) (s u : State) : Prop := XT.PureE (some (.int (f i))) r s u
/-- charAt(i) of a Latin-1 String of n chars, i < n: f i -/
theorem law (l : Launch) (x t : Addr) (V : Cell) (n : Nat) (f : Nat → Int32) (z : Int32) (fm : Value) (i : Nat) : Law l yN 2 1 3 40 yB 2 (some .char) site (P x t V n f z fm i) (E f i) [] 0 0 := by
  refine Law.of_walk (plainFor_of_name (by decide +kernel)) (by decide +kernel) (by decide +kernel) (by decide) (fun _ _ h => by rw [h.1]; rfl) (fun _ U U' hal hh h => ⟨h.1, h.2.1.mv hal hh, h.2.2.1, h.2.2.2.1.there hal hh, h.2.2.2.2.1, h.2.2.2.2.2.1.there hal hh, h.2.2.2.2.2.2⟩) (fun r U U' V V' h1 hal h2 h => XT.PureE.mv r U U' V V' h1 hal h2 h) ?_
  intro p e s m args below meth c s₁ X0 hexec hbytes hml hret hlk hnm hown hh0 W hP
  obtain ⟨rfl, hx, hi, s1, hz, s3, rf⟩ := hP
  have v31 := hx.2.2.2.1.2.2.2
  have hr := hx.2.2.2.2.2 i hi
  have hx0 := hx.mv X0.warmed.alike hh0
  have c1 : Steps p.tables e below (s₁.setTop (entryFrame m #[.ref x, .int (Int32.ofNat i)] 2)) (s₁.setTop (mkF m 1 #[.val (.ref x), .val (.int (Int32.ofNat i))] [.ref x])) := Steps.trans (entry rfl) (by
    show Steps p.tables e below (s₁.setTop (mkF m 0 #[.val (.ref x), .val (.int (Int32.ofNat i))] [])) _
    refine XS.aloadN X0.here hexec rfl (hb hbytes d0) rfl rfl ?_
    exact Steps.refl _)
  obtain ⟨v2, T2, X2, E2, g2⟩ := X0.callV hexec (IsL.law l x 0 z) hown (wks W (virtW "java/lang/String" 492 "java/lang/String" IsL.yN IsL.yN)) rfl (by decide) (wk W IsL.tab) (W := 0) (Nat.le_of_ble_eq_true rfl) (Nat.le_of_ble_eq_true rfl) (Nat.le_refl _) (Nat.le_refl _) (hx0.1.fc X0.warmed.alike) hx0.1.is (g := (mkF m 1 #[.val (.ref x), .val (.int (Int32.ofNat i))] [.ref x])) rfl (by rw [hml]; rfl) c1 (argsL := []) (rest := []) rfl rfl (by show 2 * 0 + 0 ≤ _; decide) (hb hbytes d1) (⟨rfl, hx0.2.2.1, hx.2.2.2.2.1.cd, s1.there X0.warmed.alike hh0, hz⟩)
  obtain ⟨rfl, q2⟩ := E2
  have hh2 := q2.trans hh0
  have hx2 := hx.mv X2.warmed.alike hh2
  obtain ⟨-, k1, k2⟩ | ⟨k0, -⟩ := hx.2.2.2.2.1
  · have c3 : Steps p.tables e below (s₁.setTop (entryFrame m #[.ref x, .int (Int32.ofNat i)] 2)) (T2.setTop (mkF m 8 #[.val (.ref x), .val (.int (Int32.ofNat i))] [.ref x])) := Steps.trans g2 (by
      refine XS.ifNo X2.here hexec rfl (hb hbytes d4) rfl (i0_eq_f (by decide)) ?_
      refine XS.aloadN X2.here hexec rfl (hb hbytes d7) rfl rfl ?_
      exact Steps.refl _)
    obtain ⟨T4, X4, q4, st4⟩ := X2.hget hexec hown (wk W (.fieldLink "java/lang/String" 9 "java/lang/String" "value" "[B")) hx2.2.1 (g := (mkF m 8 #[.val (.ref x), .val (.int (Int32.ofNat i))] [.ref x])) rfl (rest := []) rfl (hb hbytes d8)
    have hh4 := q4.trans hh2
    have c5 : Steps p.tables e below (s₁.setTop (entryFrame m #[.ref x, .int (Int32.ofNat i)] 2)) (T4.setTop (mkF m 12 #[.val (.ref x), .val (.int (Int32.ofNat i))] [.int (Int32.ofNat i), .ref t])) := (c3.trans (st4 _ (Steps.refl _))).trans (by
      refine XS.iloadN X4.here hexec rfl (hb hbytes d11) rfl ?_
      exact Steps.refl _)
    obtain ⟨v6, T6, X6, E6, g6⟩ := X4.callS hexec (LChA.law l t V i (lo8 (f i)) fm) hown (wks W (staticW "java/lang/String" 495 LChA.yN)) (wk W LChA.tab) (W := 0) (Nat.le_of_ble_eq_true rfl) (Nat.le_of_ble_eq_true rfl) (Nat.le_refl _) (Nat.le_refl _) (g := (mkF m 12 #[.val (.ref x), .val (.int (Int32.ofNat i))] [.int (Int32.ofNat i), .ref t])) rfl (by rw [hml]; rfl) c5 (argsL := [.ref t, .int (Int32.ofNat i)]) (rest := []) rfl rfl (by show 2 * 0 + 0 ≤ _; decide) (hb hbytes d12) (⟨rfl, hx.2.2.2.1.mv X4.warmed.alike hh4, (k2 i hi).1, s3.there X4.warmed.alike hh4, rf⟩)
    obtain ⟨rfl, q6⟩ := E6
    rw [chr8_lo8 hr.1 (k2 i hi).2] at g6
    exact ⟨T6, some (.int (f i)), _, _, _, X6, rfl, rfl, rfl, (fun h => by cases h), ⟨rfl, q6.trans hh4⟩, fun fs hl => Steps.trans g6 (X6.ireturnOut hexec hret (narrow_ch hr.1 hr.2) (Or.inr (Or.inr (Or.inr (Or.inl rfl)))) (hb hbytes d15) hl)⟩
  · exact absurd k0 (by decide)
theorem pays {l : Launch} {R : Room} {p : Program} {e : Env} {below : List Frame} {s : State} {sargs : Array Value} {len W : Nat} (x t : Addr) (V : Cell) (n : Nat) (f : Nat → Int32) (z : Int32) (fm : Value) (i : Nat) (htab : tab.before sargs s = true) (hfr : 4 ≤ R.frames) (hlo : W + 53 ≤ R.locals) :
    Back l R p e below s sargs yN len W (fun A₁ a₁ => A₁.cells + 0 ≤ R.cells ∧ A₁.slots + 0 ≤ R.slots ∧ P x t V n f z fm i a₁ A₁.U) (fun A₁ _ v₁ B₁ => E f i v₁ A₁.U B₁.U ∧ B₁.locs = A₁.locs ++ [] ∧ B₁.cells = A₁.cells + 0 ∧ B₁.slots = A₁.slots + 0) :=
  (law l x t V n f z fm i).pays htab hfr (by omega)
end ChN
end StrChars
namespace StrChars.Road
open Jvm Sem ClassFile Op Lib Jvm.Stand Jvm.Free Jvm.Free.XT
open Jvm.Lib.Cold (StaticIs)
/-- the words of String.charAt(int), the Latin-1 road alone -/
abbrev wordsChN : List Jvm.Cond := [.code ChN.yN ChN.yB 2 (some .char), .initialized ST, .fieldLink ST 9 ST "value" "[B", .fieldLink ST 38 ST "COMPACT_STRINGS" "Z", .fieldLink ST 15 ST "coder" "B", .code IsL.yN IsL.yB 1 (some .boolean), .methodLink ST 492 IsL.yN, .declares IsL.yN, .selects ST IsL.yN IsL.yN, .instanceMethod IsL.yN,
  .methodLink ST 495 LChA.yN, .static LChA.yN, .code LChA.yN LChA.yB 2 (some .char), .initialized "java/lang/StringLatin1", .methodLink "java/lang/StringLatin1" 9 JO.Str_checkIndex.yN, .static JO.Str_checkIndex.yN, .code JO.Str_checkIndex.yN JO.Str_checkIndex.yB 2 none,
  .fieldLink ST 1053 "jdk/internal/util/Preconditions" "SIOOBE_FORMATTER" "Ljava/util/function/BiFunction;", .methodLink ST 1059 JC.PreCheck.yN, .static JC.PreCheck.yN, .code JC.PreCheck.yN JC.PreCheck.yB 3 (some .int), .initialized "jdk/internal/util/Preconditions"]
theorem tabChN_of {a : Array Value} {s : State} (h : ∀ w ∈ wordsChN, w.before a s = true) : ChN.tab.before a s = true := by
  have hp : JC.PreCheck.tab.before a s = true := unparts (wk h (.code JC.PreCheck.yN JC.PreCheck.yB 3 (some .int))) (wks h (.initialized JC.PreCheck.yN.cls :: JC.PreCheck.site))
  have qk := consq hp h
  have hk : JO.Str_checkIndex.tab.before a s = true := unparts (wk qk (.code JO.Str_checkIndex.yN JO.Str_checkIndex.yB 2 none)) (wks qk (.initialized JO.Str_checkIndex.yN.cls :: JO.Str_checkIndex.site))
  have ql := consq hk h
  have hl : LChA.tab.before a s = true := unparts (wk ql (.code LChA.yN LChA.yB 2 (some .char))) (wks ql (.initialized LChA.yN.cls :: LChA.site))
  have hi : IsL.tab.before a s = true := unparts (wk h (.code IsL.yN IsL.yB 1 (some .boolean))) (wks h (.initialized IsL.yN.cls :: IsL.site))
  have q := consq hi (consq hl h)
  exact unparts (wk q (.code ChN.yN ChN.yB 2 (some .char))) (wks q (.initialized ChN.yN.cls :: ChN.site))
theorem movedChN {Z s : State} {a0 args : Array Value} (hZ : Z.Warmed39 s.vm) (hw : ∀ d ∈ wordsChN, d.before a0 Z = true) : ∀ d ∈ wordsChN, d.before args s = true := fun d hd => by
  have t : ∀ d ∈ wordsChN, (d.onTables && d.keepsFace) = true := by decide +kernel
  exact RoadKit.mv hZ (hw d hd) (t d hd)
/-- **charAt(i) OF A LATIN-1 STRING**, i < n: the char -/
theorem chN {p : Program} {l : Launch} {e : Env} {R : Room} {s : State} {args : Array Value} {below : List Frame} {len W : Nat} {Z : State} {a0 : Array Value} {h : Heap} (hZ : Z.Warmed39 s.vm) (hw : ∀ d ∈ wordsChN, d.before a0 Z = true) {kI : Nat} (wi : (Jvm.Cond.instantiable ST kI).before a0 Z = true)
    {x t : Addr} {kb : ClassId} {cs : List Int32} {N2 z : Int32} {vs : List Value} {fm : Value} {i : Nat} {j : Int32} (E : RoadKit.Exa Z h x ST) (V : RoadKit.Fld Z h x ST "value" "[B" (.ref t)) (C : RoadKit.Fld Z h x ST "coder" "B" (.int 0)) (K : RoadKit.Arv Z h t kb .byte N2 vs (.int 0)) (hc : CodA cs 0 N2 vs) (hb : ∀ c ∈ cs, ¬ c < 0 ∧ ¬ (65535 : Int32) < c)
    (S : RoadKit.Sta Z h ST "COMPACT_STRINGS" "Z" (.int z)) (hz : ¬ z = 0) (F : RoadKit.Sta Z h "jdk/internal/util/Preconditions" "SIOOBE_FORMATTER" "Ljava/util/function/BiFunction;" fm) (rf : fm.isRef = true) (l2 : cs.length ≤ 4000) (hi : i < cs.length) (hj : j = Int32.ofNat i) (hfr : 4 ≤ R.frames) (hlo : W + 53 ≤ R.locals) :
    Back l R p e below s args (⟨"java/lang/String", "charAt", "(I)C"⟩ : MethodName) len W (fun P a => a = #[.ref x, .int j] ∧ P.U.heap = h ∧ P.cells + 0 ≤ R.cells ∧ P.slots + 0 ≤ R.slots)
      (fun P _ v B => ∃ L, (v = some (.int (cs.getD i 0)) ∧ L = [] ∧ B.U.heap = h) ∧ B.locs = P.locs ++ L ∧ B.cells = P.cells + 0 ∧ B.slots = P.slots + 0) := by
  subst hj
  intro m meth c P g ig mk a X hg hsize hdg hW hn hp'
  obtain ⟨rfl, rfl, r1, r2⟩ := hp'
  have al : Z.vm.Alike P.U.vm := hZ.alike.trans X.warmed.alike
  obtain ⟨A, hx⟩ := txt_of wi al E V C K hc hb l2
  obtain ⟨v, B, X', ⟨⟨hv, hh⟩, hl, hk, hs⟩, st⟩ := ChN.pays x t A cs.length (fun j => cs.getD j 0) z fm i (tabChN_of (movedChN hZ hw)) hfr hlo m meth c P g ig mk _ X hg hsize hdg hW hn ⟨r1, r2, rfl, hx, hi, sta_is al S, hz, sta_is al F, rf⟩
  exact ⟨v, B, X', ⟨[], ⟨hv, rfl, hh⟩, hl, hk, hs⟩, st⟩
/-- what backV says of its String, as the contracts of this text ask it: cs's low bytes, coder 0 -/
theorem codOf {cs : List Int32} {n : Nat} (hn : cs.length = n) (hb : ∀ c ∈ cs, ¬ 255 < c) : CodA cs 0 (Int32.ofNat n) ((cs.map lo8).map Value.int) := Or.inl ⟨rfl, by rw [hn], by simp [List.map_map, Function.comp_def], hb⟩
end StrChars.Road
end Jvm.Pilot.@@N@@

namespace Jvm.Pilot.@@N@@
open Jvm Jvm.ClassFile Sem Op Lib Jvm.Free Jvm.Stand Jvm.LawKit Jvm.RoadKit Jvm.Own Bundle Jvm.Pilot.@@N@@.Jvm.D
theorem own_q0 {Z : State} {a0 : Array Value} (hw : ∀ d ∈ tables_1, d.before a0 Z = true) : (Jvm.Cond.stringLink "com/example/ambient_wiring/ambientwiring/BeanScopeNamedPinLaw" (9 : Nat) "singleton").before a0 Z = true := hw _ (List.mem_of_getElem? (i := 0) rfl)
theorem own_q1 {Z : State} {a0 : Array Value} (hw : ∀ d ∈ tables_1, d.before a0 Z = true) : (Jvm.Cond.initialized "java/lang/String").before a0 Z = true := hw _ (List.mem_of_getElem? (i := 1) rfl)
theorem own_q2 {Z : State} {a0 : Array Value} (hw : ∀ d ∈ tables_1, d.before a0 Z = true) : (Jvm.Cond.instantiable "java/lang/String" (4 : Nat)).before a0 Z = true := hw _ (List.mem_of_getElem? (i := 2) rfl)
theorem own_q4 {Z : State} {a0 : Array Value} (hw : ∀ d ∈ tables_1, d.before a0 Z = true) : (Jvm.Cond.laysFinal "java/lang/String" "java/lang/String" "value" "[B").before a0 Z = true := hw _ (List.mem_of_getElem? (i := 4) rfl)
theorem own_q5 {Z : State} {a0 : Array Value} (hw : ∀ d ∈ tables_1, d.before a0 Z = true) : (Jvm.Cond.laysFinal "java/lang/String" "java/lang/String" "coder" "B").before a0 Z = true := hw _ (List.mem_of_getElem? (i := 5) rfl)
theorem own_q8 {Z : State} {a0 : Array Value} (hw : ∀ d ∈ tables_1, d.before a0 Z = true) : (Jvm.Cond.constant "com/example/ambient_wiring/ambientwiring/BeanScopeNamedPinLaw" (11 : Nat) (2147483647 : Int32)).before a0 Z = true := hw _ (List.mem_of_getElem? (i := 8) rfl)
theorem own_q9 {Z : State} {a0 : Array Value} (hw : ∀ d ∈ tables_1, d.before a0 Z = true) : (Jvm.Cond.methodLink "com/example/ambient_wiring/ambientwiring/BeanScopeNamedPinLaw" (39 : Nat) ({ cls := "com/example/ambient_wiring/ambientwiring/BeanScope", name := "named", desc := "(Ljava/lang/String;)Lcom/example/ambient_wiring/ambientwiring/BeanScope;" } : Jvm.MethodName)).before a0 Z = true := hw _ (List.mem_of_getElem? (i := 9) rfl)
theorem own_q10 {Z : State} {a0 : Array Value} (hw : ∀ d ∈ tables_1, d.before a0 Z = true) : (Jvm.Cond.static ({ cls := "com/example/ambient_wiring/ambientwiring/BeanScope", name := "named", desc := "(Ljava/lang/String;)Lcom/example/ambient_wiring/ambientwiring/BeanScope;" } : Jvm.MethodName)).before a0 Z = true := hw _ (List.mem_of_getElem? (i := 10) rfl)
theorem own_q11 {Z : State} {a0 : Array Value} (hw : ∀ d ∈ tables_1, d.before a0 Z = true) : (Jvm.Cond.initialized "com/example/ambient_wiring/ambientwiring/BeanScope").before a0 Z = true := hw _ (List.mem_of_getElem? (i := 11) rfl)
theorem own_q12 {Z : State} {a0 : Array Value} (hw : ∀ d ∈ tables_1, d.before a0 Z = true) : (Jvm.Cond.code ({ cls := "com/example/ambient_wiring/ambientwiring/BeanScope", name := "named", desc := "(Ljava/lang/String;)Lcom/example/ambient_wiring/ambientwiring/BeanScope;" } : Jvm.MethodName) prog_4_method_4_code (5 : Nat) (Option.some (Jvm.ClassFile.FieldType.object "com/example/ambient_wiring/ambientwiring/BeanScope"))).before a0 Z = true := hw _ (List.mem_of_getElem? (i := 12) rfl)
theorem own_q13 {Z : State} {a0 : Array Value} (hw : ∀ d ∈ tables_1, d.before a0 Z = true) : (Jvm.Cond.methodLink "com/example/ambient_wiring/ambientwiring/BeanScope" (33 : Nat) ({ cls := "com/example/ambient_wiring/ambientwiring/BeanScope", name := "values", desc := "()[Lcom/example/ambient_wiring/ambientwiring/BeanScope;" } : Jvm.MethodName)).before a0 Z = true := hw _ (List.mem_of_getElem? (i := 13) rfl)
theorem own_q14 {Z : State} {a0 : Array Value} (hw : ∀ d ∈ tables_1, d.before a0 Z = true) : (Jvm.Cond.static ({ cls := "com/example/ambient_wiring/ambientwiring/BeanScope", name := "values", desc := "()[Lcom/example/ambient_wiring/ambientwiring/BeanScope;" } : Jvm.MethodName)).before a0 Z = true := hw _ (List.mem_of_getElem? (i := 14) rfl)
theorem own_q15 {Z : State} {a0 : Array Value} (hw : ∀ d ∈ tables_1, d.before a0 Z = true) : (Jvm.Cond.code ({ cls := "com/example/ambient_wiring/ambientwiring/BeanScope", name := "values", desc := "()[Lcom/example/ambient_wiring/ambientwiring/BeanScope;" } : Jvm.MethodName) prog_4_method_1_code (0 : Nat) (Option.some (Jvm.ClassFile.FieldType.array (Jvm.ClassFile.FieldType.object "com/example/ambient_wiring/ambientwiring/BeanScope")))).before a0 Z = true := hw _ (List.mem_of_getElem? (i := 15) rfl)
theorem own_q16 {Z : State} {a0 : Array Value} (hw : ∀ d ∈ tables_1, d.before a0 Z = true) : (Jvm.Cond.fieldLink "com/example/ambient_wiring/ambientwiring/BeanScope" (10 : Nat) "com/example/ambient_wiring/ambientwiring/BeanScope" "$VALUES" "[Lcom/example/ambient_wiring/ambientwiring/BeanScope;").before a0 Z = true := hw _ (List.mem_of_getElem? (i := 16) rfl)
theorem own_q17 {Z : State} {a0 : Array Value} (hw : ∀ d ∈ tables_1, d.before a0 Z = true) : (Jvm.Cond.laysStatic "com/example/ambient_wiring/ambientwiring/BeanScope" "$VALUES" "[Lcom/example/ambient_wiring/ambientwiring/BeanScope;").before a0 Z = true := hw _ (List.mem_of_getElem? (i := 17) rfl)
theorem own_q18 {Z : State} {a0 : Array Value} (hw : ∀ d ∈ tables_1, d.before a0 Z = true) : (Jvm.Cond.methodLink "com/example/ambient_wiring/ambientwiring/BeanScope" (14 : Nat) ({ cls := "[Lcom/example/ambient_wiring/ambientwiring/BeanScope;", name := "clone", desc := "()Ljava/lang/Object;" } : Jvm.MethodName)).before a0 Z = true := hw _ (List.mem_of_getElem? (i := 18) rfl)
theorem own_q19 {Z : State} {a0 : Array Value} (hw : ∀ d ∈ tables_1, d.before a0 Z = true) : (Jvm.Cond.sameMethod "[Lcom/example/ambient_wiring/ambientwiring/BeanScope;" "java/lang/Object" "clone" "()Ljava/lang/Object;").before a0 Z = true := hw _ (List.mem_of_getElem? (i := 19) rfl)
theorem own_q21 {Z : State} {a0 : Array Value} (hw : ∀ d ∈ tables_1, d.before a0 Z = true) : (Jvm.Cond.instanceMethod ({ cls := "java/lang/Object", name := "clone", desc := "()Ljava/lang/Object;" } : Jvm.MethodName)).before a0 Z = true := hw _ (List.mem_of_getElem? (i := 21) rfl)
theorem own_q22 {Z : State} {a0 : Array Value} (hw : ∀ d ∈ tables_1, d.before a0 Z = true) : (Jvm.Cond.selects "[Lcom/example/ambient_wiring/ambientwiring/BeanScope;" ({ cls := "[Lcom/example/ambient_wiring/ambientwiring/BeanScope;", name := "clone", desc := "()Ljava/lang/Object;" } : Jvm.MethodName) ({ cls := "java/lang/Object", name := "clone", desc := "()Ljava/lang/Object;" } : Jvm.MethodName)).before a0 Z = true := hw _ (List.mem_of_getElem? (i := 22) rfl)
theorem own_q23 {Z : State} {a0 : Array Value} (hw : ∀ d ∈ tables_1, d.before a0 Z = true) : (Jvm.Cond.native ({ cls := "java/lang/Object", name := "clone", desc := "()Ljava/lang/Object;" } : Jvm.MethodName)).before a0 Z = true := hw _ (List.mem_of_getElem? (i := 23) rfl)
theorem own_q24 {Z : State} {a0 : Array Value} (hw : ∀ d ∈ tables_1, d.before a0 Z = true) : (Jvm.Cond.castable "[Lcom/example/ambient_wiring/ambientwiring/BeanScope;" "java/lang/Cloneable").before a0 Z = true := hw _ (List.mem_of_getElem? (i := 24) rfl)
theorem own_q25 {Z : State} {a0 : Array Value} (hw : ∀ d ∈ tables_1, d.before a0 Z = true) : (Jvm.Cond.laysStatic "com/example/ambient_wiring/ambientwiring/BeanScope" "SINGLETON" "Lcom/example/ambient_wiring/ambientwiring/BeanScope;").before a0 Z = true := hw _ (List.mem_of_getElem? (i := 25) rfl)
theorem own_q26 {Z : State} {a0 : Array Value} (hw : ∀ d ∈ tables_1, d.before a0 Z = true) : (Jvm.Cond.laysStatic "com/example/ambient_wiring/ambientwiring/BeanScope" "PROTOTYPE" "Lcom/example/ambient_wiring/ambientwiring/BeanScope;").before a0 Z = true := hw _ (List.mem_of_getElem? (i := 26) rfl)
theorem own_q28 {Z : State} {a0 : Array Value} (hw : ∀ d ∈ tables_1, d.before a0 Z = true) : (Jvm.Cond.classLink "com/example/ambient_wiring/ambientwiring/BeanScope" (15 : Nat) "[Lcom/example/ambient_wiring/ambientwiring/BeanScope;").before a0 Z = true := hw _ (List.mem_of_getElem? (i := 28) rfl)
theorem own_q30 {Z : State} {a0 : Array Value} (hw : ∀ d ∈ tables_1, d.before a0 Z = true) : (Jvm.Cond.fieldLink "com/example/ambient_wiring/ambientwiring/BeanScope" (29 : Nat) "com/example/ambient_wiring/ambientwiring/BeanScope" "name" "Ljava/lang/String;").before a0 Z = true := hw _ (List.mem_of_getElem? (i := 30) rfl)
theorem own_q32 {Z : State} {a0 : Array Value} (hw : ∀ d ∈ tables_1, d.before a0 Z = true) : (Jvm.Cond.methodLink "com/example/ambient_wiring/ambientwiring/BeanScope" (37 : Nat) ({ cls := "java/lang/String", name := "equals", desc := "(Ljava/lang/Object;)Z" } : Jvm.MethodName)).before a0 Z = true := hw _ (List.mem_of_getElem? (i := 32) rfl)
theorem own_q33 {Z : State} {a0 : Array Value} (hw : ∀ d ∈ tables_1, d.before a0 Z = true) : (Jvm.Cond.declares ({ cls := "java/lang/String", name := "equals", desc := "(Ljava/lang/Object;)Z" } : Jvm.MethodName)).before a0 Z = true := hw _ (List.mem_of_getElem? (i := 33) rfl)
theorem own_q34 {Z : State} {a0 : Array Value} (hw : ∀ d ∈ tables_1, d.before a0 Z = true) : (Jvm.Cond.instanceMethod ({ cls := "java/lang/String", name := "equals", desc := "(Ljava/lang/Object;)Z" } : Jvm.MethodName)).before a0 Z = true := hw _ (List.mem_of_getElem? (i := 34) rfl)
theorem own_q35 {Z : State} {a0 : Array Value} (hw : ∀ d ∈ tables_1, d.before a0 Z = true) : (Jvm.Cond.selects "java/lang/String" ({ cls := "java/lang/String", name := "equals", desc := "(Ljava/lang/Object;)Z" } : Jvm.MethodName) ({ cls := "java/lang/String", name := "equals", desc := "(Ljava/lang/Object;)Z" } : Jvm.MethodName)).before a0 Z = true := hw _ (List.mem_of_getElem? (i := 35) rfl)
theorem own_q36 {Z : State} {a0 : Array Value} (hw : ∀ d ∈ tables_1, d.before a0 Z = true) : (Jvm.Cond.code ({ cls := "java/lang/String", name := "equals", desc := "(Ljava/lang/Object;)Z" } : Jvm.MethodName) jdk_42_method_66_code (3 : Nat) (Option.some Jvm.ClassFile.FieldType.boolean)).before a0 Z = true := hw _ (List.mem_of_getElem? (i := 36) rfl)
theorem own_q37 {Z : State} {a0 : Array Value} (hw : ∀ d ∈ tables_1, d.before a0 Z = true) : (Jvm.Cond.stringLink "com/example/ambient_wiring/ambientwiring/BeanScopeNamedPinLaw" (7 : Nat) "prototype").before a0 Z = true := hw _ (List.mem_of_getElem? (i := 37) rfl)
theorem own_q38 {Z : State} {a0 : Array Value} (hw : ∀ d ∈ tables_1, d.before a0 Z = true) : (Jvm.Cond.classLink "com/example/ambient_wiring/ambientwiring/BeanScopeNamedPinLaw" (12 : Nat) "java/lang/String").before a0 Z = true := hw _ (List.mem_of_getElem? (i := 38) rfl)
theorem own_q39 {Z : State} {a0 : Array Value} (hw : ∀ d ∈ tables_1, d.before a0 Z = true) : (Jvm.Cond.methodLink "com/example/ambient_wiring/ambientwiring/BeanScopeNamedPinLaw" (35 : Nat) ({ cls := "com/example/ambient_wiring/ambientwiring/BeanScopeNamedPinLaw", name := "drawn8", desc := "(J)[C" } : Jvm.MethodName)).before a0 Z = true := hw _ (List.mem_of_getElem? (i := 39) rfl)
theorem own_q40 {Z : State} {a0 : Array Value} (hw : ∀ d ∈ tables_1, d.before a0 Z = true) : (Jvm.Cond.static ({ cls := "com/example/ambient_wiring/ambientwiring/BeanScopeNamedPinLaw", name := "drawn8", desc := "(J)[C" } : Jvm.MethodName)).before a0 Z = true := hw _ (List.mem_of_getElem? (i := 40) rfl)
theorem own_q41 {Z : State} {a0 : Array Value} (hw : ∀ d ∈ tables_1, d.before a0 Z = true) : (Jvm.Cond.initialized "com/example/ambient_wiring/ambientwiring/BeanScopeNamedPinLaw").before a0 Z = true := hw _ (List.mem_of_getElem? (i := 41) rfl)
theorem own_q42 {Z : State} {a0 : Array Value} (hw : ∀ d ∈ tables_1, d.before a0 Z = true) : (Jvm.Cond.code ({ cls := "com/example/ambient_wiring/ambientwiring/BeanScopeNamedPinLaw", name := "drawn8", desc := "(J)[C" } : Jvm.MethodName) method_9_code (3 : Nat) (Option.some (Jvm.ClassFile.FieldType.array Jvm.ClassFile.FieldType.char))).before a0 Z = true := hw _ (List.mem_of_getElem? (i := 42) rfl)
theorem own_q43 {Z : State} {a0 : Array Value} (hw : ∀ d ∈ tables_1, d.before a0 Z = true) : (Jvm.Cond.arrayClass Jvm.ClassFile.FieldType.char).before a0 Z = true := hw _ (List.mem_of_getElem? (i := 43) rfl)
theorem own_q44 {Z : State} {a0 : Array Value} (hw : ∀ d ∈ tables_1, d.before a0 Z = true) : (Jvm.Cond.methodLink "com/example/ambient_wiring/ambientwiring/BeanScopeNamedPinLaw" (70 : Nat) ({ cls := "com/example/ambient_wiring/ambientwiring/BeanScopeNamedPinLaw", name := "byteOf", desc := "(JI)C" } : Jvm.MethodName)).before a0 Z = true := hw _ (List.mem_of_getElem? (i := 44) rfl)
theorem own_q45 {Z : State} {a0 : Array Value} (hw : ∀ d ∈ tables_1, d.before a0 Z = true) : (Jvm.Cond.static ({ cls := "com/example/ambient_wiring/ambientwiring/BeanScopeNamedPinLaw", name := "byteOf", desc := "(JI)C" } : Jvm.MethodName)).before a0 Z = true := hw _ (List.mem_of_getElem? (i := 45) rfl)
theorem own_q46 {Z : State} {a0 : Array Value} (hw : ∀ d ∈ tables_1, d.before a0 Z = true) : (Jvm.Cond.code ({ cls := "com/example/ambient_wiring/ambientwiring/BeanScopeNamedPinLaw", name := "byteOf", desc := "(JI)C" } : Jvm.MethodName) method_8_code (3 : Nat) (Option.some Jvm.ClassFile.FieldType.char)).before a0 Z = true := hw _ (List.mem_of_getElem? (i := 46) rfl)
theorem own_q47 {Z : State} {a0 : Array Value} (hw : ∀ d ∈ tables_1, d.before a0 Z = true) : (Jvm.Cond.constantLong "com/example/ambient_wiring/ambientwiring/BeanScopeNamedPinLaw" (68 : Nat) (255 : Int64)).before a0 Z = true := hw _ (List.mem_of_getElem? (i := 47) rfl)
theorem own_q48 {Z : State} {a0 : Array Value} (hw : ∀ d ∈ tables_1, d.before a0 Z = true) : (Jvm.Cond.methodLink "com/example/ambient_wiring/ambientwiring/BeanScopeNamedPinLaw" (20 : Nat) ({ cls := "java/lang/String", name := "<init>", desc := "([C)V" } : Jvm.MethodName)).before a0 Z = true := hw _ (List.mem_of_getElem? (i := 48) rfl)
theorem own_q49 {Z : State} {a0 : Array Value} (hw : ∀ d ∈ tables_1, d.before a0 Z = true) : (Jvm.Cond.instanceMethod ({ cls := "java/lang/String", name := "<init>", desc := "([C)V" } : Jvm.MethodName)).before a0 Z = true := hw _ (List.mem_of_getElem? (i := 49) rfl)
theorem own_q50 {Z : State} {a0 : Array Value} (hw : ∀ d ∈ tables_1, d.before a0 Z = true) : (Jvm.Cond.code ({ cls := "java/lang/String", name := "<init>", desc := "([C)V" } : Jvm.MethodName) jdk_42_method_3_code (2 : Nat) (Option.none : Option Jvm.ClassFile.FieldType)).before a0 Z = true := hw _ (List.mem_of_getElem? (i := 50) rfl)
theorem own_q51 {Z : State} {a0 : Array Value} (hw : ∀ d ∈ tables_1, d.before a0 Z = true) : (Jvm.Cond.methodLink "java/lang/String" (27 : Nat) ({ cls := "java/lang/String", name := "<init>", desc := "([CIILjava/lang/Void;)V" } : Jvm.MethodName)).before a0 Z = true := hw _ (List.mem_of_getElem? (i := 51) rfl)
theorem own_q52 {Z : State} {a0 : Array Value} (hw : ∀ d ∈ tables_1, d.before a0 Z = true) : (Jvm.Cond.instanceMethod ({ cls := "java/lang/String", name := "<init>", desc := "([CIILjava/lang/Void;)V" } : Jvm.MethodName)).before a0 Z = true := hw _ (List.mem_of_getElem? (i := 52) rfl)
theorem own_q54 {Z : State} {a0 : Array Value} (hw : ∀ d ∈ tables_1, d.before a0 Z = true) : (Jvm.Cond.code ({ cls := "java/lang/String", name := "<init>", desc := "([CIILjava/lang/Void;)V" } : Jvm.MethodName) jdk_42_method_149_code (6 : Nat) (Option.none : Option Jvm.ClassFile.FieldType)).before a0 Z = true := hw _ (List.mem_of_getElem? (i := 54) rfl)
theorem own_q55 {Z : State} {a0 : Array Value} (hw : ∀ d ∈ tables_1, d.before a0 Z = true) : (Jvm.Cond.methodLink "java/lang/String" (1 : Nat) ({ cls := "java/lang/Object", name := "<init>", desc := "()V" } : Jvm.MethodName)).before a0 Z = true := hw _ (List.mem_of_getElem? (i := 55) rfl)
theorem own_q56 {Z : State} {a0 : Array Value} (hw : ∀ d ∈ tables_1, d.before a0 Z = true) : (Jvm.Cond.instanceMethod ({ cls := "java/lang/Object", name := "<init>", desc := "()V" } : Jvm.MethodName)).before a0 Z = true := hw _ (List.mem_of_getElem? (i := 56) rfl)
theorem own_q57 {Z : State} {a0 : Array Value} (hw : ∀ d ∈ tables_1, d.before a0 Z = true) : (Jvm.Cond.code ({ cls := "java/lang/Object", name := "<init>", desc := "()V" } : Jvm.MethodName) object_method_1_code (1 : Nat) (Option.none : Option Jvm.ClassFile.FieldType)).before a0 Z = true := hw _ (List.mem_of_getElem? (i := 57) rfl)
theorem own_q69 {Z : State} {a0 : Array Value} (hw : ∀ d ∈ tables_1, d.before a0 Z = true) : (Jvm.Cond.fieldLink "java/lang/String" (15 : Nat) "java/lang/String" "coder" "B").before a0 Z = true := hw _ (List.mem_of_getElem? (i := 69) rfl)
theorem own_q70 {Z : State} {a0 : Array Value} (hw : ∀ d ∈ tables_1, d.before a0 Z = true) : (Jvm.Cond.fieldLink "java/lang/String" (9 : Nat) "java/lang/String" "value" "[B").before a0 Z = true := hw _ (List.mem_of_getElem? (i := 70) rfl)
theorem own_q76 {Z : State} {a0 : Array Value} (hw : ∀ d ∈ tables_1, d.before a0 Z = true) : (Jvm.Cond.methodLink "com/example/ambient_wiring/ambientwiring/BeanScopeNamedPinLaw" (45 : Nat) ({ cls := "java/lang/String", name := "equals", desc := "(Ljava/lang/Object;)Z" } : Jvm.MethodName)).before a0 Z = true := hw _ (List.mem_of_getElem? (i := 76) rfl)
theorem own_q77 {Z : State} {a0 : Array Value} (hw : ∀ d ∈ tables_1, d.before a0 Z = true) : (Jvm.Cond.methodLink "com/example/ambient_wiring/ambientwiring/BeanScopeNamedPinLaw" (31 : Nat) ({ cls := "com/example/ambient_wiring/ambientwiring/BeanScopeNamedPinLaw", name := "drawn9", desc := "(JJ)[C" } : Jvm.MethodName)).before a0 Z = true := hw _ (List.mem_of_getElem? (i := 77) rfl)
theorem own_q78 {Z : State} {a0 : Array Value} (hw : ∀ d ∈ tables_1, d.before a0 Z = true) : (Jvm.Cond.static ({ cls := "com/example/ambient_wiring/ambientwiring/BeanScopeNamedPinLaw", name := "drawn9", desc := "(JJ)[C" } : Jvm.MethodName)).before a0 Z = true := hw _ (List.mem_of_getElem? (i := 78) rfl)
theorem own_q79 {Z : State} {a0 : Array Value} (hw : ∀ d ∈ tables_1, d.before a0 Z = true) : (Jvm.Cond.code ({ cls := "com/example/ambient_wiring/ambientwiring/BeanScopeNamedPinLaw", name := "drawn9", desc := "(JJ)[C" } : Jvm.MethodName) method_10_code (5 : Nat) (Option.some (Jvm.ClassFile.FieldType.array Jvm.ClassFile.FieldType.char))).before a0 Z = true := hw _ (List.mem_of_getElem? (i := 79) rfl)
theorem own_q80 {Z : State} {a0 : Array Value} (hw : ∀ d ∈ tables_1, d.before a0 Z = true) : (Jvm.Cond.stringLink "java/lang/String" (7 : Nat) "").before a0 Z = true := hw _ (List.mem_of_getElem? (i := 80) rfl)
theorem own_q81 {Z : State} {a0 : Array Value} (hw : ∀ d ∈ tables_1, d.before a0 Z = true) : (Jvm.Cond.methodLink "com/example/ambient_wiring/ambientwiring/BeanScopeNamedPinLaw" (27 : Nat) ({ cls := "com/example/ambient_wiring/ambientwiring/BeanScopeNamedPinLaw", name := "insert", desc := "(Ljava/lang/String;IC)[C" } : Jvm.MethodName)).before a0 Z = true := hw _ (List.mem_of_getElem? (i := 81) rfl)
theorem own_q82 {Z : State} {a0 : Array Value} (hw : ∀ d ∈ tables_1, d.before a0 Z = true) : (Jvm.Cond.static ({ cls := "com/example/ambient_wiring/ambientwiring/BeanScopeNamedPinLaw", name := "insert", desc := "(Ljava/lang/String;IC)[C" } : Jvm.MethodName)).before a0 Z = true := hw _ (List.mem_of_getElem? (i := 82) rfl)
theorem own_q83 {Z : State} {a0 : Array Value} (hw : ∀ d ∈ tables_1, d.before a0 Z = true) : (Jvm.Cond.code ({ cls := "com/example/ambient_wiring/ambientwiring/BeanScopeNamedPinLaw", name := "insert", desc := "(Ljava/lang/String;IC)[C" } : Jvm.MethodName) method_7_code (4 : Nat) (Option.some (Jvm.ClassFile.FieldType.array Jvm.ClassFile.FieldType.char))).before a0 Z = true := hw _ (List.mem_of_getElem? (i := 83) rfl)
theorem own_q84 {Z : State} {a0 : Array Value} (hw : ∀ d ∈ tables_1, d.before a0 Z = true) : (Jvm.Cond.methodLink "com/example/ambient_wiring/ambientwiring/BeanScopeNamedPinLaw" (64 : Nat) ({ cls := "com/example/ambient_wiring/ambientwiring/BeanScopeNamedPinLaw", name := "insAt", desc := "(Ljava/lang/String;IIC)C" } : Jvm.MethodName)).before a0 Z = true := hw _ (List.mem_of_getElem? (i := 84) rfl)
theorem own_q85 {Z : State} {a0 : Array Value} (hw : ∀ d ∈ tables_1, d.before a0 Z = true) : (Jvm.Cond.static ({ cls := "com/example/ambient_wiring/ambientwiring/BeanScopeNamedPinLaw", name := "insAt", desc := "(Ljava/lang/String;IIC)C" } : Jvm.MethodName)).before a0 Z = true := hw _ (List.mem_of_getElem? (i := 85) rfl)
theorem own_q86 {Z : State} {a0 : Array Value} (hw : ∀ d ∈ tables_1, d.before a0 Z = true) : (Jvm.Cond.code ({ cls := "com/example/ambient_wiring/ambientwiring/BeanScopeNamedPinLaw", name := "insAt", desc := "(Ljava/lang/String;IIC)C" } : Jvm.MethodName) method_6_code (4 : Nat) (Option.some Jvm.ClassFile.FieldType.char)).before a0 Z = true := hw _ (List.mem_of_getElem? (i := 86) rfl)
theorem own_q87 {Z : State} {a0 : Array Value} (hw : ∀ d ∈ tables_1, d.before a0 Z = true) : (Jvm.Cond.methodLink "com/example/ambient_wiring/ambientwiring/BeanScopeNamedPinLaw" (56 : Nat) ({ cls := "java/lang/String", name := "charAt", desc := "(I)C" } : Jvm.MethodName)).before a0 Z = true := hw _ (List.mem_of_getElem? (i := 87) rfl)
theorem own_q88 {Z : State} {a0 : Array Value} (hw : ∀ d ∈ tables_1, d.before a0 Z = true) : (Jvm.Cond.declares ({ cls := "java/lang/String", name := "charAt", desc := "(I)C" } : Jvm.MethodName)).before a0 Z = true := hw _ (List.mem_of_getElem? (i := 88) rfl)
theorem own_q89 {Z : State} {a0 : Array Value} (hw : ∀ d ∈ tables_1, d.before a0 Z = true) : (Jvm.Cond.instanceMethod ({ cls := "java/lang/String", name := "charAt", desc := "(I)C" } : Jvm.MethodName)).before a0 Z = true := hw _ (List.mem_of_getElem? (i := 89) rfl)
theorem own_q90 {Z : State} {a0 : Array Value} (hw : ∀ d ∈ tables_1, d.before a0 Z = true) : (Jvm.Cond.selects "java/lang/String" ({ cls := "java/lang/String", name := "charAt", desc := "(I)C" } : Jvm.MethodName) ({ cls := "java/lang/String", name := "charAt", desc := "(I)C" } : Jvm.MethodName)).before a0 Z = true := hw _ (List.mem_of_getElem? (i := 90) rfl)
theorem own_q108 {Z : State} {a0 : Array Value} (hw : ∀ d ∈ tables_1, d.before a0 Z = true) : (Jvm.Cond.methodLink "com/example/ambient_wiring/ambientwiring/BeanScopeNamedPinLaw" (23 : Nat) ({ cls := "com/example/ambient_wiring/ambientwiring/BeanScopeNamedPinLaw", name := "drop", desc := "(Ljava/lang/String;I)[C" } : Jvm.MethodName)).before a0 Z = true := hw _ (List.mem_of_getElem? (i := 108) rfl)
theorem own_q109 {Z : State} {a0 : Array Value} (hw : ∀ d ∈ tables_1, d.before a0 Z = true) : (Jvm.Cond.static ({ cls := "com/example/ambient_wiring/ambientwiring/BeanScopeNamedPinLaw", name := "drop", desc := "(Ljava/lang/String;I)[C" } : Jvm.MethodName)).before a0 Z = true := hw _ (List.mem_of_getElem? (i := 109) rfl)
theorem own_q110 {Z : State} {a0 : Array Value} (hw : ∀ d ∈ tables_1, d.before a0 Z = true) : (Jvm.Cond.code ({ cls := "com/example/ambient_wiring/ambientwiring/BeanScopeNamedPinLaw", name := "drop", desc := "(Ljava/lang/String;I)[C" } : Jvm.MethodName) method_5_code (3 : Nat) (Option.some (Jvm.ClassFile.FieldType.array Jvm.ClassFile.FieldType.char))).before a0 Z = true := hw _ (List.mem_of_getElem? (i := 110) rfl)
theorem own_q111 {Z : State} {a0 : Array Value} (hw : ∀ d ∈ tables_1, d.before a0 Z = true) : (Jvm.Cond.methodLink "com/example/ambient_wiring/ambientwiring/BeanScopeNamedPinLaw" (60 : Nat) ({ cls := "com/example/ambient_wiring/ambientwiring/BeanScopeNamedPinLaw", name := "dropAt", desc := "(Ljava/lang/String;II)C" } : Jvm.MethodName)).before a0 Z = true := hw _ (List.mem_of_getElem? (i := 111) rfl)
theorem own_q112 {Z : State} {a0 : Array Value} (hw : ∀ d ∈ tables_1, d.before a0 Z = true) : (Jvm.Cond.static ({ cls := "com/example/ambient_wiring/ambientwiring/BeanScopeNamedPinLaw", name := "dropAt", desc := "(Ljava/lang/String;II)C" } : Jvm.MethodName)).before a0 Z = true := hw _ (List.mem_of_getElem? (i := 112) rfl)
theorem own_q113 {Z : State} {a0 : Array Value} (hw : ∀ d ∈ tables_1, d.before a0 Z = true) : (Jvm.Cond.code ({ cls := "com/example/ambient_wiring/ambientwiring/BeanScopeNamedPinLaw", name := "dropAt", desc := "(Ljava/lang/String;II)C" } : Jvm.MethodName) method_4_code (3 : Nat) (Option.some Jvm.ClassFile.FieldType.char)).before a0 Z = true := hw _ (List.mem_of_getElem? (i := 113) rfl)
theorem own_q114 {Z : State} {a0 : Array Value} (hw : ∀ d ∈ tables_1, d.before a0 Z = true) : (Jvm.Cond.methodLink "com/example/ambient_wiring/ambientwiring/BeanScopeNamedPinLaw" (14 : Nat) ({ cls := "com/example/ambient_wiring/ambientwiring/BeanScopeNamedPinLaw", name := "template", desc := "(Ljava/lang/String;)[C" } : Jvm.MethodName)).before a0 Z = true := hw _ (List.mem_of_getElem? (i := 114) rfl)
theorem own_q115 {Z : State} {a0 : Array Value} (hw : ∀ d ∈ tables_1, d.before a0 Z = true) : (Jvm.Cond.static ({ cls := "com/example/ambient_wiring/ambientwiring/BeanScopeNamedPinLaw", name := "template", desc := "(Ljava/lang/String;)[C" } : Jvm.MethodName)).before a0 Z = true := hw _ (List.mem_of_getElem? (i := 115) rfl)
theorem own_q116 {Z : State} {a0 : Array Value} (hw : ∀ d ∈ tables_1, d.before a0 Z = true) : (Jvm.Cond.code ({ cls := "com/example/ambient_wiring/ambientwiring/BeanScopeNamedPinLaw", name := "template", desc := "(Ljava/lang/String;)[C" } : Jvm.MethodName) method_3_code (2 : Nat) (Option.some (Jvm.ClassFile.FieldType.array Jvm.ClassFile.FieldType.char))).before a0 Z = true := hw _ (List.mem_of_getElem? (i := 116) rfl)
theorem own_q117 {Z : State} {a0 : Array Value} (hw : ∀ d ∈ tables_1, d.before a0 Z = true) : (Jvm.Cond.fieldLink "com/example/ambient_wiring/ambientwiring/BeanScopeNamedPinLaw" (49 : Nat) "com/example/ambient_wiring/ambientwiring/BeanScope" "SINGLETON" "Lcom/example/ambient_wiring/ambientwiring/BeanScope;").before a0 Z = true := hw _ (List.mem_of_getElem? (i := 117) rfl)
theorem own_q118 {Z : State} {a0 : Array Value} (hw : ∀ d ∈ tables_1, d.before a0 Z = true) : (Jvm.Cond.fieldLink "com/example/ambient_wiring/ambientwiring/BeanScopeNamedPinLaw" (53 : Nat) "com/example/ambient_wiring/ambientwiring/BeanScope" "PROTOTYPE" "Lcom/example/ambient_wiring/ambientwiring/BeanScope;").before a0 Z = true := hw _ (List.mem_of_getElem? (i := 118) rfl)

section Strs
variable {md : Nat} {p : Program} {l : Launch} {e : Env} {R : Room} {s : State} {m : MethodId} {args : Array Value} {below : List Frame} {meth : Method} {c : Code} {own : String} {Z : State} {EL : List (String × Nat)} {vm : Vm} {T : State} {h h' h0 : Heap} {cells slots : Nat} {P : Outcome → State → Prop} {pc : Nat} {L : Array Slot} {a0 : Array Value} {a b : Addr} {cs ds : List Int32} {W : Nat}
def own_lat (cs : List Int32) : Prop := ∀ c ∈ cs, ¬ c < 0 ∧ ¬ (255 : Int32) < c
def own_str (Z : State) (h : Heap) (a : Addr) (cs : List Int32) : Prop := own_lat cs ∧ cs.length ≤ 4000 ∧ ∃ b k, Exa Z h a "java/lang/String" ∧ Fld Z h a "java/lang/String" "coder" "B" (.int 0) ∧ Fld Z h a "java/lang/String" "value" "[B" (.ref b) ∧ Arv Z h b k .byte (Int32.ofNat cs.length) ((cs.map fun c => c.toInt8.toInt32).map Value.int) (.int 0)
theorem own_str.ext (F : own_str Z h a cs) (E : Ext h h') : own_str Z h' a cs := by
  obtain ⟨f1, f2, b, k, f3, f4, f5, f6⟩ := F; exact ⟨f1, f2, b, k, f3.ext E, f4.ext E, f5.ext E, f6.ext E⟩
theorem own_str.exa (F : own_str Z h a cs) : Exa Z h a "java/lang/String" := by obtain ⟨-, -, _, _, f3, -⟩ := F; exact f3
theorem own_str.lat (F : own_str Z h a cs) : own_lat cs := F.1
theorem own_str.lt (F : own_str Z h a cs) : a < h.size := F.exa.lt
/-- over a step that writes new cells alone -/
theorem own_str.keep {ws : List Addr} (F : own_str Z h a cs) (K : Keep h h' ws) (q : ∀ x ∈ ws, h.size ≤ x) : own_str Z h' a cs := by
  obtain ⟨f1, f2, b, k, f3, f4, f5, f6⟩ := F
  have na : a ∉ ws := fun z => absurd (q a z) (Nat.not_le.mpr f3.lt)
  have nb : b ∉ ws := fun z => absurd (q b z) (Nat.not_le.mpr f6.lt)
  exact ⟨f1, f2, b, k, f3.keep K, f4.keep K na, f5.keep K na, f6.keep K nb⟩
theorem own_up (H : own_lat cs) : ∀ c ∈ cs, ¬ c < 0 ∧ ¬ (65535 : Int32) < c := fun c hc => ⟨(H c hc).1, fun q => (H c hc).2 (by
  rw [Int32.lt_iff_toInt_lt] at q ⊢
  have e1 : (65535 : Int32).toInt = 65535 := by decide
  have e2 : (255 : Int32).toInt = 255 := by decide
  omega)⟩
theorem own_lat_nil : own_lat [] := fun c hc => by cases hc
theorem own_lat_cons {x : Int32} (hx : 0 ≤ x.toInt ∧ x.toInt ≤ 255) (H : own_lat cs) : own_lat (x :: cs) := fun c hc => by
  rcases List.mem_cons.mp hc with rfl | hc
  · have e1 : (0 : Int32).toInt = 0 := by decide
    have e2 : (255 : Int32).toInt = 255 := by decide
    rw [Int32.lt_iff_toInt_lt, Int32.lt_iff_toInt_lt]; omega
  · exact H c hc
theorem own_b16 {x : Int32} (hx : 0 ≤ x.toInt ∧ x.toInt ≤ 255) : 0 ≤ x.toInt ∧ x.toInt ≤ 65535 := ⟨hx.1, by omega⟩
theorem own_cod (H : own_lat cs) : StrChars.Road.CodA cs 0 (Int32.ofNat cs.length) ((cs.map fun c => c.toInt8.toInt32).map Value.int) := StrChars.Road.codOf (cs := cs) rfl fun c hc => (H c hc).2
def own_cs (Z : State) : Prop := ∃ z : Int32, Sta Z Z.heap "java/lang/String" "COMPACT_STRINGS" "Z" (.int z) ∧ ¬ z = 0
def own_sf (Z : State) : Prop := ∃ fm : Value, Sta Z Z.heap "jdk/internal/util/Preconditions" "SIOOBE_FORMATTER" "Ljava/util/function/BiFunction;" fm ∧ fm.isRef = true
theorem own_ext_wr {sl : Nat} {v : Value} (E : Ext h0 h) (W : Wr h h' a sl v) (q : h0.size ≤ a) : Ext h0 h' := by
  obtain ⟨cell, h1, h2, h3, rfl⟩ := W
  refine ⟨by simpa using E.1, fun x c hx => ?_⟩
  have := (Array.getElem?_eq_some_iff.mp hx).1
  rw [Array.getElem?_setIfInBounds_ne (by omega)]; exact E.2 x c hx
theorem own_ext_keep {ws : List Addr} (E : Ext h0 h) (K : Keep h h' ws) (q : ∀ x ∈ ws, h0.size ≤ x) : Ext h0 h' :=
  ⟨Nat.le_trans E.1 K.1, fun x c hx => K.2.1 x c (E.2 x c hx) fun z => absurd (q x z) (Nat.not_le.mpr (Array.getElem?_eq_some_iff.mp hx).1)⟩
theorem own_ext_trans {h1 h2 : Heap} (E : Ext h0 h1) (E' : Ext h1 h2) : Ext h0 h2 := ⟨Nat.le_trans E.1 E'.1, fun x c hx => E'.2 x c (E.2 x c hx)⟩
theorem own_ext_refl : Ext h h := ⟨Nat.le_refl _, fun _ _ q => q⟩
theorem own_nar {x : Int32} (hx : 0 ≤ x.toInt ∧ x.toInt ≤ 65535) : nar .char x = x := by
  have := c_i2c x
  refine Int32.toInt_inj.mp ?_
  show x.toUInt32.toUInt16.toUInt32.toInt32.toInt = x.toInt
  omega
/-- a String as 'new' leaves it -/
def own_raw (Z : State) (h : Heap) (a : Addr) : Prop := Exa Z h a "java/lang/String" ∧ (∃ v0, Fld Z h a "java/lang/String" "value" "[B" v0) ∧ ∃ c0, Fld Z h a "java/lang/String" "coder" "B" c0
theorem own_raw.ext (F : own_raw Z h a) (E : Ext h h') : own_raw Z h' a := by obtain ⟨f1, ⟨v, f2⟩, d, f3⟩ := F; exact ⟨f1.ext E, ⟨v, f2.ext E⟩, d, f3.ext E⟩
theorem own_raw.wr {sl : Nat} {v : Value} (F : own_raw Z h a) (W : Wr h h' b sl v) (q : a ≠ b) : own_raw Z h' a := by obtain ⟨f1, ⟨v, f2⟩, d, f3⟩ := F; exact ⟨f1.wr W, ⟨v, f2.other W (Or.inl q)⟩, d, f3.other W (Or.inl q)⟩
theorem own_pd0 : parseMethodDescriptor "([C)V" = some ⟨[(.array .char)], none⟩ := by decide +kernel
theorem own_mk (S : St md p l e R s m args below meth c own Z EL vm T h cells slots) (hx : p.tables.exec = Jvm.exec) (hw : ∀ d ∈ tables_1, d.before a0 Z = true) (G : own_cs Z) (n : Nat) (hn : cs.length = n) {index : Nat} (w1 : (Cond.methodLink own index (⟨"java/lang/String", "<init>", "([C)V"⟩ : MethodName)).before a0 Z = true) {kC : ClassId} {d : Value} (F : own_raw Z h a) (Kc : Arv Z h b kC .char (Int32.ofNat cs.length) (cs.map Value.int) d) (sf : Safe Z EL vm h a) (ga : Z.heap.size ≤ a) (l0 : 0 < n) (l2 : n ≤ 4000) (hp : own_lat cs) (hf : 4 ≤ R.frames) (hl : W + 65 ≤ R.locals) (hml : L.size = c.maxLocals) (rest : List Value) (hW : (rest.map fun v => v.category).sum ≤ W) (hd : decode c.code pc = .ok (.invokespecial index, 3)) (hc : cells + 1 ≤ R.cells) (hs : slots + n ≤ R.slots) (p' : Nat) (hp' : p' = pc + 3)
    (q : ∀ T' h', St md p l e R s m args below meth c own Z EL vm T' h' (cells + 1) (slots + n) → own_str Z h' a cs → Keep h h' [a] → CHr Z EL vm h vm h' → Goes p.tables e below P T' (mkF m p' L rest)) : Goes p.tables e below P T (mkF m pc L (.ref b :: .ref a :: rest)) := by
  subst hn
  obtain ⟨f1, ⟨v0, f2⟩, c0, f3⟩ := F
  obtain ⟨z, g1, g2⟩ := G
  have hws : ∀ d ∈ StrChars.Road.words, d.before a0 Z = true := fun d hd => hw d ((by decide +kernel : ∀ d ∈ StrChars.Road.words, d ∈ tables_1) d hd)
  refine S.callIN hx rfl w1 (own_q49 hw) (own_q50 hw) (by decide) (StrChars.Road.backV (s := s.setVm vm) (W := W) S.warm hws (kI := 4) (own_q2 hw) (cs := cs) (bs := cs.map fun c => c.toInt8.toInt32) (n := cs.length) (n0 := Z.heap.size) ga S.size f1 f2 f3 Kc (g1.ext S.old.2) g2 rfl rfl l0 l2 hp rfl hf hl) ?_ hml [.ref b] rest (lenOf own_pd0 rfl) rfl rfl hW hd hc hs p' hp' ?_
  · intro v h' Lc r
    have sa : ∀ x ∈ [a], Safe Z EL vm h x := fun x hx => by cases List.mem_singleton.mp hx; exact sf
    exact ⟨r.2.1, S.old.keep r.2.2.1 (fun x hx => by cases List.mem_singleton.mp hx; exact ga), CHr.keep r.2.2.1 sa S.chr.1⟩
  · intro v T' h' Lc S' r R'
    obtain ⟨rfl, -, r3, r4, r5, t, kb, -, -, -, r6, r7⟩ := r
    exact q T' h' S' ⟨hp, l2, t, kb, r4, r5, r6, r7⟩ r3 R'
theorem own_pd1 : parseMethodDescriptor "(I)C" = some ⟨[.int], some .char⟩ := by decide +kernel
theorem own_chr (S : St md p l e R s m args below meth c own Z EL vm T h cells slots) (hx : p.tables.exec = Jvm.exec) (hw : ∀ d ∈ tables_1, d.before a0 Z = true) (G : own_cs Z) (G2 : own_sf Z) {index : Nat} (w1 : (Cond.methodLink own index (⟨"java/lang/String", "charAt", "(I)C"⟩ : MethodName)).before a0 Z = true) (F : own_str Z h a cs) {i : Nat} {j : Int32} (hi : i < cs.length) (hj : j = Int32.ofNat i) (hf : 4 ≤ R.frames) (hl : W + 53 ≤ R.locals) (hml : L.size = c.maxLocals) (rest : List Value) (hW : (rest.map fun v => v.category).sum ≤ W) (hd : decode c.code pc = .ok (.invokevirtual index, 3)) (hc : cells ≤ R.cells) (hs : slots ≤ R.slots) (p' : Nat) (hp' : p' = pc + 3)
    (q : ∀ T' , St md p l e R s m args below meth c own Z EL vm T' h cells slots → Goes p.tables e below P T' (mkF m p' L (.int (cs.getD i 0) :: rest))) : Goes p.tables e below P T (mkF m pc L (.int j :: .ref a :: rest)) := by
  have hws : ∀ d ∈ StrChars.Road.wordsChN, d.before a0 Z = true := fun d hd => hw d ((by decide +kernel : ∀ d ∈ StrChars.Road.wordsChN, d ∈ tables_1) d hd)
  obtain ⟨f1, f2, vb, k, f3, f4, f5, f6⟩ := F
  obtain ⟨z, g1, g2⟩ := G
  obtain ⟨fm, g3, g4⟩ := G2
  refine S.callVN (C := "java/lang/String") (k := 0) (n := 0) (QN := fun v h' L => (v = some (.int (cs.getD i 0))) ∧ L = [] ∧ h' = h) hx w1 (own_q88 hw) (notFace_of_selects (args := #[]) (mvT (s := s.setVm vm) S.warm (own_q90 hw))) (own_q90 hw) (own_q89 hw) (by decide) f3 (StrChars.Road.chN (s := s.setVm vm) (W := W) S.warm hws (kI := 4) (own_q2 hw) f3 f5 f4 f6 (own_cod f1) (own_up f1) (g1.ext S.old.2) g2 (g3.ext S.old.2) g4 f2 hi hj hf hl) ?_ hml [.int j] rest (lenOf own_pd1 rfl) rfl rfl hW hd hc hs p' hp' ?_
  · intro v h' Lc r
    obtain ⟨-, rfl, rfl⟩ := r
    exact ⟨Fr.nil _, S.old, CHr.refl S.chr.1⟩
  · intro v T' h' Lc S' r R'
    obtain ⟨rfl, rfl, rfl⟩ := r
    exact q T' S'
theorem own_pd2 : parseMethodDescriptor "(Ljava/lang/Object;)Z" = some ⟨[(.object "java/lang/Object")], some .boolean⟩ := by decide +kernel
theorem own_eq (S : St md p l e R s m args below meth c own Z EL vm T h cells slots) (hx : p.tables.exec = Jvm.exec) (hw : ∀ d ∈ tables_1, d.before a0 Z = true) (G : own_cs Z) {index : Nat} (w1 : (Cond.methodLink own index (⟨"java/lang/String", "equals", "(Ljava/lang/Object;)Z"⟩ : MethodName)).before a0 Z = true) (F : own_str Z h a cs) (F2 : own_str Z h b ds) (hf : 2 ≤ R.frames) (hl : W + 28 ≤ R.locals) (hml : L.size = c.maxLocals) (rest : List Value) (hW : (rest.map fun v => v.category).sum ≤ W) (hd : decode c.code pc = .ok (.invokevirtual index, 3)) (hc : cells ≤ R.cells) (hs : slots ≤ R.slots) (p' : Nat) (hp' : p' = pc + 3)
    (q : ∀ T' (z : Int32), St md p l e R s m args below meth c own Z EL vm T' h cells slots → (z = 1 ∧ cs = ds) ∨ (z = 0 ∧ ¬ cs = ds) → Goes p.tables e below P T' (mkF m p' L (.int z :: rest))) : Goes p.tables e below P T (mkF m pc L (.ref b :: .ref a :: rest)) := by
  have hws : ∀ d ∈ StrChars.Road.wordsEq, d.before a0 Z = true := fun d hd => hw d ((by decide +kernel : ∀ d ∈ StrChars.Road.wordsEq, d ∈ tables_1) d hd)
  obtain ⟨f1, f2, vb, k, f3, f4, f5, f6⟩ := F
  obtain ⟨z, g1, g2⟩ := G
  obtain ⟨e1, e2, b', k', e3, e4, e5, e6⟩ := F2
  refine S.callVN (C := "java/lang/String") (k := 0) (n := 0) (QN := fun v h' L => ((v = some (.int 1) ∧ cs = ds) ∨ (v = some (.int 0) ∧ ¬ cs = ds)) ∧ L = [] ∧ h' = h) hx w1 (own_q33 hw) (notFace_of_selects (args := #[]) (mvT (s := s.setVm vm) S.warm (own_q35 hw))) (own_q35 hw) (own_q34 hw) (by decide) f3 (StrChars.Road.eqW (s := s.setVm vm) (W := W) S.warm hws (kI := 4) (own_q2 hw) f3 f5 f4 f6 (own_cod f1) (own_up f1) f2 e3 e5 e4 e6 (own_cod e1) (own_up e1) e2 (g1.ext S.old.2) g2 hf hl) ?_ hml [.ref b] rest (lenOf own_pd2 rfl) rfl rfl hW hd hc hs p' hp' ?_
  · intro v h' Lc r
    obtain ⟨-, rfl, rfl⟩ := r
    exact ⟨Fr.nil _, S.old, CHr.refl S.chr.1⟩
  · intro v T' h' Lc S' r R'
    obtain ⟨r, rfl, rfl⟩ := r
    rcases r with ⟨rfl, r⟩ | ⟨rfl, r⟩
    · exact q T' 1 S' (Or.inl ⟨rfl, r⟩)
    · exact q T' 0 S' (Or.inr ⟨rfl, r⟩)
end Strs
def own_arr (Z : State) (h : Heap) (b : Addr) (n : Nat) : Prop := ∃ k cs, Arv Z h b k .char (Int32.ofNat cs.length) (cs.map Value.int) (.int 0) ∧ own_lat cs ∧ cs.length = n
theorem own_arr.ext {Z : State} {h h' : Heap} {b : Addr} {n : Nat} (A : own_arr Z h b n) (E : Ext h h') : own_arr Z h' b n := by obtain ⟨k, cs, a1, a2, a3⟩ := A; exact ⟨k, cs, a1.ext E, a2, a3⟩
theorem own_lat_at {cs : List Int32} (H : own_lat cs) {i : Nat} (hi : i < cs.length) : 0 ≤ (cs.getD i 0).toInt ∧ (cs.getD i 0).toInt ≤ 255 := by
  have q := H (cs.getD i 0) (by rw [List.getD_eq_getElem?_getD, List.getElem?_eq_getElem hi]; exact List.getElem_mem hi)
  rw [Int32.lt_iff_toInt_lt, Int32.lt_iff_toInt_lt] at q
  have e1 : (0 : Int32).toInt = 0 := by decide
  have e2 : (255 : Int32).toInt = 255 := by decide
  omega
theorem own_lat_set {cs : List Int32} (H : own_lat cs) {i : Nat} {x : Int32} (hx : 0 ≤ x.toInt ∧ x.toInt ≤ 255) : own_lat (cs.set i x) := fun c hc => by
  rcases List.mem_or_eq_of_mem_set hc with q | rfl
  · exact H c q
  · exact own_lat_cons hx own_lat_nil c (List.mem_singleton.mpr rfl)
theorem own_mkA {md : Nat} {p : Program} {l : Launch} {e : Env} {R : Room} {s : State} {m : MethodId} {args : Array Value} {below : List Frame} {meth : Method} {c : Code} {own : String} {Z : State} {EL : List (String × Nat)} {vm : Vm} {T : State} {h : Heap} {cells slots : Nat} {P : Outcome → State → Prop} {pc : Nat} {L : Array Slot} {a0 : Array Value} {a b : Addr} {W n : Nat}
    (S : St md p l e R s m args below meth c own Z EL vm T h cells slots) (hx : p.tables.exec = Jvm.exec) (hw : ∀ d ∈ tables_1, d.before a0 Z = true) (G : own_cs Z) {index : Nat} (w1 : (Cond.methodLink own index (⟨"java/lang/String", "<init>", "([C)V"⟩ : MethodName)).before a0 Z = true) (F : own_raw Z h a) (A : own_arr Z h b n) (sf : Safe Z EL vm h a) (ga : Z.heap.size ≤ a) (l0 : 0 < n) (l2 : n ≤ 4000) (hf : 4 ≤ R.frames) (hl : W + 65 ≤ R.locals) (hml : L.size = c.maxLocals) (rest : List Value) (hW : (rest.map fun v => v.category).sum ≤ W) (hd : decode c.code pc = .ok (.invokespecial index, 3)) (hc : cells + 1 ≤ R.cells) (hs : slots + n ≤ R.slots) (p' : Nat) (hp' : p' = pc + 3)
    (q : ∀ T' h' cs, St md p l e R s m args below meth c own Z EL vm T' h' (cells + 1) (slots + n) → own_str Z h' a cs → Keep h h' [a] → CHr Z EL vm h vm h' → Goes p.tables e below P T' (mkF m p' L rest)) : Goes p.tables e below P T (mkF m pc L (.ref b :: .ref a :: rest)) := by
  obtain ⟨k, cs, a1, a2, rfl⟩ := A
  exact own_mk S hx hw G _ rfl w1 F a1 sf ga l0 l2 a2 hf hl hml rest hW hd hc hs p' hp' (fun T' h' S' f K R' => q T' h' cs S' f K R')
theorem own_wS {Z : State} {a0 : Array Value} (hw : ∀ d ∈ tables_1, d.before a0 Z = true) : ∀ a ∈ Bundle.stringAtoms, a.before a0 Z = true := fun d hd => hw d ((by decide +kernel : ∀ d ∈ Bundle.stringAtoms, d ∈ tables_1) d hd)
theorem own_ew {Z : State} {a0 : Array Value} (hw : ∀ d ∈ tables_1, d.before a0 Z = true) : EW Z a0 consts_1 :=
  (EW.cons (own_q37 hw) (by decide +kernel) (EW.cons (own_q0 hw) (by decide +kernel) (EW.cons (own_q80 hw) (by decide +kernel) EW.nil)))
def own_ts : List Int32 := [115, 105, 110, 103, 108, 101, 116, 111, 110]
theorem own_ts_lat : own_lat own_ts := by unfold own_lat; decide +kernel
def own_tp : List Int32 := [112, 114, 111, 116, 111, 116, 121, 112, 101]
theorem own_tp_lat : own_lat own_tp := by unfold own_lat; decide +kernel
theorem own_tsp : ¬ own_ts = own_tp := by decide +kernel
theorem own_nat {n : Nat} (h : n ≤ 4000) : (Int32.ofNat n).toInt = n := toInt_of rfl (by omega)
theorem own_narrow {x : Int32} (hx : 0 ≤ x.toInt ∧ x.toInt ≤ 255) : narrow .char (.int x) = .int x := congrArg Value.int (own_nar (own_b16 hx))
theorem own_r (p1 m : Int32) (hm : 0 < m.toInt) : 0 ≤ ((p1 &&& (2147483647 : Int32)) % m).toInt ∧ ((p1 &&& (2147483647 : Int32)) % m).toInt < m.toInt := by
  have h1 := c_and p1 2147483647 (by decide)
  have h2 := (c_iremV (p1 &&& (2147483647 : Int32)) m).1 h1.1 hm
  exact ⟨h2.1, h2.2.1⟩
theorem own_b8 (x : Int32) : 0 ≤ (x &&& (255 : Int32)).toUInt32.toUInt16.toUInt32.toInt32.toInt ∧ (x &&& (255 : Int32)).toUInt32.toUInt16.toUInt32.toInt32.toInt ≤ 255 := by
  have h1 := c_and x 255 (by decide)
  have e : (255 : Int32).toInt = 255 := by decide
  have h2 := c_i2c (x &&& 255)
  omega
theorem own_bL (x : Int64) : 0 ≤ (x &&& (255 : Int64)).toInt32.toUInt32.toUInt16.toUInt32.toInt32.toInt ∧ (x &&& (255 : Int64)).toInt32.toUInt32.toUInt16.toUInt32.toInt32.toInt ≤ 255 := by
  have h1 := c_maskL x 255 8 (by decide) (by decide)
  have h2 := c_l2i (x &&& 255)
  have h3 := rng32 (x &&& (255 : Int64)).toInt32
  have h4 := c_i2c (x &&& (255 : Int64)).toInt32
  omega
theorem own_b7 (x : Int32) : 0 ≤ (x &&& (7 : Int32)).toInt ∧ (x &&& (7 : Int32)).toInt ≤ 7 := by
  have h1 := c_and x 7 (by decide)
  have e : (7 : Int32).toInt = 7 := by decide
  omega
theorem own_sub {x y : Int32} (h : 0 ≤ x.toInt - y.toInt ∧ x.toInt - y.toInt ≤ 65535) : (x - y).toInt = x.toInt - y.toInt := by
  have h2 := c_isub x y
  have h3 := rng32 (x - y)
  omega
theorem own_add {x y : Int32} (h : 0 ≤ x.toInt + y.toInt ∧ x.toInt + y.toInt ≤ 65535) : (x + y).toInt = x.toInt + y.toInt := by
  have h2 := c_iadd x y
  have h3 := rng32 (x + y)
  omega
theorem own_ix {j : Int32} (h : 0 ≤ j.toInt ∧ j.toInt ≤ 4000) : j = Int32.ofNat j.toInt.toNat := Int32.toInt_inj.mp (by rw [own_nat (by omega)]; omega)
/-- the two constants of the enum, as the sheet says them -/
def own_en (Z : State) (s1 s2 : Addr) : Prop := ∃ (v0 n1 n2 : Addr) (kV : ClassId), Sta Z Z.heap "com/example/ambient_wiring/ambientwiring/BeanScope" "$VALUES" "[Lcom/example/ambient_wiring/ambientwiring/BeanScope;" (.ref v0) ∧ Arv Z Z.heap v0 kV (.object "com/example/ambient_wiring/ambientwiring/BeanScope") (2 : Int32) [.ref s1, .ref s2] .null ∧ Exa Z Z.heap v0 "[Lcom/example/ambient_wiring/ambientwiring/BeanScope;" ∧ Fld Z Z.heap s1 "com/example/ambient_wiring/ambientwiring/BeanScope" "name" "Ljava/lang/String;" (.ref n1) ∧ Fld Z Z.heap s2 "com/example/ambient_wiring/ambientwiring/BeanScope" "name" "Ljava/lang/String;" (.ref n2) ∧ own_str Z Z.heap n1 own_ts ∧ own_str Z Z.heap n2 own_tp ∧ Sta Z Z.heap "com/example/ambient_wiring/ambientwiring/BeanScope" "SINGLETON" "Lcom/example/ambient_wiring/ambientwiring/BeanScope;" (.ref s1) ∧ Sta Z Z.heap "com/example/ambient_wiring/ambientwiring/BeanScope" "PROTOTYPE" "Lcom/example/ambient_wiring/ambientwiring/BeanScope;" (.ref s2)
def own_t0 : List Int32 := []
theorem own_t0_lat : own_lat own_t0 := own_lat_nil
theorem own_ef3 (m : MethodId) (x0 : Addr) (x1 : Addr) (x2 : Int32) (x3 : Int32) : entryFrame m #[(.ref x0), (.ref x1), (.int x2), (.int x3), .null] 6 = mkF m 0 #[.val (.ref x0), .val (.ref x1), .val (.int x2), .val (.int x3), .val .null, .unset] [] := by first | (simp [entryFrame, mkF, argsToLocals, Value.category]; done) | rfl
theorem own_d_jdk_42_method_149_code_4 : decode jdk_42_method_149_code 0 = .ok (.aload_n 0, 1) := by decide +kernel
theorem own_d_jdk_42_method_149_code_5 : decode jdk_42_method_149_code 1 = .ok (.invokespecial 1, 3) := by decide +kernel
theorem own_d_jdk_42_method_149_code_6 : decode jdk_42_method_149_code 4 = .ok (.iload_n 3, 1) := by decide +kernel
theorem own_d_jdk_42_method_149_code_7 : decode jdk_42_method_149_code 5 = .ok (.ifCond .ne 22, 3) := by decide +kernel
theorem own_d_jdk_42_method_149_code_8 : decode jdk_42_method_149_code 8 = .ok (.aload_n 0, 1) := by decide +kernel
theorem own_d_jdk_42_method_149_code_9 : decode jdk_42_method_149_code 9 = .ok (.ldc 7, 2) := by decide +kernel
theorem own_d_jdk_42_method_149_code_10 : decode jdk_42_method_149_code 11 = .ok (.getfield 9, 3) := by decide +kernel
theorem own_d_jdk_42_method_149_code_11 : decode jdk_42_method_149_code 14 = .ok (.putfield 9, 3) := by decide +kernel
theorem own_d_jdk_42_method_149_code_12 : decode jdk_42_method_149_code 17 = .ok (.aload_n 0, 1) := by decide +kernel
theorem own_d_jdk_42_method_149_code_13 : decode jdk_42_method_149_code 18 = .ok (.ldc 7, 2) := by decide +kernel
theorem own_d_jdk_42_method_149_code_14 : decode jdk_42_method_149_code 20 = .ok (.getfield 15, 3) := by decide +kernel
theorem own_d_jdk_42_method_149_code_15 : decode jdk_42_method_149_code 23 = .ok (.putfield 15, 3) := by decide +kernel
theorem own_d_jdk_42_method_149_code_16 : decode jdk_42_method_149_code 26 = .ok (.return_, 1) := by decide +kernel
theorem own_pn17 : plainName "java/lang/String" = true := by first | (simp [plainName, overriddenIn]; done) | decide +kernel
set_option maxRecDepth 65536 in
set_option maxHeartbeats 40000000 in
theorem ctE4 (l : Launch) (Z : State) (a0 : Array Value) (hw : ∀ d ∈ tables_1, d.before a0 Z = true) (a b : Addr) (h : Heap) (O : Old Z Z.heap.size h) (F : own_raw Z h a) (ga : Z.heap.size ≤ a) :
    Ct 1 l Z consts_1 [a] (⟨"java/lang/String", "<init>", "([CIILjava/lang/Void;)V"⟩ : MethodName) jdk_42_method_149_code 6 none ({ frames := 1, cells := 4, slots := 8, locals := 12 } : Room) #[(.ref a), (.ref b), (.int (0 : Int32)), (.int (0 : Int32)), .null] h (fun v h' => v = none ∧ own_str Z h' a own_t0 ∧ Keep h h' [a]) := by
  refine Ct.intro (plainFor_of_name own_pn17) O (fun q => by cases q) ⟨a0, own_ew hw⟩ ?_
  intro p e s m below meth c T0 hx hby hml hret hnm hlk hsf S0
  refine Goes.cast (own_ef3 m a b (0 : Int32) (0 : Int32)) ?_
  obtain ⟨f1, ⟨v0, f2⟩, c0, f3⟩ := F
  refine g_aloadN S0.here hx (hb hby own_d_jdk_42_method_149_code_4) rfl rfl 1 rfl ?_
  refine S0.initO hx (own_q55 hw) (own_q56 hw) (own_q57 hw) (by rw [hml]; rfl) (W := 0) (by decide) (Nat.le_refl _) (by decide) (hb hby own_d_jdk_42_method_149_code_5) 4 rfl (fun T1 S1 => ?_)
  refine g_iloadN S1.here hx (hb hby own_d_jdk_42_method_149_code_6) rfl 5 rfl ?_
  refine g_ifF S1.here hx (hb hby own_d_jdk_42_method_149_code_7) 0 (by decide) (by show ¬ (¬ 0 = 0); decide) 8 rfl ?_
  refine g_aloadN S1.here hx (hb hby own_d_jdk_42_method_149_code_8) rfl rfl 9 rfl ?_
  refine S1.ldcC hx (by decide) (own_q80 hw) (own_wS hw) (by decide) (vs := (own_t0.map fun c => c.toInt8.toInt32).map Value.int) (z := Int32.ofNat own_t0.length) (by decide +kernel) (by decide +kernel) (by decide +kernel) (hb hby own_d_jdk_42_method_149_code_9) (n := 0) (by decide +kernel) (by decide) (by decide) (by decide) 11 rfl (fun vm2 T2 h2 e1 b2 k2 S2 E2 R2 q2a q2b q2c q2d N2 => ?_)
  have f_e1 : own_str Z h2 e1 own_t0 := ⟨own_t0_lat, by decide +kernel, b2, k2, q2a, q2b, q2c, q2d⟩
  have A1 := f1.ext E2
  have V1 := f2.ext E2
  have C1 := f3.ext E2
  have F1 := R2.safe f1.lt (hsf a (List.mem_singleton.mpr rfl))
  have X1 := E2
  refine S2.getF hx (host := "") (Or.inl (own_q70 hw)) Via.refl q2c (hb hby own_d_jdk_42_method_149_code_10) 14 rfl (fun T4 S4 => ?_)
  refine S4.putF hx (host := "") (Or.inl (own_q70 hw)) Via.refl V1 A1 (Or.inr ⟨(own_q4 hw), rfl, hnm⟩) (own_q2 hw) (ty := (.array .byte)) (by decide) rfl rfl F1 ga (hb hby own_d_jdk_42_method_149_code_11) 17 rfl (fun T5 h5 S5 W5 R5 => ?_)
  have A2 := A1.wr W5
  have V2 := V1.same W5
  have C2 := C1.other W5 (Or.inr (slot_ne (Or.inr (own_q5 hw)) (Or.inr (own_q4 hw)) (by decide) (t := .byte) (t' := .array .byte) (by decide) (by decide)))
  have F2 := R5.safe A1.lt F1
  have B2 := q2d.other W5 (N2 a F1).2.symm
  have K2 := Keep.of_wr W5
  refine g_aloadN S5.here hx (hb hby own_d_jdk_42_method_149_code_12) rfl rfl 18 rfl ?_
  refine S5.ldcC hx (by decide) (own_q80 hw) (own_wS hw) (by decide) (vs := (own_t0.map fun c => c.toInt8.toInt32).map Value.int) (z := Int32.ofNat own_t0.length) (by decide +kernel) (by decide +kernel) (by decide +kernel) (hb hby own_d_jdk_42_method_149_code_13) (n := 0) (by decide +kernel) (by decide) (by decide) (by decide) 20 rfl (fun vm6 T6 h6 e2 b6 k6 S6 E6 R6 q6a q6b q6c q6d N6 => ?_)
  have f_e2 : own_str Z h6 e2 own_t0 := ⟨own_t0_lat, by decide +kernel, b6, k6, q6a, q6b, q6c, q6d⟩
  have A3 := A2.ext E6
  have V3 := V2.ext E6
  have C3 := C2.ext E6
  have F3 := R6.safe A2.lt F2
  have B3 := B2.ext E6
  have K3 := ((Keep.refl h [a]).ext X1).trans K2 (fun x hx => Or.inl hx) |>.ext E6
  refine S6.getF hx (host := "") (Or.inl (own_q69 hw)) Via.refl q6b (hb hby own_d_jdk_42_method_149_code_14) 23 rfl (fun T7 S7 => ?_)
  refine S7.putF hx (host := "") (Or.inl (own_q69 hw)) Via.refl C3 A3 (Or.inr ⟨(own_q5 hw), rfl, hnm⟩) (own_q2 hw) (ty := .byte) (by decide) rfl rfl F3 ga (hb hby own_d_jdk_42_method_149_code_15) 26 rfl (fun T8 h8 S8 W8 R8 => ?_)
  have A4 := A3.wr W8
  have C4 := C3.same W8
  have V4 := V3.other W8 (Or.inr (slot_ne (Or.inr (own_q4 hw)) (Or.inr (own_q5 hw)) (by decide) (t := .array .byte) (t' := .byte) (by decide) (by decide)))
  have B4 := B3.other W8 (N2 a F1).2.symm
  have K4 := K3.wr W8 (Or.inl (List.mem_singleton.mpr rfl))
  exact S8.vret hx hlk hret (hb hby own_d_jdk_42_method_149_code_16) ⟨rfl, ⟨own_t0_lat, by decide, _, _, A4, C4, V4, B4⟩, K4⟩ (by decide) (by decide)
theorem own_ef18 (m : MethodId) (x0 : Addr) (x1 : Addr) : entryFrame m #[(.ref x0), (.ref x1)] 2 = mkF m 0 #[.val (.ref x0), .val (.ref x1)] [] := by first | (simp [entryFrame, mkF, argsToLocals, Value.category]; done) | rfl
theorem own_d_jdk_42_method_3_code_19 : decode jdk_42_method_3_code 0 = .ok (.aload_n 0, 1) := by decide +kernel
theorem own_d_jdk_42_method_3_code_20 : decode jdk_42_method_3_code 1 = .ok (.aload_n 1, 1) := by decide +kernel
theorem own_d_jdk_42_method_3_code_21 : decode jdk_42_method_3_code 2 = .ok (.iconst 0, 1) := by decide +kernel
theorem own_d_jdk_42_method_3_code_22 : decode jdk_42_method_3_code 3 = .ok (.aload_n 1, 1) := by decide +kernel
theorem own_d_jdk_42_method_3_code_23 : decode jdk_42_method_3_code 4 = .ok (.arraylength, 1) := by decide +kernel
theorem own_d_jdk_42_method_3_code_24 : decode jdk_42_method_3_code 5 = .ok (.aconst_null, 1) := by decide +kernel
theorem own_d_jdk_42_method_3_code_25 : decode jdk_42_method_3_code 6 = .ok (.invokespecial 27, 3) := by decide +kernel
theorem own_pd26 : parseMethodDescriptor "([CIILjava/lang/Void;)V" = some ⟨[(.array .char), .int, .int, (.object "java/lang/Void")], none⟩ := by decide +kernel
theorem own_d_jdk_42_method_3_code_27 : decode jdk_42_method_3_code 9 = .ok (.return_, 1) := by decide +kernel
set_option maxRecDepth 65536 in
set_option maxHeartbeats 40000000 in
theorem ctE1 (l : Launch) (Z : State) (a0 : Array Value) (hw : ∀ d ∈ tables_1, d.before a0 Z = true) (a b : Addr) (kb : ClassId) (vs : List Value) (dv : Value) (h : Heap) (O : Old Z Z.heap.size h) (F : own_raw Z h a) (ga : Z.heap.size ≤ a) (Ab : Arv Z h b kb .char (0 : Int32) vs dv) :
    Ct 1 l Z consts_1 [a] (⟨"java/lang/String", "<init>", "([C)V"⟩ : MethodName) jdk_42_method_3_code 2 none ({ frames := 2, cells := 4, slots := 8, locals := 29 } : Room) #[(.ref a), (.ref b)] h (fun v h' => v = none ∧ own_str Z h' a own_t0 ∧ Keep h h' [a]) := by
  refine Ct.intro (plainFor_of_name own_pn17) O (fun q => by cases q) ⟨a0, own_ew hw⟩ ?_
  intro p e s m below meth c T0 hx hby hml hret hnm hlk hsf S0
  refine Goes.cast (own_ef18 m a b) ?_
  refine g_aloadN S0.here hx (hb hby own_d_jdk_42_method_3_code_19) rfl rfl 1 rfl ?_
  refine g_aloadN S0.here hx (hb hby own_d_jdk_42_method_3_code_20) rfl rfl 2 rfl ?_
  refine g_iconst S0.here hx (hb hby own_d_jdk_42_method_3_code_21) (0 : Int32) (by decide) 3 rfl ?_
  refine g_aloadN S0.here hx (hb hby own_d_jdk_42_method_3_code_22) rfl rfl 4 rfl ?_
  refine S0.len hx Ab (hb hby own_d_jdk_42_method_3_code_23) 5 rfl ?_
  refine g_aconst_null S0.here hx (hb hby own_d_jdk_42_method_3_code_24) 6 rfl ?_
  refine S0.callI hx (W := 0) (a := a) rfl (own_q51 hw) (own_q52 hw) (own_q54 hw) (by decide) (own_q1 hw) (ctE4 l Z a0 hw a b h O F ga) (fun x hx => by cases List.mem_singleton.mp hx; exact ⟨F.1.lt, hsf a (List.mem_singleton.mpr rfl)⟩) (by decide) (by decide) (by rw [hml]; rfl) [(.ref b), (.int (0 : Int32)), (.int (0 : Int32)), .null] [] (lenOf own_pd26 rfl) rfl rfl (Nat.le_refl _) (hb hby own_d_jdk_42_method_3_code_25) (by decide) (by decide) 9 rfl (fun v9 vm9 T9 h9 S9 Q9 R9 => ?_)
  obtain ⟨rfl, f9, k9⟩ := Q9
  show Goes _ _ _ _ T9 (mkF m 9 #[.val (.ref a), .val (.ref b)] [])
  exact S9.vret hx hlk hret (hb hby own_d_jdk_42_method_3_code_27) ⟨rfl, f9, k9⟩ (by decide) (by decide)
theorem own_ef28 (m : MethodId) (x0 : Int64) (x1 : Int32) : entryFrame m #[(.long x0), (.int x1)] 3 = mkF m 0 #[.val (.long x0), .second, .val (.int x1)] [] := by first | (simp [entryFrame, mkF, argsToLocals, Value.category]; done) | rfl
theorem own_d_method_8_code_29 : decode method_8_code 0 = .ok (.lload_n 0, 1) := by decide +kernel
theorem own_d_method_8_code_30 : decode method_8_code 1 = .ok (.bipush 8, 2) := by decide +kernel
theorem own_d_method_8_code_31 : decode method_8_code 3 = .ok (.iload_n 2, 1) := by decide +kernel
theorem own_d_method_8_code_32 : decode method_8_code 4 = .ok (.imul, 1) := by decide +kernel
theorem own_d_method_8_code_33 : decode method_8_code 5 = .ok (.lushr, 1) := by decide +kernel
theorem own_d_method_8_code_34 : decode method_8_code 6 = .ok (.ldc2_w 68, 3) := by decide +kernel
theorem own_d_method_8_code_35 : decode method_8_code 9 = .ok (.land, 1) := by decide +kernel
theorem own_d_method_8_code_36 : decode method_8_code 10 = .ok (.l2i, 1) := by decide +kernel
theorem own_d_method_8_code_37 : decode method_8_code 11 = .ok (.i2c, 1) := by decide +kernel
theorem own_d_method_8_code_38 : decode method_8_code 12 = .ok (.ireturn, 1) := by decide +kernel
theorem own_pn39 : plainName "com/example/ambient_wiring/ambientwiring/BeanScopeNamedPinLaw" = true := by first | (simp [plainName, overriddenIn]; done) | decide +kernel
set_option maxRecDepth 65536 in
set_option maxHeartbeats 40000000 in
theorem ctB (l : Launch) (Z : State) (a0 : Array Value) (hw : ∀ d ∈ tables_1, d.before a0 Z = true) (q1 : Int64) (p2 : Int32) (h : Heap) (O : Old Z Z.heap.size h) :
    Ct 1 l Z consts_1 [] (⟨"com/example/ambient_wiring/ambientwiring/BeanScopeNamedPinLaw", "byteOf", "(JI)C"⟩ : MethodName) method_8_code 3 (some .char) ({ frames := 0, cells := 0, slots := 0, locals := 0 } : Room) #[(.long q1), (.int p2)] h (fun v h' => ∃ c : Int32, v = some (.int c) ∧ (0 ≤ c.toInt ∧ c.toInt ≤ 255) ∧ h = h') := by
  refine Ct.intro (plainFor_of_name own_pn39) O (fun q => by cases q) ⟨a0, own_ew hw⟩ ?_
  intro p e s m below meth c T0 hx hby hml hret hnm hlk hsf S0
  refine Goes.cast (own_ef28 m q1 p2) ?_
  refine g_lloadN S0.here hx (hb hby own_d_method_8_code_29) rfl 1 rfl ?_
  refine g_bipush S0.here hx (hb hby own_d_method_8_code_30) (8 : Int32) (by decide) 3 rfl ?_
  refine g_iloadN S0.here hx (hb hby own_d_method_8_code_31) rfl 4 rfl ?_
  refine g_imul S0.here hx (hb hby own_d_method_8_code_32) 5 rfl ?_
  refine g_lushr S0.here hx (hb hby own_d_method_8_code_33) 6 rfl ?_
  refine S0.ldcJ hx (own_q47 hw) (hb hby own_d_method_8_code_34) 9 rfl ?_
  refine g_land S0.here hx (hb hby own_d_method_8_code_35) 10 rfl ?_
  refine g_l2i S0.here hx (hb hby own_d_method_8_code_36) 11 rfl ?_
  refine g_i2c S0.here hx (hb hby own_d_method_8_code_37) 12 rfl ?_
  exact S0.iret hx hlk hret (Or.inr (Or.inr (Or.inr (Or.inl rfl)))) (own_narrow (own_bL _)) (hb hby own_d_method_8_code_38) ⟨_, rfl, own_bL _, rfl⟩ (by decide) (by decide)
theorem own_ef40 (m : MethodId) (x0 : Int64) : entryFrame m #[(.long x0)] 3 = mkF m 0 #[.val (.long x0), .second, .unset] [] := by first | (simp [entryFrame, mkF, argsToLocals, Value.category]; done) | rfl
theorem own_d_method_9_code_41 : decode method_9_code 0 = .ok (.bipush 8, 2) := by decide +kernel
theorem own_d_method_9_code_42 : decode method_9_code 2 = .ok (.newarray .char, 2) := by decide +kernel
theorem own_d_method_9_code_43 : decode method_9_code 4 = .ok (.astore_n 2, 1) := by decide +kernel
theorem own_d_method_9_code_44 : decode method_9_code 5 = .ok (.aload_n 2, 1) := by decide +kernel
theorem own_d_method_9_code_45 : decode method_9_code 6 = .ok (.iconst 0, 1) := by decide +kernel
theorem own_d_method_9_code_46 : decode method_9_code 7 = .ok (.lload_n 0, 1) := by decide +kernel
theorem own_d_method_9_code_47 : decode method_9_code 8 = .ok (.iconst 0, 1) := by decide +kernel
theorem own_d_method_9_code_48 : decode method_9_code 9 = .ok (.invokestatic 70, 3) := by decide +kernel
theorem own_pd49 : parseMethodDescriptor "(JI)C" = some ⟨[.long, .int], some .char⟩ := by decide +kernel
theorem own_d_method_9_code_50 : decode method_9_code 12 = .ok (.castore, 1) := by decide +kernel
theorem own_d_method_9_code_51 : decode method_9_code 13 = .ok (.aload_n 2, 1) := by decide +kernel
theorem own_d_method_9_code_52 : decode method_9_code 14 = .ok (.iconst 1, 1) := by decide +kernel
theorem own_d_method_9_code_53 : decode method_9_code 15 = .ok (.lload_n 0, 1) := by decide +kernel
theorem own_d_method_9_code_54 : decode method_9_code 16 = .ok (.iconst 1, 1) := by decide +kernel
theorem own_d_method_9_code_55 : decode method_9_code 17 = .ok (.invokestatic 70, 3) := by decide +kernel
theorem own_d_method_9_code_56 : decode method_9_code 20 = .ok (.castore, 1) := by decide +kernel
theorem own_d_method_9_code_57 : decode method_9_code 21 = .ok (.aload_n 2, 1) := by decide +kernel
theorem own_d_method_9_code_58 : decode method_9_code 22 = .ok (.iconst 2, 1) := by decide +kernel
theorem own_d_method_9_code_59 : decode method_9_code 23 = .ok (.lload_n 0, 1) := by decide +kernel
theorem own_d_method_9_code_60 : decode method_9_code 24 = .ok (.iconst 2, 1) := by decide +kernel
theorem own_d_method_9_code_61 : decode method_9_code 25 = .ok (.invokestatic 70, 3) := by decide +kernel
theorem own_d_method_9_code_62 : decode method_9_code 28 = .ok (.castore, 1) := by decide +kernel
theorem own_d_method_9_code_63 : decode method_9_code 29 = .ok (.aload_n 2, 1) := by decide +kernel
theorem own_d_method_9_code_64 : decode method_9_code 30 = .ok (.iconst 3, 1) := by decide +kernel
theorem own_d_method_9_code_65 : decode method_9_code 31 = .ok (.lload_n 0, 1) := by decide +kernel
theorem own_d_method_9_code_66 : decode method_9_code 32 = .ok (.iconst 3, 1) := by decide +kernel
theorem own_d_method_9_code_67 : decode method_9_code 33 = .ok (.invokestatic 70, 3) := by decide +kernel
theorem own_d_method_9_code_68 : decode method_9_code 36 = .ok (.castore, 1) := by decide +kernel
theorem own_d_method_9_code_69 : decode method_9_code 37 = .ok (.aload_n 2, 1) := by decide +kernel
theorem own_d_method_9_code_70 : decode method_9_code 38 = .ok (.iconst 4, 1) := by decide +kernel
theorem own_d_method_9_code_71 : decode method_9_code 39 = .ok (.lload_n 0, 1) := by decide +kernel
theorem own_d_method_9_code_72 : decode method_9_code 40 = .ok (.iconst 4, 1) := by decide +kernel
theorem own_d_method_9_code_73 : decode method_9_code 41 = .ok (.invokestatic 70, 3) := by decide +kernel
theorem own_d_method_9_code_74 : decode method_9_code 44 = .ok (.castore, 1) := by decide +kernel
theorem own_d_method_9_code_75 : decode method_9_code 45 = .ok (.aload_n 2, 1) := by decide +kernel
theorem own_d_method_9_code_76 : decode method_9_code 46 = .ok (.iconst 5, 1) := by decide +kernel
theorem own_d_method_9_code_77 : decode method_9_code 47 = .ok (.lload_n 0, 1) := by decide +kernel
theorem own_d_method_9_code_78 : decode method_9_code 48 = .ok (.iconst 5, 1) := by decide +kernel
theorem own_d_method_9_code_79 : decode method_9_code 49 = .ok (.invokestatic 70, 3) := by decide +kernel
theorem own_d_method_9_code_80 : decode method_9_code 52 = .ok (.castore, 1) := by decide +kernel
theorem own_d_method_9_code_81 : decode method_9_code 53 = .ok (.aload_n 2, 1) := by decide +kernel
theorem own_d_method_9_code_82 : decode method_9_code 54 = .ok (.bipush 6, 2) := by decide +kernel
theorem own_d_method_9_code_83 : decode method_9_code 56 = .ok (.lload_n 0, 1) := by decide +kernel
theorem own_d_method_9_code_84 : decode method_9_code 57 = .ok (.bipush 6, 2) := by decide +kernel
theorem own_d_method_9_code_85 : decode method_9_code 59 = .ok (.invokestatic 70, 3) := by decide +kernel
theorem own_d_method_9_code_86 : decode method_9_code 62 = .ok (.castore, 1) := by decide +kernel
theorem own_d_method_9_code_87 : decode method_9_code 63 = .ok (.aload_n 2, 1) := by decide +kernel
theorem own_d_method_9_code_88 : decode method_9_code 64 = .ok (.bipush 7, 2) := by decide +kernel
theorem own_d_method_9_code_89 : decode method_9_code 66 = .ok (.lload_n 0, 1) := by decide +kernel
theorem own_d_method_9_code_90 : decode method_9_code 67 = .ok (.bipush 7, 2) := by decide +kernel
theorem own_d_method_9_code_91 : decode method_9_code 69 = .ok (.invokestatic 70, 3) := by decide +kernel
theorem own_d_method_9_code_92 : decode method_9_code 72 = .ok (.castore, 1) := by decide +kernel
theorem own_d_method_9_code_93 : decode method_9_code 73 = .ok (.aload_n 2, 1) := by decide +kernel
theorem own_d_method_9_code_94 : decode method_9_code 74 = .ok (.areturn, 1) := by decide +kernel
set_option maxRecDepth 65536 in
set_option maxHeartbeats 40000000 in
theorem ct8 (l : Launch) (Z : State) (a0 : Array Value) (hw : ∀ d ∈ tables_1, d.before a0 Z = true) (q1 : Int64) (h : Heap) (O : Old Z Z.heap.size h) :
    Ct 1 l Z consts_1 [] (⟨"com/example/ambient_wiring/ambientwiring/BeanScopeNamedPinLaw", "drawn8", "(J)[C"⟩ : MethodName) method_9_code 3 (some (.array .char)) ({ frames := 1, cells := 1, slots := 8, locals := 17 } : Room) #[(.long q1)] h (fun v h' => ∃ b : Addr, v = some (.ref b) ∧ own_arr Z h' b 8 ∧ Ext h h' ∧ h.size ≤ b) := by
  refine Ct.intro (plainFor_of_name own_pn39) O (fun q => by cases q) ⟨a0, own_ew hw⟩ ?_
  intro p e s m below meth c T0 hx hby hml hret hnm hlk hsf S0
  refine Goes.cast (own_ef40 m q1) ?_
  refine g_bipush S0.here hx (hb hby own_d_method_9_code_41) (8 : Int32) (by decide) 2 rfl ?_
  refine S0.newA (aty := .char) hx (own_q43 hw) (n := (8 : Int32)) (by decide) (cap := 8) (by decide) (by decide) (hb hby own_d_method_9_code_42) (by decide) (by decide) 4 rfl (fun T10 h10 b10 k10 S10 g10 E10 V10 _ R10 => ?_)
  have ga10 : Z.heap.size ≤ b10 := by rw [g10]; exact S0.size
  have gg10 : h.size ≤ b10 := Nat.le_of_eq g10.symm
  refine g_astoreN S10.here hx (hb hby own_d_method_9_code_43) rfl #[.val (.long q1), .second, .val (.ref b10)] rfl 5 rfl ?_
  refine g_aloadN S10.here hx (hb hby own_d_method_9_code_44) rfl rfl 6 rfl ?_
  refine g_iconst S10.here hx (hb hby own_d_method_9_code_45) (0 : Int32) (by decide) 7 rfl ?_
  refine g_lloadN S10.here hx (hb hby own_d_method_9_code_46) rfl 8 rfl ?_
  refine g_iconst S10.here hx (hb hby own_d_method_9_code_47) (0 : Int32) (by decide) 9 rfl ?_
  refine S10.callS hx (W := 2) (own_q44 hw) (own_q45 hw) (own_q41 hw) (own_q46 hw) (by decide) (ctB l Z a0 hw q1 (0 : Int32) h10 S10.old) nosf (by decide) (by decide) (by rw [hml]; rfl) [(.long q1), (.int (0 : Int32))] [(.int (0 : Int32)), (.ref b10)] (lenOf own_pd49 rfl) rfl rfl (Nat.le_refl _) (hb hby own_d_method_9_code_48) (by decide) (by decide) 12 rfl (fun v11 vm11 T11 h11 S11 Q11 R11 => ?_)
  obtain ⟨c11, rfl, k_c11, rfl⟩ := Q11
  show Goes _ _ _ _ T11 (mkF m 12 #[.val (.long q1), .second, .val (.ref b10)] [(.int c11), (.int (0 : Int32)), (.ref b10)])
  refine S11.stC hx V10 0 ⟨by decide, by decide⟩ (by decide) (by simp) ga10 c11 (own_nar (own_b16 k_c11)) (hb hby own_d_method_9_code_50) 13 rfl (fun T12 h12 S12 W12 V12 R12 => ?_)
  have E12 := own_ext_wr E10 W12 gg10
  refine g_aloadN S12.here hx (hb hby own_d_method_9_code_51) rfl rfl 14 rfl ?_
  refine g_iconst S12.here hx (hb hby own_d_method_9_code_52) (1 : Int32) (by decide) 15 rfl ?_
  refine g_lloadN S12.here hx (hb hby own_d_method_9_code_53) rfl 16 rfl ?_
  refine g_iconst S12.here hx (hb hby own_d_method_9_code_54) (1 : Int32) (by decide) 17 rfl ?_
  refine S12.callS hx (W := 2) (own_q44 hw) (own_q45 hw) (own_q41 hw) (own_q46 hw) (by decide) (ctB l Z a0 hw q1 (1 : Int32) h12 S12.old) nosf (by decide) (by decide) (by rw [hml]; rfl) [(.long q1), (.int (1 : Int32))] [(.int (1 : Int32)), (.ref b10)] (lenOf own_pd49 rfl) rfl rfl (Nat.le_refl _) (hb hby own_d_method_9_code_55) (by decide) (by decide) 20 rfl (fun v13 vm13 T13 h13 S13 Q13 R13 => ?_)
  obtain ⟨c13, rfl, k_c13, rfl⟩ := Q13
  show Goes _ _ _ _ T13 (mkF m 20 #[.val (.long q1), .second, .val (.ref b10)] [(.int c13), (.int (1 : Int32)), (.ref b10)])
  refine S13.stC hx V12 1 ⟨by decide, by decide⟩ (by decide) (by simp) ga10 c13 (own_nar (own_b16 k_c13)) (hb hby own_d_method_9_code_56) 21 rfl (fun T14 h14 S14 W14 V14 R14 => ?_)
  have E14 := own_ext_wr E12 W14 gg10
  refine g_aloadN S14.here hx (hb hby own_d_method_9_code_57) rfl rfl 22 rfl ?_
  refine g_iconst S14.here hx (hb hby own_d_method_9_code_58) (2 : Int32) (by decide) 23 rfl ?_
  refine g_lloadN S14.here hx (hb hby own_d_method_9_code_59) rfl 24 rfl ?_
  refine g_iconst S14.here hx (hb hby own_d_method_9_code_60) (2 : Int32) (by decide) 25 rfl ?_
  refine S14.callS hx (W := 2) (own_q44 hw) (own_q45 hw) (own_q41 hw) (own_q46 hw) (by decide) (ctB l Z a0 hw q1 (2 : Int32) h14 S14.old) nosf (by decide) (by decide) (by rw [hml]; rfl) [(.long q1), (.int (2 : Int32))] [(.int (2 : Int32)), (.ref b10)] (lenOf own_pd49 rfl) rfl rfl (Nat.le_refl _) (hb hby own_d_method_9_code_61) (by decide) (by decide) 28 rfl (fun v15 vm15 T15 h15 S15 Q15 R15 => ?_)
  obtain ⟨c15, rfl, k_c15, rfl⟩ := Q15
  show Goes _ _ _ _ T15 (mkF m 28 #[.val (.long q1), .second, .val (.ref b10)] [(.int c15), (.int (2 : Int32)), (.ref b10)])
  refine S15.stC hx V14 2 ⟨by decide, by decide⟩ (by decide) (by simp) ga10 c15 (own_nar (own_b16 k_c15)) (hb hby own_d_method_9_code_62) 29 rfl (fun T16 h16 S16 W16 V16 R16 => ?_)
  have E16 := own_ext_wr E14 W16 gg10
  refine g_aloadN S16.here hx (hb hby own_d_method_9_code_63) rfl rfl 30 rfl ?_
  refine g_iconst S16.here hx (hb hby own_d_method_9_code_64) (3 : Int32) (by decide) 31 rfl ?_
  refine g_lloadN S16.here hx (hb hby own_d_method_9_code_65) rfl 32 rfl ?_
  refine g_iconst S16.here hx (hb hby own_d_method_9_code_66) (3 : Int32) (by decide) 33 rfl ?_
  refine S16.callS hx (W := 2) (own_q44 hw) (own_q45 hw) (own_q41 hw) (own_q46 hw) (by decide) (ctB l Z a0 hw q1 (3 : Int32) h16 S16.old) nosf (by decide) (by decide) (by rw [hml]; rfl) [(.long q1), (.int (3 : Int32))] [(.int (3 : Int32)), (.ref b10)] (lenOf own_pd49 rfl) rfl rfl (Nat.le_refl _) (hb hby own_d_method_9_code_67) (by decide) (by decide) 36 rfl (fun v17 vm17 T17 h17 S17 Q17 R17 => ?_)
  obtain ⟨c17, rfl, k_c17, rfl⟩ := Q17
  show Goes _ _ _ _ T17 (mkF m 36 #[.val (.long q1), .second, .val (.ref b10)] [(.int c17), (.int (3 : Int32)), (.ref b10)])
  refine S17.stC hx V16 3 ⟨by decide, by decide⟩ (by decide) (by simp) ga10 c17 (own_nar (own_b16 k_c17)) (hb hby own_d_method_9_code_68) 37 rfl (fun T18 h18 S18 W18 V18 R18 => ?_)
  have E18 := own_ext_wr E16 W18 gg10
  refine g_aloadN S18.here hx (hb hby own_d_method_9_code_69) rfl rfl 38 rfl ?_
  refine g_iconst S18.here hx (hb hby own_d_method_9_code_70) (4 : Int32) (by decide) 39 rfl ?_
  refine g_lloadN S18.here hx (hb hby own_d_method_9_code_71) rfl 40 rfl ?_
  refine g_iconst S18.here hx (hb hby own_d_method_9_code_72) (4 : Int32) (by decide) 41 rfl ?_
  refine S18.callS hx (W := 2) (own_q44 hw) (own_q45 hw) (own_q41 hw) (own_q46 hw) (by decide) (ctB l Z a0 hw q1 (4 : Int32) h18 S18.old) nosf (by decide) (by decide) (by rw [hml]; rfl) [(.long q1), (.int (4 : Int32))] [(.int (4 : Int32)), (.ref b10)] (lenOf own_pd49 rfl) rfl rfl (Nat.le_refl _) (hb hby own_d_method_9_code_73) (by decide) (by decide) 44 rfl (fun v19 vm19 T19 h19 S19 Q19 R19 => ?_)
  obtain ⟨c19, rfl, k_c19, rfl⟩ := Q19
  show Goes _ _ _ _ T19 (mkF m 44 #[.val (.long q1), .second, .val (.ref b10)] [(.int c19), (.int (4 : Int32)), (.ref b10)])
  refine S19.stC hx V18 4 ⟨by decide, by decide⟩ (by decide) (by simp) ga10 c19 (own_nar (own_b16 k_c19)) (hb hby own_d_method_9_code_74) 45 rfl (fun T20 h20 S20 W20 V20 R20 => ?_)
  have E20 := own_ext_wr E18 W20 gg10
  refine g_aloadN S20.here hx (hb hby own_d_method_9_code_75) rfl rfl 46 rfl ?_
  refine g_iconst S20.here hx (hb hby own_d_method_9_code_76) (5 : Int32) (by decide) 47 rfl ?_
  refine g_lloadN S20.here hx (hb hby own_d_method_9_code_77) rfl 48 rfl ?_
  refine g_iconst S20.here hx (hb hby own_d_method_9_code_78) (5 : Int32) (by decide) 49 rfl ?_
  refine S20.callS hx (W := 2) (own_q44 hw) (own_q45 hw) (own_q41 hw) (own_q46 hw) (by decide) (ctB l Z a0 hw q1 (5 : Int32) h20 S20.old) nosf (by decide) (by decide) (by rw [hml]; rfl) [(.long q1), (.int (5 : Int32))] [(.int (5 : Int32)), (.ref b10)] (lenOf own_pd49 rfl) rfl rfl (Nat.le_refl _) (hb hby own_d_method_9_code_79) (by decide) (by decide) 52 rfl (fun v21 vm21 T21 h21 S21 Q21 R21 => ?_)
  obtain ⟨c21, rfl, k_c21, rfl⟩ := Q21
  show Goes _ _ _ _ T21 (mkF m 52 #[.val (.long q1), .second, .val (.ref b10)] [(.int c21), (.int (5 : Int32)), (.ref b10)])
  refine S21.stC hx V20 5 ⟨by decide, by decide⟩ (by decide) (by simp) ga10 c21 (own_nar (own_b16 k_c21)) (hb hby own_d_method_9_code_80) 53 rfl (fun T22 h22 S22 W22 V22 R22 => ?_)
  have E22 := own_ext_wr E20 W22 gg10
  refine g_aloadN S22.here hx (hb hby own_d_method_9_code_81) rfl rfl 54 rfl ?_
  refine g_bipush S22.here hx (hb hby own_d_method_9_code_82) (6 : Int32) (by decide) 56 rfl ?_
  refine g_lloadN S22.here hx (hb hby own_d_method_9_code_83) rfl 57 rfl ?_
  refine g_bipush S22.here hx (hb hby own_d_method_9_code_84) (6 : Int32) (by decide) 59 rfl ?_
  refine S22.callS hx (W := 2) (own_q44 hw) (own_q45 hw) (own_q41 hw) (own_q46 hw) (by decide) (ctB l Z a0 hw q1 (6 : Int32) h22 S22.old) nosf (by decide) (by decide) (by rw [hml]; rfl) [(.long q1), (.int (6 : Int32))] [(.int (6 : Int32)), (.ref b10)] (lenOf own_pd49 rfl) rfl rfl (Nat.le_refl _) (hb hby own_d_method_9_code_85) (by decide) (by decide) 62 rfl (fun v23 vm23 T23 h23 S23 Q23 R23 => ?_)
  obtain ⟨c23, rfl, k_c23, rfl⟩ := Q23
  show Goes _ _ _ _ T23 (mkF m 62 #[.val (.long q1), .second, .val (.ref b10)] [(.int c23), (.int (6 : Int32)), (.ref b10)])
  refine S23.stC hx V22 6 ⟨by decide, by decide⟩ (by decide) (by simp) ga10 c23 (own_nar (own_b16 k_c23)) (hb hby own_d_method_9_code_86) 63 rfl (fun T24 h24 S24 W24 V24 R24 => ?_)
  have E24 := own_ext_wr E22 W24 gg10
  refine g_aloadN S24.here hx (hb hby own_d_method_9_code_87) rfl rfl 64 rfl ?_
  refine g_bipush S24.here hx (hb hby own_d_method_9_code_88) (7 : Int32) (by decide) 66 rfl ?_
  refine g_lloadN S24.here hx (hb hby own_d_method_9_code_89) rfl 67 rfl ?_
  refine g_bipush S24.here hx (hb hby own_d_method_9_code_90) (7 : Int32) (by decide) 69 rfl ?_
  refine S24.callS hx (W := 2) (own_q44 hw) (own_q45 hw) (own_q41 hw) (own_q46 hw) (by decide) (ctB l Z a0 hw q1 (7 : Int32) h24 S24.old) nosf (by decide) (by decide) (by rw [hml]; rfl) [(.long q1), (.int (7 : Int32))] [(.int (7 : Int32)), (.ref b10)] (lenOf own_pd49 rfl) rfl rfl (Nat.le_refl _) (hb hby own_d_method_9_code_91) (by decide) (by decide) 72 rfl (fun v25 vm25 T25 h25 S25 Q25 R25 => ?_)
  obtain ⟨c25, rfl, k_c25, rfl⟩ := Q25
  show Goes _ _ _ _ T25 (mkF m 72 #[.val (.long q1), .second, .val (.ref b10)] [(.int c25), (.int (7 : Int32)), (.ref b10)])
  refine S25.stC hx V24 7 ⟨by decide, by decide⟩ (by decide) (by simp) ga10 c25 (own_nar (own_b16 k_c25)) (hb hby own_d_method_9_code_92) 73 rfl (fun T26 h26 S26 W26 V26 R26 => ?_)
  have E26 := own_ext_wr E24 W26 gg10
  refine g_aloadN S26.here hx (hb hby own_d_method_9_code_93) rfl rfl 74 rfl ?_
  exact S26.aret hx hlk hret rfl rfl rfl (hb hby own_d_method_9_code_94) ⟨_, rfl, ⟨k10, [c11, c13, c15, c17, c19, c21, c23, c25], V26, (own_lat_cons k_c11 (own_lat_cons k_c13 (own_lat_cons k_c15 (own_lat_cons k_c17 (own_lat_cons k_c19 (own_lat_cons k_c21 (own_lat_cons k_c23 (own_lat_cons k_c25 own_lat_nil)))))))), rfl⟩, E26, gg10⟩ (by decide) (by decide)
theorem own_ef95 (m : MethodId) (x0 : Int64) (x1 : Int64) : entryFrame m #[(.long x0), (.long x1)] 5 = mkF m 0 #[.val (.long x0), .second, .val (.long x1), .second, .unset] [] := by first | (simp [entryFrame, mkF, argsToLocals, Value.category]; done) | rfl
theorem own_d_method_10_code_96 : decode method_10_code 0 = .ok (.bipush 9, 2) := by decide +kernel
theorem own_d_method_10_code_97 : decode method_10_code 2 = .ok (.newarray .char, 2) := by decide +kernel
theorem own_d_method_10_code_98 : decode method_10_code 4 = .ok (.astore 4, 2) := by decide +kernel
theorem own_d_method_10_code_99 : decode method_10_code 6 = .ok (.aload 4, 2) := by decide +kernel
theorem own_d_method_10_code_100 : decode method_10_code 8 = .ok (.iconst 0, 1) := by decide +kernel
theorem own_d_method_10_code_101 : decode method_10_code 9 = .ok (.lload_n 0, 1) := by decide +kernel
theorem own_d_method_10_code_102 : decode method_10_code 10 = .ok (.iconst 0, 1) := by decide +kernel
theorem own_d_method_10_code_103 : decode method_10_code 11 = .ok (.invokestatic 70, 3) := by decide +kernel
theorem own_d_method_10_code_104 : decode method_10_code 14 = .ok (.castore, 1) := by decide +kernel
theorem own_d_method_10_code_105 : decode method_10_code 15 = .ok (.aload 4, 2) := by decide +kernel
theorem own_d_method_10_code_106 : decode method_10_code 17 = .ok (.iconst 1, 1) := by decide +kernel
theorem own_d_method_10_code_107 : decode method_10_code 18 = .ok (.lload_n 0, 1) := by decide +kernel
theorem own_d_method_10_code_108 : decode method_10_code 19 = .ok (.iconst 1, 1) := by decide +kernel
theorem own_d_method_10_code_109 : decode method_10_code 20 = .ok (.invokestatic 70, 3) := by decide +kernel
theorem own_d_method_10_code_110 : decode method_10_code 23 = .ok (.castore, 1) := by decide +kernel
theorem own_d_method_10_code_111 : decode method_10_code 24 = .ok (.aload 4, 2) := by decide +kernel
theorem own_d_method_10_code_112 : decode method_10_code 26 = .ok (.iconst 2, 1) := by decide +kernel
theorem own_d_method_10_code_113 : decode method_10_code 27 = .ok (.lload_n 0, 1) := by decide +kernel
theorem own_d_method_10_code_114 : decode method_10_code 28 = .ok (.iconst 2, 1) := by decide +kernel
theorem own_d_method_10_code_115 : decode method_10_code 29 = .ok (.invokestatic 70, 3) := by decide +kernel
theorem own_d_method_10_code_116 : decode method_10_code 32 = .ok (.castore, 1) := by decide +kernel
theorem own_d_method_10_code_117 : decode method_10_code 33 = .ok (.aload 4, 2) := by decide +kernel
theorem own_d_method_10_code_118 : decode method_10_code 35 = .ok (.iconst 3, 1) := by decide +kernel
theorem own_d_method_10_code_119 : decode method_10_code 36 = .ok (.lload_n 0, 1) := by decide +kernel
theorem own_d_method_10_code_120 : decode method_10_code 37 = .ok (.iconst 3, 1) := by decide +kernel
theorem own_d_method_10_code_121 : decode method_10_code 38 = .ok (.invokestatic 70, 3) := by decide +kernel
theorem own_d_method_10_code_122 : decode method_10_code 41 = .ok (.castore, 1) := by decide +kernel
theorem own_d_method_10_code_123 : decode method_10_code 42 = .ok (.aload 4, 2) := by decide +kernel
theorem own_d_method_10_code_124 : decode method_10_code 44 = .ok (.iconst 4, 1) := by decide +kernel
theorem own_d_method_10_code_125 : decode method_10_code 45 = .ok (.lload_n 0, 1) := by decide +kernel
theorem own_d_method_10_code_126 : decode method_10_code 46 = .ok (.iconst 4, 1) := by decide +kernel
theorem own_d_method_10_code_127 : decode method_10_code 47 = .ok (.invokestatic 70, 3) := by decide +kernel
theorem own_d_method_10_code_128 : decode method_10_code 50 = .ok (.castore, 1) := by decide +kernel
theorem own_d_method_10_code_129 : decode method_10_code 51 = .ok (.aload 4, 2) := by decide +kernel
theorem own_d_method_10_code_130 : decode method_10_code 53 = .ok (.iconst 5, 1) := by decide +kernel
theorem own_d_method_10_code_131 : decode method_10_code 54 = .ok (.lload_n 0, 1) := by decide +kernel
theorem own_d_method_10_code_132 : decode method_10_code 55 = .ok (.iconst 5, 1) := by decide +kernel
theorem own_d_method_10_code_133 : decode method_10_code 56 = .ok (.invokestatic 70, 3) := by decide +kernel
theorem own_d_method_10_code_134 : decode method_10_code 59 = .ok (.castore, 1) := by decide +kernel
theorem own_d_method_10_code_135 : decode method_10_code 60 = .ok (.aload 4, 2) := by decide +kernel
theorem own_d_method_10_code_136 : decode method_10_code 62 = .ok (.bipush 6, 2) := by decide +kernel
theorem own_d_method_10_code_137 : decode method_10_code 64 = .ok (.lload_n 0, 1) := by decide +kernel
theorem own_d_method_10_code_138 : decode method_10_code 65 = .ok (.bipush 6, 2) := by decide +kernel
theorem own_d_method_10_code_139 : decode method_10_code 67 = .ok (.invokestatic 70, 3) := by decide +kernel
theorem own_d_method_10_code_140 : decode method_10_code 70 = .ok (.castore, 1) := by decide +kernel
theorem own_d_method_10_code_141 : decode method_10_code 71 = .ok (.aload 4, 2) := by decide +kernel
theorem own_d_method_10_code_142 : decode method_10_code 73 = .ok (.bipush 7, 2) := by decide +kernel
theorem own_d_method_10_code_143 : decode method_10_code 75 = .ok (.lload_n 0, 1) := by decide +kernel
theorem own_d_method_10_code_144 : decode method_10_code 76 = .ok (.bipush 7, 2) := by decide +kernel
theorem own_d_method_10_code_145 : decode method_10_code 78 = .ok (.invokestatic 70, 3) := by decide +kernel
theorem own_d_method_10_code_146 : decode method_10_code 81 = .ok (.castore, 1) := by decide +kernel
theorem own_d_method_10_code_147 : decode method_10_code 82 = .ok (.aload 4, 2) := by decide +kernel
theorem own_d_method_10_code_148 : decode method_10_code 84 = .ok (.bipush 8, 2) := by decide +kernel
theorem own_d_method_10_code_149 : decode method_10_code 86 = .ok (.lload_n 2, 1) := by decide +kernel
theorem own_d_method_10_code_150 : decode method_10_code 87 = .ok (.iconst 0, 1) := by decide +kernel
theorem own_d_method_10_code_151 : decode method_10_code 88 = .ok (.invokestatic 70, 3) := by decide +kernel
theorem own_d_method_10_code_152 : decode method_10_code 91 = .ok (.castore, 1) := by decide +kernel
theorem own_d_method_10_code_153 : decode method_10_code 92 = .ok (.aload 4, 2) := by decide +kernel
theorem own_d_method_10_code_154 : decode method_10_code 94 = .ok (.areturn, 1) := by decide +kernel
set_option maxRecDepth 65536 in
set_option maxHeartbeats 40000000 in
theorem ct9 (l : Launch) (Z : State) (a0 : Array Value) (hw : ∀ d ∈ tables_1, d.before a0 Z = true) (q1 q2 : Int64) (h : Heap) (O : Old Z Z.heap.size h) :
    Ct 1 l Z consts_1 [] (⟨"com/example/ambient_wiring/ambientwiring/BeanScopeNamedPinLaw", "drawn9", "(JJ)[C"⟩ : MethodName) method_10_code 5 (some (.array .char)) ({ frames := 1, cells := 1, slots := 9, locals := 17 } : Room) #[(.long q1), (.long q2)] h (fun v h' => ∃ b : Addr, v = some (.ref b) ∧ own_arr Z h' b 9 ∧ Ext h h' ∧ h.size ≤ b) := by
  refine Ct.intro (plainFor_of_name own_pn39) O (fun q => by cases q) ⟨a0, own_ew hw⟩ ?_
  intro p e s m below meth c T0 hx hby hml hret hnm hlk hsf S0
  refine Goes.cast (own_ef95 m q1 q2) ?_
  refine g_bipush S0.here hx (hb hby own_d_method_10_code_96) (9 : Int32) (by decide) 2 rfl ?_
  refine S0.newA (aty := .char) hx (own_q43 hw) (n := (9 : Int32)) (by decide) (cap := 9) (by decide) (by decide) (hb hby own_d_method_10_code_97) (by decide) (by decide) 4 rfl (fun T27 h27 b27 k27 S27 g27 E27 V27 _ R27 => ?_)
  have ga27 : Z.heap.size ≤ b27 := by rw [g27]; exact S0.size
  have gg27 : h.size ≤ b27 := Nat.le_of_eq g27.symm
  refine g_astore S27.here hx (hb hby own_d_method_10_code_98) rfl #[.val (.long q1), .second, .val (.long q2), .second, .val (.ref b27)] rfl 6 rfl ?_
  refine g_aload S27.here hx (hb hby own_d_method_10_code_99) rfl rfl 8 rfl ?_
  refine g_iconst S27.here hx (hb hby own_d_method_10_code_100) (0 : Int32) (by decide) 9 rfl ?_
  refine g_lloadN S27.here hx (hb hby own_d_method_10_code_101) rfl 10 rfl ?_
  refine g_iconst S27.here hx (hb hby own_d_method_10_code_102) (0 : Int32) (by decide) 11 rfl ?_
  refine S27.callS hx (W := 2) (own_q44 hw) (own_q45 hw) (own_q41 hw) (own_q46 hw) (by decide) (ctB l Z a0 hw q1 (0 : Int32) h27 S27.old) nosf (by decide) (by decide) (by rw [hml]; rfl) [(.long q1), (.int (0 : Int32))] [(.int (0 : Int32)), (.ref b27)] (lenOf own_pd49 rfl) rfl rfl (Nat.le_refl _) (hb hby own_d_method_10_code_103) (by decide) (by decide) 14 rfl (fun v28 vm28 T28 h28 S28 Q28 R28 => ?_)
  obtain ⟨c28, rfl, k_c28, rfl⟩ := Q28
  show Goes _ _ _ _ T28 (mkF m 14 #[.val (.long q1), .second, .val (.long q2), .second, .val (.ref b27)] [(.int c28), (.int (0 : Int32)), (.ref b27)])
  refine S28.stC hx V27 0 ⟨by decide, by decide⟩ (by decide) (by simp) ga27 c28 (own_nar (own_b16 k_c28)) (hb hby own_d_method_10_code_104) 15 rfl (fun T29 h29 S29 W29 V29 R29 => ?_)
  have E29 := own_ext_wr E27 W29 gg27
  refine g_aload S29.here hx (hb hby own_d_method_10_code_105) rfl rfl 17 rfl ?_
  refine g_iconst S29.here hx (hb hby own_d_method_10_code_106) (1 : Int32) (by decide) 18 rfl ?_
  refine g_lloadN S29.here hx (hb hby own_d_method_10_code_107) rfl 19 rfl ?_
  refine g_iconst S29.here hx (hb hby own_d_method_10_code_108) (1 : Int32) (by decide) 20 rfl ?_
  refine S29.callS hx (W := 2) (own_q44 hw) (own_q45 hw) (own_q41 hw) (own_q46 hw) (by decide) (ctB l Z a0 hw q1 (1 : Int32) h29 S29.old) nosf (by decide) (by decide) (by rw [hml]; rfl) [(.long q1), (.int (1 : Int32))] [(.int (1 : Int32)), (.ref b27)] (lenOf own_pd49 rfl) rfl rfl (Nat.le_refl _) (hb hby own_d_method_10_code_109) (by decide) (by decide) 23 rfl (fun v30 vm30 T30 h30 S30 Q30 R30 => ?_)
  obtain ⟨c30, rfl, k_c30, rfl⟩ := Q30
  show Goes _ _ _ _ T30 (mkF m 23 #[.val (.long q1), .second, .val (.long q2), .second, .val (.ref b27)] [(.int c30), (.int (1 : Int32)), (.ref b27)])
  refine S30.stC hx V29 1 ⟨by decide, by decide⟩ (by decide) (by simp) ga27 c30 (own_nar (own_b16 k_c30)) (hb hby own_d_method_10_code_110) 24 rfl (fun T31 h31 S31 W31 V31 R31 => ?_)
  have E31 := own_ext_wr E29 W31 gg27
  refine g_aload S31.here hx (hb hby own_d_method_10_code_111) rfl rfl 26 rfl ?_
  refine g_iconst S31.here hx (hb hby own_d_method_10_code_112) (2 : Int32) (by decide) 27 rfl ?_
  refine g_lloadN S31.here hx (hb hby own_d_method_10_code_113) rfl 28 rfl ?_
  refine g_iconst S31.here hx (hb hby own_d_method_10_code_114) (2 : Int32) (by decide) 29 rfl ?_
  refine S31.callS hx (W := 2) (own_q44 hw) (own_q45 hw) (own_q41 hw) (own_q46 hw) (by decide) (ctB l Z a0 hw q1 (2 : Int32) h31 S31.old) nosf (by decide) (by decide) (by rw [hml]; rfl) [(.long q1), (.int (2 : Int32))] [(.int (2 : Int32)), (.ref b27)] (lenOf own_pd49 rfl) rfl rfl (Nat.le_refl _) (hb hby own_d_method_10_code_115) (by decide) (by decide) 32 rfl (fun v32 vm32 T32 h32 S32 Q32 R32 => ?_)
  obtain ⟨c32, rfl, k_c32, rfl⟩ := Q32
  show Goes _ _ _ _ T32 (mkF m 32 #[.val (.long q1), .second, .val (.long q2), .second, .val (.ref b27)] [(.int c32), (.int (2 : Int32)), (.ref b27)])
  refine S32.stC hx V31 2 ⟨by decide, by decide⟩ (by decide) (by simp) ga27 c32 (own_nar (own_b16 k_c32)) (hb hby own_d_method_10_code_116) 33 rfl (fun T33 h33 S33 W33 V33 R33 => ?_)
  have E33 := own_ext_wr E31 W33 gg27
  refine g_aload S33.here hx (hb hby own_d_method_10_code_117) rfl rfl 35 rfl ?_
  refine g_iconst S33.here hx (hb hby own_d_method_10_code_118) (3 : Int32) (by decide) 36 rfl ?_
  refine g_lloadN S33.here hx (hb hby own_d_method_10_code_119) rfl 37 rfl ?_
  refine g_iconst S33.here hx (hb hby own_d_method_10_code_120) (3 : Int32) (by decide) 38 rfl ?_
  refine S33.callS hx (W := 2) (own_q44 hw) (own_q45 hw) (own_q41 hw) (own_q46 hw) (by decide) (ctB l Z a0 hw q1 (3 : Int32) h33 S33.old) nosf (by decide) (by decide) (by rw [hml]; rfl) [(.long q1), (.int (3 : Int32))] [(.int (3 : Int32)), (.ref b27)] (lenOf own_pd49 rfl) rfl rfl (Nat.le_refl _) (hb hby own_d_method_10_code_121) (by decide) (by decide) 41 rfl (fun v34 vm34 T34 h34 S34 Q34 R34 => ?_)
  obtain ⟨c34, rfl, k_c34, rfl⟩ := Q34
  show Goes _ _ _ _ T34 (mkF m 41 #[.val (.long q1), .second, .val (.long q2), .second, .val (.ref b27)] [(.int c34), (.int (3 : Int32)), (.ref b27)])
  refine S34.stC hx V33 3 ⟨by decide, by decide⟩ (by decide) (by simp) ga27 c34 (own_nar (own_b16 k_c34)) (hb hby own_d_method_10_code_122) 42 rfl (fun T35 h35 S35 W35 V35 R35 => ?_)
  have E35 := own_ext_wr E33 W35 gg27
  refine g_aload S35.here hx (hb hby own_d_method_10_code_123) rfl rfl 44 rfl ?_
  refine g_iconst S35.here hx (hb hby own_d_method_10_code_124) (4 : Int32) (by decide) 45 rfl ?_
  refine g_lloadN S35.here hx (hb hby own_d_method_10_code_125) rfl 46 rfl ?_
  refine g_iconst S35.here hx (hb hby own_d_method_10_code_126) (4 : Int32) (by decide) 47 rfl ?_
  refine S35.callS hx (W := 2) (own_q44 hw) (own_q45 hw) (own_q41 hw) (own_q46 hw) (by decide) (ctB l Z a0 hw q1 (4 : Int32) h35 S35.old) nosf (by decide) (by decide) (by rw [hml]; rfl) [(.long q1), (.int (4 : Int32))] [(.int (4 : Int32)), (.ref b27)] (lenOf own_pd49 rfl) rfl rfl (Nat.le_refl _) (hb hby own_d_method_10_code_127) (by decide) (by decide) 50 rfl (fun v36 vm36 T36 h36 S36 Q36 R36 => ?_)
  obtain ⟨c36, rfl, k_c36, rfl⟩ := Q36
  show Goes _ _ _ _ T36 (mkF m 50 #[.val (.long q1), .second, .val (.long q2), .second, .val (.ref b27)] [(.int c36), (.int (4 : Int32)), (.ref b27)])
  refine S36.stC hx V35 4 ⟨by decide, by decide⟩ (by decide) (by simp) ga27 c36 (own_nar (own_b16 k_c36)) (hb hby own_d_method_10_code_128) 51 rfl (fun T37 h37 S37 W37 V37 R37 => ?_)
  have E37 := own_ext_wr E35 W37 gg27
  refine g_aload S37.here hx (hb hby own_d_method_10_code_129) rfl rfl 53 rfl ?_
  refine g_iconst S37.here hx (hb hby own_d_method_10_code_130) (5 : Int32) (by decide) 54 rfl ?_
  refine g_lloadN S37.here hx (hb hby own_d_method_10_code_131) rfl 55 rfl ?_
  refine g_iconst S37.here hx (hb hby own_d_method_10_code_132) (5 : Int32) (by decide) 56 rfl ?_
  refine S37.callS hx (W := 2) (own_q44 hw) (own_q45 hw) (own_q41 hw) (own_q46 hw) (by decide) (ctB l Z a0 hw q1 (5 : Int32) h37 S37.old) nosf (by decide) (by decide) (by rw [hml]; rfl) [(.long q1), (.int (5 : Int32))] [(.int (5 : Int32)), (.ref b27)] (lenOf own_pd49 rfl) rfl rfl (Nat.le_refl _) (hb hby own_d_method_10_code_133) (by decide) (by decide) 59 rfl (fun v38 vm38 T38 h38 S38 Q38 R38 => ?_)
  obtain ⟨c38, rfl, k_c38, rfl⟩ := Q38
  show Goes _ _ _ _ T38 (mkF m 59 #[.val (.long q1), .second, .val (.long q2), .second, .val (.ref b27)] [(.int c38), (.int (5 : Int32)), (.ref b27)])
  refine S38.stC hx V37 5 ⟨by decide, by decide⟩ (by decide) (by simp) ga27 c38 (own_nar (own_b16 k_c38)) (hb hby own_d_method_10_code_134) 60 rfl (fun T39 h39 S39 W39 V39 R39 => ?_)
  have E39 := own_ext_wr E37 W39 gg27
  refine g_aload S39.here hx (hb hby own_d_method_10_code_135) rfl rfl 62 rfl ?_
  refine g_bipush S39.here hx (hb hby own_d_method_10_code_136) (6 : Int32) (by decide) 64 rfl ?_
  refine g_lloadN S39.here hx (hb hby own_d_method_10_code_137) rfl 65 rfl ?_
  refine g_bipush S39.here hx (hb hby own_d_method_10_code_138) (6 : Int32) (by decide) 67 rfl ?_
  refine S39.callS hx (W := 2) (own_q44 hw) (own_q45 hw) (own_q41 hw) (own_q46 hw) (by decide) (ctB l Z a0 hw q1 (6 : Int32) h39 S39.old) nosf (by decide) (by decide) (by rw [hml]; rfl) [(.long q1), (.int (6 : Int32))] [(.int (6 : Int32)), (.ref b27)] (lenOf own_pd49 rfl) rfl rfl (Nat.le_refl _) (hb hby own_d_method_10_code_139) (by decide) (by decide) 70 rfl (fun v40 vm40 T40 h40 S40 Q40 R40 => ?_)
  obtain ⟨c40, rfl, k_c40, rfl⟩ := Q40
  show Goes _ _ _ _ T40 (mkF m 70 #[.val (.long q1), .second, .val (.long q2), .second, .val (.ref b27)] [(.int c40), (.int (6 : Int32)), (.ref b27)])
  refine S40.stC hx V39 6 ⟨by decide, by decide⟩ (by decide) (by simp) ga27 c40 (own_nar (own_b16 k_c40)) (hb hby own_d_method_10_code_140) 71 rfl (fun T41 h41 S41 W41 V41 R41 => ?_)
  have E41 := own_ext_wr E39 W41 gg27
  refine g_aload S41.here hx (hb hby own_d_method_10_code_141) rfl rfl 73 rfl ?_
  refine g_bipush S41.here hx (hb hby own_d_method_10_code_142) (7 : Int32) (by decide) 75 rfl ?_
  refine g_lloadN S41.here hx (hb hby own_d_method_10_code_143) rfl 76 rfl ?_
  refine g_bipush S41.here hx (hb hby own_d_method_10_code_144) (7 : Int32) (by decide) 78 rfl ?_
  refine S41.callS hx (W := 2) (own_q44 hw) (own_q45 hw) (own_q41 hw) (own_q46 hw) (by decide) (ctB l Z a0 hw q1 (7 : Int32) h41 S41.old) nosf (by decide) (by decide) (by rw [hml]; rfl) [(.long q1), (.int (7 : Int32))] [(.int (7 : Int32)), (.ref b27)] (lenOf own_pd49 rfl) rfl rfl (Nat.le_refl _) (hb hby own_d_method_10_code_145) (by decide) (by decide) 81 rfl (fun v42 vm42 T42 h42 S42 Q42 R42 => ?_)
  obtain ⟨c42, rfl, k_c42, rfl⟩ := Q42
  show Goes _ _ _ _ T42 (mkF m 81 #[.val (.long q1), .second, .val (.long q2), .second, .val (.ref b27)] [(.int c42), (.int (7 : Int32)), (.ref b27)])
  refine S42.stC hx V41 7 ⟨by decide, by decide⟩ (by decide) (by simp) ga27 c42 (own_nar (own_b16 k_c42)) (hb hby own_d_method_10_code_146) 82 rfl (fun T43 h43 S43 W43 V43 R43 => ?_)
  have E43 := own_ext_wr E41 W43 gg27
  refine g_aload S43.here hx (hb hby own_d_method_10_code_147) rfl rfl 84 rfl ?_
  refine g_bipush S43.here hx (hb hby own_d_method_10_code_148) (8 : Int32) (by decide) 86 rfl ?_
  refine g_lloadN S43.here hx (hb hby own_d_method_10_code_149) rfl 87 rfl ?_
  refine g_iconst S43.here hx (hb hby own_d_method_10_code_150) (0 : Int32) (by decide) 88 rfl ?_
  refine S43.callS hx (W := 2) (own_q44 hw) (own_q45 hw) (own_q41 hw) (own_q46 hw) (by decide) (ctB l Z a0 hw q2 (0 : Int32) h43 S43.old) nosf (by decide) (by decide) (by rw [hml]; rfl) [(.long q2), (.int (0 : Int32))] [(.int (8 : Int32)), (.ref b27)] (lenOf own_pd49 rfl) rfl rfl (Nat.le_refl _) (hb hby own_d_method_10_code_151) (by decide) (by decide) 91 rfl (fun v44 vm44 T44 h44 S44 Q44 R44 => ?_)
  obtain ⟨c44, rfl, k_c44, rfl⟩ := Q44
  show Goes _ _ _ _ T44 (mkF m 91 #[.val (.long q1), .second, .val (.long q2), .second, .val (.ref b27)] [(.int c44), (.int (8 : Int32)), (.ref b27)])
  refine S44.stC hx V43 8 ⟨by decide, by decide⟩ (by decide) (by simp) ga27 c44 (own_nar (own_b16 k_c44)) (hb hby own_d_method_10_code_152) 92 rfl (fun T45 h45 S45 W45 V45 R45 => ?_)
  have E45 := own_ext_wr E43 W45 gg27
  refine g_aload S45.here hx (hb hby own_d_method_10_code_153) rfl rfl 94 rfl ?_
  exact S45.aret hx hlk hret rfl rfl rfl (hb hby own_d_method_10_code_154) ⟨_, rfl, ⟨k27, [c28, c30, c32, c34, c36, c38, c40, c42, c44], V45, (own_lat_cons k_c28 (own_lat_cons k_c30 (own_lat_cons k_c32 (own_lat_cons k_c34 (own_lat_cons k_c36 (own_lat_cons k_c38 (own_lat_cons k_c40 (own_lat_cons k_c42 (own_lat_cons k_c44 own_lat_nil))))))))), rfl⟩, E45, gg27⟩ (by decide) (by decide)
theorem own_ef155 (m : MethodId) (x0 : Addr) : entryFrame m #[(.ref x0)] 2 = mkF m 0 #[.val (.ref x0), .unset] [] := by first | (simp [entryFrame, mkF, argsToLocals, Value.category]; done) | rfl
theorem own_d_method_3_code_156 : decode method_3_code 0 = .ok (.bipush 9, 2) := by decide +kernel
theorem own_d_method_3_code_157 : decode method_3_code 2 = .ok (.newarray .char, 2) := by decide +kernel
theorem own_d_method_3_code_158 : decode method_3_code 4 = .ok (.astore_n 1, 1) := by decide +kernel
theorem own_d_method_3_code_159 : decode method_3_code 5 = .ok (.aload_n 1, 1) := by decide +kernel
theorem own_d_method_3_code_160 : decode method_3_code 6 = .ok (.iconst 0, 1) := by decide +kernel
theorem own_d_method_3_code_161 : decode method_3_code 7 = .ok (.aload_n 0, 1) := by decide +kernel
theorem own_d_method_3_code_162 : decode method_3_code 8 = .ok (.iconst 0, 1) := by decide +kernel
theorem own_d_method_3_code_163 : decode method_3_code 9 = .ok (.invokevirtual 56, 3) := by decide +kernel
theorem own_d_method_3_code_164 : decode method_3_code 12 = .ok (.castore, 1) := by decide +kernel
theorem own_d_method_3_code_165 : decode method_3_code 13 = .ok (.aload_n 1, 1) := by decide +kernel
theorem own_d_method_3_code_166 : decode method_3_code 14 = .ok (.iconst 1, 1) := by decide +kernel
theorem own_d_method_3_code_167 : decode method_3_code 15 = .ok (.aload_n 0, 1) := by decide +kernel
theorem own_d_method_3_code_168 : decode method_3_code 16 = .ok (.iconst 1, 1) := by decide +kernel
theorem own_d_method_3_code_169 : decode method_3_code 17 = .ok (.invokevirtual 56, 3) := by decide +kernel
theorem own_d_method_3_code_170 : decode method_3_code 20 = .ok (.castore, 1) := by decide +kernel
theorem own_d_method_3_code_171 : decode method_3_code 21 = .ok (.aload_n 1, 1) := by decide +kernel
theorem own_d_method_3_code_172 : decode method_3_code 22 = .ok (.iconst 2, 1) := by decide +kernel
theorem own_d_method_3_code_173 : decode method_3_code 23 = .ok (.aload_n 0, 1) := by decide +kernel
theorem own_d_method_3_code_174 : decode method_3_code 24 = .ok (.iconst 2, 1) := by decide +kernel
theorem own_d_method_3_code_175 : decode method_3_code 25 = .ok (.invokevirtual 56, 3) := by decide +kernel
theorem own_d_method_3_code_176 : decode method_3_code 28 = .ok (.castore, 1) := by decide +kernel
theorem own_d_method_3_code_177 : decode method_3_code 29 = .ok (.aload_n 1, 1) := by decide +kernel
theorem own_d_method_3_code_178 : decode method_3_code 30 = .ok (.iconst 3, 1) := by decide +kernel
theorem own_d_method_3_code_179 : decode method_3_code 31 = .ok (.aload_n 0, 1) := by decide +kernel
theorem own_d_method_3_code_180 : decode method_3_code 32 = .ok (.iconst 3, 1) := by decide +kernel
theorem own_d_method_3_code_181 : decode method_3_code 33 = .ok (.invokevirtual 56, 3) := by decide +kernel
theorem own_d_method_3_code_182 : decode method_3_code 36 = .ok (.castore, 1) := by decide +kernel
theorem own_d_method_3_code_183 : decode method_3_code 37 = .ok (.aload_n 1, 1) := by decide +kernel
theorem own_d_method_3_code_184 : decode method_3_code 38 = .ok (.iconst 4, 1) := by decide +kernel
theorem own_d_method_3_code_185 : decode method_3_code 39 = .ok (.aload_n 0, 1) := by decide +kernel
theorem own_d_method_3_code_186 : decode method_3_code 40 = .ok (.iconst 4, 1) := by decide +kernel
theorem own_d_method_3_code_187 : decode method_3_code 41 = .ok (.invokevirtual 56, 3) := by decide +kernel
theorem own_d_method_3_code_188 : decode method_3_code 44 = .ok (.castore, 1) := by decide +kernel
theorem own_d_method_3_code_189 : decode method_3_code 45 = .ok (.aload_n 1, 1) := by decide +kernel
theorem own_d_method_3_code_190 : decode method_3_code 46 = .ok (.iconst 5, 1) := by decide +kernel
theorem own_d_method_3_code_191 : decode method_3_code 47 = .ok (.aload_n 0, 1) := by decide +kernel
theorem own_d_method_3_code_192 : decode method_3_code 48 = .ok (.iconst 5, 1) := by decide +kernel
theorem own_d_method_3_code_193 : decode method_3_code 49 = .ok (.invokevirtual 56, 3) := by decide +kernel
theorem own_d_method_3_code_194 : decode method_3_code 52 = .ok (.castore, 1) := by decide +kernel
theorem own_d_method_3_code_195 : decode method_3_code 53 = .ok (.aload_n 1, 1) := by decide +kernel
theorem own_d_method_3_code_196 : decode method_3_code 54 = .ok (.bipush 6, 2) := by decide +kernel
theorem own_d_method_3_code_197 : decode method_3_code 56 = .ok (.aload_n 0, 1) := by decide +kernel
theorem own_d_method_3_code_198 : decode method_3_code 57 = .ok (.bipush 6, 2) := by decide +kernel
theorem own_d_method_3_code_199 : decode method_3_code 59 = .ok (.invokevirtual 56, 3) := by decide +kernel
theorem own_d_method_3_code_200 : decode method_3_code 62 = .ok (.castore, 1) := by decide +kernel
theorem own_d_method_3_code_201 : decode method_3_code 63 = .ok (.aload_n 1, 1) := by decide +kernel
theorem own_d_method_3_code_202 : decode method_3_code 64 = .ok (.bipush 7, 2) := by decide +kernel
theorem own_d_method_3_code_203 : decode method_3_code 66 = .ok (.aload_n 0, 1) := by decide +kernel
theorem own_d_method_3_code_204 : decode method_3_code 67 = .ok (.bipush 7, 2) := by decide +kernel
theorem own_d_method_3_code_205 : decode method_3_code 69 = .ok (.invokevirtual 56, 3) := by decide +kernel
theorem own_d_method_3_code_206 : decode method_3_code 72 = .ok (.castore, 1) := by decide +kernel
theorem own_d_method_3_code_207 : decode method_3_code 73 = .ok (.aload_n 1, 1) := by decide +kernel
theorem own_d_method_3_code_208 : decode method_3_code 74 = .ok (.bipush 8, 2) := by decide +kernel
theorem own_d_method_3_code_209 : decode method_3_code 76 = .ok (.aload_n 0, 1) := by decide +kernel
theorem own_d_method_3_code_210 : decode method_3_code 77 = .ok (.bipush 8, 2) := by decide +kernel
theorem own_d_method_3_code_211 : decode method_3_code 79 = .ok (.invokevirtual 56, 3) := by decide +kernel
theorem own_d_method_3_code_212 : decode method_3_code 82 = .ok (.castore, 1) := by decide +kernel
theorem own_d_method_3_code_213 : decode method_3_code 83 = .ok (.aload_n 1, 1) := by decide +kernel
theorem own_d_method_3_code_214 : decode method_3_code 84 = .ok (.areturn, 1) := by decide +kernel
set_option maxRecDepth 65536 in
set_option maxHeartbeats 40000000 in
theorem ctT (l : Launch) (Z : State) (a0 : Array Value) (hw : ∀ d ∈ tables_1, d.before a0 Z = true) (a : Addr) (cs : List Int32) (h : Heap) (O : Old Z Z.heap.size h) (G : own_cs Z) (G2 : own_sf Z) (F : own_str Z h a cs) (l9 : cs.length = 9) :
    Ct 1 l Z consts_1 [] (⟨"com/example/ambient_wiring/ambientwiring/BeanScopeNamedPinLaw", "template", "(Ljava/lang/String;)[C"⟩ : MethodName) method_3_code 2 (some (.array .char)) ({ frames := 4, cells := 1, slots := 9, locals := 55 } : Room) #[(.ref a)] h (fun v h' => ∃ b : Addr, v = some (.ref b) ∧ own_arr Z h' b 9 ∧ Ext h h' ∧ h.size ≤ b) := by
  refine Ct.intro (plainFor_of_name own_pn39) O (fun q => by cases q) ⟨a0, own_ew hw⟩ ?_
  intro p e s m below meth c T0 hx hby hml hret hnm hlk hsf S0
  refine Goes.cast (own_ef155 m a) ?_
  refine g_bipush S0.here hx (hb hby own_d_method_3_code_156) (9 : Int32) (by decide) 2 rfl ?_
  refine S0.newA (aty := .char) hx (own_q43 hw) (n := (9 : Int32)) (by decide) (cap := 9) (by decide) (by decide) (hb hby own_d_method_3_code_157) (by decide) (by decide) 4 rfl (fun T46 h46 b46 k46 S46 g46 E46 V46 _ R46 => ?_)
  have ga46 : Z.heap.size ≤ b46 := by rw [g46]; exact S0.size
  have gg46 : h.size ≤ b46 := Nat.le_of_eq g46.symm
  have F_b := F
  have F := F.ext E46
  refine g_astoreN S46.here hx (hb hby own_d_method_3_code_158) rfl #[.val (.ref a), .val (.ref b46)] rfl 5 rfl ?_
  refine g_aloadN S46.here hx (hb hby own_d_method_3_code_159) rfl rfl 6 rfl ?_
  refine g_iconst S46.here hx (hb hby own_d_method_3_code_160) (0 : Int32) (by decide) 7 rfl ?_
  refine g_aloadN S46.here hx (hb hby own_d_method_3_code_161) rfl rfl 8 rfl ?_
  refine g_iconst S46.here hx (hb hby own_d_method_3_code_162) (0 : Int32) (by decide) 9 rfl ?_
  refine own_chr S46 hx hw G G2 (W := 2) (own_q87 hw) F (i := 0) (by omega) (by decide) (by decide) (by decide) (by rw [hml]; rfl) [(.int (0 : Int32)), (.ref b46)] (Nat.le_refl _) (hb hby own_d_method_3_code_163) (by decide) (by decide) 12 rfl (fun T47 S47 => ?_)
  have k_c47 := own_lat_at F.lat (i := 0) (by omega)
  generalize cs.getD 0 0 = c47 at k_c47 ⊢
  refine S47.stC hx V46 0 ⟨by decide, by decide⟩ (by decide) (by simp) ga46 c47 (own_nar (own_b16 k_c47)) (hb hby own_d_method_3_code_164) 13 rfl (fun T48 h48 S48 W48 V48 R48 => ?_)
  have E48 := own_ext_wr E46 W48 gg46
  have F := F_b.ext E48
  refine g_aloadN S48.here hx (hb hby own_d_method_3_code_165) rfl rfl 14 rfl ?_
  refine g_iconst S48.here hx (hb hby own_d_method_3_code_166) (1 : Int32) (by decide) 15 rfl ?_
  refine g_aloadN S48.here hx (hb hby own_d_method_3_code_167) rfl rfl 16 rfl ?_
  refine g_iconst S48.here hx (hb hby own_d_method_3_code_168) (1 : Int32) (by decide) 17 rfl ?_
  refine own_chr S48 hx hw G G2 (W := 2) (own_q87 hw) F (i := 1) (by omega) (by decide) (by decide) (by decide) (by rw [hml]; rfl) [(.int (1 : Int32)), (.ref b46)] (Nat.le_refl _) (hb hby own_d_method_3_code_169) (by decide) (by decide) 20 rfl (fun T49 S49 => ?_)
  have k_c49 := own_lat_at F.lat (i := 1) (by omega)
  generalize cs.getD 1 0 = c49 at k_c49 ⊢
  refine S49.stC hx V48 1 ⟨by decide, by decide⟩ (by decide) (by simp) ga46 c49 (own_nar (own_b16 k_c49)) (hb hby own_d_method_3_code_170) 21 rfl (fun T50 h50 S50 W50 V50 R50 => ?_)
  have E50 := own_ext_wr E48 W50 gg46
  have F := F_b.ext E50
  refine g_aloadN S50.here hx (hb hby own_d_method_3_code_171) rfl rfl 22 rfl ?_
  refine g_iconst S50.here hx (hb hby own_d_method_3_code_172) (2 : Int32) (by decide) 23 rfl ?_
  refine g_aloadN S50.here hx (hb hby own_d_method_3_code_173) rfl rfl 24 rfl ?_
  refine g_iconst S50.here hx (hb hby own_d_method_3_code_174) (2 : Int32) (by decide) 25 rfl ?_
  refine own_chr S50 hx hw G G2 (W := 2) (own_q87 hw) F (i := 2) (by omega) (by decide) (by decide) (by decide) (by rw [hml]; rfl) [(.int (2 : Int32)), (.ref b46)] (Nat.le_refl _) (hb hby own_d_method_3_code_175) (by decide) (by decide) 28 rfl (fun T51 S51 => ?_)
  have k_c51 := own_lat_at F.lat (i := 2) (by omega)
  generalize cs.getD 2 0 = c51 at k_c51 ⊢
  refine S51.stC hx V50 2 ⟨by decide, by decide⟩ (by decide) (by simp) ga46 c51 (own_nar (own_b16 k_c51)) (hb hby own_d_method_3_code_176) 29 rfl (fun T52 h52 S52 W52 V52 R52 => ?_)
  have E52 := own_ext_wr E50 W52 gg46
  have F := F_b.ext E52
  refine g_aloadN S52.here hx (hb hby own_d_method_3_code_177) rfl rfl 30 rfl ?_
  refine g_iconst S52.here hx (hb hby own_d_method_3_code_178) (3 : Int32) (by decide) 31 rfl ?_
  refine g_aloadN S52.here hx (hb hby own_d_method_3_code_179) rfl rfl 32 rfl ?_
  refine g_iconst S52.here hx (hb hby own_d_method_3_code_180) (3 : Int32) (by decide) 33 rfl ?_
  refine own_chr S52 hx hw G G2 (W := 2) (own_q87 hw) F (i := 3) (by omega) (by decide) (by decide) (by decide) (by rw [hml]; rfl) [(.int (3 : Int32)), (.ref b46)] (Nat.le_refl _) (hb hby own_d_method_3_code_181) (by decide) (by decide) 36 rfl (fun T53 S53 => ?_)
  have k_c53 := own_lat_at F.lat (i := 3) (by omega)
  generalize cs.getD 3 0 = c53 at k_c53 ⊢
  refine S53.stC hx V52 3 ⟨by decide, by decide⟩ (by decide) (by simp) ga46 c53 (own_nar (own_b16 k_c53)) (hb hby own_d_method_3_code_182) 37 rfl (fun T54 h54 S54 W54 V54 R54 => ?_)
  have E54 := own_ext_wr E52 W54 gg46
  have F := F_b.ext E54
  refine g_aloadN S54.here hx (hb hby own_d_method_3_code_183) rfl rfl 38 rfl ?_
  refine g_iconst S54.here hx (hb hby own_d_method_3_code_184) (4 : Int32) (by decide) 39 rfl ?_
  refine g_aloadN S54.here hx (hb hby own_d_method_3_code_185) rfl rfl 40 rfl ?_
  refine g_iconst S54.here hx (hb hby own_d_method_3_code_186) (4 : Int32) (by decide) 41 rfl ?_
  refine own_chr S54 hx hw G G2 (W := 2) (own_q87 hw) F (i := 4) (by omega) (by decide) (by decide) (by decide) (by rw [hml]; rfl) [(.int (4 : Int32)), (.ref b46)] (Nat.le_refl _) (hb hby own_d_method_3_code_187) (by decide) (by decide) 44 rfl (fun T55 S55 => ?_)
  have k_c55 := own_lat_at F.lat (i := 4) (by omega)
  generalize cs.getD 4 0 = c55 at k_c55 ⊢
  refine S55.stC hx V54 4 ⟨by decide, by decide⟩ (by decide) (by simp) ga46 c55 (own_nar (own_b16 k_c55)) (hb hby own_d_method_3_code_188) 45 rfl (fun T56 h56 S56 W56 V56 R56 => ?_)
  have E56 := own_ext_wr E54 W56 gg46
  have F := F_b.ext E56
  refine g_aloadN S56.here hx (hb hby own_d_method_3_code_189) rfl rfl 46 rfl ?_
  refine g_iconst S56.here hx (hb hby own_d_method_3_code_190) (5 : Int32) (by decide) 47 rfl ?_
  refine g_aloadN S56.here hx (hb hby own_d_method_3_code_191) rfl rfl 48 rfl ?_
  refine g_iconst S56.here hx (hb hby own_d_method_3_code_192) (5 : Int32) (by decide) 49 rfl ?_
  refine own_chr S56 hx hw G G2 (W := 2) (own_q87 hw) F (i := 5) (by omega) (by decide) (by decide) (by decide) (by rw [hml]; rfl) [(.int (5 : Int32)), (.ref b46)] (Nat.le_refl _) (hb hby own_d_method_3_code_193) (by decide) (by decide) 52 rfl (fun T57 S57 => ?_)
  have k_c57 := own_lat_at F.lat (i := 5) (by omega)
  generalize cs.getD 5 0 = c57 at k_c57 ⊢
  refine S57.stC hx V56 5 ⟨by decide, by decide⟩ (by decide) (by simp) ga46 c57 (own_nar (own_b16 k_c57)) (hb hby own_d_method_3_code_194) 53 rfl (fun T58 h58 S58 W58 V58 R58 => ?_)
  have E58 := own_ext_wr E56 W58 gg46
  have F := F_b.ext E58
  refine g_aloadN S58.here hx (hb hby own_d_method_3_code_195) rfl rfl 54 rfl ?_
  refine g_bipush S58.here hx (hb hby own_d_method_3_code_196) (6 : Int32) (by decide) 56 rfl ?_
  refine g_aloadN S58.here hx (hb hby own_d_method_3_code_197) rfl rfl 57 rfl ?_
  refine g_bipush S58.here hx (hb hby own_d_method_3_code_198) (6 : Int32) (by decide) 59 rfl ?_
  refine own_chr S58 hx hw G G2 (W := 2) (own_q87 hw) F (i := 6) (by omega) (by decide) (by decide) (by decide) (by rw [hml]; rfl) [(.int (6 : Int32)), (.ref b46)] (Nat.le_refl _) (hb hby own_d_method_3_code_199) (by decide) (by decide) 62 rfl (fun T59 S59 => ?_)
  have k_c59 := own_lat_at F.lat (i := 6) (by omega)
  generalize cs.getD 6 0 = c59 at k_c59 ⊢
  refine S59.stC hx V58 6 ⟨by decide, by decide⟩ (by decide) (by simp) ga46 c59 (own_nar (own_b16 k_c59)) (hb hby own_d_method_3_code_200) 63 rfl (fun T60 h60 S60 W60 V60 R60 => ?_)
  have E60 := own_ext_wr E58 W60 gg46
  have F := F_b.ext E60
  refine g_aloadN S60.here hx (hb hby own_d_method_3_code_201) rfl rfl 64 rfl ?_
  refine g_bipush S60.here hx (hb hby own_d_method_3_code_202) (7 : Int32) (by decide) 66 rfl ?_
  refine g_aloadN S60.here hx (hb hby own_d_method_3_code_203) rfl rfl 67 rfl ?_
  refine g_bipush S60.here hx (hb hby own_d_method_3_code_204) (7 : Int32) (by decide) 69 rfl ?_
  refine own_chr S60 hx hw G G2 (W := 2) (own_q87 hw) F (i := 7) (by omega) (by decide) (by decide) (by decide) (by rw [hml]; rfl) [(.int (7 : Int32)), (.ref b46)] (Nat.le_refl _) (hb hby own_d_method_3_code_205) (by decide) (by decide) 72 rfl (fun T61 S61 => ?_)
  have k_c61 := own_lat_at F.lat (i := 7) (by omega)
  generalize cs.getD 7 0 = c61 at k_c61 ⊢
  refine S61.stC hx V60 7 ⟨by decide, by decide⟩ (by decide) (by simp) ga46 c61 (own_nar (own_b16 k_c61)) (hb hby own_d_method_3_code_206) 73 rfl (fun T62 h62 S62 W62 V62 R62 => ?_)
  have E62 := own_ext_wr E60 W62 gg46
  have F := F_b.ext E62
  refine g_aloadN S62.here hx (hb hby own_d_method_3_code_207) rfl rfl 74 rfl ?_
  refine g_bipush S62.here hx (hb hby own_d_method_3_code_208) (8 : Int32) (by decide) 76 rfl ?_
  refine g_aloadN S62.here hx (hb hby own_d_method_3_code_209) rfl rfl 77 rfl ?_
  refine g_bipush S62.here hx (hb hby own_d_method_3_code_210) (8 : Int32) (by decide) 79 rfl ?_
  refine own_chr S62 hx hw G G2 (W := 2) (own_q87 hw) F (i := 8) (by omega) (by decide) (by decide) (by decide) (by rw [hml]; rfl) [(.int (8 : Int32)), (.ref b46)] (Nat.le_refl _) (hb hby own_d_method_3_code_211) (by decide) (by decide) 82 rfl (fun T63 S63 => ?_)
  have k_c63 := own_lat_at F.lat (i := 8) (by omega)
  generalize cs.getD 8 0 = c63 at k_c63 ⊢
  refine S63.stC hx V62 8 ⟨by decide, by decide⟩ (by decide) (by simp) ga46 c63 (own_nar (own_b16 k_c63)) (hb hby own_d_method_3_code_212) 83 rfl (fun T64 h64 S64 W64 V64 R64 => ?_)
  have E64 := own_ext_wr E62 W64 gg46
  have F := F_b.ext E64
  refine g_aloadN S64.here hx (hb hby own_d_method_3_code_213) rfl rfl 84 rfl ?_
  exact S64.aret hx hlk hret rfl rfl rfl (hb hby own_d_method_3_code_214) ⟨_, rfl, ⟨k46, [c47, c49, c51, c53, c55, c57, c59, c61, c63], V64, (own_lat_cons k_c47 (own_lat_cons k_c49 (own_lat_cons k_c51 (own_lat_cons k_c53 (own_lat_cons k_c55 (own_lat_cons k_c57 (own_lat_cons k_c59 (own_lat_cons k_c61 (own_lat_cons k_c63 own_lat_nil))))))))), rfl⟩, E64, gg46⟩ (by decide) (by decide)
theorem own_ef215 (m : MethodId) (x0 : Addr) (x1 : Int32) (x2 : Int32) : entryFrame m #[(.ref x0), (.int x1), (.int x2)] 3 = mkF m 0 #[.val (.ref x0), .val (.int x1), .val (.int x2)] [] := by first | (simp [entryFrame, mkF, argsToLocals, Value.category]; done) | rfl
theorem own_d_method_4_code_216 : decode method_4_code 0 = .ok (.iload_n 1, 1) := by decide +kernel
theorem own_d_method_4_code_217 : decode method_4_code 1 = .ok (.iload_n 2, 1) := by decide +kernel
theorem own_d_method_4_code_218 : decode method_4_code 2 = .ok (.if_icmp .ge 11, 3) := by decide +kernel
theorem own_d_method_4_code_219 : decode method_4_code 13 = .ok (.aload_n 0, 1) := by decide +kernel
theorem own_d_method_4_code_220 : decode method_4_code 14 = .ok (.iload_n 1, 1) := by decide +kernel
theorem own_d_method_4_code_221 : decode method_4_code 15 = .ok (.iconst 1, 1) := by decide +kernel
theorem own_d_method_4_code_222 : decode method_4_code 16 = .ok (.iadd, 1) := by decide +kernel
theorem own_d_method_4_code_223 : decode method_4_code 17 = .ok (.invokevirtual 56, 3) := by decide +kernel
theorem own_d_method_4_code_224 : decode method_4_code 20 = .ok (.ireturn, 1) := by decide +kernel
theorem own_d_method_4_code_225 : decode method_4_code 5 = .ok (.aload_n 0, 1) := by decide +kernel
theorem own_d_method_4_code_226 : decode method_4_code 6 = .ok (.iload_n 1, 1) := by decide +kernel
theorem own_d_method_4_code_227 : decode method_4_code 7 = .ok (.invokevirtual 56, 3) := by decide +kernel
theorem own_d_method_4_code_228 : decode method_4_code 10 = .ok (.goto 10, 3) := by decide +kernel
set_option maxRecDepth 65536 in
set_option maxHeartbeats 40000000 in
theorem ctDa (l : Launch) (Z : State) (a0 : Array Value) (hw : ∀ d ∈ tables_1, d.before a0 Z = true) (a : Addr) (cs : List Int32) (p1 p2 : Int32) (h : Heap) (O : Old Z Z.heap.size h) (G : own_cs Z) (G2 : own_sf Z) (F : own_str Z h a cs) (l9 : cs.length = 9) (h1 : 0 ≤ p1.toInt ∧ p1.toInt ≤ 7) :
    Ct 1 l Z consts_1 [] (⟨"com/example/ambient_wiring/ambientwiring/BeanScopeNamedPinLaw", "dropAt", "(Ljava/lang/String;II)C"⟩ : MethodName) method_4_code 3 (some .char) ({ frames := 4, cells := 0, slots := 0, locals := 53 } : Room) #[(.ref a), (.int p1), (.int p2)] h (fun v h' => ∃ c : Int32, v = some (.int c) ∧ (0 ≤ c.toInt ∧ c.toInt ≤ 255) ∧ h = h') := by
  refine Ct.intro (plainFor_of_name own_pn39) O (fun q => by cases q) ⟨a0, own_ew hw⟩ ?_
  intro p e s m below meth c T0 hx hby hml hret hnm hlk hsf S0
  refine Goes.cast (own_ef215 m a p1 p2) ?_
  refine g_iloadN S0.here hx (hb hby own_d_method_4_code_216) rfl 1 rfl ?_
  refine g_iloadN S0.here hx (hb hby own_d_method_4_code_217) rfl 2 rfl ?_
  refine g_icmp S0.here hx (hb hby own_d_method_4_code_218) p1.toInt p2.toInt rfl rfl 13 5 (by decide) (by decide) rfl (fun (hc2 : p2.toInt ≤ p1.toInt) => ?_) (fun (hc2 : ¬ (p2.toInt ≤ p1.toInt)) => ?_)
  · refine g_aloadN S0.here hx (hb hby own_d_method_4_code_219) rfl rfl 14 rfl ?_
    refine g_iloadN S0.here hx (hb hby own_d_method_4_code_220) rfl 15 rfl ?_
    refine g_iconst S0.here hx (hb hby own_d_method_4_code_221) (1 : Int32) (by decide) 16 rfl ?_
    refine g_iadd S0.here hx (hb hby own_d_method_4_code_222) 17 rfl ?_
    have e1 : (1 : Int32).toInt = 1 := by decide
    have ea := own_add (x := p1) (y := 1) (by omega)
    refine own_chr S0 hx hw G G2 (W := 0) (own_q87 hw) F (i := (p1 + (1 : Int32)).toInt.toNat) (by omega) (own_ix (by omega)) (by decide) (by decide) (by rw [hml]; rfl) [] (Nat.le_refl _) (hb hby own_d_method_4_code_223) (by decide) (by decide) 20 rfl (fun T65 S65 => ?_)
    have kc := own_lat_at F.lat (i := (p1 + (1 : Int32)).toInt.toNat) (by omega)
    generalize cs.getD (p1 + (1 : Int32)).toInt.toNat 0 = cc at kc ⊢
    exact S65.iret hx hlk hret (Or.inr (Or.inr (Or.inr (Or.inl rfl)))) (own_narrow kc) (hb hby own_d_method_4_code_224) ⟨_, rfl, kc, rfl⟩ (by decide) (by decide)
  · refine g_aloadN S0.here hx (hb hby own_d_method_4_code_225) rfl rfl 6 rfl ?_
    refine g_iloadN S0.here hx (hb hby own_d_method_4_code_226) rfl 7 rfl ?_
    refine own_chr S0 hx hw G G2 (W := 0) (own_q87 hw) F (i := p1.toInt.toNat) (by omega) (own_ix (by omega)) (by decide) (by decide) (by rw [hml]; rfl) [] (Nat.le_refl _) (hb hby own_d_method_4_code_227) (by decide) (by decide) 10 rfl (fun T66 S66 => ?_)
    have kc := own_lat_at F.lat (i := p1.toInt.toNat) (by omega)
    generalize cs.getD p1.toInt.toNat 0 = cc at kc ⊢
    refine g_goto S66.here hx (hb hby own_d_method_4_code_228) 20 (by decide) (by decide) ?_
    exact S66.iret hx hlk hret (Or.inr (Or.inr (Or.inr (Or.inl rfl)))) (own_narrow kc) (hb hby own_d_method_4_code_224) ⟨_, rfl, kc, rfl⟩ (by decide) (by decide)
theorem own_ef229 (m : MethodId) (x0 : Addr) (x1 : Int32) (x2 : Int32) (x3 : Int32) : entryFrame m #[(.ref x0), (.int x1), (.int x2), (.int x3)] 4 = mkF m 0 #[.val (.ref x0), .val (.int x1), .val (.int x2), .val (.int x3)] [] := by first | (simp [entryFrame, mkF, argsToLocals, Value.category]; done) | rfl
theorem own_d_method_6_code_230 : decode method_6_code 0 = .ok (.iload_n 1, 1) := by decide +kernel
theorem own_d_method_6_code_231 : decode method_6_code 1 = .ok (.iload_n 2, 1) := by decide +kernel
theorem own_d_method_6_code_232 : decode method_6_code 2 = .ok (.if_icmp .ge 9, 3) := by decide +kernel
theorem own_d_method_6_code_233 : decode method_6_code 11 = .ok (.iload_n 1, 1) := by decide +kernel
theorem own_d_method_6_code_234 : decode method_6_code 12 = .ok (.iload_n 2, 1) := by decide +kernel
theorem own_d_method_6_code_235 : decode method_6_code 13 = .ok (.if_icmp .ne 5, 3) := by decide +kernel
theorem own_d_method_6_code_236 : decode method_6_code 18 = .ok (.aload_n 0, 1) := by decide +kernel
theorem own_d_method_6_code_237 : decode method_6_code 19 = .ok (.iload_n 1, 1) := by decide +kernel
theorem own_d_method_6_code_238 : decode method_6_code 20 = .ok (.iconst 1, 1) := by decide +kernel
theorem own_d_method_6_code_239 : decode method_6_code 21 = .ok (.isub, 1) := by decide +kernel
theorem own_d_method_6_code_240 : decode method_6_code 22 = .ok (.invokevirtual 56, 3) := by decide +kernel
theorem own_d_method_6_code_241 : decode method_6_code 25 = .ok (.ireturn, 1) := by decide +kernel
theorem own_d_method_6_code_242 : decode method_6_code 16 = .ok (.iload_n 3, 1) := by decide +kernel
theorem own_d_method_6_code_243 : decode method_6_code 17 = .ok (.ireturn, 1) := by decide +kernel
theorem own_d_method_6_code_244 : decode method_6_code 5 = .ok (.aload_n 0, 1) := by decide +kernel
theorem own_d_method_6_code_245 : decode method_6_code 6 = .ok (.iload_n 1, 1) := by decide +kernel
theorem own_d_method_6_code_246 : decode method_6_code 7 = .ok (.invokevirtual 56, 3) := by decide +kernel
theorem own_d_method_6_code_247 : decode method_6_code 10 = .ok (.ireturn, 1) := by decide +kernel
set_option maxRecDepth 65536 in
set_option maxHeartbeats 40000000 in
theorem ctIa (l : Launch) (Z : State) (a0 : Array Value) (hw : ∀ d ∈ tables_1, d.before a0 Z = true) (a : Addr) (cs : List Int32) (p1 p2 p3 : Int32) (h : Heap) (O : Old Z Z.heap.size h) (G : own_cs Z) (G2 : own_sf Z) (F : own_str Z h a cs) (l9 : cs.length = 9) (h1 : 0 ≤ p1.toInt ∧ p1.toInt ≤ 9) (h2 : 0 ≤ p2.toInt ∧ p2.toInt ≤ 9) (hd8 : 0 ≤ p3.toInt ∧ p3.toInt ≤ 255) :
    Ct 1 l Z consts_1 [] (⟨"com/example/ambient_wiring/ambientwiring/BeanScopeNamedPinLaw", "insAt", "(Ljava/lang/String;IIC)C"⟩ : MethodName) method_6_code 4 (some .char) ({ frames := 4, cells := 0, slots := 0, locals := 53 } : Room) #[(.ref a), (.int p1), (.int p2), (.int p3)] h (fun v h' => ∃ c : Int32, v = some (.int c) ∧ (0 ≤ c.toInt ∧ c.toInt ≤ 255) ∧ h = h') := by
  refine Ct.intro (plainFor_of_name own_pn39) O (fun q => by cases q) ⟨a0, own_ew hw⟩ ?_
  intro p e s m below meth c T0 hx hby hml hret hnm hlk hsf S0
  refine Goes.cast (own_ef229 m a p1 p2 p3) ?_
  refine g_iloadN S0.here hx (hb hby own_d_method_6_code_230) rfl 1 rfl ?_
  refine g_iloadN S0.here hx (hb hby own_d_method_6_code_231) rfl 2 rfl ?_
  refine g_icmp S0.here hx (hb hby own_d_method_6_code_232) p1.toInt p2.toInt rfl rfl 11 5 (by decide) (by decide) rfl (fun (hc2 : p2.toInt ≤ p1.toInt) => ?_) (fun (hc2 : ¬ (p2.toInt ≤ p1.toInt)) => ?_)
  · refine g_iloadN S0.here hx (hb hby own_d_method_6_code_233) rfl 12 rfl ?_
    refine g_iloadN S0.here hx (hb hby own_d_method_6_code_234) rfl 13 rfl ?_
    refine g_icmp S0.here hx (hb hby own_d_method_6_code_235) p1.toInt p2.toInt rfl rfl 18 16 (by decide) (by decide) rfl (fun (hc13 : ¬ p1.toInt = p2.toInt) => ?_) (fun (hc13 : ¬ (¬ p1.toInt = p2.toInt)) => ?_)
    · refine g_aloadN S0.here hx (hb hby own_d_method_6_code_236) rfl rfl 19 rfl ?_
      refine g_iloadN S0.here hx (hb hby own_d_method_6_code_237) rfl 20 rfl ?_
      refine g_iconst S0.here hx (hb hby own_d_method_6_code_238) (1 : Int32) (by decide) 21 rfl ?_
      refine g_isub S0.here hx (hb hby own_d_method_6_code_239) 22 rfl ?_
      have e1 : (1 : Int32).toInt = 1 := by decide
      have ea := own_sub (x := p1) (y := 1) (by omega)
      refine own_chr S0 hx hw G G2 (W := 0) (own_q87 hw) F (i := (p1 - (1 : Int32)).toInt.toNat) (by omega) (own_ix (by omega)) (by decide) (by decide) (by rw [hml]; rfl) [] (Nat.le_refl _) (hb hby own_d_method_6_code_240) (by decide) (by decide) 25 rfl (fun T67 S67 => ?_)
      have kc := own_lat_at F.lat (i := (p1 - (1 : Int32)).toInt.toNat) (by omega)
      generalize cs.getD (p1 - (1 : Int32)).toInt.toNat 0 = cc at kc ⊢
      exact S67.iret hx hlk hret (Or.inr (Or.inr (Or.inr (Or.inl rfl)))) (own_narrow kc) (hb hby own_d_method_6_code_241) ⟨_, rfl, kc, rfl⟩ (by decide) (by decide)
    · refine g_iloadN S0.here hx (hb hby own_d_method_6_code_242) rfl 17 rfl ?_
      exact S0.iret hx hlk hret (Or.inr (Or.inr (Or.inr (Or.inl rfl)))) (own_narrow hd8) (hb hby own_d_method_6_code_243) ⟨_, rfl, hd8, rfl⟩ (by decide) (by decide)
  · refine g_aloadN S0.here hx (hb hby own_d_method_6_code_244) rfl rfl 6 rfl ?_
    refine g_iloadN S0.here hx (hb hby own_d_method_6_code_245) rfl 7 rfl ?_
    refine own_chr S0 hx hw G G2 (W := 0) (own_q87 hw) F (i := p1.toInt.toNat) (by omega) (own_ix (by omega)) (by decide) (by decide) (by rw [hml]; rfl) [] (Nat.le_refl _) (hb hby own_d_method_6_code_246) (by decide) (by decide) 10 rfl (fun T68 S68 => ?_)
    have kc := own_lat_at F.lat (i := p1.toInt.toNat) (by omega)
    generalize cs.getD p1.toInt.toNat 0 = cc at kc ⊢
    exact S68.iret hx hlk hret (Or.inr (Or.inr (Or.inr (Or.inl rfl)))) (own_narrow kc) (hb hby own_d_method_6_code_247) ⟨_, rfl, kc, rfl⟩ (by decide) (by decide)
theorem own_ef248 (m : MethodId) (x0 : Addr) (x1 : Int32) : entryFrame m #[(.ref x0), (.int x1)] 3 = mkF m 0 #[.val (.ref x0), .val (.int x1), .unset] [] := by first | (simp [entryFrame, mkF, argsToLocals, Value.category]; done) | rfl
theorem own_d_method_5_code_249 : decode method_5_code 0 = .ok (.bipush 8, 2) := by decide +kernel
theorem own_d_method_5_code_250 : decode method_5_code 2 = .ok (.newarray .char, 2) := by decide +kernel
theorem own_d_method_5_code_251 : decode method_5_code 4 = .ok (.astore_n 2, 1) := by decide +kernel
theorem own_d_method_5_code_252 : decode method_5_code 5 = .ok (.aload_n 2, 1) := by decide +kernel
theorem own_d_method_5_code_253 : decode method_5_code 6 = .ok (.iconst 0, 1) := by decide +kernel
theorem own_d_method_5_code_254 : decode method_5_code 7 = .ok (.aload_n 0, 1) := by decide +kernel
theorem own_d_method_5_code_255 : decode method_5_code 8 = .ok (.iconst 0, 1) := by decide +kernel
theorem own_d_method_5_code_256 : decode method_5_code 9 = .ok (.iload_n 1, 1) := by decide +kernel
theorem own_d_method_5_code_257 : decode method_5_code 10 = .ok (.invokestatic 60, 3) := by decide +kernel
theorem own_pd258 : parseMethodDescriptor "(Ljava/lang/String;II)C" = some ⟨[(.object "java/lang/String"), .int, .int], some .char⟩ := by decide +kernel
theorem own_d_method_5_code_259 : decode method_5_code 13 = .ok (.castore, 1) := by decide +kernel
theorem own_d_method_5_code_260 : decode method_5_code 14 = .ok (.aload_n 2, 1) := by decide +kernel
theorem own_d_method_5_code_261 : decode method_5_code 15 = .ok (.iconst 1, 1) := by decide +kernel
theorem own_d_method_5_code_262 : decode method_5_code 16 = .ok (.aload_n 0, 1) := by decide +kernel
theorem own_d_method_5_code_263 : decode method_5_code 17 = .ok (.iconst 1, 1) := by decide +kernel
theorem own_d_method_5_code_264 : decode method_5_code 18 = .ok (.iload_n 1, 1) := by decide +kernel
theorem own_d_method_5_code_265 : decode method_5_code 19 = .ok (.invokestatic 60, 3) := by decide +kernel
theorem own_d_method_5_code_266 : decode method_5_code 22 = .ok (.castore, 1) := by decide +kernel
theorem own_d_method_5_code_267 : decode method_5_code 23 = .ok (.aload_n 2, 1) := by decide +kernel
theorem own_d_method_5_code_268 : decode method_5_code 24 = .ok (.iconst 2, 1) := by decide +kernel
theorem own_d_method_5_code_269 : decode method_5_code 25 = .ok (.aload_n 0, 1) := by decide +kernel
theorem own_d_method_5_code_270 : decode method_5_code 26 = .ok (.iconst 2, 1) := by decide +kernel
theorem own_d_method_5_code_271 : decode method_5_code 27 = .ok (.iload_n 1, 1) := by decide +kernel
theorem own_d_method_5_code_272 : decode method_5_code 28 = .ok (.invokestatic 60, 3) := by decide +kernel
theorem own_d_method_5_code_273 : decode method_5_code 31 = .ok (.castore, 1) := by decide +kernel
theorem own_d_method_5_code_274 : decode method_5_code 32 = .ok (.aload_n 2, 1) := by decide +kernel
theorem own_d_method_5_code_275 : decode method_5_code 33 = .ok (.iconst 3, 1) := by decide +kernel
theorem own_d_method_5_code_276 : decode method_5_code 34 = .ok (.aload_n 0, 1) := by decide +kernel
theorem own_d_method_5_code_277 : decode method_5_code 35 = .ok (.iconst 3, 1) := by decide +kernel
theorem own_d_method_5_code_278 : decode method_5_code 36 = .ok (.iload_n 1, 1) := by decide +kernel
theorem own_d_method_5_code_279 : decode method_5_code 37 = .ok (.invokestatic 60, 3) := by decide +kernel
theorem own_d_method_5_code_280 : decode method_5_code 40 = .ok (.castore, 1) := by decide +kernel
theorem own_d_method_5_code_281 : decode method_5_code 41 = .ok (.aload_n 2, 1) := by decide +kernel
theorem own_d_method_5_code_282 : decode method_5_code 42 = .ok (.iconst 4, 1) := by decide +kernel
theorem own_d_method_5_code_283 : decode method_5_code 43 = .ok (.aload_n 0, 1) := by decide +kernel
theorem own_d_method_5_code_284 : decode method_5_code 44 = .ok (.iconst 4, 1) := by decide +kernel
theorem own_d_method_5_code_285 : decode method_5_code 45 = .ok (.iload_n 1, 1) := by decide +kernel
theorem own_d_method_5_code_286 : decode method_5_code 46 = .ok (.invokestatic 60, 3) := by decide +kernel
theorem own_d_method_5_code_287 : decode method_5_code 49 = .ok (.castore, 1) := by decide +kernel
theorem own_d_method_5_code_288 : decode method_5_code 50 = .ok (.aload_n 2, 1) := by decide +kernel
theorem own_d_method_5_code_289 : decode method_5_code 51 = .ok (.iconst 5, 1) := by decide +kernel
theorem own_d_method_5_code_290 : decode method_5_code 52 = .ok (.aload_n 0, 1) := by decide +kernel
theorem own_d_method_5_code_291 : decode method_5_code 53 = .ok (.iconst 5, 1) := by decide +kernel
theorem own_d_method_5_code_292 : decode method_5_code 54 = .ok (.iload_n 1, 1) := by decide +kernel
theorem own_d_method_5_code_293 : decode method_5_code 55 = .ok (.invokestatic 60, 3) := by decide +kernel
theorem own_d_method_5_code_294 : decode method_5_code 58 = .ok (.castore, 1) := by decide +kernel
theorem own_d_method_5_code_295 : decode method_5_code 59 = .ok (.aload_n 2, 1) := by decide +kernel
theorem own_d_method_5_code_296 : decode method_5_code 60 = .ok (.bipush 6, 2) := by decide +kernel
theorem own_d_method_5_code_297 : decode method_5_code 62 = .ok (.aload_n 0, 1) := by decide +kernel
theorem own_d_method_5_code_298 : decode method_5_code 63 = .ok (.bipush 6, 2) := by decide +kernel
theorem own_d_method_5_code_299 : decode method_5_code 65 = .ok (.iload_n 1, 1) := by decide +kernel
theorem own_d_method_5_code_300 : decode method_5_code 66 = .ok (.invokestatic 60, 3) := by decide +kernel
theorem own_d_method_5_code_301 : decode method_5_code 69 = .ok (.castore, 1) := by decide +kernel
theorem own_d_method_5_code_302 : decode method_5_code 70 = .ok (.aload_n 2, 1) := by decide +kernel
theorem own_d_method_5_code_303 : decode method_5_code 71 = .ok (.bipush 7, 2) := by decide +kernel
theorem own_d_method_5_code_304 : decode method_5_code 73 = .ok (.aload_n 0, 1) := by decide +kernel
theorem own_d_method_5_code_305 : decode method_5_code 74 = .ok (.bipush 7, 2) := by decide +kernel
theorem own_d_method_5_code_306 : decode method_5_code 76 = .ok (.iload_n 1, 1) := by decide +kernel
theorem own_d_method_5_code_307 : decode method_5_code 77 = .ok (.invokestatic 60, 3) := by decide +kernel
theorem own_d_method_5_code_308 : decode method_5_code 80 = .ok (.castore, 1) := by decide +kernel
theorem own_d_method_5_code_309 : decode method_5_code 81 = .ok (.aload_n 2, 1) := by decide +kernel
theorem own_d_method_5_code_310 : decode method_5_code 82 = .ok (.areturn, 1) := by decide +kernel
set_option maxRecDepth 65536 in
set_option maxHeartbeats 40000000 in
theorem ctD (l : Launch) (Z : State) (a0 : Array Value) (hw : ∀ d ∈ tables_1, d.before a0 Z = true) (a : Addr) (cs : List Int32) (p2 : Int32) (h : Heap) (O : Old Z Z.heap.size h) (G : own_cs Z) (G2 : own_sf Z) (F : own_str Z h a cs) (l9 : cs.length = 9) :
    Ct 1 l Z consts_1 [] (⟨"com/example/ambient_wiring/ambientwiring/BeanScopeNamedPinLaw", "drop", "(Ljava/lang/String;I)[C"⟩ : MethodName) method_5_code 3 (some (.array .char)) ({ frames := 5, cells := 1, slots := 8, locals := 70 } : Room) #[(.ref a), (.int p2)] h (fun v h' => ∃ b : Addr, v = some (.ref b) ∧ own_arr Z h' b 8 ∧ Ext h h' ∧ h.size ≤ b) := by
  refine Ct.intro (plainFor_of_name own_pn39) O (fun q => by cases q) ⟨a0, own_ew hw⟩ ?_
  intro p e s m below meth c T0 hx hby hml hret hnm hlk hsf S0
  refine Goes.cast (own_ef248 m a p2) ?_
  refine g_bipush S0.here hx (hb hby own_d_method_5_code_249) (8 : Int32) (by decide) 2 rfl ?_
  refine S0.newA (aty := .char) hx (own_q43 hw) (n := (8 : Int32)) (by decide) (cap := 8) (by decide) (by decide) (hb hby own_d_method_5_code_250) (by decide) (by decide) 4 rfl (fun T69 h69 b69 k69 S69 g69 E69 V69 _ R69 => ?_)
  have ga69 : Z.heap.size ≤ b69 := by rw [g69]; exact S0.size
  have gg69 : h.size ≤ b69 := Nat.le_of_eq g69.symm
  have F_b := F
  have F := F.ext E69
  refine g_astoreN S69.here hx (hb hby own_d_method_5_code_251) rfl #[.val (.ref a), .val (.int p2), .val (.ref b69)] rfl 5 rfl ?_
  refine g_aloadN S69.here hx (hb hby own_d_method_5_code_252) rfl rfl 6 rfl ?_
  refine g_iconst S69.here hx (hb hby own_d_method_5_code_253) (0 : Int32) (by decide) 7 rfl ?_
  refine g_aloadN S69.here hx (hb hby own_d_method_5_code_254) rfl rfl 8 rfl ?_
  refine g_iconst S69.here hx (hb hby own_d_method_5_code_255) (0 : Int32) (by decide) 9 rfl ?_
  refine g_iloadN S69.here hx (hb hby own_d_method_5_code_256) rfl 10 rfl ?_
  refine S69.callS hx (W := 2) (own_q111 hw) (own_q112 hw) (own_q41 hw) (own_q113 hw) (by decide) (ctDa l Z a0 hw a cs (0 : Int32) p2 h69 S69.old G G2 F l9 (by decide)) nosf (by decide) (by decide) (by rw [hml]; rfl) [(.ref a), (.int (0 : Int32)), (.int p2)] [(.int (0 : Int32)), (.ref b69)] (lenOf own_pd258 rfl) rfl rfl (Nat.le_refl _) (hb hby own_d_method_5_code_257) (by decide) (by decide) 13 rfl (fun v70 vm70 T70 h70 S70 Q70 R70 => ?_)
  obtain ⟨c70, rfl, k_c70, rfl⟩ := Q70
  show Goes _ _ _ _ T70 (mkF m 13 #[.val (.ref a), .val (.int p2), .val (.ref b69)] [(.int c70), (.int (0 : Int32)), (.ref b69)])
  refine S70.stC hx V69 0 ⟨by decide, by decide⟩ (by decide) (by simp) ga69 c70 (own_nar (own_b16 k_c70)) (hb hby own_d_method_5_code_259) 14 rfl (fun T71 h71 S71 W71 V71 R71 => ?_)
  have E71 := own_ext_wr E69 W71 gg69
  have F := F_b.ext E71
  refine g_aloadN S71.here hx (hb hby own_d_method_5_code_260) rfl rfl 15 rfl ?_
  refine g_iconst S71.here hx (hb hby own_d_method_5_code_261) (1 : Int32) (by decide) 16 rfl ?_
  refine g_aloadN S71.here hx (hb hby own_d_method_5_code_262) rfl rfl 17 rfl ?_
  refine g_iconst S71.here hx (hb hby own_d_method_5_code_263) (1 : Int32) (by decide) 18 rfl ?_
  refine g_iloadN S71.here hx (hb hby own_d_method_5_code_264) rfl 19 rfl ?_
  refine S71.callS hx (W := 2) (own_q111 hw) (own_q112 hw) (own_q41 hw) (own_q113 hw) (by decide) (ctDa l Z a0 hw a cs (1 : Int32) p2 h71 S71.old G G2 F l9 (by decide)) nosf (by decide) (by decide) (by rw [hml]; rfl) [(.ref a), (.int (1 : Int32)), (.int p2)] [(.int (1 : Int32)), (.ref b69)] (lenOf own_pd258 rfl) rfl rfl (Nat.le_refl _) (hb hby own_d_method_5_code_265) (by decide) (by decide) 22 rfl (fun v72 vm72 T72 h72 S72 Q72 R72 => ?_)
  obtain ⟨c72, rfl, k_c72, rfl⟩ := Q72
  show Goes _ _ _ _ T72 (mkF m 22 #[.val (.ref a), .val (.int p2), .val (.ref b69)] [(.int c72), (.int (1 : Int32)), (.ref b69)])
  refine S72.stC hx V71 1 ⟨by decide, by decide⟩ (by decide) (by simp) ga69 c72 (own_nar (own_b16 k_c72)) (hb hby own_d_method_5_code_266) 23 rfl (fun T73 h73 S73 W73 V73 R73 => ?_)
  have E73 := own_ext_wr E71 W73 gg69
  have F := F_b.ext E73
  refine g_aloadN S73.here hx (hb hby own_d_method_5_code_267) rfl rfl 24 rfl ?_
  refine g_iconst S73.here hx (hb hby own_d_method_5_code_268) (2 : Int32) (by decide) 25 rfl ?_
  refine g_aloadN S73.here hx (hb hby own_d_method_5_code_269) rfl rfl 26 rfl ?_
  refine g_iconst S73.here hx (hb hby own_d_method_5_code_270) (2 : Int32) (by decide) 27 rfl ?_
  refine g_iloadN S73.here hx (hb hby own_d_method_5_code_271) rfl 28 rfl ?_
  refine S73.callS hx (W := 2) (own_q111 hw) (own_q112 hw) (own_q41 hw) (own_q113 hw) (by decide) (ctDa l Z a0 hw a cs (2 : Int32) p2 h73 S73.old G G2 F l9 (by decide)) nosf (by decide) (by decide) (by rw [hml]; rfl) [(.ref a), (.int (2 : Int32)), (.int p2)] [(.int (2 : Int32)), (.ref b69)] (lenOf own_pd258 rfl) rfl rfl (Nat.le_refl _) (hb hby own_d_method_5_code_272) (by decide) (by decide) 31 rfl (fun v74 vm74 T74 h74 S74 Q74 R74 => ?_)
  obtain ⟨c74, rfl, k_c74, rfl⟩ := Q74
  show Goes _ _ _ _ T74 (mkF m 31 #[.val (.ref a), .val (.int p2), .val (.ref b69)] [(.int c74), (.int (2 : Int32)), (.ref b69)])
  refine S74.stC hx V73 2 ⟨by decide, by decide⟩ (by decide) (by simp) ga69 c74 (own_nar (own_b16 k_c74)) (hb hby own_d_method_5_code_273) 32 rfl (fun T75 h75 S75 W75 V75 R75 => ?_)
  have E75 := own_ext_wr E73 W75 gg69
  have F := F_b.ext E75
  refine g_aloadN S75.here hx (hb hby own_d_method_5_code_274) rfl rfl 33 rfl ?_
  refine g_iconst S75.here hx (hb hby own_d_method_5_code_275) (3 : Int32) (by decide) 34 rfl ?_
  refine g_aloadN S75.here hx (hb hby own_d_method_5_code_276) rfl rfl 35 rfl ?_
  refine g_iconst S75.here hx (hb hby own_d_method_5_code_277) (3 : Int32) (by decide) 36 rfl ?_
  refine g_iloadN S75.here hx (hb hby own_d_method_5_code_278) rfl 37 rfl ?_
  refine S75.callS hx (W := 2) (own_q111 hw) (own_q112 hw) (own_q41 hw) (own_q113 hw) (by decide) (ctDa l Z a0 hw a cs (3 : Int32) p2 h75 S75.old G G2 F l9 (by decide)) nosf (by decide) (by decide) (by rw [hml]; rfl) [(.ref a), (.int (3 : Int32)), (.int p2)] [(.int (3 : Int32)), (.ref b69)] (lenOf own_pd258 rfl) rfl rfl (Nat.le_refl _) (hb hby own_d_method_5_code_279) (by decide) (by decide) 40 rfl (fun v76 vm76 T76 h76 S76 Q76 R76 => ?_)
  obtain ⟨c76, rfl, k_c76, rfl⟩ := Q76
  show Goes _ _ _ _ T76 (mkF m 40 #[.val (.ref a), .val (.int p2), .val (.ref b69)] [(.int c76), (.int (3 : Int32)), (.ref b69)])
  refine S76.stC hx V75 3 ⟨by decide, by decide⟩ (by decide) (by simp) ga69 c76 (own_nar (own_b16 k_c76)) (hb hby own_d_method_5_code_280) 41 rfl (fun T77 h77 S77 W77 V77 R77 => ?_)
  have E77 := own_ext_wr E75 W77 gg69
  have F := F_b.ext E77
  refine g_aloadN S77.here hx (hb hby own_d_method_5_code_281) rfl rfl 42 rfl ?_
  refine g_iconst S77.here hx (hb hby own_d_method_5_code_282) (4 : Int32) (by decide) 43 rfl ?_
  refine g_aloadN S77.here hx (hb hby own_d_method_5_code_283) rfl rfl 44 rfl ?_
  refine g_iconst S77.here hx (hb hby own_d_method_5_code_284) (4 : Int32) (by decide) 45 rfl ?_
  refine g_iloadN S77.here hx (hb hby own_d_method_5_code_285) rfl 46 rfl ?_
  refine S77.callS hx (W := 2) (own_q111 hw) (own_q112 hw) (own_q41 hw) (own_q113 hw) (by decide) (ctDa l Z a0 hw a cs (4 : Int32) p2 h77 S77.old G G2 F l9 (by decide)) nosf (by decide) (by decide) (by rw [hml]; rfl) [(.ref a), (.int (4 : Int32)), (.int p2)] [(.int (4 : Int32)), (.ref b69)] (lenOf own_pd258 rfl) rfl rfl (Nat.le_refl _) (hb hby own_d_method_5_code_286) (by decide) (by decide) 49 rfl (fun v78 vm78 T78 h78 S78 Q78 R78 => ?_)
  obtain ⟨c78, rfl, k_c78, rfl⟩ := Q78
  show Goes _ _ _ _ T78 (mkF m 49 #[.val (.ref a), .val (.int p2), .val (.ref b69)] [(.int c78), (.int (4 : Int32)), (.ref b69)])
  refine S78.stC hx V77 4 ⟨by decide, by decide⟩ (by decide) (by simp) ga69 c78 (own_nar (own_b16 k_c78)) (hb hby own_d_method_5_code_287) 50 rfl (fun T79 h79 S79 W79 V79 R79 => ?_)
  have E79 := own_ext_wr E77 W79 gg69
  have F := F_b.ext E79
  refine g_aloadN S79.here hx (hb hby own_d_method_5_code_288) rfl rfl 51 rfl ?_
  refine g_iconst S79.here hx (hb hby own_d_method_5_code_289) (5 : Int32) (by decide) 52 rfl ?_
  refine g_aloadN S79.here hx (hb hby own_d_method_5_code_290) rfl rfl 53 rfl ?_
  refine g_iconst S79.here hx (hb hby own_d_method_5_code_291) (5 : Int32) (by decide) 54 rfl ?_
  refine g_iloadN S79.here hx (hb hby own_d_method_5_code_292) rfl 55 rfl ?_
  refine S79.callS hx (W := 2) (own_q111 hw) (own_q112 hw) (own_q41 hw) (own_q113 hw) (by decide) (ctDa l Z a0 hw a cs (5 : Int32) p2 h79 S79.old G G2 F l9 (by decide)) nosf (by decide) (by decide) (by rw [hml]; rfl) [(.ref a), (.int (5 : Int32)), (.int p2)] [(.int (5 : Int32)), (.ref b69)] (lenOf own_pd258 rfl) rfl rfl (Nat.le_refl _) (hb hby own_d_method_5_code_293) (by decide) (by decide) 58 rfl (fun v80 vm80 T80 h80 S80 Q80 R80 => ?_)
  obtain ⟨c80, rfl, k_c80, rfl⟩ := Q80
  show Goes _ _ _ _ T80 (mkF m 58 #[.val (.ref a), .val (.int p2), .val (.ref b69)] [(.int c80), (.int (5 : Int32)), (.ref b69)])
  refine S80.stC hx V79 5 ⟨by decide, by decide⟩ (by decide) (by simp) ga69 c80 (own_nar (own_b16 k_c80)) (hb hby own_d_method_5_code_294) 59 rfl (fun T81 h81 S81 W81 V81 R81 => ?_)
  have E81 := own_ext_wr E79 W81 gg69
  have F := F_b.ext E81
  refine g_aloadN S81.here hx (hb hby own_d_method_5_code_295) rfl rfl 60 rfl ?_
  refine g_bipush S81.here hx (hb hby own_d_method_5_code_296) (6 : Int32) (by decide) 62 rfl ?_
  refine g_aloadN S81.here hx (hb hby own_d_method_5_code_297) rfl rfl 63 rfl ?_
  refine g_bipush S81.here hx (hb hby own_d_method_5_code_298) (6 : Int32) (by decide) 65 rfl ?_
  refine g_iloadN S81.here hx (hb hby own_d_method_5_code_299) rfl 66 rfl ?_
  refine S81.callS hx (W := 2) (own_q111 hw) (own_q112 hw) (own_q41 hw) (own_q113 hw) (by decide) (ctDa l Z a0 hw a cs (6 : Int32) p2 h81 S81.old G G2 F l9 (by decide)) nosf (by decide) (by decide) (by rw [hml]; rfl) [(.ref a), (.int (6 : Int32)), (.int p2)] [(.int (6 : Int32)), (.ref b69)] (lenOf own_pd258 rfl) rfl rfl (Nat.le_refl _) (hb hby own_d_method_5_code_300) (by decide) (by decide) 69 rfl (fun v82 vm82 T82 h82 S82 Q82 R82 => ?_)
  obtain ⟨c82, rfl, k_c82, rfl⟩ := Q82
  show Goes _ _ _ _ T82 (mkF m 69 #[.val (.ref a), .val (.int p2), .val (.ref b69)] [(.int c82), (.int (6 : Int32)), (.ref b69)])
  refine S82.stC hx V81 6 ⟨by decide, by decide⟩ (by decide) (by simp) ga69 c82 (own_nar (own_b16 k_c82)) (hb hby own_d_method_5_code_301) 70 rfl (fun T83 h83 S83 W83 V83 R83 => ?_)
  have E83 := own_ext_wr E81 W83 gg69
  have F := F_b.ext E83
  refine g_aloadN S83.here hx (hb hby own_d_method_5_code_302) rfl rfl 71 rfl ?_
  refine g_bipush S83.here hx (hb hby own_d_method_5_code_303) (7 : Int32) (by decide) 73 rfl ?_
  refine g_aloadN S83.here hx (hb hby own_d_method_5_code_304) rfl rfl 74 rfl ?_
  refine g_bipush S83.here hx (hb hby own_d_method_5_code_305) (7 : Int32) (by decide) 76 rfl ?_
  refine g_iloadN S83.here hx (hb hby own_d_method_5_code_306) rfl 77 rfl ?_
  refine S83.callS hx (W := 2) (own_q111 hw) (own_q112 hw) (own_q41 hw) (own_q113 hw) (by decide) (ctDa l Z a0 hw a cs (7 : Int32) p2 h83 S83.old G G2 F l9 (by decide)) nosf (by decide) (by decide) (by rw [hml]; rfl) [(.ref a), (.int (7 : Int32)), (.int p2)] [(.int (7 : Int32)), (.ref b69)] (lenOf own_pd258 rfl) rfl rfl (Nat.le_refl _) (hb hby own_d_method_5_code_307) (by decide) (by decide) 80 rfl (fun v84 vm84 T84 h84 S84 Q84 R84 => ?_)
  obtain ⟨c84, rfl, k_c84, rfl⟩ := Q84
  show Goes _ _ _ _ T84 (mkF m 80 #[.val (.ref a), .val (.int p2), .val (.ref b69)] [(.int c84), (.int (7 : Int32)), (.ref b69)])
  refine S84.stC hx V83 7 ⟨by decide, by decide⟩ (by decide) (by simp) ga69 c84 (own_nar (own_b16 k_c84)) (hb hby own_d_method_5_code_308) 81 rfl (fun T85 h85 S85 W85 V85 R85 => ?_)
  have E85 := own_ext_wr E83 W85 gg69
  have F := F_b.ext E85
  refine g_aloadN S85.here hx (hb hby own_d_method_5_code_309) rfl rfl 82 rfl ?_
  exact S85.aret hx hlk hret rfl rfl rfl (hb hby own_d_method_5_code_310) ⟨_, rfl, ⟨k69, [c70, c72, c74, c76, c78, c80, c82, c84], V85, (own_lat_cons k_c70 (own_lat_cons k_c72 (own_lat_cons k_c74 (own_lat_cons k_c76 (own_lat_cons k_c78 (own_lat_cons k_c80 (own_lat_cons k_c82 (own_lat_cons k_c84 own_lat_nil)))))))), rfl⟩, E85, gg69⟩ (by decide) (by decide)
theorem own_ef311 (m : MethodId) (x0 : Addr) (x1 : Int32) (x2 : Int32) : entryFrame m #[(.ref x0), (.int x1), (.int x2)] 4 = mkF m 0 #[.val (.ref x0), .val (.int x1), .val (.int x2), .unset] [] := by first | (simp [entryFrame, mkF, argsToLocals, Value.category]; done) | rfl
theorem own_d_method_7_code_312 : decode method_7_code 0 = .ok (.bipush 10, 2) := by decide +kernel
theorem own_d_method_7_code_313 : decode method_7_code 2 = .ok (.newarray .char, 2) := by decide +kernel
theorem own_d_method_7_code_314 : decode method_7_code 4 = .ok (.astore_n 3, 1) := by decide +kernel
theorem own_d_method_7_code_315 : decode method_7_code 5 = .ok (.aload_n 3, 1) := by decide +kernel
theorem own_d_method_7_code_316 : decode method_7_code 6 = .ok (.iconst 0, 1) := by decide +kernel
theorem own_d_method_7_code_317 : decode method_7_code 7 = .ok (.aload_n 0, 1) := by decide +kernel
theorem own_d_method_7_code_318 : decode method_7_code 8 = .ok (.iconst 0, 1) := by decide +kernel
theorem own_d_method_7_code_319 : decode method_7_code 9 = .ok (.iload_n 1, 1) := by decide +kernel
theorem own_d_method_7_code_320 : decode method_7_code 10 = .ok (.iload_n 2, 1) := by decide +kernel
theorem own_d_method_7_code_321 : decode method_7_code 11 = .ok (.invokestatic 64, 3) := by decide +kernel
theorem own_pd322 : parseMethodDescriptor "(Ljava/lang/String;IIC)C" = some ⟨[(.object "java/lang/String"), .int, .int, .char], some .char⟩ := by decide +kernel
theorem own_d_method_7_code_323 : decode method_7_code 14 = .ok (.castore, 1) := by decide +kernel
theorem own_d_method_7_code_324 : decode method_7_code 15 = .ok (.aload_n 3, 1) := by decide +kernel
theorem own_d_method_7_code_325 : decode method_7_code 16 = .ok (.iconst 1, 1) := by decide +kernel
theorem own_d_method_7_code_326 : decode method_7_code 17 = .ok (.aload_n 0, 1) := by decide +kernel
theorem own_d_method_7_code_327 : decode method_7_code 18 = .ok (.iconst 1, 1) := by decide +kernel
theorem own_d_method_7_code_328 : decode method_7_code 19 = .ok (.iload_n 1, 1) := by decide +kernel
theorem own_d_method_7_code_329 : decode method_7_code 20 = .ok (.iload_n 2, 1) := by decide +kernel
theorem own_d_method_7_code_330 : decode method_7_code 21 = .ok (.invokestatic 64, 3) := by decide +kernel
theorem own_d_method_7_code_331 : decode method_7_code 24 = .ok (.castore, 1) := by decide +kernel
theorem own_d_method_7_code_332 : decode method_7_code 25 = .ok (.aload_n 3, 1) := by decide +kernel
theorem own_d_method_7_code_333 : decode method_7_code 26 = .ok (.iconst 2, 1) := by decide +kernel
theorem own_d_method_7_code_334 : decode method_7_code 27 = .ok (.aload_n 0, 1) := by decide +kernel
theorem own_d_method_7_code_335 : decode method_7_code 28 = .ok (.iconst 2, 1) := by decide +kernel
theorem own_d_method_7_code_336 : decode method_7_code 29 = .ok (.iload_n 1, 1) := by decide +kernel
theorem own_d_method_7_code_337 : decode method_7_code 30 = .ok (.iload_n 2, 1) := by decide +kernel
theorem own_d_method_7_code_338 : decode method_7_code 31 = .ok (.invokestatic 64, 3) := by decide +kernel
theorem own_d_method_7_code_339 : decode method_7_code 34 = .ok (.castore, 1) := by decide +kernel
theorem own_d_method_7_code_340 : decode method_7_code 35 = .ok (.aload_n 3, 1) := by decide +kernel
theorem own_d_method_7_code_341 : decode method_7_code 36 = .ok (.iconst 3, 1) := by decide +kernel
theorem own_d_method_7_code_342 : decode method_7_code 37 = .ok (.aload_n 0, 1) := by decide +kernel
theorem own_d_method_7_code_343 : decode method_7_code 38 = .ok (.iconst 3, 1) := by decide +kernel
theorem own_d_method_7_code_344 : decode method_7_code 39 = .ok (.iload_n 1, 1) := by decide +kernel
theorem own_d_method_7_code_345 : decode method_7_code 40 = .ok (.iload_n 2, 1) := by decide +kernel
theorem own_d_method_7_code_346 : decode method_7_code 41 = .ok (.invokestatic 64, 3) := by decide +kernel
theorem own_d_method_7_code_347 : decode method_7_code 44 = .ok (.castore, 1) := by decide +kernel
theorem own_d_method_7_code_348 : decode method_7_code 45 = .ok (.aload_n 3, 1) := by decide +kernel
theorem own_d_method_7_code_349 : decode method_7_code 46 = .ok (.iconst 4, 1) := by decide +kernel
theorem own_d_method_7_code_350 : decode method_7_code 47 = .ok (.aload_n 0, 1) := by decide +kernel
theorem own_d_method_7_code_351 : decode method_7_code 48 = .ok (.iconst 4, 1) := by decide +kernel
theorem own_d_method_7_code_352 : decode method_7_code 49 = .ok (.iload_n 1, 1) := by decide +kernel
theorem own_d_method_7_code_353 : decode method_7_code 50 = .ok (.iload_n 2, 1) := by decide +kernel
theorem own_d_method_7_code_354 : decode method_7_code 51 = .ok (.invokestatic 64, 3) := by decide +kernel
theorem own_d_method_7_code_355 : decode method_7_code 54 = .ok (.castore, 1) := by decide +kernel
theorem own_d_method_7_code_356 : decode method_7_code 55 = .ok (.aload_n 3, 1) := by decide +kernel
theorem own_d_method_7_code_357 : decode method_7_code 56 = .ok (.iconst 5, 1) := by decide +kernel
theorem own_d_method_7_code_358 : decode method_7_code 57 = .ok (.aload_n 0, 1) := by decide +kernel
theorem own_d_method_7_code_359 : decode method_7_code 58 = .ok (.iconst 5, 1) := by decide +kernel
theorem own_d_method_7_code_360 : decode method_7_code 59 = .ok (.iload_n 1, 1) := by decide +kernel
theorem own_d_method_7_code_361 : decode method_7_code 60 = .ok (.iload_n 2, 1) := by decide +kernel
theorem own_d_method_7_code_362 : decode method_7_code 61 = .ok (.invokestatic 64, 3) := by decide +kernel
theorem own_d_method_7_code_363 : decode method_7_code 64 = .ok (.castore, 1) := by decide +kernel
theorem own_d_method_7_code_364 : decode method_7_code 65 = .ok (.aload_n 3, 1) := by decide +kernel
theorem own_d_method_7_code_365 : decode method_7_code 66 = .ok (.bipush 6, 2) := by decide +kernel
theorem own_d_method_7_code_366 : decode method_7_code 68 = .ok (.aload_n 0, 1) := by decide +kernel
theorem own_d_method_7_code_367 : decode method_7_code 69 = .ok (.bipush 6, 2) := by decide +kernel
theorem own_d_method_7_code_368 : decode method_7_code 71 = .ok (.iload_n 1, 1) := by decide +kernel
theorem own_d_method_7_code_369 : decode method_7_code 72 = .ok (.iload_n 2, 1) := by decide +kernel
theorem own_d_method_7_code_370 : decode method_7_code 73 = .ok (.invokestatic 64, 3) := by decide +kernel
theorem own_d_method_7_code_371 : decode method_7_code 76 = .ok (.castore, 1) := by decide +kernel
theorem own_d_method_7_code_372 : decode method_7_code 77 = .ok (.aload_n 3, 1) := by decide +kernel
theorem own_d_method_7_code_373 : decode method_7_code 78 = .ok (.bipush 7, 2) := by decide +kernel
theorem own_d_method_7_code_374 : decode method_7_code 80 = .ok (.aload_n 0, 1) := by decide +kernel
theorem own_d_method_7_code_375 : decode method_7_code 81 = .ok (.bipush 7, 2) := by decide +kernel
theorem own_d_method_7_code_376 : decode method_7_code 83 = .ok (.iload_n 1, 1) := by decide +kernel
theorem own_d_method_7_code_377 : decode method_7_code 84 = .ok (.iload_n 2, 1) := by decide +kernel
theorem own_d_method_7_code_378 : decode method_7_code 85 = .ok (.invokestatic 64, 3) := by decide +kernel
theorem own_d_method_7_code_379 : decode method_7_code 88 = .ok (.castore, 1) := by decide +kernel
theorem own_d_method_7_code_380 : decode method_7_code 89 = .ok (.aload_n 3, 1) := by decide +kernel
theorem own_d_method_7_code_381 : decode method_7_code 90 = .ok (.bipush 8, 2) := by decide +kernel
theorem own_d_method_7_code_382 : decode method_7_code 92 = .ok (.aload_n 0, 1) := by decide +kernel
theorem own_d_method_7_code_383 : decode method_7_code 93 = .ok (.bipush 8, 2) := by decide +kernel
theorem own_d_method_7_code_384 : decode method_7_code 95 = .ok (.iload_n 1, 1) := by decide +kernel
theorem own_d_method_7_code_385 : decode method_7_code 96 = .ok (.iload_n 2, 1) := by decide +kernel
theorem own_d_method_7_code_386 : decode method_7_code 97 = .ok (.invokestatic 64, 3) := by decide +kernel
theorem own_d_method_7_code_387 : decode method_7_code 100 = .ok (.castore, 1) := by decide +kernel
theorem own_d_method_7_code_388 : decode method_7_code 101 = .ok (.aload_n 3, 1) := by decide +kernel
theorem own_d_method_7_code_389 : decode method_7_code 102 = .ok (.bipush 9, 2) := by decide +kernel
theorem own_d_method_7_code_390 : decode method_7_code 104 = .ok (.aload_n 0, 1) := by decide +kernel
theorem own_d_method_7_code_391 : decode method_7_code 105 = .ok (.bipush 9, 2) := by decide +kernel
theorem own_d_method_7_code_392 : decode method_7_code 107 = .ok (.iload_n 1, 1) := by decide +kernel
theorem own_d_method_7_code_393 : decode method_7_code 108 = .ok (.iload_n 2, 1) := by decide +kernel
theorem own_d_method_7_code_394 : decode method_7_code 109 = .ok (.invokestatic 64, 3) := by decide +kernel
theorem own_d_method_7_code_395 : decode method_7_code 112 = .ok (.castore, 1) := by decide +kernel
theorem own_d_method_7_code_396 : decode method_7_code 113 = .ok (.aload_n 3, 1) := by decide +kernel
theorem own_d_method_7_code_397 : decode method_7_code 114 = .ok (.areturn, 1) := by decide +kernel
set_option maxRecDepth 65536 in
set_option maxHeartbeats 40000000 in
theorem ctI (l : Launch) (Z : State) (a0 : Array Value) (hw : ∀ d ∈ tables_1, d.before a0 Z = true) (a : Addr) (cs : List Int32) (p2 p3 : Int32) (h : Heap) (O : Old Z Z.heap.size h) (G : own_cs Z) (G2 : own_sf Z) (F : own_str Z h a cs) (l9 : cs.length = 9) (h2 : 0 ≤ p2.toInt ∧ p2.toInt ≤ 9) (hd8 : 0 ≤ p3.toInt ∧ p3.toInt ≤ 255) :
    Ct 1 l Z consts_1 [] (⟨"com/example/ambient_wiring/ambientwiring/BeanScopeNamedPinLaw", "insert", "(Ljava/lang/String;IC)[C"⟩ : MethodName) method_7_code 4 (some (.array .char)) ({ frames := 5, cells := 1, slots := 10, locals := 71 } : Room) #[(.ref a), (.int p2), (.int p3)] h (fun v h' => ∃ b : Addr, v = some (.ref b) ∧ own_arr Z h' b 10 ∧ Ext h h' ∧ h.size ≤ b) := by
  refine Ct.intro (plainFor_of_name own_pn39) O (fun q => by cases q) ⟨a0, own_ew hw⟩ ?_
  intro p e s m below meth c T0 hx hby hml hret hnm hlk hsf S0
  refine Goes.cast (own_ef311 m a p2 p3) ?_
  refine g_bipush S0.here hx (hb hby own_d_method_7_code_312) (10 : Int32) (by decide) 2 rfl ?_
  refine S0.newA (aty := .char) hx (own_q43 hw) (n := (10 : Int32)) (by decide) (cap := 10) (by decide) (by decide) (hb hby own_d_method_7_code_313) (by decide) (by decide) 4 rfl (fun T86 h86 b86 k86 S86 g86 E86 V86 _ R86 => ?_)
  have ga86 : Z.heap.size ≤ b86 := by rw [g86]; exact S0.size
  have gg86 : h.size ≤ b86 := Nat.le_of_eq g86.symm
  have F_b := F
  have F := F.ext E86
  refine g_astoreN S86.here hx (hb hby own_d_method_7_code_314) rfl #[.val (.ref a), .val (.int p2), .val (.int p3), .val (.ref b86)] rfl 5 rfl ?_
  refine g_aloadN S86.here hx (hb hby own_d_method_7_code_315) rfl rfl 6 rfl ?_
  refine g_iconst S86.here hx (hb hby own_d_method_7_code_316) (0 : Int32) (by decide) 7 rfl ?_
  refine g_aloadN S86.here hx (hb hby own_d_method_7_code_317) rfl rfl 8 rfl ?_
  refine g_iconst S86.here hx (hb hby own_d_method_7_code_318) (0 : Int32) (by decide) 9 rfl ?_
  refine g_iloadN S86.here hx (hb hby own_d_method_7_code_319) rfl 10 rfl ?_
  refine g_iloadN S86.here hx (hb hby own_d_method_7_code_320) rfl 11 rfl ?_
  refine S86.callS hx (W := 2) (own_q84 hw) (own_q85 hw) (own_q41 hw) (own_q86 hw) (by decide) (ctIa l Z a0 hw a cs (0 : Int32) p2 p3 h86 S86.old G G2 F l9 (by decide) h2 hd8) nosf (by decide) (by decide) (by rw [hml]; rfl) [(.ref a), (.int (0 : Int32)), (.int p2), (.int p3)] [(.int (0 : Int32)), (.ref b86)] (lenOf own_pd322 rfl) rfl rfl (Nat.le_refl _) (hb hby own_d_method_7_code_321) (by decide) (by decide) 14 rfl (fun v87 vm87 T87 h87 S87 Q87 R87 => ?_)
  obtain ⟨c87, rfl, k_c87, rfl⟩ := Q87
  show Goes _ _ _ _ T87 (mkF m 14 #[.val (.ref a), .val (.int p2), .val (.int p3), .val (.ref b86)] [(.int c87), (.int (0 : Int32)), (.ref b86)])
  refine S87.stC hx V86 0 ⟨by decide, by decide⟩ (by decide) (by simp) ga86 c87 (own_nar (own_b16 k_c87)) (hb hby own_d_method_7_code_323) 15 rfl (fun T88 h88 S88 W88 V88 R88 => ?_)
  have E88 := own_ext_wr E86 W88 gg86
  have F := F_b.ext E88
  refine g_aloadN S88.here hx (hb hby own_d_method_7_code_324) rfl rfl 16 rfl ?_
  refine g_iconst S88.here hx (hb hby own_d_method_7_code_325) (1 : Int32) (by decide) 17 rfl ?_
  refine g_aloadN S88.here hx (hb hby own_d_method_7_code_326) rfl rfl 18 rfl ?_
  refine g_iconst S88.here hx (hb hby own_d_method_7_code_327) (1 : Int32) (by decide) 19 rfl ?_
  refine g_iloadN S88.here hx (hb hby own_d_method_7_code_328) rfl 20 rfl ?_
  refine g_iloadN S88.here hx (hb hby own_d_method_7_code_329) rfl 21 rfl ?_
  refine S88.callS hx (W := 2) (own_q84 hw) (own_q85 hw) (own_q41 hw) (own_q86 hw) (by decide) (ctIa l Z a0 hw a cs (1 : Int32) p2 p3 h88 S88.old G G2 F l9 (by decide) h2 hd8) nosf (by decide) (by decide) (by rw [hml]; rfl) [(.ref a), (.int (1 : Int32)), (.int p2), (.int p3)] [(.int (1 : Int32)), (.ref b86)] (lenOf own_pd322 rfl) rfl rfl (Nat.le_refl _) (hb hby own_d_method_7_code_330) (by decide) (by decide) 24 rfl (fun v89 vm89 T89 h89 S89 Q89 R89 => ?_)
  obtain ⟨c89, rfl, k_c89, rfl⟩ := Q89
  show Goes _ _ _ _ T89 (mkF m 24 #[.val (.ref a), .val (.int p2), .val (.int p3), .val (.ref b86)] [(.int c89), (.int (1 : Int32)), (.ref b86)])
  refine S89.stC hx V88 1 ⟨by decide, by decide⟩ (by decide) (by simp) ga86 c89 (own_nar (own_b16 k_c89)) (hb hby own_d_method_7_code_331) 25 rfl (fun T90 h90 S90 W90 V90 R90 => ?_)
  have E90 := own_ext_wr E88 W90 gg86
  have F := F_b.ext E90
  refine g_aloadN S90.here hx (hb hby own_d_method_7_code_332) rfl rfl 26 rfl ?_
  refine g_iconst S90.here hx (hb hby own_d_method_7_code_333) (2 : Int32) (by decide) 27 rfl ?_
  refine g_aloadN S90.here hx (hb hby own_d_method_7_code_334) rfl rfl 28 rfl ?_
  refine g_iconst S90.here hx (hb hby own_d_method_7_code_335) (2 : Int32) (by decide) 29 rfl ?_
  refine g_iloadN S90.here hx (hb hby own_d_method_7_code_336) rfl 30 rfl ?_
  refine g_iloadN S90.here hx (hb hby own_d_method_7_code_337) rfl 31 rfl ?_
  refine S90.callS hx (W := 2) (own_q84 hw) (own_q85 hw) (own_q41 hw) (own_q86 hw) (by decide) (ctIa l Z a0 hw a cs (2 : Int32) p2 p3 h90 S90.old G G2 F l9 (by decide) h2 hd8) nosf (by decide) (by decide) (by rw [hml]; rfl) [(.ref a), (.int (2 : Int32)), (.int p2), (.int p3)] [(.int (2 : Int32)), (.ref b86)] (lenOf own_pd322 rfl) rfl rfl (Nat.le_refl _) (hb hby own_d_method_7_code_338) (by decide) (by decide) 34 rfl (fun v91 vm91 T91 h91 S91 Q91 R91 => ?_)
  obtain ⟨c91, rfl, k_c91, rfl⟩ := Q91
  show Goes _ _ _ _ T91 (mkF m 34 #[.val (.ref a), .val (.int p2), .val (.int p3), .val (.ref b86)] [(.int c91), (.int (2 : Int32)), (.ref b86)])
  refine S91.stC hx V90 2 ⟨by decide, by decide⟩ (by decide) (by simp) ga86 c91 (own_nar (own_b16 k_c91)) (hb hby own_d_method_7_code_339) 35 rfl (fun T92 h92 S92 W92 V92 R92 => ?_)
  have E92 := own_ext_wr E90 W92 gg86
  have F := F_b.ext E92
  refine g_aloadN S92.here hx (hb hby own_d_method_7_code_340) rfl rfl 36 rfl ?_
  refine g_iconst S92.here hx (hb hby own_d_method_7_code_341) (3 : Int32) (by decide) 37 rfl ?_
  refine g_aloadN S92.here hx (hb hby own_d_method_7_code_342) rfl rfl 38 rfl ?_
  refine g_iconst S92.here hx (hb hby own_d_method_7_code_343) (3 : Int32) (by decide) 39 rfl ?_
  refine g_iloadN S92.here hx (hb hby own_d_method_7_code_344) rfl 40 rfl ?_
  refine g_iloadN S92.here hx (hb hby own_d_method_7_code_345) rfl 41 rfl ?_
  refine S92.callS hx (W := 2) (own_q84 hw) (own_q85 hw) (own_q41 hw) (own_q86 hw) (by decide) (ctIa l Z a0 hw a cs (3 : Int32) p2 p3 h92 S92.old G G2 F l9 (by decide) h2 hd8) nosf (by decide) (by decide) (by rw [hml]; rfl) [(.ref a), (.int (3 : Int32)), (.int p2), (.int p3)] [(.int (3 : Int32)), (.ref b86)] (lenOf own_pd322 rfl) rfl rfl (Nat.le_refl _) (hb hby own_d_method_7_code_346) (by decide) (by decide) 44 rfl (fun v93 vm93 T93 h93 S93 Q93 R93 => ?_)
  obtain ⟨c93, rfl, k_c93, rfl⟩ := Q93
  show Goes _ _ _ _ T93 (mkF m 44 #[.val (.ref a), .val (.int p2), .val (.int p3), .val (.ref b86)] [(.int c93), (.int (3 : Int32)), (.ref b86)])
  refine S93.stC hx V92 3 ⟨by decide, by decide⟩ (by decide) (by simp) ga86 c93 (own_nar (own_b16 k_c93)) (hb hby own_d_method_7_code_347) 45 rfl (fun T94 h94 S94 W94 V94 R94 => ?_)
  have E94 := own_ext_wr E92 W94 gg86
  have F := F_b.ext E94
  refine g_aloadN S94.here hx (hb hby own_d_method_7_code_348) rfl rfl 46 rfl ?_
  refine g_iconst S94.here hx (hb hby own_d_method_7_code_349) (4 : Int32) (by decide) 47 rfl ?_
  refine g_aloadN S94.here hx (hb hby own_d_method_7_code_350) rfl rfl 48 rfl ?_
  refine g_iconst S94.here hx (hb hby own_d_method_7_code_351) (4 : Int32) (by decide) 49 rfl ?_
  refine g_iloadN S94.here hx (hb hby own_d_method_7_code_352) rfl 50 rfl ?_
  refine g_iloadN S94.here hx (hb hby own_d_method_7_code_353) rfl 51 rfl ?_
  refine S94.callS hx (W := 2) (own_q84 hw) (own_q85 hw) (own_q41 hw) (own_q86 hw) (by decide) (ctIa l Z a0 hw a cs (4 : Int32) p2 p3 h94 S94.old G G2 F l9 (by decide) h2 hd8) nosf (by decide) (by decide) (by rw [hml]; rfl) [(.ref a), (.int (4 : Int32)), (.int p2), (.int p3)] [(.int (4 : Int32)), (.ref b86)] (lenOf own_pd322 rfl) rfl rfl (Nat.le_refl _) (hb hby own_d_method_7_code_354) (by decide) (by decide) 54 rfl (fun v95 vm95 T95 h95 S95 Q95 R95 => ?_)
  obtain ⟨c95, rfl, k_c95, rfl⟩ := Q95
  show Goes _ _ _ _ T95 (mkF m 54 #[.val (.ref a), .val (.int p2), .val (.int p3), .val (.ref b86)] [(.int c95), (.int (4 : Int32)), (.ref b86)])
  refine S95.stC hx V94 4 ⟨by decide, by decide⟩ (by decide) (by simp) ga86 c95 (own_nar (own_b16 k_c95)) (hb hby own_d_method_7_code_355) 55 rfl (fun T96 h96 S96 W96 V96 R96 => ?_)
  have E96 := own_ext_wr E94 W96 gg86
  have F := F_b.ext E96
  refine g_aloadN S96.here hx (hb hby own_d_method_7_code_356) rfl rfl 56 rfl ?_
  refine g_iconst S96.here hx (hb hby own_d_method_7_code_357) (5 : Int32) (by decide) 57 rfl ?_
  refine g_aloadN S96.here hx (hb hby own_d_method_7_code_358) rfl rfl 58 rfl ?_
  refine g_iconst S96.here hx (hb hby own_d_method_7_code_359) (5 : Int32) (by decide) 59 rfl ?_
  refine g_iloadN S96.here hx (hb hby own_d_method_7_code_360) rfl 60 rfl ?_
  refine g_iloadN S96.here hx (hb hby own_d_method_7_code_361) rfl 61 rfl ?_
  refine S96.callS hx (W := 2) (own_q84 hw) (own_q85 hw) (own_q41 hw) (own_q86 hw) (by decide) (ctIa l Z a0 hw a cs (5 : Int32) p2 p3 h96 S96.old G G2 F l9 (by decide) h2 hd8) nosf (by decide) (by decide) (by rw [hml]; rfl) [(.ref a), (.int (5 : Int32)), (.int p2), (.int p3)] [(.int (5 : Int32)), (.ref b86)] (lenOf own_pd322 rfl) rfl rfl (Nat.le_refl _) (hb hby own_d_method_7_code_362) (by decide) (by decide) 64 rfl (fun v97 vm97 T97 h97 S97 Q97 R97 => ?_)
  obtain ⟨c97, rfl, k_c97, rfl⟩ := Q97
  show Goes _ _ _ _ T97 (mkF m 64 #[.val (.ref a), .val (.int p2), .val (.int p3), .val (.ref b86)] [(.int c97), (.int (5 : Int32)), (.ref b86)])
  refine S97.stC hx V96 5 ⟨by decide, by decide⟩ (by decide) (by simp) ga86 c97 (own_nar (own_b16 k_c97)) (hb hby own_d_method_7_code_363) 65 rfl (fun T98 h98 S98 W98 V98 R98 => ?_)
  have E98 := own_ext_wr E96 W98 gg86
  have F := F_b.ext E98
  refine g_aloadN S98.here hx (hb hby own_d_method_7_code_364) rfl rfl 66 rfl ?_
  refine g_bipush S98.here hx (hb hby own_d_method_7_code_365) (6 : Int32) (by decide) 68 rfl ?_
  refine g_aloadN S98.here hx (hb hby own_d_method_7_code_366) rfl rfl 69 rfl ?_
  refine g_bipush S98.here hx (hb hby own_d_method_7_code_367) (6 : Int32) (by decide) 71 rfl ?_
  refine g_iloadN S98.here hx (hb hby own_d_method_7_code_368) rfl 72 rfl ?_
  refine g_iloadN S98.here hx (hb hby own_d_method_7_code_369) rfl 73 rfl ?_
  refine S98.callS hx (W := 2) (own_q84 hw) (own_q85 hw) (own_q41 hw) (own_q86 hw) (by decide) (ctIa l Z a0 hw a cs (6 : Int32) p2 p3 h98 S98.old G G2 F l9 (by decide) h2 hd8) nosf (by decide) (by decide) (by rw [hml]; rfl) [(.ref a), (.int (6 : Int32)), (.int p2), (.int p3)] [(.int (6 : Int32)), (.ref b86)] (lenOf own_pd322 rfl) rfl rfl (Nat.le_refl _) (hb hby own_d_method_7_code_370) (by decide) (by decide) 76 rfl (fun v99 vm99 T99 h99 S99 Q99 R99 => ?_)
  obtain ⟨c99, rfl, k_c99, rfl⟩ := Q99
  show Goes _ _ _ _ T99 (mkF m 76 #[.val (.ref a), .val (.int p2), .val (.int p3), .val (.ref b86)] [(.int c99), (.int (6 : Int32)), (.ref b86)])
  refine S99.stC hx V98 6 ⟨by decide, by decide⟩ (by decide) (by simp) ga86 c99 (own_nar (own_b16 k_c99)) (hb hby own_d_method_7_code_371) 77 rfl (fun T100 h100 S100 W100 V100 R100 => ?_)
  have E100 := own_ext_wr E98 W100 gg86
  have F := F_b.ext E100
  refine g_aloadN S100.here hx (hb hby own_d_method_7_code_372) rfl rfl 78 rfl ?_
  refine g_bipush S100.here hx (hb hby own_d_method_7_code_373) (7 : Int32) (by decide) 80 rfl ?_
  refine g_aloadN S100.here hx (hb hby own_d_method_7_code_374) rfl rfl 81 rfl ?_
  refine g_bipush S100.here hx (hb hby own_d_method_7_code_375) (7 : Int32) (by decide) 83 rfl ?_
  refine g_iloadN S100.here hx (hb hby own_d_method_7_code_376) rfl 84 rfl ?_
  refine g_iloadN S100.here hx (hb hby own_d_method_7_code_377) rfl 85 rfl ?_
  refine S100.callS hx (W := 2) (own_q84 hw) (own_q85 hw) (own_q41 hw) (own_q86 hw) (by decide) (ctIa l Z a0 hw a cs (7 : Int32) p2 p3 h100 S100.old G G2 F l9 (by decide) h2 hd8) nosf (by decide) (by decide) (by rw [hml]; rfl) [(.ref a), (.int (7 : Int32)), (.int p2), (.int p3)] [(.int (7 : Int32)), (.ref b86)] (lenOf own_pd322 rfl) rfl rfl (Nat.le_refl _) (hb hby own_d_method_7_code_378) (by decide) (by decide) 88 rfl (fun v101 vm101 T101 h101 S101 Q101 R101 => ?_)
  obtain ⟨c101, rfl, k_c101, rfl⟩ := Q101
  show Goes _ _ _ _ T101 (mkF m 88 #[.val (.ref a), .val (.int p2), .val (.int p3), .val (.ref b86)] [(.int c101), (.int (7 : Int32)), (.ref b86)])
  refine S101.stC hx V100 7 ⟨by decide, by decide⟩ (by decide) (by simp) ga86 c101 (own_nar (own_b16 k_c101)) (hb hby own_d_method_7_code_379) 89 rfl (fun T102 h102 S102 W102 V102 R102 => ?_)
  have E102 := own_ext_wr E100 W102 gg86
  have F := F_b.ext E102
  refine g_aloadN S102.here hx (hb hby own_d_method_7_code_380) rfl rfl 90 rfl ?_
  refine g_bipush S102.here hx (hb hby own_d_method_7_code_381) (8 : Int32) (by decide) 92 rfl ?_
  refine g_aloadN S102.here hx (hb hby own_d_method_7_code_382) rfl rfl 93 rfl ?_
  refine g_bipush S102.here hx (hb hby own_d_method_7_code_383) (8 : Int32) (by decide) 95 rfl ?_
  refine g_iloadN S102.here hx (hb hby own_d_method_7_code_384) rfl 96 rfl ?_
  refine g_iloadN S102.here hx (hb hby own_d_method_7_code_385) rfl 97 rfl ?_
  refine S102.callS hx (W := 2) (own_q84 hw) (own_q85 hw) (own_q41 hw) (own_q86 hw) (by decide) (ctIa l Z a0 hw a cs (8 : Int32) p2 p3 h102 S102.old G G2 F l9 (by decide) h2 hd8) nosf (by decide) (by decide) (by rw [hml]; rfl) [(.ref a), (.int (8 : Int32)), (.int p2), (.int p3)] [(.int (8 : Int32)), (.ref b86)] (lenOf own_pd322 rfl) rfl rfl (Nat.le_refl _) (hb hby own_d_method_7_code_386) (by decide) (by decide) 100 rfl (fun v103 vm103 T103 h103 S103 Q103 R103 => ?_)
  obtain ⟨c103, rfl, k_c103, rfl⟩ := Q103
  show Goes _ _ _ _ T103 (mkF m 100 #[.val (.ref a), .val (.int p2), .val (.int p3), .val (.ref b86)] [(.int c103), (.int (8 : Int32)), (.ref b86)])
  refine S103.stC hx V102 8 ⟨by decide, by decide⟩ (by decide) (by simp) ga86 c103 (own_nar (own_b16 k_c103)) (hb hby own_d_method_7_code_387) 101 rfl (fun T104 h104 S104 W104 V104 R104 => ?_)
  have E104 := own_ext_wr E102 W104 gg86
  have F := F_b.ext E104
  refine g_aloadN S104.here hx (hb hby own_d_method_7_code_388) rfl rfl 102 rfl ?_
  refine g_bipush S104.here hx (hb hby own_d_method_7_code_389) (9 : Int32) (by decide) 104 rfl ?_
  refine g_aloadN S104.here hx (hb hby own_d_method_7_code_390) rfl rfl 105 rfl ?_
  refine g_bipush S104.here hx (hb hby own_d_method_7_code_391) (9 : Int32) (by decide) 107 rfl ?_
  refine g_iloadN S104.here hx (hb hby own_d_method_7_code_392) rfl 108 rfl ?_
  refine g_iloadN S104.here hx (hb hby own_d_method_7_code_393) rfl 109 rfl ?_
  refine S104.callS hx (W := 2) (own_q84 hw) (own_q85 hw) (own_q41 hw) (own_q86 hw) (by decide) (ctIa l Z a0 hw a cs (9 : Int32) p2 p3 h104 S104.old G G2 F l9 (by decide) h2 hd8) nosf (by decide) (by decide) (by rw [hml]; rfl) [(.ref a), (.int (9 : Int32)), (.int p2), (.int p3)] [(.int (9 : Int32)), (.ref b86)] (lenOf own_pd322 rfl) rfl rfl (Nat.le_refl _) (hb hby own_d_method_7_code_394) (by decide) (by decide) 112 rfl (fun v105 vm105 T105 h105 S105 Q105 R105 => ?_)
  obtain ⟨c105, rfl, k_c105, rfl⟩ := Q105
  show Goes _ _ _ _ T105 (mkF m 112 #[.val (.ref a), .val (.int p2), .val (.int p3), .val (.ref b86)] [(.int c105), (.int (9 : Int32)), (.ref b86)])
  refine S105.stC hx V104 9 ⟨by decide, by decide⟩ (by decide) (by simp) ga86 c105 (own_nar (own_b16 k_c105)) (hb hby own_d_method_7_code_395) 113 rfl (fun T106 h106 S106 W106 V106 R106 => ?_)
  have E106 := own_ext_wr E104 W106 gg86
  have F := F_b.ext E106
  refine g_aloadN S106.here hx (hb hby own_d_method_7_code_396) rfl rfl 114 rfl ?_
  exact S106.aret hx hlk hret rfl rfl rfl (hb hby own_d_method_7_code_397) ⟨_, rfl, ⟨k86, [c87, c89, c91, c93, c95, c97, c99, c101, c103, c105], V106, (own_lat_cons k_c87 (own_lat_cons k_c89 (own_lat_cons k_c91 (own_lat_cons k_c93 (own_lat_cons k_c95 (own_lat_cons k_c97 (own_lat_cons k_c99 (own_lat_cons k_c101 (own_lat_cons k_c103 (own_lat_cons k_c105 own_lat_nil)))))))))), rfl⟩, E106, gg86⟩ (by decide) (by decide)
theorem own_ef398 (m : MethodId)  : entryFrame m #[] 0 = mkF m 0 #[] [] := by first | (simp [entryFrame, mkF, argsToLocals, Value.category]; done) | rfl
theorem own_d_prog_4_method_1_code_399 : decode prog_4_method_1_code 0 = .ok (.getstatic 10, 3) := by decide +kernel
theorem own_d_prog_4_method_1_code_400 : decode prog_4_method_1_code 3 = .ok (.invokevirtual 14, 3) := by decide +kernel
theorem own_d_prog_4_method_1_code_401 : decode prog_4_method_1_code 6 = .ok (.checkcast 15, 3) := by decide +kernel
theorem own_d_prog_4_method_1_code_402 : decode prog_4_method_1_code 9 = .ok (.areturn, 1) := by decide +kernel
theorem own_pn403 : plainName "com/example/ambient_wiring/ambientwiring/BeanScope" = true := by first | (simp [plainName, overriddenIn]; done) | decide +kernel
set_option maxRecDepth 65536 in
set_option maxHeartbeats 40000000 in
theorem ctV (l : Launch) (Z : State) (a0 : Array Value) (hw : ∀ d ∈ tables_1, d.before a0 Z = true) (v0 s1 s2 : Addr) (kV : ClassId) (h : Heap) (O : Old Z Z.heap.size h) (V1 : Sta Z Z.heap "com/example/ambient_wiring/ambientwiring/BeanScope" "$VALUES" "[Lcom/example/ambient_wiring/ambientwiring/BeanScope;" (.ref v0)) (V2 : Arv Z Z.heap v0 kV (.object "com/example/ambient_wiring/ambientwiring/BeanScope") (2 : Int32) [.ref s1, .ref s2] .null) (V3 : Exa Z Z.heap v0 "[Lcom/example/ambient_wiring/ambientwiring/BeanScope;") :
    Ct 1 l Z consts_1 [] (⟨"com/example/ambient_wiring/ambientwiring/BeanScope", "values", "()[Lcom/example/ambient_wiring/ambientwiring/BeanScope;"⟩ : MethodName) prog_4_method_1_code 0 (some (.array (.object "com/example/ambient_wiring/ambientwiring/BeanScope"))) ({ frames := 1, cells := 1, slots := 2, locals := 14 } : Room) #[] h (fun v h' => ∃ b : Addr, v = some (.ref b) ∧ Arv Z h' b kV (.object "com/example/ambient_wiring/ambientwiring/BeanScope") (2 : Int32) [.ref s1, .ref s2] .null ∧ Ext h h') := by
  refine Ct.intro (plainFor_of_name own_pn403) O (fun q => by cases q) ⟨a0, own_ew hw⟩ ?_
  intro p e s m below meth c T0 hx hby hml hret hnm hlk hsf S0
  refine Goes.cast (own_ef398 m ) ?_
  refine S0.getS hx (host := "") (Or.inl (own_q16 hw)) Via.refl (V1.ext O.2) (hb hby own_d_prog_4_method_1_code_399) 3 rfl (fun T107 S107 => ?_)
  refine S107.clone hx (own_q18 hw) (own_q19 hw) (own_q23 hw) (own_q21 hw) (own_q22 hw) (own_q24 hw) (V2.ext O.2) (V3.ext O.2) (by rw [hml]; rfl) (W := 0) (cap := 2) (by decide) (by decide) (by decide) (by decide) (by decide) (by decide) (hb hby own_d_prog_4_method_1_code_400) 6 rfl (fun T108 h108 b S108 g108 E108 A108 B108 => ?_)
  refine S108.castY hx (own_q28 hw) (Ins.self B108) (hb hby own_d_prog_4_method_1_code_401) 9 rfl (fun T109 S109 => ?_)
  exact S109.aret hx hlk hret rfl rfl rfl (hb hby own_d_prog_4_method_1_code_402) ⟨_, rfl, A108, E108⟩ (by decide) (by decide)
theorem own_ef404 (m : MethodId) (x0 : Addr) : entryFrame m #[(.ref x0), .null] 3 = mkF m 0 #[.val (.ref x0), .val .null, .unset] [] := by first | (simp [entryFrame, mkF, argsToLocals, Value.category]; done) | rfl
theorem own_d_jdk_42_method_66_code_405 : decode jdk_42_method_66_code 0 = .ok (.aload_n 0, 1) := by decide +kernel
theorem own_d_jdk_42_method_66_code_406 : decode jdk_42_method_66_code 1 = .ok (.aload_n 1, 1) := by decide +kernel
theorem own_d_jdk_42_method_66_code_407 : decode jdk_42_method_66_code 2 = .ok (.if_acmp .ne 5, 3) := by decide +kernel
theorem own_d_jdk_42_method_66_code_408 : decode jdk_42_method_66_code 7 = .ok (.aload_n 1, 1) := by decide +kernel
theorem own_d_jdk_42_method_66_code_409 : decode jdk_42_method_66_code 8 = .ok (.instanceof 10, 3) := by decide +kernel
theorem own_d_jdk_42_method_66_code_410 : decode jdk_42_method_66_code 11 = .ok (.ifCond .eq 43, 3) := by decide +kernel
theorem own_d_jdk_42_method_66_code_411 : decode jdk_42_method_66_code 54 = .ok (.iconst 0, 1) := by decide +kernel
theorem own_d_jdk_42_method_66_code_412 : decode jdk_42_method_66_code 55 = .ok (.ireturn, 1) := by decide +kernel
set_option maxRecDepth 65536 in
set_option maxHeartbeats 40000000 in
theorem ctQ (l : Launch) (Z : State) (a0 : Array Value) (hw : ∀ d ∈ tables_1, d.before a0 Z = true) (a : Addr) (h : Heap) (O : Old Z Z.heap.size h) :
    Ct 1 l Z consts_1 [] (⟨"java/lang/String", "equals", "(Ljava/lang/Object;)Z"⟩ : MethodName) jdk_42_method_66_code 3 (some .boolean) ({ frames := 0, cells := 0, slots := 0, locals := 0 } : Room) #[(.ref a), .null] h (fun v h' => v = some (.int 0) ∧ h = h') := by
  refine Ct.intro (plainFor_of_name own_pn17) O (fun q => by cases q) ⟨a0, own_ew hw⟩ ?_
  intro p e s m below meth c T0 hx hby hml hret hnm hlk hsf S0
  refine Goes.cast (own_ef404 m a) ?_
  refine g_aloadN S0.here hx (hb hby own_d_jdk_42_method_66_code_405) rfl rfl 1 rfl ?_
  refine g_aloadN S0.here hx (hb hby own_d_jdk_42_method_66_code_406) rfl rfl 2 rfl ?_
  refine S0.acmp hx (hb hby own_d_jdk_42_method_66_code_407) rfl rfl false (decide_eq_false nofun) (by decide) 7 (by decide) ?_
  refine g_aloadN S0.here hx (hb hby own_d_jdk_42_method_66_code_408) rfl rfl 8 rfl ?_
  refine S0.instNull hx (hb hby own_d_jdk_42_method_66_code_409) 11 rfl ?_
  refine g_ifT S0.here hx (hb hby own_d_jdk_42_method_66_code_410) 0 (by decide) (by show 0 = 0; decide) 54 (by decide) (by decide) ?_
  refine g_iconst S0.here hx (hb hby own_d_jdk_42_method_66_code_411) (0 : Int32) (by decide) 55 rfl ?_
  exact S0.iret hx hlk hret (Or.inr (Or.inl rfl)) rfl (hb hby own_d_jdk_42_method_66_code_412) ⟨rfl, rfl⟩ (by decide) (by decide)
theorem own_ef413 (m : MethodId) (x0 : Addr) : entryFrame m #[(.ref x0)] 5 = mkF m 0 #[.val (.ref x0), .unset, .unset, .unset, .unset] [] := by first | (simp [entryFrame, mkF, argsToLocals, Value.category]; done) | rfl
theorem own_d_prog_4_method_4_code_414 : decode prog_4_method_4_code 0 = .ok (.invokestatic 33, 3) := by decide +kernel
theorem own_pd415 : parseMethodDescriptor "()[Lcom/example/ambient_wiring/ambientwiring/BeanScope;" = some ⟨[], some (.array (.object "com/example/ambient_wiring/ambientwiring/BeanScope"))⟩ := by decide +kernel
theorem own_d_prog_4_method_4_code_416 : decode prog_4_method_4_code 3 = .ok (.astore_n 1, 1) := by decide +kernel
theorem own_d_prog_4_method_4_code_417 : decode prog_4_method_4_code 4 = .ok (.aload_n 1, 1) := by decide +kernel
theorem own_d_prog_4_method_4_code_418 : decode prog_4_method_4_code 5 = .ok (.arraylength, 1) := by decide +kernel
theorem own_d_prog_4_method_4_code_419 : decode prog_4_method_4_code 6 = .ok (.istore_n 2, 1) := by decide +kernel
theorem own_d_prog_4_method_4_code_420 : decode prog_4_method_4_code 7 = .ok (.iconst 0, 1) := by decide +kernel
theorem own_d_prog_4_method_4_code_421 : decode prog_4_method_4_code 8 = .ok (.istore_n 3, 1) := by decide +kernel
theorem own_d_prog_4_method_4_code_422 : decode prog_4_method_4_code 9 = .ok (.iload_n 3, 1) := by decide +kernel
theorem own_d_prog_4_method_4_code_423 : decode prog_4_method_4_code 10 = .ok (.iload_n 2, 1) := by decide +kernel
theorem own_d_prog_4_method_4_code_424 : decode prog_4_method_4_code 11 = .ok (.if_icmp .ge 29, 3) := by decide +kernel
theorem own_d_prog_4_method_4_code_425 : decode prog_4_method_4_code 14 = .ok (.aload_n 1, 1) := by decide +kernel
theorem own_d_prog_4_method_4_code_426 : decode prog_4_method_4_code 15 = .ok (.iload_n 3, 1) := by decide +kernel
theorem own_d_prog_4_method_4_code_427 : decode prog_4_method_4_code 16 = .ok (.aaload, 1) := by decide +kernel
theorem own_d_prog_4_method_4_code_428 : decode prog_4_method_4_code 17 = .ok (.astore 4, 2) := by decide +kernel
theorem own_d_prog_4_method_4_code_429 : decode prog_4_method_4_code 19 = .ok (.aload 4, 2) := by decide +kernel
theorem own_d_prog_4_method_4_code_430 : decode prog_4_method_4_code 21 = .ok (.getfield 29, 3) := by decide +kernel
theorem own_d_prog_4_method_4_code_431 : decode prog_4_method_4_code 24 = .ok (.aload_n 0, 1) := by decide +kernel
theorem own_d_prog_4_method_4_code_432 : decode prog_4_method_4_code 25 = .ok (.invokevirtual 37, 3) := by decide +kernel
theorem own_d_prog_4_method_4_code_433 : decode prog_4_method_4_code 28 = .ok (.ifCond .eq 6, 3) := by decide +kernel
theorem own_d_prog_4_method_4_code_434 : decode prog_4_method_4_code 31 = .ok (.aload 4, 2) := by decide +kernel
theorem own_d_prog_4_method_4_code_435 : decode prog_4_method_4_code 33 = .ok (.areturn, 1) := by decide +kernel
theorem own_d_prog_4_method_4_code_436 : decode prog_4_method_4_code 34 = .ok (.iinc 3 1, 3) := by decide +kernel
theorem own_d_prog_4_method_4_code_437 : decode prog_4_method_4_code 37 = .ok (.goto (-28), 3) := by decide +kernel
theorem own_d_prog_4_method_4_code_438 : decode prog_4_method_4_code 40 = .ok (.aconst_null, 1) := by decide +kernel
theorem own_d_prog_4_method_4_code_439 : decode prog_4_method_4_code 41 = .ok (.areturn, 1) := by decide +kernel
set_option maxRecDepth 65536 in
set_option maxHeartbeats 40000000 in
theorem ctNm (l : Launch) (Z : State) (a0 : Array Value) (hw : ∀ d ∈ tables_1, d.before a0 Z = true) (a s1 s2 : Addr) (cs : List Int32) (h : Heap) (O : Old Z Z.heap.size h) (G : own_cs Z) (G3 : own_en Z s1 s2) (F : own_str Z h a cs) :
    Ct 1 l Z consts_1 [] (⟨"com/example/ambient_wiring/ambientwiring/BeanScope", "named", "(Ljava/lang/String;)Lcom/example/ambient_wiring/ambientwiring/BeanScope;"⟩ : MethodName) prog_4_method_4_code 5 (some (.object "com/example/ambient_wiring/ambientwiring/BeanScope")) ({ frames := 2, cells := 1, slots := 2, locals := 33 } : Room) #[(.ref a)] h (fun v h' => ((cs = own_ts ∧ v = some (.ref s1)) ∨ (¬ cs = own_ts ∧ cs = own_tp ∧ v = some (.ref s2)) ∨ (¬ cs = own_ts ∧ ¬ cs = own_tp ∧ v = some .null)) ∧ Ext h h') := by
  refine Ct.intro (plainFor_of_name own_pn403) O (fun q => by cases q) ⟨a0, own_ew hw⟩ ?_
  intro p e s m below meth c T0 hx hby hml hret hnm hlk hsf S0
  refine Goes.cast (own_ef413 m a) ?_
  obtain ⟨v0, n1, n2, kV, g1, g2, g3, g4, g5, g6, g7, g8, g9⟩ := G3
  refine S0.callS hx (W := 0) (own_q13 hw) (own_q14 hw) (own_q11 hw) (own_q15 hw) (by decide) (ctV l Z a0 hw v0 s1 s2 kV h S0.old g1 g2 g3) nosf (by decide) (by decide) (by rw [hml]; rfl) [] [] (lenOf own_pd415 rfl) rfl rfl (Nat.le_refl _) (hb hby own_d_prog_4_method_4_code_414) (by decide) (by decide) 3 rfl (fun v110 vm110 T110 h110 S110 Q110 R110 => ?_)
  obtain ⟨b, rfl, A, X⟩ := Q110
  show Goes _ _ _ _ T110 (mkF m 3 #[.val (.ref a), .unset, .unset, .unset, .unset] [(.ref b)])
  have N1 := (g6.ext O.2).ext X
  have N2 := (g7.ext O.2).ext X
  have L1 := (g4.ext O.2).ext X
  have L2 := (g5.ext O.2).ext X
  have F := F.ext X
  refine g_astoreN S110.here hx (hb hby own_d_prog_4_method_4_code_416) rfl #[.val (.ref a), .val (.ref b), .unset, .unset, .unset] rfl 4 rfl ?_
  refine g_aloadN S110.here hx (hb hby own_d_prog_4_method_4_code_417) rfl rfl 5 rfl ?_
  refine S110.len hx A (hb hby own_d_prog_4_method_4_code_418) 6 rfl ?_
  refine g_istoreN S110.here hx (hb hby own_d_prog_4_method_4_code_419) #[.val (.ref a), .val (.ref b), .val (.int (2 : Int32)), .unset, .unset] rfl 7 rfl ?_
  refine g_iconst S110.here hx (hb hby own_d_prog_4_method_4_code_420) (0 : Int32) (by decide) 8 rfl ?_
  refine g_istoreN S110.here hx (hb hby own_d_prog_4_method_4_code_421) #[.val (.ref a), .val (.ref b), .val (.int (2 : Int32)), .val (.int (0 : Int32)), .unset] rfl 9 rfl ?_
  refine g_iloadN S110.here hx (hb hby own_d_prog_4_method_4_code_422) rfl 10 rfl ?_
  refine g_iloadN S110.here hx (hb hby own_d_prog_4_method_4_code_423) rfl 11 rfl ?_
  refine g_icmpF S110.here hx (hb hby own_d_prog_4_method_4_code_424) 0 2 (by decide) (by decide) (by show ¬ (2 ≤ 0); decide) 14 rfl ?_
  refine g_aloadN S110.here hx (hb hby own_d_prog_4_method_4_code_425) rfl rfl 15 rfl ?_
  refine g_iloadN S110.here hx (hb hby own_d_prog_4_method_4_code_426) rfl 16 rfl ?_
  refine S110.aald hx A rfl ⟨by decide, by decide⟩ rfl (hb hby own_d_prog_4_method_4_code_427) 17 rfl ?_
  refine g_astore S110.here hx (hb hby own_d_prog_4_method_4_code_428) rfl #[.val (.ref a), .val (.ref b), .val (.int (2 : Int32)), .val (.int (0 : Int32)), .val (.ref s1)] rfl 19 rfl ?_
  refine g_aload S110.here hx (hb hby own_d_prog_4_method_4_code_429) rfl rfl 21 rfl ?_
  refine S110.getF hx (host := "") (Or.inl (own_q30 hw)) Via.refl L1 (hb hby own_d_prog_4_method_4_code_430) 24 rfl (fun T111 S111 => ?_)
  refine g_aloadN S111.here hx (hb hby own_d_prog_4_method_4_code_431) rfl rfl 25 rfl ?_
  refine own_eq S111 hx hw G (W := 0) (own_q32 hw) N1 F (by decide) (by decide) (by rw [hml]; rfl) [] (Nat.le_refl _) (hb hby own_d_prog_4_method_4_code_432) (by decide) (by decide) 28 rfl (fun T112 z112 S112 Z112 => ?_)
  rcases Z112 with ⟨rfl, e1⟩ | ⟨rfl, e1⟩
  · refine g_ifF S112.here hx (hb hby own_d_prog_4_method_4_code_433) 1 (by decide) (by show ¬ (1 = 0); decide) 31 rfl ?_
    refine g_aload S112.here hx (hb hby own_d_prog_4_method_4_code_434) rfl rfl 33 rfl ?_
    exact S112.aret hx hlk hret rfl rfl rfl (hb hby own_d_prog_4_method_4_code_435) ⟨Or.inl ⟨e1.symm, rfl⟩, X⟩ (by decide) (by decide)
  · refine g_ifT S112.here hx (hb hby own_d_prog_4_method_4_code_433) 0 (by decide) (by show 0 = 0; decide) 34 (by decide) (by decide) ?_
    refine g_iinc S112.here hx (hb hby own_d_prog_4_method_4_code_436) rfl #[.val (.ref a), .val (.ref b), .val (.int (2 : Int32)), .val (.int (1 : Int32)), .val (.ref s1)] (by rw [show (0 : Int32) + Int32.ofInt 1 = (1 : Int32) from by decide]; rfl) 37 rfl ?_
    refine g_goto S112.here hx (hb hby own_d_prog_4_method_4_code_437) 9 (by decide) (by decide) ?_
    refine g_iloadN S112.here hx (hb hby own_d_prog_4_method_4_code_422) rfl 10 rfl ?_
    refine g_iloadN S112.here hx (hb hby own_d_prog_4_method_4_code_423) rfl 11 rfl ?_
    refine g_icmpF S112.here hx (hb hby own_d_prog_4_method_4_code_424) 1 2 (by decide) (by decide) (by show ¬ (2 ≤ 1); decide) 14 rfl ?_
    refine g_aloadN S112.here hx (hb hby own_d_prog_4_method_4_code_425) rfl rfl 15 rfl ?_
    refine g_iloadN S112.here hx (hb hby own_d_prog_4_method_4_code_426) rfl 16 rfl ?_
    refine S112.aald hx A rfl ⟨by decide, by decide⟩ rfl (hb hby own_d_prog_4_method_4_code_427) 17 rfl ?_
    refine g_astore S112.here hx (hb hby own_d_prog_4_method_4_code_428) rfl #[.val (.ref a), .val (.ref b), .val (.int (2 : Int32)), .val (.int (1 : Int32)), .val (.ref s2)] rfl 19 rfl ?_
    refine g_aload S112.here hx (hb hby own_d_prog_4_method_4_code_429) rfl rfl 21 rfl ?_
    refine S112.getF hx (host := "") (Or.inl (own_q30 hw)) Via.refl L2 (hb hby own_d_prog_4_method_4_code_430) 24 rfl (fun T113 S113 => ?_)
    refine g_aloadN S113.here hx (hb hby own_d_prog_4_method_4_code_431) rfl rfl 25 rfl ?_
    refine own_eq S113 hx hw G (W := 0) (own_q32 hw) N2 F (by decide) (by decide) (by rw [hml]; rfl) [] (Nat.le_refl _) (hb hby own_d_prog_4_method_4_code_432) (by decide) (by decide) 28 rfl (fun T114 z114 S114 Z114 => ?_)
    rcases Z114 with ⟨rfl, e2⟩ | ⟨rfl, e2⟩
    · refine g_ifF S114.here hx (hb hby own_d_prog_4_method_4_code_433) 1 (by decide) (by show ¬ (1 = 0); decide) 31 rfl ?_
      refine g_aload S114.here hx (hb hby own_d_prog_4_method_4_code_434) rfl rfl 33 rfl ?_
      exact S114.aret hx hlk hret rfl rfl rfl (hb hby own_d_prog_4_method_4_code_435) ⟨Or.inr (Or.inl ⟨fun q => e1 q.symm, e2.symm, rfl⟩), X⟩ (by decide) (by decide)
    · refine g_ifT S114.here hx (hb hby own_d_prog_4_method_4_code_433) 0 (by decide) (by show 0 = 0; decide) 34 (by decide) (by decide) ?_
      refine g_iinc S114.here hx (hb hby own_d_prog_4_method_4_code_436) rfl #[.val (.ref a), .val (.ref b), .val (.int (2 : Int32)), .val (.int (2 : Int32)), .val (.ref s2)] (by rw [show (1 : Int32) + Int32.ofInt 1 = (2 : Int32) from by decide]; rfl) 37 rfl ?_
      refine g_goto S114.here hx (hb hby own_d_prog_4_method_4_code_437) 9 (by decide) (by decide) ?_
      refine g_iloadN S114.here hx (hb hby own_d_prog_4_method_4_code_422) rfl 10 rfl ?_
      refine g_iloadN S114.here hx (hb hby own_d_prog_4_method_4_code_423) rfl 11 rfl ?_
      refine g_icmpT S114.here hx (hb hby own_d_prog_4_method_4_code_424) 2 2 (by decide) (by decide) (by show 2 ≤ 2; decide) 40 (by decide) (by decide) ?_
      refine g_aconst_null S114.here hx (hb hby own_d_prog_4_method_4_code_438) 41 rfl ?_
      exact S114.aret hx hlk hret rfl rfl rfl (hb hby own_d_prog_4_method_4_code_439) ⟨Or.inr (Or.inr ⟨fun q => e1 q.symm, fun q => e2 q.symm, rfl⟩), X⟩ (by decide) (by decide)
theorem own_ef440 (m : MethodId)  : entryFrame m #[.null] 5 = mkF m 0 #[.val .null, .unset, .unset, .unset, .unset] [] := by first | (simp [entryFrame, mkF, argsToLocals, Value.category]; done) | rfl
set_option maxRecDepth 65536 in
set_option maxHeartbeats 40000000 in
theorem ctNn (l : Launch) (Z : State) (a0 : Array Value) (hw : ∀ d ∈ tables_1, d.before a0 Z = true) (s1 s2 : Addr) (h : Heap) (O : Old Z Z.heap.size h) (G3 : own_en Z s1 s2) :
    Ct 1 l Z consts_1 [] (⟨"com/example/ambient_wiring/ambientwiring/BeanScope", "named", "(Ljava/lang/String;)Lcom/example/ambient_wiring/ambientwiring/BeanScope;"⟩ : MethodName) prog_4_method_4_code 5 (some (.object "com/example/ambient_wiring/ambientwiring/BeanScope")) ({ frames := 2, cells := 1, slots := 2, locals := 33 } : Room) #[.null] h (fun v h' => v = some .null ∧ Ext h h') := by
  refine Ct.intro (plainFor_of_name own_pn403) O (fun q => by cases q) ⟨a0, own_ew hw⟩ ?_
  intro p e s m below meth c T0 hx hby hml hret hnm hlk hsf S0
  refine Goes.cast (own_ef440 m ) ?_
  obtain ⟨v0, n1, n2, kV, g1, g2, g3, g4, g5, g6, g7, g8, g9⟩ := G3
  refine S0.callS hx (W := 0) (own_q13 hw) (own_q14 hw) (own_q11 hw) (own_q15 hw) (by decide) (ctV l Z a0 hw v0 s1 s2 kV h S0.old g1 g2 g3) nosf (by decide) (by decide) (by rw [hml]; rfl) [] [] (lenOf own_pd415 rfl) rfl rfl (Nat.le_refl _) (hb hby own_d_prog_4_method_4_code_414) (by decide) (by decide) 3 rfl (fun v115 vm115 T115 h115 S115 Q115 R115 => ?_)
  obtain ⟨b, rfl, A, X⟩ := Q115
  show Goes _ _ _ _ T115 (mkF m 3 #[.val .null, .unset, .unset, .unset, .unset] [(.ref b)])
  have N1 := (g6.ext O.2).ext X
  have N2 := (g7.ext O.2).ext X
  have L1 := (g4.ext O.2).ext X
  have L2 := (g5.ext O.2).ext X
  refine g_astoreN S115.here hx (hb hby own_d_prog_4_method_4_code_416) rfl #[.val .null, .val (.ref b), .unset, .unset, .unset] rfl 4 rfl ?_
  refine g_aloadN S115.here hx (hb hby own_d_prog_4_method_4_code_417) rfl rfl 5 rfl ?_
  refine S115.len hx A (hb hby own_d_prog_4_method_4_code_418) 6 rfl ?_
  refine g_istoreN S115.here hx (hb hby own_d_prog_4_method_4_code_419) #[.val .null, .val (.ref b), .val (.int (2 : Int32)), .unset, .unset] rfl 7 rfl ?_
  refine g_iconst S115.here hx (hb hby own_d_prog_4_method_4_code_420) (0 : Int32) (by decide) 8 rfl ?_
  refine g_istoreN S115.here hx (hb hby own_d_prog_4_method_4_code_421) #[.val .null, .val (.ref b), .val (.int (2 : Int32)), .val (.int (0 : Int32)), .unset] rfl 9 rfl ?_
  refine g_iloadN S115.here hx (hb hby own_d_prog_4_method_4_code_422) rfl 10 rfl ?_
  refine g_iloadN S115.here hx (hb hby own_d_prog_4_method_4_code_423) rfl 11 rfl ?_
  refine g_icmpF S115.here hx (hb hby own_d_prog_4_method_4_code_424) 0 2 (by decide) (by decide) (by show ¬ (2 ≤ 0); decide) 14 rfl ?_
  refine g_aloadN S115.here hx (hb hby own_d_prog_4_method_4_code_425) rfl rfl 15 rfl ?_
  refine g_iloadN S115.here hx (hb hby own_d_prog_4_method_4_code_426) rfl 16 rfl ?_
  refine S115.aald hx A rfl ⟨by decide, by decide⟩ rfl (hb hby own_d_prog_4_method_4_code_427) 17 rfl ?_
  refine g_astore S115.here hx (hb hby own_d_prog_4_method_4_code_428) rfl #[.val .null, .val (.ref b), .val (.int (2 : Int32)), .val (.int (0 : Int32)), .val (.ref s1)] rfl 19 rfl ?_
  refine g_aload S115.here hx (hb hby own_d_prog_4_method_4_code_429) rfl rfl 21 rfl ?_
  refine S115.getF hx (host := "") (Or.inl (own_q30 hw)) Via.refl L1 (hb hby own_d_prog_4_method_4_code_430) 24 rfl (fun T116 S116 => ?_)
  refine g_aloadN S116.here hx (hb hby own_d_prog_4_method_4_code_431) rfl rfl 25 rfl ?_
  refine S116.callV hx (W := 0) (C := "java/lang/String") (own_q32 hw) (own_q33 hw) (notFace_of_selects (args := #[]) (mvT S116.warm (own_q35 hw))) (own_q35 hw) (own_q34 hw) (by decide) N1.exa (own_q36 hw) (own_q1 hw) (ctQ l Z a0 hw n1 h115 S116.old) nosf (by decide) (by decide) (by rw [hml]; rfl) [.null] [] (lenOf own_pd2 rfl) rfl rfl (Nat.le_refl _) (hb hby own_d_prog_4_method_4_code_432) (by decide) (by decide) 28 rfl (fun v117 vm117 T117 h117 S117 Q117 R117 => ?_)
  obtain ⟨rfl, rfl⟩ := Q117
  show Goes _ _ _ _ T117 (mkF m 28 #[.val .null, .val (.ref b), .val (.int (2 : Int32)), .val (.int (0 : Int32)), .val (.ref s1)] [(.int (0 : Int32))])
  refine g_ifT S117.here hx (hb hby own_d_prog_4_method_4_code_433) 0 (by decide) (by show 0 = 0; decide) 34 (by decide) (by decide) ?_
  refine g_iinc S117.here hx (hb hby own_d_prog_4_method_4_code_436) rfl #[.val .null, .val (.ref b), .val (.int (2 : Int32)), .val (.int (1 : Int32)), .val (.ref s1)] (by rw [show (0 : Int32) + Int32.ofInt 1 = (1 : Int32) from by decide]; rfl) 37 rfl ?_
  refine g_goto S117.here hx (hb hby own_d_prog_4_method_4_code_437) 9 (by decide) (by decide) ?_
  refine g_iloadN S117.here hx (hb hby own_d_prog_4_method_4_code_422) rfl 10 rfl ?_
  refine g_iloadN S117.here hx (hb hby own_d_prog_4_method_4_code_423) rfl 11 rfl ?_
  refine g_icmpF S117.here hx (hb hby own_d_prog_4_method_4_code_424) 1 2 (by decide) (by decide) (by show ¬ (2 ≤ 1); decide) 14 rfl ?_
  refine g_aloadN S117.here hx (hb hby own_d_prog_4_method_4_code_425) rfl rfl 15 rfl ?_
  refine g_iloadN S117.here hx (hb hby own_d_prog_4_method_4_code_426) rfl 16 rfl ?_
  refine S117.aald hx A rfl ⟨by decide, by decide⟩ rfl (hb hby own_d_prog_4_method_4_code_427) 17 rfl ?_
  refine g_astore S117.here hx (hb hby own_d_prog_4_method_4_code_428) rfl #[.val .null, .val (.ref b), .val (.int (2 : Int32)), .val (.int (1 : Int32)), .val (.ref s2)] rfl 19 rfl ?_
  refine g_aload S117.here hx (hb hby own_d_prog_4_method_4_code_429) rfl rfl 21 rfl ?_
  refine S117.getF hx (host := "") (Or.inl (own_q30 hw)) Via.refl L2 (hb hby own_d_prog_4_method_4_code_430) 24 rfl (fun T118 S118 => ?_)
  refine g_aloadN S118.here hx (hb hby own_d_prog_4_method_4_code_431) rfl rfl 25 rfl ?_
  refine S118.callV hx (W := 0) (C := "java/lang/String") (own_q32 hw) (own_q33 hw) (notFace_of_selects (args := #[]) (mvT S118.warm (own_q35 hw))) (own_q35 hw) (own_q34 hw) (by decide) N2.exa (own_q36 hw) (own_q1 hw) (ctQ l Z a0 hw n2 h115 S118.old) nosf (by decide) (by decide) (by rw [hml]; rfl) [.null] [] (lenOf own_pd2 rfl) rfl rfl (Nat.le_refl _) (hb hby own_d_prog_4_method_4_code_432) (by decide) (by decide) 28 rfl (fun v119 vm119 T119 h119 S119 Q119 R119 => ?_)
  obtain ⟨rfl, rfl⟩ := Q119
  show Goes _ _ _ _ T119 (mkF m 28 #[.val .null, .val (.ref b), .val (.int (2 : Int32)), .val (.int (1 : Int32)), .val (.ref s2)] [(.int (0 : Int32))])
  refine g_ifT S119.here hx (hb hby own_d_prog_4_method_4_code_433) 0 (by decide) (by show 0 = 0; decide) 34 (by decide) (by decide) ?_
  refine g_iinc S119.here hx (hb hby own_d_prog_4_method_4_code_436) rfl #[.val .null, .val (.ref b), .val (.int (2 : Int32)), .val (.int (2 : Int32)), .val (.ref s2)] (by rw [show (1 : Int32) + Int32.ofInt 1 = (2 : Int32) from by decide]; rfl) 37 rfl ?_
  refine g_goto S119.here hx (hb hby own_d_prog_4_method_4_code_437) 9 (by decide) (by decide) ?_
  refine g_iloadN S119.here hx (hb hby own_d_prog_4_method_4_code_422) rfl 10 rfl ?_
  refine g_iloadN S119.here hx (hb hby own_d_prog_4_method_4_code_423) rfl 11 rfl ?_
  refine g_icmpT S119.here hx (hb hby own_d_prog_4_method_4_code_424) 2 2 (by decide) (by decide) (by show 2 ≤ 2; decide) 40 (by decide) (by decide) ?_
  refine g_aconst_null S119.here hx (hb hby own_d_prog_4_method_4_code_438) 41 rfl ?_
  exact S119.aret hx hlk hret rfl rfl rfl (hb hby own_d_prog_4_method_4_code_439) ⟨rfl, X⟩ (by decide) (by decide)
theorem own_ef441 (m : MethodId) (x0 : Int32) (x1 : Int32) (x2 : Int32) (x3 : Int64) (x4 : Int64) : entryFrame m #[(.int x0), (.int x1), (.int x2), (.long x3), (.long x4)] maxLocals = mkF m 0 #[.val (.int x0), .val (.int x1), .val (.int x2), .val (.long x3), .second, .val (.long x4), .second, .unset, .unset, .unset, .unset, .unset, .unset, .unset, .unset, .unset] [] := by first | (simp [entryFrame, mkF, argsToLocals, Value.category, maxLocals]; done) | rfl
theorem own_pd442 : parseMethodDescriptor "(Ljava/lang/String;)Lcom/example/ambient_wiring/ambientwiring/BeanScope;" = some ⟨[(.object "java/lang/String")], some (.object "com/example/ambient_wiring/ambientwiring/BeanScope")⟩ := by decide +kernel
theorem own_pd443 : parseMethodDescriptor "(J)[C" = some ⟨[.long], some (.array .char)⟩ := by decide +kernel
theorem own_pd444 : parseMethodDescriptor "(JJ)[C" = some ⟨[.long, .long], some (.array .char)⟩ := by decide +kernel
theorem own_pd445 : parseMethodDescriptor "(Ljava/lang/String;IC)[C" = some ⟨[(.object "java/lang/String"), .int, .char], some (.array .char)⟩ := by decide +kernel
theorem own_pd446 : parseMethodDescriptor "(Ljava/lang/String;I)[C" = some ⟨[(.object "java/lang/String"), .int], some (.array .char)⟩ := by decide +kernel
theorem own_pd447 : parseMethodDescriptor "(Ljava/lang/String;)[C" = some ⟨[(.object "java/lang/String")], some (.array .char)⟩ := by decide +kernel
set_option maxRecDepth 65536 in
set_option maxHeartbeats 40000000 in
theorem ct0 (l : Launch) (Z : State) (a0 : Array Value) (hw : ∀ d ∈ tables_1, d.before a0 Z = true) (p1 p2 p3 : Int32) (q4 q5 : Int64) (s1 s2 : Addr) (h : Heap) (O : Old Z Z.heap.size h) (G : own_cs Z) (G2 : own_sf Z) (G3 : own_en Z s1 s2) :
    Ct 1 l Z consts_1 [] x code maxLocals ret room_1 #[(.int p1), (.int p2), (.int p3), (.long q4), (.long q5)] h (fun v h' => v = some (.int 1)) := by
  refine Ct.intro (plainFor_of_name own_pn39) O (fun q => by cases q) ⟨a0, own_ew hw⟩ ?_
  intro p e s m below meth c T0 hx hby hml hret hnm hlk hsf S0
  refine Goes.cast (own_ef441 m p1 p2 p3 q4 q5) ?_
  refine g_iloadN S0.here hx (hb hby at_0) rfl 1 rfl ?_
  refine g_bipush S0.here hx (hb hby at_1) (7 : Int32) (by decide) 3 rfl ?_
  refine g_iand S0.here hx (hb hby at_3) 4 rfl ?_
  have bk := own_b7 p1
  generalize p1 &&& (7 : Int32) = kd at bk ⊢
  refine g_istore S0.here hx (hb hby at_4) #[.val (.int p1), .val (.int p2), .val (.int p3), .val (.long q4), .second, .val (.long q5), .second, .val (.int kd), .unset, .unset, .unset, .unset, .unset, .unset, .unset, .unset] rfl 6 rfl ?_
  refine g_iloadN S0.here hx (hb hby at_6) rfl 7 rfl ?_
  refine g_iconst S0.here hx (hb hby at_7) (3 : Int32) (by decide) 8 rfl ?_
  refine g_iushr S0.here hx (hb hby at_8) 9 rfl ?_
  refine g_iconst S0.here hx (hb hby at_9) (1 : Int32) (by decide) 10 rfl ?_
  refine g_iand S0.here hx (hb hby at_10) 11 rfl ?_
  generalize (((p1.toUInt32 >>> ((3 : Int32) &&& 31).toUInt32).toInt32) &&& (1 : Int32)) = pr
  refine g_if S0.here hx (hb hby at_11) pr.toInt rfl 18 14 (by decide) (by decide) rfl (fun (hc11 : pr.toInt = 0) => ?_) (fun (hc11 : ¬ (pr.toInt = 0)) => ?_)
  · refine g_iconst S0.here hx (hb hby at_18) (0 : Int32) (by decide) 19 rfl ?_
    refine g_istore S0.here hx (hb hby at_19) #[.val (.int p1), .val (.int p2), .val (.int p3), .val (.long q4), .second, .val (.long q5), .second, .val (.int kd), .val (.int (0 : Int32)), .unset, .unset, .unset, .unset, .unset, .unset, .unset] rfl 21 rfl ?_
    have join : ∀ (vm : Vm) (T : State) (hh : Heap) (z8 : Int32) (tp : Addr) (cs : List Int32), St 1 p l e room_1 s m #[(.int p1), (.int p2), (.int p3), (.long q4), (.long q5)] below meth c "com/example/ambient_wiring/ambientwiring/BeanScopeNamedPinLaw" Z consts_1 vm T hh 2 40 → own_str Z hh tp cs → cs.length = 9 → Goes p.tables e below (Pof 1 Z consts_1 s room_1 (fun v h' => v = some (.int 1))) T (mkF m 33 #[.val (.int p1), .val (.int p2), .val (.int p3), .val (.long q4), .second, .val (.long q5), .second, .val (.int kd), .val (.int z8), .unset, .unset, .unset, .unset, .unset, .unset, .unset] [(.ref tp)]) := by
      intro vm T hh z8 tp cs S0' f_tp l9
      refine g_astore S0'.here hx (hb hby at_33) rfl #[.val (.int p1), .val (.int p2), .val (.int p3), .val (.long q4), .second, .val (.long q5), .second, .val (.int kd), .val (.int z8), .val (.ref tp), .unset, .unset, .unset, .unset, .unset, .unset] rfl 35 rfl ?_
      refine g_iloadN S0'.here hx (hb hby at_35) rfl 36 rfl ?_
      refine g_sipush S0'.here hx (hb hby at_36) (255 : Int32) (by decide) 39 rfl ?_
      refine g_iand S0'.here hx (hb hby at_39) 40 rfl ?_
      refine g_i2c S0'.here hx (hb hby at_40) 41 rfl ?_
      have bd := own_b8 p3
      generalize (p3 &&& (255 : Int32)).toUInt32.toUInt16.toUInt32.toInt32 = d at bd ⊢
      refine g_istore S0'.here hx (hb hby at_41) #[.val (.int p1), .val (.int p2), .val (.int p3), .val (.long q4), .second, .val (.long q5), .second, .val (.int kd), .val (.int z8), .val (.ref tp), .val (.int d), .unset, .unset, .unset, .unset, .unset] rfl 43 rfl ?_
      refine g_iloadN S0'.here hx (hb hby at_43) rfl 44 rfl ?_
      refine S0'.ldcI hx (own_q8 hw) (hb hby at_44) 46 rfl ?_
      refine g_iand S0'.here hx (hb hby at_46) 47 rfl ?_
      refine g_bipush S0'.here hx (hb hby at_47) (9 : Int32) (by decide) 49 rfl ?_
      refine g_irem S0'.here hx (hb hby at_49) (by decide) 50 rfl ?_
      have bp9 := own_r p2 9 (by decide)
      have ep9 : (9 : Int32).toInt = 9 := by decide
      rw [ep9] at bp9
      generalize (p2 &&& (2147483647 : Int32)) % (9 : Int32) = p9 at bp9 ⊢
      refine g_istore S0'.here hx (hb hby at_50) #[.val (.int p1), .val (.int p2), .val (.int p3), .val (.long q4), .second, .val (.long q5), .second, .val (.int kd), .val (.int z8), .val (.ref tp), .val (.int d), .val (.int p9), .unset, .unset, .unset, .unset] rfl 52 rfl ?_
      refine g_iloadN S0'.here hx (hb hby at_52) rfl 53 rfl ?_
      refine S0'.ldcI hx (own_q8 hw) (hb hby at_53) 55 rfl ?_
      refine g_iand S0'.here hx (hb hby at_55) 56 rfl ?_
      refine g_bipush S0'.here hx (hb hby at_56) (10 : Int32) (by decide) 58 rfl ?_
      refine g_irem S0'.here hx (hb hby at_58) (by decide) 59 rfl ?_
      have bp10 := own_r p2 10 (by decide)
      have ep10 : (10 : Int32).toInt = 10 := by decide
      rw [ep10] at bp10
      generalize (p2 &&& (2147483647 : Int32)) % (10 : Int32) = p10 at bp10 ⊢
      refine g_istore S0'.here hx (hb hby at_59) #[.val (.int p1), .val (.int p2), .val (.int p3), .val (.long q4), .second, .val (.long q5), .second, .val (.int kd), .val (.int z8), .val (.ref tp), .val (.int d), .val (.int p9), .val (.int p10), .unset, .unset, .unset] rfl 61 rfl ?_
      have tail : ∀ (vm' : Vm) (T' : State) (h1' : Heap) (a : Addr) (cs : List Int32) (w14 : Slot), One w14 → St 1 p l e room_1 s m #[(.int p1), (.int p2), (.int p3), (.long q4), (.long q5)] below meth c "com/example/ambient_wiring/ambientwiring/BeanScopeNamedPinLaw" Z consts_1 vm' T' h1' 12 200 → own_str Z h1' a cs → Goes p.tables e below (Pof 1 Z consts_1 s room_1 (fun v h' => v = some (.int 1))) T' (mkF m 240 #[.val (.int p1), .val (.int p2), .val (.int p3), .val (.long q4), .second, .val (.long q5), .second, .val (.int kd), .val (.int z8), .val (.ref tp), .val (.int d), .val (.int p9), .val (.int p10), .val (.ref a), w14, .unset] []) := by
        intro vm' T' h1' a cs w14 hw14 S1' f_a
        have G3' := G3
        obtain ⟨v0, n1, n2, kV, -, -, -, -, -, -, -, g8, g9⟩ := G3'
        refine g_aload S1'.here hx (hb hby at_240) rfl rfl 242 rfl ?_
        refine S1'.callS hx (W := 0) (own_q9 hw) (own_q10 hw) (own_q11 hw) (own_q12 hw) (by decide) (ctNm l Z a0 hw a s1 s2 cs h1' S1'.old G G3 f_a) nosf (by decide) (by decide) (by rw [hml]; rfl) [(.ref a)] [] (lenOf own_pd442 rfl) rfl rfl (Nat.le_refl _) (hb hby at_242) (by decide) (by decide) 245 rfl (fun v120 vm120 T120 h120 S120 Q120 R120 => ?_)
        obtain ⟨Q120, E120⟩ := Q120
        have f_a := f_a.ext E120
        rcases Q120 with ⟨e1, rfl⟩ | ⟨e1, e2, rfl⟩ | ⟨e1, e2, rfl⟩
        · show Goes _ _ _ _ T120 (mkF m 245 #[.val (.int p1), .val (.int p2), .val (.int p3), .val (.long q4), .second, .val (.long q5), .second, .val (.int kd), .val (.int z8), .val (.ref tp), .val (.int d), .val (.int p9), .val (.int p10), .val (.ref a), w14, .unset] [(.ref s1)])
          refine g_astore S120.here hx (hb hby at_245) rfl #[.val (.int p1), .val (.int p2), .val (.int p3), .val (.long q4), .second, .val (.long q5), .second, .val (.int kd), .val (.int z8), .val (.ref tp), .val (.int d), .val (.int p9), .val (.int p10), .val (.ref a), .val (.ref s1), .unset] (by rw [XS.store1 (o := w14) rfl hw14 rfl]; rfl) 247 rfl ?_
          refine g_aload S120.here hx (hb hby at_247) rfl rfl 249 rfl ?_
          refine g_ifnonnullT S120.here hx (hb hby at_249) 258 (by decide) (by decide) ?_
          refine g_aload S120.here hx (hb hby at_258) rfl rfl 260 rfl ?_
          refine S120.ldcC hx (by decide) (own_q0 hw) (own_wS hw) (by decide) (vs := (own_ts.map fun c => c.toInt8.toInt32).map Value.int) (z := Int32.ofNat own_ts.length) (by decide +kernel) (by decide +kernel) (by decide +kernel) (hb hby at_260) (n := 36) (by decide +kernel) (by decide) (by decide) (by decide) 262 rfl (fun vm121 T121 h121 t1 b121 k121 S121 E121 R121 q121a q121b q121c q121d N121 => ?_)
          have f_t1 : own_str Z h121 t1 own_ts := ⟨own_ts_lat, by decide +kernel, b121, k121, q121a, q121b, q121c, q121d⟩
          have f_a := f_a.ext E121
          refine own_eq S121 hx hw G (W := 0) (own_q76 hw) f_a f_t1 (by decide) (by decide) (by rw [hml]; rfl) [] (Nat.le_refl _) (hb hby at_262) (by decide) (by decide) 265 rfl (fun T122 z122 S122 Z122 => ?_)
          obtain rfl : z122 = 1 := own_is1 Z122 e1
          refine g_ifF S122.here hx (hb hby at_265) 1 (by decide) (by show ¬ (1 = 0); decide) 268 rfl ?_
          refine S122.getS hx (host := "") (Or.inl (own_q117 hw)) Via.refl (g8.ext S122.old.2) (hb hby at_268) 271 rfl (fun T123 S123 => ?_)
          refine g_astore S123.here hx (hb hby at_271) rfl #[.val (.int p1), .val (.int p2), .val (.int p3), .val (.long q4), .second, .val (.long q5), .second, .val (.int kd), .val (.int z8), .val (.ref tp), .val (.int d), .val (.int p9), .val (.int p10), .val (.ref a), .val (.ref s1), .val (.ref s1)] rfl 273 rfl ?_
          refine g_goto S123.here hx (hb hby at_273) 297 (by decide) (by decide) ?_
          refine g_aload S123.here hx (hb hby at_297) rfl rfl 299 rfl ?_
          refine g_aload S123.here hx (hb hby at_299) rfl rfl 301 rfl ?_
          refine S123.acmp hx (hb hby at_301) rfl rfl true (decide_eq_true rfl) (by decide) 304 (by decide) ?_
          refine g_iconst S123.here hx (hb hby at_304) (1 : Int32) (by decide) 305 rfl ?_
          refine g_goto S123.here hx (hb hby at_305) 309 (by decide) (by decide) ?_
          exact S123.iret hx hlk hret (Or.inr (Or.inl rfl)) rfl (hb hby at_309) rfl (by decide) (by decide)
        · show Goes _ _ _ _ T120 (mkF m 245 #[.val (.int p1), .val (.int p2), .val (.int p3), .val (.long q4), .second, .val (.long q5), .second, .val (.int kd), .val (.int z8), .val (.ref tp), .val (.int d), .val (.int p9), .val (.int p10), .val (.ref a), w14, .unset] [(.ref s2)])
          refine g_astore S120.here hx (hb hby at_245) rfl #[.val (.int p1), .val (.int p2), .val (.int p3), .val (.long q4), .second, .val (.long q5), .second, .val (.int kd), .val (.int z8), .val (.ref tp), .val (.int d), .val (.int p9), .val (.int p10), .val (.ref a), .val (.ref s2), .unset] (by rw [XS.store1 (o := w14) rfl hw14 rfl]; rfl) 247 rfl ?_
          refine g_aload S120.here hx (hb hby at_247) rfl rfl 249 rfl ?_
          refine g_ifnonnullT S120.here hx (hb hby at_249) 258 (by decide) (by decide) ?_
          refine g_aload S120.here hx (hb hby at_258) rfl rfl 260 rfl ?_
          refine S120.ldcC hx (by decide) (own_q0 hw) (own_wS hw) (by decide) (vs := (own_ts.map fun c => c.toInt8.toInt32).map Value.int) (z := Int32.ofNat own_ts.length) (by decide +kernel) (by decide +kernel) (by decide +kernel) (hb hby at_260) (n := 36) (by decide +kernel) (by decide) (by decide) (by decide) 262 rfl (fun vm124 T124 h124 t1 b124 k124 S124 E124 R124 q124a q124b q124c q124d N124 => ?_)
          have f_t1 : own_str Z h124 t1 own_ts := ⟨own_ts_lat, by decide +kernel, b124, k124, q124a, q124b, q124c, q124d⟩
          have f_a := f_a.ext E124
          refine own_eq S124 hx hw G (W := 0) (own_q76 hw) f_a f_t1 (by decide) (by decide) (by rw [hml]; rfl) [] (Nat.le_refl _) (hb hby at_262) (by decide) (by decide) 265 rfl (fun T125 z125 S125 Z125 => ?_)
          obtain rfl : z125 = 0 := own_is0 Z125 e1
          refine g_ifT S125.here hx (hb hby at_265) 0 (by decide) (by show 0 = 0; decide) 276 (by decide) (by decide) ?_
          refine g_aload S125.here hx (hb hby at_276) rfl rfl 278 rfl ?_
          refine S125.ldcC hx (by decide) (own_q37 hw) (own_wS hw) (by decide) (vs := (own_tp.map fun c => c.toInt8.toInt32).map Value.int) (z := Int32.ofNat own_tp.length) (by decide +kernel) (by decide +kernel) (by decide +kernel) (hb hby at_278) (n := 36) (by decide +kernel) (by decide) (by decide) (by decide) 280 rfl (fun vm126 T126 h126 t2 b126 k126 S126 E126 R126 q126a q126b q126c q126d N126 => ?_)
          have f_t2 : own_str Z h126 t2 own_tp := ⟨own_tp_lat, by decide +kernel, b126, k126, q126a, q126b, q126c, q126d⟩
          have f_a := f_a.ext E126
          have f_t1 := f_t1.ext E126
          refine own_eq S126 hx hw G (W := 0) (own_q76 hw) f_a f_t2 (by decide) (by decide) (by rw [hml]; rfl) [] (Nat.le_refl _) (hb hby at_280) (by decide) (by decide) 283 rfl (fun T127 z127 S127 Z127 => ?_)
          obtain rfl : z127 = 1 := own_is1 Z127 e2
          refine g_ifF S127.here hx (hb hby at_283) 1 (by decide) (by show ¬ (1 = 0); decide) 286 rfl ?_
          refine S127.getS hx (host := "") (Or.inl (own_q118 hw)) Via.refl (g9.ext S127.old.2) (hb hby at_286) 289 rfl (fun T128 S128 => ?_)
          refine g_astore S128.here hx (hb hby at_289) rfl #[.val (.int p1), .val (.int p2), .val (.int p3), .val (.long q4), .second, .val (.long q5), .second, .val (.int kd), .val (.int z8), .val (.ref tp), .val (.int d), .val (.int p9), .val (.int p10), .val (.ref a), .val (.ref s2), .val (.ref s2)] rfl 291 rfl ?_
          refine g_goto S128.here hx (hb hby at_291) 297 (by decide) (by decide) ?_
          refine g_aload S128.here hx (hb hby at_297) rfl rfl 299 rfl ?_
          refine g_aload S128.here hx (hb hby at_299) rfl rfl 301 rfl ?_
          refine S128.acmp hx (hb hby at_301) rfl rfl true (decide_eq_true rfl) (by decide) 304 (by decide) ?_
          refine g_iconst S128.here hx (hb hby at_304) (1 : Int32) (by decide) 305 rfl ?_
          refine g_goto S128.here hx (hb hby at_305) 309 (by decide) (by decide) ?_
          exact S128.iret hx hlk hret (Or.inr (Or.inl rfl)) rfl (hb hby at_309) rfl (by decide) (by decide)
        · show Goes _ _ _ _ T120 (mkF m 245 #[.val (.int p1), .val (.int p2), .val (.int p3), .val (.long q4), .second, .val (.long q5), .second, .val (.int kd), .val (.int z8), .val (.ref tp), .val (.int d), .val (.int p9), .val (.int p10), .val (.ref a), w14, .unset] [.null])
          refine g_astore S120.here hx (hb hby at_245) rfl #[.val (.int p1), .val (.int p2), .val (.int p3), .val (.long q4), .second, .val (.long q5), .second, .val (.int kd), .val (.int z8), .val (.ref tp), .val (.int d), .val (.int p9), .val (.int p10), .val (.ref a), .val .null, .unset] (by rw [XS.store1 (o := w14) rfl hw14 rfl]; rfl) 247 rfl ?_
          refine g_aload S120.here hx (hb hby at_247) rfl rfl 249 rfl ?_
          refine g_ifnonnullT S120.here hx (hb hby at_249) 258 (by decide) (by decide) ?_
          refine g_aload S120.here hx (hb hby at_258) rfl rfl 260 rfl ?_
          refine S120.ldcC hx (by decide) (own_q0 hw) (own_wS hw) (by decide) (vs := (own_ts.map fun c => c.toInt8.toInt32).map Value.int) (z := Int32.ofNat own_ts.length) (by decide +kernel) (by decide +kernel) (by decide +kernel) (hb hby at_260) (n := 36) (by decide +kernel) (by decide) (by decide) (by decide) 262 rfl (fun vm129 T129 h129 t1 b129 k129 S129 E129 R129 q129a q129b q129c q129d N129 => ?_)
          have f_t1 : own_str Z h129 t1 own_ts := ⟨own_ts_lat, by decide +kernel, b129, k129, q129a, q129b, q129c, q129d⟩
          have f_a := f_a.ext E129
          refine own_eq S129 hx hw G (W := 0) (own_q76 hw) f_a f_t1 (by decide) (by decide) (by rw [hml]; rfl) [] (Nat.le_refl _) (hb hby at_262) (by decide) (by decide) 265 rfl (fun T130 z130 S130 Z130 => ?_)
          obtain rfl : z130 = 0 := own_is0 Z130 e1
          refine g_ifT S130.here hx (hb hby at_265) 0 (by decide) (by show 0 = 0; decide) 276 (by decide) (by decide) ?_
          refine g_aload S130.here hx (hb hby at_276) rfl rfl 278 rfl ?_
          refine S130.ldcC hx (by decide) (own_q37 hw) (own_wS hw) (by decide) (vs := (own_tp.map fun c => c.toInt8.toInt32).map Value.int) (z := Int32.ofNat own_tp.length) (by decide +kernel) (by decide +kernel) (by decide +kernel) (hb hby at_278) (n := 36) (by decide +kernel) (by decide) (by decide) (by decide) 280 rfl (fun vm131 T131 h131 t2 b131 k131 S131 E131 R131 q131a q131b q131c q131d N131 => ?_)
          have f_t2 : own_str Z h131 t2 own_tp := ⟨own_tp_lat, by decide +kernel, b131, k131, q131a, q131b, q131c, q131d⟩
          have f_a := f_a.ext E131
          have f_t1 := f_t1.ext E131
          refine own_eq S131 hx hw G (W := 0) (own_q76 hw) f_a f_t2 (by decide) (by decide) (by rw [hml]; rfl) [] (Nat.le_refl _) (hb hby at_280) (by decide) (by decide) 283 rfl (fun T132 z132 S132 Z132 => ?_)
          obtain rfl : z132 = 0 := own_is0 Z132 e2
          refine g_ifT S132.here hx (hb hby at_283) 0 (by decide) (by show 0 = 0; decide) 294 (by decide) (by decide) ?_
          refine g_aconst_null S132.here hx (hb hby at_294) 295 rfl ?_
          refine g_astore S132.here hx (hb hby at_295) rfl #[.val (.int p1), .val (.int p2), .val (.int p3), .val (.long q4), .second, .val (.long q5), .second, .val (.int kd), .val (.int z8), .val (.ref tp), .val (.int d), .val (.int p9), .val (.int p10), .val (.ref a), .val .null, .val .null] rfl 297 rfl ?_
          refine g_aload S132.here hx (hb hby at_297) rfl rfl 299 rfl ?_
          refine g_aload S132.here hx (hb hby at_299) rfl rfl 301 rfl ?_
          refine S132.acmp hx (hb hby at_301) rfl rfl true (decide_eq_true rfl) (by decide) 304 (by decide) ?_
          refine g_iconst S132.here hx (hb hby at_304) (1 : Int32) (by decide) 305 rfl ?_
          refine g_goto S132.here hx (hb hby at_305) 309 (by decide) (by decide) ?_
          exact S132.iret hx hlk hret (Or.inr (Or.inl rfl)) rfl (hb hby at_309) rfl (by decide) (by decide)
      refine g_iload S0'.here hx (hb hby at_61) rfl 63 rfl ?_
      refine g_if S0'.here hx (hb hby at_63) kd.toInt rfl 72 66 (by decide) (by decide) rfl (fun (hc63 : ¬ kd.toInt = 0) => ?_) (fun (hc63 : ¬ (¬ kd.toInt = 0)) => ?_)
      · refine g_iload S0'.here hx (hb hby at_72) rfl 74 rfl ?_
        refine g_iconst S0'.here hx (hb hby at_74) (1 : Int32) (by decide) 75 rfl ?_
        refine g_icmp S0'.here hx (hb hby at_75) kd.toInt 1 rfl (by decide) 95 78 (by decide) (by decide) rfl (fun (hc75 : ¬ kd.toInt = 1) => ?_) (fun (hc75 : ¬ (¬ kd.toInt = 1)) => ?_)
        · refine g_iload S0'.here hx (hb hby at_95) rfl 97 rfl ?_
          refine g_iconst S0'.here hx (hb hby at_97) (2 : Int32) (by decide) 98 rfl ?_
          refine g_icmp S0'.here hx (hb hby at_98) kd.toInt 2 rfl (by decide) 129 101 (by decide) (by decide) rfl (fun (hc98 : ¬ kd.toInt = 2) => ?_) (fun (hc98 : ¬ (¬ kd.toInt = 2)) => ?_)
          · refine g_iload S0'.here hx (hb hby at_129) rfl 131 rfl ?_
            refine g_iconst S0'.here hx (hb hby at_131) (3 : Int32) (by decide) 132 rfl ?_
            refine g_icmp S0'.here hx (hb hby at_132) kd.toInt 3 rfl (by decide) 154 135 (by decide) (by decide) rfl (fun (hc132 : ¬ kd.toInt = 3) => ?_) (fun (hc132 : ¬ (¬ kd.toInt = 3)) => ?_)
            · refine g_iload S0'.here hx (hb hby at_154) rfl 156 rfl ?_
              refine g_iconst S0'.here hx (hb hby at_156) (4 : Int32) (by decide) 157 rfl ?_
              refine g_icmp S0'.here hx (hb hby at_157) kd.toInt 4 rfl (by decide) 181 160 (by decide) (by decide) rfl (fun (hc157 : ¬ kd.toInt = 4) => ?_) (fun (hc157 : ¬ (¬ kd.toInt = 4)) => ?_)
              · refine g_iload S0'.here hx (hb hby at_181) rfl 183 rfl ?_
                refine g_iconst S0'.here hx (hb hby at_183) (5 : Int32) (by decide) 184 rfl ?_
                refine g_icmp S0'.here hx (hb hby at_184) kd.toInt 5 rfl (by decide) 205 187 (by decide) (by decide) rfl (fun (hc184 : ¬ kd.toInt = 5) => ?_) (fun (hc184 : ¬ (¬ kd.toInt = 5)) => ?_)
                · refine g_iload S0'.here hx (hb hby at_205) rfl 207 rfl ?_
                  refine g_bipush S0'.here hx (hb hby at_207) (6 : Int32) (by decide) 209 rfl ?_
                  refine g_icmp S0'.here hx (hb hby at_209) kd.toInt 6 rfl (by decide) 227 212 (by decide) (by decide) rfl (fun (hc209 : ¬ kd.toInt = 6) => ?_) (fun (hc209 : ¬ (¬ kd.toInt = 6)) => ?_)
                  · refine S0'.new hx (own_q38 hw) (own_q2 hw) (own_q1 hw) (hb hby at_227) (by decide) (by decide) 230 rfl (fun T133 h133 sn S133 g133 E133 A133 D133 F133 R133 U133 => ?_)
                    have ga133 : Z.heap.size ≤ sn := by rw [g133]; exact S0'.size
                    have f_tp := f_tp.ext E133
                    have rw133 : own_raw Z h133 sn := ⟨A133, ⟨_, D133 (Or.inr (own_q4 hw)) (ty := .array .byte) (by decide)⟩, _, D133 (Or.inr (own_q5 hw)) (ty := .byte) (by decide)⟩
                    refine g_dup S133.here hx (hb hby at_230) rfl 231 rfl ?_
                    refine g_lloadN S133.here hx (hb hby at_231) rfl 232 rfl ?_
                    refine S133.callS hx (W := 2) (own_q39 hw) (own_q40 hw) (own_q41 hw) (own_q42 hw) (by decide) (ct8 l Z a0 hw q4 h133 S133.old) nosf (by decide) (by decide) (by rw [hml]; rfl) [(.long q4)] [(.ref sn), (.ref sn)] (lenOf own_pd443 rfl) rfl rfl (Nat.le_refl _) (hb hby at_232) (by decide) (by decide) 235 rfl (fun v134 vm134 T134 h134 S134 Q134 R134 => ?_)
                    obtain ⟨bb, rfl, Ab, E134, gb⟩ := Q134
                    show Goes _ _ _ _ T134 (mkF m 235 #[.val (.int p1), .val (.int p2), .val (.int p3), .val (.long q4), .second, .val (.long q5), .second, .val (.int kd), .val (.int z8), .val (.ref tp), .val (.int d), .val (.int p9), .val (.int p10), .unset, .unset, .unset] [(.ref bb), (.ref sn), (.ref sn)])
                    have f_tp_b := f_tp
                    have f_tp := f_tp.ext E134
                    have Fx134 := R134.safe rw133.1.lt F133
                    have rx134 := rw133.ext E134
                    have Ex134 := own_ext_trans E133 E134
                    refine own_mkA S134 hx hw G (W := 1) (own_q48 hw) rx134 Ab Fx134 ga133 (by decide) (by decide) (by decide) (by decide) (by rw [hml]; rfl) [(.ref sn)] (Nat.le_refl _) (hb hby at_235) (by decide) (by decide) 238 rfl (fun T135 h135 cn S135 f_sn K135 R135 => ?_)
                    refine g_astore S135.here hx (hb hby at_238) rfl #[.val (.int p1), .val (.int p2), .val (.int p3), .val (.long q4), .second, .val (.long q5), .second, .val (.int kd), .val (.int z8), .val (.ref tp), .val (.int d), .val (.int p9), .val (.int p10), .val (.ref sn), .unset, .unset] rfl 240 rfl ?_
                    exact tail _ _ _ _ _ _ One.u (S135.more (by decide) (by decide)) f_sn
                  · refine S0'.new hx (own_q38 hw) (own_q2 hw) (own_q1 hw) (hb hby at_212) (by decide) (by decide) 215 rfl (fun T136 h136 sn S136 g136 E136 A136 D136 F136 R136 U136 => ?_)
                    have ga136 : Z.heap.size ≤ sn := by rw [g136]; exact S0'.size
                    have r136 : own_raw Z h136 sn := ⟨A136, ⟨_, D136 (Or.inr (own_q4 hw)) (ty := .array .byte) (by decide)⟩, _, D136 (Or.inr (own_q5 hw)) (ty := .byte) (by decide)⟩
                    refine g_dup S136.here hx (hb hby at_215) rfl 216 rfl ?_
                    refine g_iconst S136.here hx (hb hby at_216) (0 : Int32) (by decide) 217 rfl ?_
                    refine S136.newA (aty := .char) hx (own_q43 hw) (n := (0 : Int32)) (by decide) (cap := 0) (by decide) (by decide) (hb hby at_217) (by decide) (by decide) 219 rfl (fun T137 h137 b137 k137 S137 g137 E137 V137 _ R137 => ?_)
                    have F137 := R137.safe r136.1.lt F136
                    have r137 := r136.ext E137
                    have E137 := own_ext_trans E136 E137
                    refine S137.callI hx (W := 1) (a := sn) rfl (own_q48 hw) (own_q49 hw) (own_q50 hw) (by decide) (own_q1 hw) (ctE1 l Z a0 hw sn b137 _ _ _ h137 S137.old r137 ga136 V137) (fun x hx => by cases List.mem_singleton.mp hx; exact ⟨r137.1.lt, F137⟩) (by decide) (by decide) (by rw [hml]; rfl) [(.ref b137)] [(.ref sn)] (lenOf own_pd0 rfl) rfl rfl (Nat.le_refl _) (hb hby at_219) (by decide) (by decide) 222 rfl (fun v138 vm138 T138 h138 S138 Q138 R138 => ?_)
                    obtain ⟨rfl, f_sn, K138⟩ := Q138
                    show Goes _ _ _ _ T138 (mkF m 222 #[.val (.int p1), .val (.int p2), .val (.int p3), .val (.long q4), .second, .val (.long q5), .second, .val (.int kd), .val (.int z8), .val (.ref tp), .val (.int d), .val (.int p9), .val (.int p10), .unset, .unset, .unset] [(.ref sn)])
                    have E138 : Ext hh h138 := own_ext_keep E137 K138 (fun x hx => by cases List.mem_singleton.mp hx; exact Nat.le_of_eq g136.symm)
                    have f_tp := f_tp.ext E138
                    refine g_astore S138.here hx (hb hby at_222) rfl #[.val (.int p1), .val (.int p2), .val (.int p3), .val (.long q4), .second, .val (.long q5), .second, .val (.int kd), .val (.int z8), .val (.ref tp), .val (.int d), .val (.int p9), .val (.int p10), .val (.ref sn), .unset, .unset] rfl 224 rfl ?_
                    refine g_goto S138.here hx (hb hby at_224) 240 (by decide) (by decide) ?_
                    exact tail _ _ _ _ _ _ One.u (S138.more (by decide) (by decide)) f_sn
                · refine S0'.new hx (own_q38 hw) (own_q2 hw) (own_q1 hw) (hb hby at_187) (by decide) (by decide) 190 rfl (fun T139 h139 sn S139 g139 E139 A139 D139 F139 R139 U139 => ?_)
                  have ga139 : Z.heap.size ≤ sn := by rw [g139]; exact S0'.size
                  have f_tp := f_tp.ext E139
                  have rw139 : own_raw Z h139 sn := ⟨A139, ⟨_, D139 (Or.inr (own_q4 hw)) (ty := .array .byte) (by decide)⟩, _, D139 (Or.inr (own_q5 hw)) (ty := .byte) (by decide)⟩
                  refine g_dup S139.here hx (hb hby at_190) rfl 191 rfl ?_
                  refine g_lloadN S139.here hx (hb hby at_191) rfl 192 rfl ?_
                  refine g_lload S139.here hx (hb hby at_192) rfl 194 rfl ?_
                  refine S139.callS hx (W := 2) (own_q77 hw) (own_q78 hw) (own_q41 hw) (own_q79 hw) (by decide) (ct9 l Z a0 hw q4 q5 h139 S139.old) nosf (by decide) (by decide) (by rw [hml]; rfl) [(.long q4), (.long q5)] [(.ref sn), (.ref sn)] (lenOf own_pd444 rfl) rfl rfl (Nat.le_refl _) (hb hby at_194) (by decide) (by decide) 197 rfl (fun v140 vm140 T140 h140 S140 Q140 R140 => ?_)
                  obtain ⟨bb, rfl, Ab, E140, gb⟩ := Q140
                  show Goes _ _ _ _ T140 (mkF m 197 #[.val (.int p1), .val (.int p2), .val (.int p3), .val (.long q4), .second, .val (.long q5), .second, .val (.int kd), .val (.int z8), .val (.ref tp), .val (.int d), .val (.int p9), .val (.int p10), .unset, .unset, .unset] [(.ref bb), (.ref sn), (.ref sn)])
                  have f_tp_b := f_tp
                  have f_tp := f_tp.ext E140
                  have Fx140 := R140.safe rw139.1.lt F139
                  have rx140 := rw139.ext E140
                  have Ex140 := own_ext_trans E139 E140
                  refine own_mkA S140 hx hw G (W := 1) (own_q48 hw) rx140 Ab Fx140 ga139 (by decide) (by decide) (by decide) (by decide) (by rw [hml]; rfl) [(.ref sn)] (Nat.le_refl _) (hb hby at_197) (by decide) (by decide) 200 rfl (fun T141 h141 cn S141 f_sn K141 R141 => ?_)
                  refine g_astore S141.here hx (hb hby at_200) rfl #[.val (.int p1), .val (.int p2), .val (.int p3), .val (.long q4), .second, .val (.long q5), .second, .val (.int kd), .val (.int z8), .val (.ref tp), .val (.int d), .val (.int p9), .val (.int p10), .val (.ref sn), .unset, .unset] rfl 202 rfl ?_
                  refine g_goto S141.here hx (hb hby at_202) 240 (by decide) (by decide) ?_
                  exact tail _ _ _ _ _ _ One.u (S141.more (by decide) (by decide)) f_sn
              · refine S0'.new hx (own_q38 hw) (own_q2 hw) (own_q1 hw) (hb hby at_160) (by decide) (by decide) 163 rfl (fun T142 h142 sn S142 g142 E142 A142 D142 F142 R142 U142 => ?_)
                have ga142 : Z.heap.size ≤ sn := by rw [g142]; exact S0'.size
                have f_tp := f_tp.ext E142
                have rw142 : own_raw Z h142 sn := ⟨A142, ⟨_, D142 (Or.inr (own_q4 hw)) (ty := .array .byte) (by decide)⟩, _, D142 (Or.inr (own_q5 hw)) (ty := .byte) (by decide)⟩
                refine g_dup S142.here hx (hb hby at_163) rfl 164 rfl ?_
                refine g_aload S142.here hx (hb hby at_164) rfl rfl 166 rfl ?_
                refine g_iload S142.here hx (hb hby at_166) rfl 168 rfl ?_
                refine g_iload S142.here hx (hb hby at_168) rfl 170 rfl ?_
                refine S142.callS hx (W := 2) (own_q81 hw) (own_q82 hw) (own_q41 hw) (own_q83 hw) (by decide) (ctI l Z a0 hw tp cs p10 d h142 S142.old G G2 f_tp l9 (by omega) bd) nosf (by decide) (by decide) (by rw [hml]; rfl) [(.ref tp), (.int p10), (.int d)] [(.ref sn), (.ref sn)] (lenOf own_pd445 rfl) rfl rfl (Nat.le_refl _) (hb hby at_170) (by decide) (by decide) 173 rfl (fun v143 vm143 T143 h143 S143 Q143 R143 => ?_)
                obtain ⟨bb, rfl, Ab, E143, gb⟩ := Q143
                show Goes _ _ _ _ T143 (mkF m 173 #[.val (.int p1), .val (.int p2), .val (.int p3), .val (.long q4), .second, .val (.long q5), .second, .val (.int kd), .val (.int z8), .val (.ref tp), .val (.int d), .val (.int p9), .val (.int p10), .unset, .unset, .unset] [(.ref bb), (.ref sn), (.ref sn)])
                have f_tp_b := f_tp
                have f_tp := f_tp.ext E143
                have Fx143 := R143.safe rw142.1.lt F142
                have rx143 := rw142.ext E143
                have Ex143 := own_ext_trans E142 E143
                refine own_mkA S143 hx hw G (W := 1) (own_q48 hw) rx143 Ab Fx143 ga142 (by decide) (by decide) (by decide) (by decide) (by rw [hml]; rfl) [(.ref sn)] (Nat.le_refl _) (hb hby at_173) (by decide) (by decide) 176 rfl (fun T144 h144 cn S144 f_sn K144 R144 => ?_)
                refine g_astore S144.here hx (hb hby at_176) rfl #[.val (.int p1), .val (.int p2), .val (.int p3), .val (.long q4), .second, .val (.long q5), .second, .val (.int kd), .val (.int z8), .val (.ref tp), .val (.int d), .val (.int p9), .val (.int p10), .val (.ref sn), .unset, .unset] rfl 178 rfl ?_
                refine g_goto S144.here hx (hb hby at_178) 240 (by decide) (by decide) ?_
                exact tail _ _ _ _ _ _ One.u (S144.more (by decide) (by decide)) f_sn
            · refine S0'.new hx (own_q38 hw) (own_q2 hw) (own_q1 hw) (hb hby at_135) (by decide) (by decide) 138 rfl (fun T145 h145 sn S145 g145 E145 A145 D145 F145 R145 U145 => ?_)
              have ga145 : Z.heap.size ≤ sn := by rw [g145]; exact S0'.size
              have f_tp := f_tp.ext E145
              have rw145 : own_raw Z h145 sn := ⟨A145, ⟨_, D145 (Or.inr (own_q4 hw)) (ty := .array .byte) (by decide)⟩, _, D145 (Or.inr (own_q5 hw)) (ty := .byte) (by decide)⟩
              refine g_dup S145.here hx (hb hby at_138) rfl 139 rfl ?_
              refine g_aload S145.here hx (hb hby at_139) rfl rfl 141 rfl ?_
              refine g_iload S145.here hx (hb hby at_141) rfl 143 rfl ?_
              refine S145.callS hx (W := 2) (own_q108 hw) (own_q109 hw) (own_q41 hw) (own_q110 hw) (by decide) (ctD l Z a0 hw tp cs p9 h145 S145.old G G2 f_tp l9) nosf (by decide) (by decide) (by rw [hml]; rfl) [(.ref tp), (.int p9)] [(.ref sn), (.ref sn)] (lenOf own_pd446 rfl) rfl rfl (Nat.le_refl _) (hb hby at_143) (by decide) (by decide) 146 rfl (fun v146 vm146 T146 h146 S146 Q146 R146 => ?_)
              obtain ⟨bb, rfl, Ab, E146, gb⟩ := Q146
              show Goes _ _ _ _ T146 (mkF m 146 #[.val (.int p1), .val (.int p2), .val (.int p3), .val (.long q4), .second, .val (.long q5), .second, .val (.int kd), .val (.int z8), .val (.ref tp), .val (.int d), .val (.int p9), .val (.int p10), .unset, .unset, .unset] [(.ref bb), (.ref sn), (.ref sn)])
              have f_tp_b := f_tp
              have f_tp := f_tp.ext E146
              have Fx146 := R146.safe rw145.1.lt F145
              have rx146 := rw145.ext E146
              have Ex146 := own_ext_trans E145 E146
              refine own_mkA S146 hx hw G (W := 1) (own_q48 hw) rx146 Ab Fx146 ga145 (by decide) (by decide) (by decide) (by decide) (by rw [hml]; rfl) [(.ref sn)] (Nat.le_refl _) (hb hby at_146) (by decide) (by decide) 149 rfl (fun T147 h147 cn S147 f_sn K147 R147 => ?_)
              refine g_astore S147.here hx (hb hby at_149) rfl #[.val (.int p1), .val (.int p2), .val (.int p3), .val (.long q4), .second, .val (.long q5), .second, .val (.int kd), .val (.int z8), .val (.ref tp), .val (.int d), .val (.int p9), .val (.int p10), .val (.ref sn), .unset, .unset] rfl 151 rfl ?_
              refine g_goto S147.here hx (hb hby at_151) 240 (by decide) (by decide) ?_
              exact tail _ _ _ _ _ _ One.u (S147.more (by decide) (by decide)) f_sn
          · refine g_aload S0'.here hx (hb hby at_101) rfl rfl 103 rfl ?_
            refine S0'.callS hx (W := 0) (own_q114 hw) (own_q115 hw) (own_q41 hw) (own_q116 hw) (by decide) (ctT l Z a0 hw tp cs hh S0'.old G G2 f_tp l9) nosf (by decide) (by decide) (by rw [hml]; rfl) [(.ref tp)] [] (lenOf own_pd447 rfl) rfl rfl (Nat.le_refl _) (hb hby at_103) (by decide) (by decide) 106 rfl (fun v148 vm148 T148 h148 S148 Q148 R148 => ?_)
            obtain ⟨bb, rfl, Ab, E148, gb⟩ := Q148
            show Goes _ _ _ _ T148 (mkF m 106 #[.val (.int p1), .val (.int p2), .val (.int p3), .val (.long q4), .second, .val (.long q5), .second, .val (.int kd), .val (.int z8), .val (.ref tp), .val (.int d), .val (.int p9), .val (.int p10), .unset, .unset, .unset] [(.ref bb)])
            have f_tp_b := f_tp
            have f_tp := f_tp.ext E148
            refine g_astore S148.here hx (hb hby at_106) rfl #[.val (.int p1), .val (.int p2), .val (.int p3), .val (.long q4), .second, .val (.long q5), .second, .val (.int kd), .val (.int z8), .val (.ref tp), .val (.int d), .val (.int p9), .val (.int p10), .unset, .val (.ref bb), .unset] rfl 108 rfl ?_
            refine g_aload S148.here hx (hb hby at_108) rfl rfl 110 rfl ?_
            refine g_iload S148.here hx (hb hby at_110) rfl 112 rfl ?_
            refine g_iload S148.here hx (hb hby at_112) rfl 114 rfl ?_
            obtain ⟨ka, ca, Va, La, na⟩ := Ab
            have el := own_nat (n := ca.length) (by omega)
            have z0 : (0 : Int32).toInt = 0 := by decide
            refine S148.stC hx Va p9.toInt.toNat ⟨by rw [Int32.lt_iff_toInt_lt]; omega, by rw [Int32.lt_iff_toInt_lt]; omega⟩ (by simp only [Int32.toNatClampNeg]) (by rw [List.length_map]; omega) (Nat.le_trans S0'.size gb) d (own_nar (own_b16 bd)) (hb hby at_114) 115 rfl (fun T149 h149 S149 W149 V149 R149 => ?_)
            have Ab : own_arr Z h149 bb 9 := ⟨ka, ca.set p9.toInt.toNat d, by rw [List.length_set, List.map_set]; exact V149, own_lat_set La bd, by rw [List.length_set]; exact na⟩
            have f_tp := f_tp_b.ext (own_ext_wr E148 W149 gb)
            refine S149.new hx (own_q38 hw) (own_q2 hw) (own_q1 hw) (hb hby at_115) (by decide) (by decide) 118 rfl (fun T150 h150 sn S150 g150 E150 A150 D150 F150 R150 U150 => ?_)
            have ga150 : Z.heap.size ≤ sn := by rw [g150]; exact S149.size
            have f_tp := f_tp.ext E150
            have rw150 : own_raw Z h150 sn := ⟨A150, ⟨_, D150 (Or.inr (own_q4 hw)) (ty := .array .byte) (by decide)⟩, _, D150 (Or.inr (own_q5 hw)) (ty := .byte) (by decide)⟩
            refine g_dup S150.here hx (hb hby at_118) rfl 119 rfl ?_
            refine g_aload S150.here hx (hb hby at_119) rfl rfl 121 rfl ?_
            refine own_mkA S150 hx hw G (W := 1) (own_q48 hw) rw150 (Ab.ext E150) F150 ga150 (by decide) (by decide) (by decide) (by decide) (by rw [hml]; rfl) [(.ref sn)] (Nat.le_refl _) (hb hby at_121) (by decide) (by decide) 124 rfl (fun T151 h151 cn S151 f_sn K151 R151 => ?_)
            refine g_astore S151.here hx (hb hby at_124) rfl #[.val (.int p1), .val (.int p2), .val (.int p3), .val (.long q4), .second, .val (.long q5), .second, .val (.int kd), .val (.int z8), .val (.ref tp), .val (.int d), .val (.int p9), .val (.int p10), .val (.ref sn), .val (.ref bb), .unset] rfl 126 rfl ?_
            refine g_goto S151.here hx (hb hby at_126) 240 (by decide) (by decide) ?_
            exact tail _ _ _ _ _ _ (One.val rfl) (S151.more (by decide) (by decide)) f_sn
        · refine S0'.new hx (own_q38 hw) (own_q2 hw) (own_q1 hw) (hb hby at_78) (by decide) (by decide) 81 rfl (fun T152 h152 sn S152 g152 E152 A152 D152 F152 R152 U152 => ?_)
          have ga152 : Z.heap.size ≤ sn := by rw [g152]; exact S0'.size
          have f_tp := f_tp.ext E152
          have rw152 : own_raw Z h152 sn := ⟨A152, ⟨_, D152 (Or.inr (own_q4 hw)) (ty := .array .byte) (by decide)⟩, _, D152 (Or.inr (own_q5 hw)) (ty := .byte) (by decide)⟩
          refine g_dup S152.here hx (hb hby at_81) rfl 82 rfl ?_
          refine g_aload S152.here hx (hb hby at_82) rfl rfl 84 rfl ?_
          refine S152.callS hx (W := 2) (own_q114 hw) (own_q115 hw) (own_q41 hw) (own_q116 hw) (by decide) (ctT l Z a0 hw tp cs h152 S152.old G G2 f_tp l9) nosf (by decide) (by decide) (by rw [hml]; rfl) [(.ref tp)] [(.ref sn), (.ref sn)] (lenOf own_pd447 rfl) rfl rfl (Nat.le_refl _) (hb hby at_84) (by decide) (by decide) 87 rfl (fun v153 vm153 T153 h153 S153 Q153 R153 => ?_)
          obtain ⟨bb, rfl, Ab, E153, gb⟩ := Q153
          show Goes _ _ _ _ T153 (mkF m 87 #[.val (.int p1), .val (.int p2), .val (.int p3), .val (.long q4), .second, .val (.long q5), .second, .val (.int kd), .val (.int z8), .val (.ref tp), .val (.int d), .val (.int p9), .val (.int p10), .unset, .unset, .unset] [(.ref bb), (.ref sn), (.ref sn)])
          have f_tp_b := f_tp
          have f_tp := f_tp.ext E153
          have Fx153 := R153.safe rw152.1.lt F152
          have rx153 := rw152.ext E153
          have Ex153 := own_ext_trans E152 E153
          refine own_mkA S153 hx hw G (W := 1) (own_q48 hw) rx153 Ab Fx153 ga152 (by decide) (by decide) (by decide) (by decide) (by rw [hml]; rfl) [(.ref sn)] (Nat.le_refl _) (hb hby at_87) (by decide) (by decide) 90 rfl (fun T154 h154 cn S154 f_sn K154 R154 => ?_)
          refine g_astore S154.here hx (hb hby at_90) rfl #[.val (.int p1), .val (.int p2), .val (.int p3), .val (.long q4), .second, .val (.long q5), .second, .val (.int kd), .val (.int z8), .val (.ref tp), .val (.int d), .val (.int p9), .val (.int p10), .val (.ref sn), .unset, .unset] rfl 92 rfl ?_
          refine g_goto S154.here hx (hb hby at_92) 240 (by decide) (by decide) ?_
          exact tail _ _ _ _ _ _ One.u (S154.more (by decide) (by decide)) f_sn
      · refine g_aconst_null S0'.here hx (hb hby at_66) 67 rfl ?_
        refine g_astore S0'.here hx (hb hby at_67) rfl #[.val (.int p1), .val (.int p2), .val (.int p3), .val (.long q4), .second, .val (.long q5), .second, .val (.int kd), .val (.int z8), .val (.ref tp), .val (.int d), .val (.int p9), .val (.int p10), .val .null, .unset, .unset] rfl 69 rfl ?_
        refine g_goto S0'.here hx (hb hby at_69) 240 (by decide) (by decide) ?_
        refine g_aload S0'.here hx (hb hby at_240) rfl rfl 242 rfl ?_
        refine S0'.callS hx (W := 0) (own_q9 hw) (own_q10 hw) (own_q11 hw) (own_q12 hw) (by decide) (ctNn l Z a0 hw s1 s2 hh S0'.old G3) nosf (by decide) (by decide) (by rw [hml]; rfl) [.null] [] (lenOf own_pd442 rfl) rfl rfl (Nat.le_refl _) (hb hby at_242) (by decide) (by decide) 245 rfl (fun v155 vm155 T155 h155 S155 Q155 R155 => ?_)
        obtain ⟨rfl, E155⟩ := Q155
        show Goes _ _ _ _ T155 (mkF m 245 #[.val (.int p1), .val (.int p2), .val (.int p3), .val (.long q4), .second, .val (.long q5), .second, .val (.int kd), .val (.int z8), .val (.ref tp), .val (.int d), .val (.int p9), .val (.int p10), .val .null, .unset, .unset] [.null])
        refine g_astore S155.here hx (hb hby at_245) rfl #[.val (.int p1), .val (.int p2), .val (.int p3), .val (.long q4), .second, .val (.long q5), .second, .val (.int kd), .val (.int z8), .val (.ref tp), .val (.int d), .val (.int p9), .val (.int p10), .val .null, .val .null, .unset] rfl 247 rfl ?_
        refine g_aload S155.here hx (hb hby at_247) rfl rfl 249 rfl ?_
        refine g_ifnonnullF S155.here hx (hb hby at_249) 252 rfl ?_
        refine g_aconst_null S155.here hx (hb hby at_252) 253 rfl ?_
        refine g_astore S155.here hx (hb hby at_253) rfl #[.val (.int p1), .val (.int p2), .val (.int p3), .val (.long q4), .second, .val (.long q5), .second, .val (.int kd), .val (.int z8), .val (.ref tp), .val (.int d), .val (.int p9), .val (.int p10), .val .null, .val .null, .val .null] rfl 255 rfl ?_
        refine g_goto S155.here hx (hb hby at_255) 297 (by decide) (by decide) ?_
        refine g_aload S155.here hx (hb hby at_297) rfl rfl 299 rfl ?_
        refine g_aload S155.here hx (hb hby at_299) rfl rfl 301 rfl ?_
        refine S155.acmp hx (hb hby at_301) rfl rfl true (decide_eq_true rfl) (by decide) 304 (by decide) ?_
        refine g_iconst S155.here hx (hb hby at_304) (1 : Int32) (by decide) 305 rfl ?_
        refine g_goto S155.here hx (hb hby at_305) 309 (by decide) (by decide) ?_
        exact S155.iret hx hlk hret (Or.inr (Or.inl rfl)) rfl (hb hby at_309) rfl (by decide) (by decide)
    refine g_iload S0.here hx (hb hby at_21) rfl 23 rfl ?_
    refine g_ifT S0.here hx (hb hby at_23) 0 (by decide) (by show 0 = 0; decide) 31 (by decide) (by decide) ?_
    refine S0.ldcC hx (by decide) (own_q0 hw) (own_wS hw) (by decide) (vs := (own_ts.map fun c => c.toInt8.toInt32).map Value.int) (z := Int32.ofNat own_ts.length) (by decide +kernel) (by decide +kernel) (by decide +kernel) (hb hby at_31) (n := 36) (by decide +kernel) (by decide) (by decide) (by decide) 33 rfl (fun vm156 T156 h156 tp b156 k156 S156 E156 R156 q156a q156b q156c q156d N156 => ?_)
    have f_tp : own_str Z h156 tp own_ts := ⟨own_ts_lat, by decide +kernel, b156, k156, q156a, q156b, q156c, q156d⟩
    exact join _ _ _ _ _ _ S156 f_tp (by decide)
  · refine g_iconst S0.here hx (hb hby at_14) (1 : Int32) (by decide) 15 rfl ?_
    refine g_goto S0.here hx (hb hby at_15) 19 (by decide) (by decide) ?_
    refine g_istore S0.here hx (hb hby at_19) #[.val (.int p1), .val (.int p2), .val (.int p3), .val (.long q4), .second, .val (.long q5), .second, .val (.int kd), .val (.int (1 : Int32)), .unset, .unset, .unset, .unset, .unset, .unset, .unset] rfl 21 rfl ?_
    have join : ∀ (vm : Vm) (T : State) (hh : Heap) (z8 : Int32) (tp : Addr) (cs : List Int32), St 1 p l e room_1 s m #[(.int p1), (.int p2), (.int p3), (.long q4), (.long q5)] below meth c "com/example/ambient_wiring/ambientwiring/BeanScopeNamedPinLaw" Z consts_1 vm T hh 2 40 → own_str Z hh tp cs → cs.length = 9 → Goes p.tables e below (Pof 1 Z consts_1 s room_1 (fun v h' => v = some (.int 1))) T (mkF m 33 #[.val (.int p1), .val (.int p2), .val (.int p3), .val (.long q4), .second, .val (.long q5), .second, .val (.int kd), .val (.int z8), .unset, .unset, .unset, .unset, .unset, .unset, .unset] [(.ref tp)]) := by
      intro vm T hh z8 tp cs S0' f_tp l9
      refine g_astore S0'.here hx (hb hby at_33) rfl #[.val (.int p1), .val (.int p2), .val (.int p3), .val (.long q4), .second, .val (.long q5), .second, .val (.int kd), .val (.int z8), .val (.ref tp), .unset, .unset, .unset, .unset, .unset, .unset] rfl 35 rfl ?_
      refine g_iloadN S0'.here hx (hb hby at_35) rfl 36 rfl ?_
      refine g_sipush S0'.here hx (hb hby at_36) (255 : Int32) (by decide) 39 rfl ?_
      refine g_iand S0'.here hx (hb hby at_39) 40 rfl ?_
      refine g_i2c S0'.here hx (hb hby at_40) 41 rfl ?_
      have bd := own_b8 p3
      generalize (p3 &&& (255 : Int32)).toUInt32.toUInt16.toUInt32.toInt32 = d at bd ⊢
      refine g_istore S0'.here hx (hb hby at_41) #[.val (.int p1), .val (.int p2), .val (.int p3), .val (.long q4), .second, .val (.long q5), .second, .val (.int kd), .val (.int z8), .val (.ref tp), .val (.int d), .unset, .unset, .unset, .unset, .unset] rfl 43 rfl ?_
      refine g_iloadN S0'.here hx (hb hby at_43) rfl 44 rfl ?_
      refine S0'.ldcI hx (own_q8 hw) (hb hby at_44) 46 rfl ?_
      refine g_iand S0'.here hx (hb hby at_46) 47 rfl ?_
      refine g_bipush S0'.here hx (hb hby at_47) (9 : Int32) (by decide) 49 rfl ?_
      refine g_irem S0'.here hx (hb hby at_49) (by decide) 50 rfl ?_
      have bp9 := own_r p2 9 (by decide)
      have ep9 : (9 : Int32).toInt = 9 := by decide
      rw [ep9] at bp9
      generalize (p2 &&& (2147483647 : Int32)) % (9 : Int32) = p9 at bp9 ⊢
      refine g_istore S0'.here hx (hb hby at_50) #[.val (.int p1), .val (.int p2), .val (.int p3), .val (.long q4), .second, .val (.long q5), .second, .val (.int kd), .val (.int z8), .val (.ref tp), .val (.int d), .val (.int p9), .unset, .unset, .unset, .unset] rfl 52 rfl ?_
      refine g_iloadN S0'.here hx (hb hby at_52) rfl 53 rfl ?_
      refine S0'.ldcI hx (own_q8 hw) (hb hby at_53) 55 rfl ?_
      refine g_iand S0'.here hx (hb hby at_55) 56 rfl ?_
      refine g_bipush S0'.here hx (hb hby at_56) (10 : Int32) (by decide) 58 rfl ?_
      refine g_irem S0'.here hx (hb hby at_58) (by decide) 59 rfl ?_
      have bp10 := own_r p2 10 (by decide)
      have ep10 : (10 : Int32).toInt = 10 := by decide
      rw [ep10] at bp10
      generalize (p2 &&& (2147483647 : Int32)) % (10 : Int32) = p10 at bp10 ⊢
      refine g_istore S0'.here hx (hb hby at_59) #[.val (.int p1), .val (.int p2), .val (.int p3), .val (.long q4), .second, .val (.long q5), .second, .val (.int kd), .val (.int z8), .val (.ref tp), .val (.int d), .val (.int p9), .val (.int p10), .unset, .unset, .unset] rfl 61 rfl ?_
      have tail : ∀ (vm' : Vm) (T' : State) (h1' : Heap) (a : Addr) (cs : List Int32) (w14 : Slot), One w14 → St 1 p l e room_1 s m #[(.int p1), (.int p2), (.int p3), (.long q4), (.long q5)] below meth c "com/example/ambient_wiring/ambientwiring/BeanScopeNamedPinLaw" Z consts_1 vm' T' h1' 12 200 → own_str Z h1' a cs → Goes p.tables e below (Pof 1 Z consts_1 s room_1 (fun v h' => v = some (.int 1))) T' (mkF m 240 #[.val (.int p1), .val (.int p2), .val (.int p3), .val (.long q4), .second, .val (.long q5), .second, .val (.int kd), .val (.int z8), .val (.ref tp), .val (.int d), .val (.int p9), .val (.int p10), .val (.ref a), w14, .unset] []) := by
        intro vm' T' h1' a cs w14 hw14 S1' f_a
        have G3' := G3
        obtain ⟨v0, n1, n2, kV, -, -, -, -, -, -, -, g8, g9⟩ := G3'
        refine g_aload S1'.here hx (hb hby at_240) rfl rfl 242 rfl ?_
        refine S1'.callS hx (W := 0) (own_q9 hw) (own_q10 hw) (own_q11 hw) (own_q12 hw) (by decide) (ctNm l Z a0 hw a s1 s2 cs h1' S1'.old G G3 f_a) nosf (by decide) (by decide) (by rw [hml]; rfl) [(.ref a)] [] (lenOf own_pd442 rfl) rfl rfl (Nat.le_refl _) (hb hby at_242) (by decide) (by decide) 245 rfl (fun v157 vm157 T157 h157 S157 Q157 R157 => ?_)
        obtain ⟨Q157, E157⟩ := Q157
        have f_a := f_a.ext E157
        rcases Q157 with ⟨e1, rfl⟩ | ⟨e1, e2, rfl⟩ | ⟨e1, e2, rfl⟩
        · show Goes _ _ _ _ T157 (mkF m 245 #[.val (.int p1), .val (.int p2), .val (.int p3), .val (.long q4), .second, .val (.long q5), .second, .val (.int kd), .val (.int z8), .val (.ref tp), .val (.int d), .val (.int p9), .val (.int p10), .val (.ref a), w14, .unset] [(.ref s1)])
          refine g_astore S157.here hx (hb hby at_245) rfl #[.val (.int p1), .val (.int p2), .val (.int p3), .val (.long q4), .second, .val (.long q5), .second, .val (.int kd), .val (.int z8), .val (.ref tp), .val (.int d), .val (.int p9), .val (.int p10), .val (.ref a), .val (.ref s1), .unset] (by rw [XS.store1 (o := w14) rfl hw14 rfl]; rfl) 247 rfl ?_
          refine g_aload S157.here hx (hb hby at_247) rfl rfl 249 rfl ?_
          refine g_ifnonnullT S157.here hx (hb hby at_249) 258 (by decide) (by decide) ?_
          refine g_aload S157.here hx (hb hby at_258) rfl rfl 260 rfl ?_
          refine S157.ldcC hx (by decide) (own_q0 hw) (own_wS hw) (by decide) (vs := (own_ts.map fun c => c.toInt8.toInt32).map Value.int) (z := Int32.ofNat own_ts.length) (by decide +kernel) (by decide +kernel) (by decide +kernel) (hb hby at_260) (n := 36) (by decide +kernel) (by decide) (by decide) (by decide) 262 rfl (fun vm158 T158 h158 t1 b158 k158 S158 E158 R158 q158a q158b q158c q158d N158 => ?_)
          have f_t1 : own_str Z h158 t1 own_ts := ⟨own_ts_lat, by decide +kernel, b158, k158, q158a, q158b, q158c, q158d⟩
          have f_a := f_a.ext E158
          refine own_eq S158 hx hw G (W := 0) (own_q76 hw) f_a f_t1 (by decide) (by decide) (by rw [hml]; rfl) [] (Nat.le_refl _) (hb hby at_262) (by decide) (by decide) 265 rfl (fun T159 z159 S159 Z159 => ?_)
          obtain rfl : z159 = 1 := own_is1 Z159 e1
          refine g_ifF S159.here hx (hb hby at_265) 1 (by decide) (by show ¬ (1 = 0); decide) 268 rfl ?_
          refine S159.getS hx (host := "") (Or.inl (own_q117 hw)) Via.refl (g8.ext S159.old.2) (hb hby at_268) 271 rfl (fun T160 S160 => ?_)
          refine g_astore S160.here hx (hb hby at_271) rfl #[.val (.int p1), .val (.int p2), .val (.int p3), .val (.long q4), .second, .val (.long q5), .second, .val (.int kd), .val (.int z8), .val (.ref tp), .val (.int d), .val (.int p9), .val (.int p10), .val (.ref a), .val (.ref s1), .val (.ref s1)] rfl 273 rfl ?_
          refine g_goto S160.here hx (hb hby at_273) 297 (by decide) (by decide) ?_
          refine g_aload S160.here hx (hb hby at_297) rfl rfl 299 rfl ?_
          refine g_aload S160.here hx (hb hby at_299) rfl rfl 301 rfl ?_
          refine S160.acmp hx (hb hby at_301) rfl rfl true (decide_eq_true rfl) (by decide) 304 (by decide) ?_
          refine g_iconst S160.here hx (hb hby at_304) (1 : Int32) (by decide) 305 rfl ?_
          refine g_goto S160.here hx (hb hby at_305) 309 (by decide) (by decide) ?_
          exact S160.iret hx hlk hret (Or.inr (Or.inl rfl)) rfl (hb hby at_309) rfl (by decide) (by decide)
        · show Goes _ _ _ _ T157 (mkF m 245 #[.val (.int p1), .val (.int p2), .val (.int p3), .val (.long q4), .second, .val (.long q5), .second, .val (.int kd), .val (.int z8), .val (.ref tp), .val (.int d), .val (.int p9), .val (.int p10), .val (.ref a), w14, .unset] [(.ref s2)])
          refine g_astore S157.here hx (hb hby at_245) rfl #[.val (.int p1), .val (.int p2), .val (.int p3), .val (.long q4), .second, .val (.long q5), .second, .val (.int kd), .val (.int z8), .val (.ref tp), .val (.int d), .val (.int p9), .val (.int p10), .val (.ref a), .val (.ref s2), .unset] (by rw [XS.store1 (o := w14) rfl hw14 rfl]; rfl) 247 rfl ?_
          refine g_aload S157.here hx (hb hby at_247) rfl rfl 249 rfl ?_
          refine g_ifnonnullT S157.here hx (hb hby at_249) 258 (by decide) (by decide) ?_
          refine g_aload S157.here hx (hb hby at_258) rfl rfl 260 rfl ?_
          refine S157.ldcC hx (by decide) (own_q0 hw) (own_wS hw) (by decide) (vs := (own_ts.map fun c => c.toInt8.toInt32).map Value.int) (z := Int32.ofNat own_ts.length) (by decide +kernel) (by decide +kernel) (by decide +kernel) (hb hby at_260) (n := 36) (by decide +kernel) (by decide) (by decide) (by decide) 262 rfl (fun vm161 T161 h161 t1 b161 k161 S161 E161 R161 q161a q161b q161c q161d N161 => ?_)
          have f_t1 : own_str Z h161 t1 own_ts := ⟨own_ts_lat, by decide +kernel, b161, k161, q161a, q161b, q161c, q161d⟩
          have f_a := f_a.ext E161
          refine own_eq S161 hx hw G (W := 0) (own_q76 hw) f_a f_t1 (by decide) (by decide) (by rw [hml]; rfl) [] (Nat.le_refl _) (hb hby at_262) (by decide) (by decide) 265 rfl (fun T162 z162 S162 Z162 => ?_)
          obtain rfl : z162 = 0 := own_is0 Z162 e1
          refine g_ifT S162.here hx (hb hby at_265) 0 (by decide) (by show 0 = 0; decide) 276 (by decide) (by decide) ?_
          refine g_aload S162.here hx (hb hby at_276) rfl rfl 278 rfl ?_
          refine S162.ldcC hx (by decide) (own_q37 hw) (own_wS hw) (by decide) (vs := (own_tp.map fun c => c.toInt8.toInt32).map Value.int) (z := Int32.ofNat own_tp.length) (by decide +kernel) (by decide +kernel) (by decide +kernel) (hb hby at_278) (n := 36) (by decide +kernel) (by decide) (by decide) (by decide) 280 rfl (fun vm163 T163 h163 t2 b163 k163 S163 E163 R163 q163a q163b q163c q163d N163 => ?_)
          have f_t2 : own_str Z h163 t2 own_tp := ⟨own_tp_lat, by decide +kernel, b163, k163, q163a, q163b, q163c, q163d⟩
          have f_a := f_a.ext E163
          have f_t1 := f_t1.ext E163
          refine own_eq S163 hx hw G (W := 0) (own_q76 hw) f_a f_t2 (by decide) (by decide) (by rw [hml]; rfl) [] (Nat.le_refl _) (hb hby at_280) (by decide) (by decide) 283 rfl (fun T164 z164 S164 Z164 => ?_)
          obtain rfl : z164 = 1 := own_is1 Z164 e2
          refine g_ifF S164.here hx (hb hby at_283) 1 (by decide) (by show ¬ (1 = 0); decide) 286 rfl ?_
          refine S164.getS hx (host := "") (Or.inl (own_q118 hw)) Via.refl (g9.ext S164.old.2) (hb hby at_286) 289 rfl (fun T165 S165 => ?_)
          refine g_astore S165.here hx (hb hby at_289) rfl #[.val (.int p1), .val (.int p2), .val (.int p3), .val (.long q4), .second, .val (.long q5), .second, .val (.int kd), .val (.int z8), .val (.ref tp), .val (.int d), .val (.int p9), .val (.int p10), .val (.ref a), .val (.ref s2), .val (.ref s2)] rfl 291 rfl ?_
          refine g_goto S165.here hx (hb hby at_291) 297 (by decide) (by decide) ?_
          refine g_aload S165.here hx (hb hby at_297) rfl rfl 299 rfl ?_
          refine g_aload S165.here hx (hb hby at_299) rfl rfl 301 rfl ?_
          refine S165.acmp hx (hb hby at_301) rfl rfl true (decide_eq_true rfl) (by decide) 304 (by decide) ?_
          refine g_iconst S165.here hx (hb hby at_304) (1 : Int32) (by decide) 305 rfl ?_
          refine g_goto S165.here hx (hb hby at_305) 309 (by decide) (by decide) ?_
          exact S165.iret hx hlk hret (Or.inr (Or.inl rfl)) rfl (hb hby at_309) rfl (by decide) (by decide)
        · show Goes _ _ _ _ T157 (mkF m 245 #[.val (.int p1), .val (.int p2), .val (.int p3), .val (.long q4), .second, .val (.long q5), .second, .val (.int kd), .val (.int z8), .val (.ref tp), .val (.int d), .val (.int p9), .val (.int p10), .val (.ref a), w14, .unset] [.null])
          refine g_astore S157.here hx (hb hby at_245) rfl #[.val (.int p1), .val (.int p2), .val (.int p3), .val (.long q4), .second, .val (.long q5), .second, .val (.int kd), .val (.int z8), .val (.ref tp), .val (.int d), .val (.int p9), .val (.int p10), .val (.ref a), .val .null, .unset] (by rw [XS.store1 (o := w14) rfl hw14 rfl]; rfl) 247 rfl ?_
          refine g_aload S157.here hx (hb hby at_247) rfl rfl 249 rfl ?_
          refine g_ifnonnullT S157.here hx (hb hby at_249) 258 (by decide) (by decide) ?_
          refine g_aload S157.here hx (hb hby at_258) rfl rfl 260 rfl ?_
          refine S157.ldcC hx (by decide) (own_q0 hw) (own_wS hw) (by decide) (vs := (own_ts.map fun c => c.toInt8.toInt32).map Value.int) (z := Int32.ofNat own_ts.length) (by decide +kernel) (by decide +kernel) (by decide +kernel) (hb hby at_260) (n := 36) (by decide +kernel) (by decide) (by decide) (by decide) 262 rfl (fun vm166 T166 h166 t1 b166 k166 S166 E166 R166 q166a q166b q166c q166d N166 => ?_)
          have f_t1 : own_str Z h166 t1 own_ts := ⟨own_ts_lat, by decide +kernel, b166, k166, q166a, q166b, q166c, q166d⟩
          have f_a := f_a.ext E166
          refine own_eq S166 hx hw G (W := 0) (own_q76 hw) f_a f_t1 (by decide) (by decide) (by rw [hml]; rfl) [] (Nat.le_refl _) (hb hby at_262) (by decide) (by decide) 265 rfl (fun T167 z167 S167 Z167 => ?_)
          obtain rfl : z167 = 0 := own_is0 Z167 e1
          refine g_ifT S167.here hx (hb hby at_265) 0 (by decide) (by show 0 = 0; decide) 276 (by decide) (by decide) ?_
          refine g_aload S167.here hx (hb hby at_276) rfl rfl 278 rfl ?_
          refine S167.ldcC hx (by decide) (own_q37 hw) (own_wS hw) (by decide) (vs := (own_tp.map fun c => c.toInt8.toInt32).map Value.int) (z := Int32.ofNat own_tp.length) (by decide +kernel) (by decide +kernel) (by decide +kernel) (hb hby at_278) (n := 36) (by decide +kernel) (by decide) (by decide) (by decide) 280 rfl (fun vm168 T168 h168 t2 b168 k168 S168 E168 R168 q168a q168b q168c q168d N168 => ?_)
          have f_t2 : own_str Z h168 t2 own_tp := ⟨own_tp_lat, by decide +kernel, b168, k168, q168a, q168b, q168c, q168d⟩
          have f_a := f_a.ext E168
          have f_t1 := f_t1.ext E168
          refine own_eq S168 hx hw G (W := 0) (own_q76 hw) f_a f_t2 (by decide) (by decide) (by rw [hml]; rfl) [] (Nat.le_refl _) (hb hby at_280) (by decide) (by decide) 283 rfl (fun T169 z169 S169 Z169 => ?_)
          obtain rfl : z169 = 0 := own_is0 Z169 e2
          refine g_ifT S169.here hx (hb hby at_283) 0 (by decide) (by show 0 = 0; decide) 294 (by decide) (by decide) ?_
          refine g_aconst_null S169.here hx (hb hby at_294) 295 rfl ?_
          refine g_astore S169.here hx (hb hby at_295) rfl #[.val (.int p1), .val (.int p2), .val (.int p3), .val (.long q4), .second, .val (.long q5), .second, .val (.int kd), .val (.int z8), .val (.ref tp), .val (.int d), .val (.int p9), .val (.int p10), .val (.ref a), .val .null, .val .null] rfl 297 rfl ?_
          refine g_aload S169.here hx (hb hby at_297) rfl rfl 299 rfl ?_
          refine g_aload S169.here hx (hb hby at_299) rfl rfl 301 rfl ?_
          refine S169.acmp hx (hb hby at_301) rfl rfl true (decide_eq_true rfl) (by decide) 304 (by decide) ?_
          refine g_iconst S169.here hx (hb hby at_304) (1 : Int32) (by decide) 305 rfl ?_
          refine g_goto S169.here hx (hb hby at_305) 309 (by decide) (by decide) ?_
          exact S169.iret hx hlk hret (Or.inr (Or.inl rfl)) rfl (hb hby at_309) rfl (by decide) (by decide)
      refine g_iload S0'.here hx (hb hby at_61) rfl 63 rfl ?_
      refine g_if S0'.here hx (hb hby at_63) kd.toInt rfl 72 66 (by decide) (by decide) rfl (fun (hc63 : ¬ kd.toInt = 0) => ?_) (fun (hc63 : ¬ (¬ kd.toInt = 0)) => ?_)
      · refine g_iload S0'.here hx (hb hby at_72) rfl 74 rfl ?_
        refine g_iconst S0'.here hx (hb hby at_74) (1 : Int32) (by decide) 75 rfl ?_
        refine g_icmp S0'.here hx (hb hby at_75) kd.toInt 1 rfl (by decide) 95 78 (by decide) (by decide) rfl (fun (hc75 : ¬ kd.toInt = 1) => ?_) (fun (hc75 : ¬ (¬ kd.toInt = 1)) => ?_)
        · refine g_iload S0'.here hx (hb hby at_95) rfl 97 rfl ?_
          refine g_iconst S0'.here hx (hb hby at_97) (2 : Int32) (by decide) 98 rfl ?_
          refine g_icmp S0'.here hx (hb hby at_98) kd.toInt 2 rfl (by decide) 129 101 (by decide) (by decide) rfl (fun (hc98 : ¬ kd.toInt = 2) => ?_) (fun (hc98 : ¬ (¬ kd.toInt = 2)) => ?_)
          · refine g_iload S0'.here hx (hb hby at_129) rfl 131 rfl ?_
            refine g_iconst S0'.here hx (hb hby at_131) (3 : Int32) (by decide) 132 rfl ?_
            refine g_icmp S0'.here hx (hb hby at_132) kd.toInt 3 rfl (by decide) 154 135 (by decide) (by decide) rfl (fun (hc132 : ¬ kd.toInt = 3) => ?_) (fun (hc132 : ¬ (¬ kd.toInt = 3)) => ?_)
            · refine g_iload S0'.here hx (hb hby at_154) rfl 156 rfl ?_
              refine g_iconst S0'.here hx (hb hby at_156) (4 : Int32) (by decide) 157 rfl ?_
              refine g_icmp S0'.here hx (hb hby at_157) kd.toInt 4 rfl (by decide) 181 160 (by decide) (by decide) rfl (fun (hc157 : ¬ kd.toInt = 4) => ?_) (fun (hc157 : ¬ (¬ kd.toInt = 4)) => ?_)
              · refine g_iload S0'.here hx (hb hby at_181) rfl 183 rfl ?_
                refine g_iconst S0'.here hx (hb hby at_183) (5 : Int32) (by decide) 184 rfl ?_
                refine g_icmp S0'.here hx (hb hby at_184) kd.toInt 5 rfl (by decide) 205 187 (by decide) (by decide) rfl (fun (hc184 : ¬ kd.toInt = 5) => ?_) (fun (hc184 : ¬ (¬ kd.toInt = 5)) => ?_)
                · refine g_iload S0'.here hx (hb hby at_205) rfl 207 rfl ?_
                  refine g_bipush S0'.here hx (hb hby at_207) (6 : Int32) (by decide) 209 rfl ?_
                  refine g_icmp S0'.here hx (hb hby at_209) kd.toInt 6 rfl (by decide) 227 212 (by decide) (by decide) rfl (fun (hc209 : ¬ kd.toInt = 6) => ?_) (fun (hc209 : ¬ (¬ kd.toInt = 6)) => ?_)
                  · refine S0'.new hx (own_q38 hw) (own_q2 hw) (own_q1 hw) (hb hby at_227) (by decide) (by decide) 230 rfl (fun T170 h170 sn S170 g170 E170 A170 D170 F170 R170 U170 => ?_)
                    have ga170 : Z.heap.size ≤ sn := by rw [g170]; exact S0'.size
                    have f_tp := f_tp.ext E170
                    have rw170 : own_raw Z h170 sn := ⟨A170, ⟨_, D170 (Or.inr (own_q4 hw)) (ty := .array .byte) (by decide)⟩, _, D170 (Or.inr (own_q5 hw)) (ty := .byte) (by decide)⟩
                    refine g_dup S170.here hx (hb hby at_230) rfl 231 rfl ?_
                    refine g_lloadN S170.here hx (hb hby at_231) rfl 232 rfl ?_
                    refine S170.callS hx (W := 2) (own_q39 hw) (own_q40 hw) (own_q41 hw) (own_q42 hw) (by decide) (ct8 l Z a0 hw q4 h170 S170.old) nosf (by decide) (by decide) (by rw [hml]; rfl) [(.long q4)] [(.ref sn), (.ref sn)] (lenOf own_pd443 rfl) rfl rfl (Nat.le_refl _) (hb hby at_232) (by decide) (by decide) 235 rfl (fun v171 vm171 T171 h171 S171 Q171 R171 => ?_)
                    obtain ⟨bb, rfl, Ab, E171, gb⟩ := Q171
                    show Goes _ _ _ _ T171 (mkF m 235 #[.val (.int p1), .val (.int p2), .val (.int p3), .val (.long q4), .second, .val (.long q5), .second, .val (.int kd), .val (.int z8), .val (.ref tp), .val (.int d), .val (.int p9), .val (.int p10), .unset, .unset, .unset] [(.ref bb), (.ref sn), (.ref sn)])
                    have f_tp_b := f_tp
                    have f_tp := f_tp.ext E171
                    have Fx171 := R171.safe rw170.1.lt F170
                    have rx171 := rw170.ext E171
                    have Ex171 := own_ext_trans E170 E171
                    refine own_mkA S171 hx hw G (W := 1) (own_q48 hw) rx171 Ab Fx171 ga170 (by decide) (by decide) (by decide) (by decide) (by rw [hml]; rfl) [(.ref sn)] (Nat.le_refl _) (hb hby at_235) (by decide) (by decide) 238 rfl (fun T172 h172 cn S172 f_sn K172 R172 => ?_)
                    refine g_astore S172.here hx (hb hby at_238) rfl #[.val (.int p1), .val (.int p2), .val (.int p3), .val (.long q4), .second, .val (.long q5), .second, .val (.int kd), .val (.int z8), .val (.ref tp), .val (.int d), .val (.int p9), .val (.int p10), .val (.ref sn), .unset, .unset] rfl 240 rfl ?_
                    exact tail _ _ _ _ _ _ One.u (S172.more (by decide) (by decide)) f_sn
                  · refine S0'.new hx (own_q38 hw) (own_q2 hw) (own_q1 hw) (hb hby at_212) (by decide) (by decide) 215 rfl (fun T173 h173 sn S173 g173 E173 A173 D173 F173 R173 U173 => ?_)
                    have ga173 : Z.heap.size ≤ sn := by rw [g173]; exact S0'.size
                    have r173 : own_raw Z h173 sn := ⟨A173, ⟨_, D173 (Or.inr (own_q4 hw)) (ty := .array .byte) (by decide)⟩, _, D173 (Or.inr (own_q5 hw)) (ty := .byte) (by decide)⟩
                    refine g_dup S173.here hx (hb hby at_215) rfl 216 rfl ?_
                    refine g_iconst S173.here hx (hb hby at_216) (0 : Int32) (by decide) 217 rfl ?_
                    refine S173.newA (aty := .char) hx (own_q43 hw) (n := (0 : Int32)) (by decide) (cap := 0) (by decide) (by decide) (hb hby at_217) (by decide) (by decide) 219 rfl (fun T174 h174 b174 k174 S174 g174 E174 V174 _ R174 => ?_)
                    have F174 := R174.safe r173.1.lt F173
                    have r174 := r173.ext E174
                    have E174 := own_ext_trans E173 E174
                    refine S174.callI hx (W := 1) (a := sn) rfl (own_q48 hw) (own_q49 hw) (own_q50 hw) (by decide) (own_q1 hw) (ctE1 l Z a0 hw sn b174 _ _ _ h174 S174.old r174 ga173 V174) (fun x hx => by cases List.mem_singleton.mp hx; exact ⟨r174.1.lt, F174⟩) (by decide) (by decide) (by rw [hml]; rfl) [(.ref b174)] [(.ref sn)] (lenOf own_pd0 rfl) rfl rfl (Nat.le_refl _) (hb hby at_219) (by decide) (by decide) 222 rfl (fun v175 vm175 T175 h175 S175 Q175 R175 => ?_)
                    obtain ⟨rfl, f_sn, K175⟩ := Q175
                    show Goes _ _ _ _ T175 (mkF m 222 #[.val (.int p1), .val (.int p2), .val (.int p3), .val (.long q4), .second, .val (.long q5), .second, .val (.int kd), .val (.int z8), .val (.ref tp), .val (.int d), .val (.int p9), .val (.int p10), .unset, .unset, .unset] [(.ref sn)])
                    have E175 : Ext hh h175 := own_ext_keep E174 K175 (fun x hx => by cases List.mem_singleton.mp hx; exact Nat.le_of_eq g173.symm)
                    have f_tp := f_tp.ext E175
                    refine g_astore S175.here hx (hb hby at_222) rfl #[.val (.int p1), .val (.int p2), .val (.int p3), .val (.long q4), .second, .val (.long q5), .second, .val (.int kd), .val (.int z8), .val (.ref tp), .val (.int d), .val (.int p9), .val (.int p10), .val (.ref sn), .unset, .unset] rfl 224 rfl ?_
                    refine g_goto S175.here hx (hb hby at_224) 240 (by decide) (by decide) ?_
                    exact tail _ _ _ _ _ _ One.u (S175.more (by decide) (by decide)) f_sn
                · refine S0'.new hx (own_q38 hw) (own_q2 hw) (own_q1 hw) (hb hby at_187) (by decide) (by decide) 190 rfl (fun T176 h176 sn S176 g176 E176 A176 D176 F176 R176 U176 => ?_)
                  have ga176 : Z.heap.size ≤ sn := by rw [g176]; exact S0'.size
                  have f_tp := f_tp.ext E176
                  have rw176 : own_raw Z h176 sn := ⟨A176, ⟨_, D176 (Or.inr (own_q4 hw)) (ty := .array .byte) (by decide)⟩, _, D176 (Or.inr (own_q5 hw)) (ty := .byte) (by decide)⟩
                  refine g_dup S176.here hx (hb hby at_190) rfl 191 rfl ?_
                  refine g_lloadN S176.here hx (hb hby at_191) rfl 192 rfl ?_
                  refine g_lload S176.here hx (hb hby at_192) rfl 194 rfl ?_
                  refine S176.callS hx (W := 2) (own_q77 hw) (own_q78 hw) (own_q41 hw) (own_q79 hw) (by decide) (ct9 l Z a0 hw q4 q5 h176 S176.old) nosf (by decide) (by decide) (by rw [hml]; rfl) [(.long q4), (.long q5)] [(.ref sn), (.ref sn)] (lenOf own_pd444 rfl) rfl rfl (Nat.le_refl _) (hb hby at_194) (by decide) (by decide) 197 rfl (fun v177 vm177 T177 h177 S177 Q177 R177 => ?_)
                  obtain ⟨bb, rfl, Ab, E177, gb⟩ := Q177
                  show Goes _ _ _ _ T177 (mkF m 197 #[.val (.int p1), .val (.int p2), .val (.int p3), .val (.long q4), .second, .val (.long q5), .second, .val (.int kd), .val (.int z8), .val (.ref tp), .val (.int d), .val (.int p9), .val (.int p10), .unset, .unset, .unset] [(.ref bb), (.ref sn), (.ref sn)])
                  have f_tp_b := f_tp
                  have f_tp := f_tp.ext E177
                  have Fx177 := R177.safe rw176.1.lt F176
                  have rx177 := rw176.ext E177
                  have Ex177 := own_ext_trans E176 E177
                  refine own_mkA S177 hx hw G (W := 1) (own_q48 hw) rx177 Ab Fx177 ga176 (by decide) (by decide) (by decide) (by decide) (by rw [hml]; rfl) [(.ref sn)] (Nat.le_refl _) (hb hby at_197) (by decide) (by decide) 200 rfl (fun T178 h178 cn S178 f_sn K178 R178 => ?_)
                  refine g_astore S178.here hx (hb hby at_200) rfl #[.val (.int p1), .val (.int p2), .val (.int p3), .val (.long q4), .second, .val (.long q5), .second, .val (.int kd), .val (.int z8), .val (.ref tp), .val (.int d), .val (.int p9), .val (.int p10), .val (.ref sn), .unset, .unset] rfl 202 rfl ?_
                  refine g_goto S178.here hx (hb hby at_202) 240 (by decide) (by decide) ?_
                  exact tail _ _ _ _ _ _ One.u (S178.more (by decide) (by decide)) f_sn
              · refine S0'.new hx (own_q38 hw) (own_q2 hw) (own_q1 hw) (hb hby at_160) (by decide) (by decide) 163 rfl (fun T179 h179 sn S179 g179 E179 A179 D179 F179 R179 U179 => ?_)
                have ga179 : Z.heap.size ≤ sn := by rw [g179]; exact S0'.size
                have f_tp := f_tp.ext E179
                have rw179 : own_raw Z h179 sn := ⟨A179, ⟨_, D179 (Or.inr (own_q4 hw)) (ty := .array .byte) (by decide)⟩, _, D179 (Or.inr (own_q5 hw)) (ty := .byte) (by decide)⟩
                refine g_dup S179.here hx (hb hby at_163) rfl 164 rfl ?_
                refine g_aload S179.here hx (hb hby at_164) rfl rfl 166 rfl ?_
                refine g_iload S179.here hx (hb hby at_166) rfl 168 rfl ?_
                refine g_iload S179.here hx (hb hby at_168) rfl 170 rfl ?_
                refine S179.callS hx (W := 2) (own_q81 hw) (own_q82 hw) (own_q41 hw) (own_q83 hw) (by decide) (ctI l Z a0 hw tp cs p10 d h179 S179.old G G2 f_tp l9 (by omega) bd) nosf (by decide) (by decide) (by rw [hml]; rfl) [(.ref tp), (.int p10), (.int d)] [(.ref sn), (.ref sn)] (lenOf own_pd445 rfl) rfl rfl (Nat.le_refl _) (hb hby at_170) (by decide) (by decide) 173 rfl (fun v180 vm180 T180 h180 S180 Q180 R180 => ?_)
                obtain ⟨bb, rfl, Ab, E180, gb⟩ := Q180
                show Goes _ _ _ _ T180 (mkF m 173 #[.val (.int p1), .val (.int p2), .val (.int p3), .val (.long q4), .second, .val (.long q5), .second, .val (.int kd), .val (.int z8), .val (.ref tp), .val (.int d), .val (.int p9), .val (.int p10), .unset, .unset, .unset] [(.ref bb), (.ref sn), (.ref sn)])
                have f_tp_b := f_tp
                have f_tp := f_tp.ext E180
                have Fx180 := R180.safe rw179.1.lt F179
                have rx180 := rw179.ext E180
                have Ex180 := own_ext_trans E179 E180
                refine own_mkA S180 hx hw G (W := 1) (own_q48 hw) rx180 Ab Fx180 ga179 (by decide) (by decide) (by decide) (by decide) (by rw [hml]; rfl) [(.ref sn)] (Nat.le_refl _) (hb hby at_173) (by decide) (by decide) 176 rfl (fun T181 h181 cn S181 f_sn K181 R181 => ?_)
                refine g_astore S181.here hx (hb hby at_176) rfl #[.val (.int p1), .val (.int p2), .val (.int p3), .val (.long q4), .second, .val (.long q5), .second, .val (.int kd), .val (.int z8), .val (.ref tp), .val (.int d), .val (.int p9), .val (.int p10), .val (.ref sn), .unset, .unset] rfl 178 rfl ?_
                refine g_goto S181.here hx (hb hby at_178) 240 (by decide) (by decide) ?_
                exact tail _ _ _ _ _ _ One.u (S181.more (by decide) (by decide)) f_sn
            · refine S0'.new hx (own_q38 hw) (own_q2 hw) (own_q1 hw) (hb hby at_135) (by decide) (by decide) 138 rfl (fun T182 h182 sn S182 g182 E182 A182 D182 F182 R182 U182 => ?_)
              have ga182 : Z.heap.size ≤ sn := by rw [g182]; exact S0'.size
              have f_tp := f_tp.ext E182
              have rw182 : own_raw Z h182 sn := ⟨A182, ⟨_, D182 (Or.inr (own_q4 hw)) (ty := .array .byte) (by decide)⟩, _, D182 (Or.inr (own_q5 hw)) (ty := .byte) (by decide)⟩
              refine g_dup S182.here hx (hb hby at_138) rfl 139 rfl ?_
              refine g_aload S182.here hx (hb hby at_139) rfl rfl 141 rfl ?_
              refine g_iload S182.here hx (hb hby at_141) rfl 143 rfl ?_
              refine S182.callS hx (W := 2) (own_q108 hw) (own_q109 hw) (own_q41 hw) (own_q110 hw) (by decide) (ctD l Z a0 hw tp cs p9 h182 S182.old G G2 f_tp l9) nosf (by decide) (by decide) (by rw [hml]; rfl) [(.ref tp), (.int p9)] [(.ref sn), (.ref sn)] (lenOf own_pd446 rfl) rfl rfl (Nat.le_refl _) (hb hby at_143) (by decide) (by decide) 146 rfl (fun v183 vm183 T183 h183 S183 Q183 R183 => ?_)
              obtain ⟨bb, rfl, Ab, E183, gb⟩ := Q183
              show Goes _ _ _ _ T183 (mkF m 146 #[.val (.int p1), .val (.int p2), .val (.int p3), .val (.long q4), .second, .val (.long q5), .second, .val (.int kd), .val (.int z8), .val (.ref tp), .val (.int d), .val (.int p9), .val (.int p10), .unset, .unset, .unset] [(.ref bb), (.ref sn), (.ref sn)])
              have f_tp_b := f_tp
              have f_tp := f_tp.ext E183
              have Fx183 := R183.safe rw182.1.lt F182
              have rx183 := rw182.ext E183
              have Ex183 := own_ext_trans E182 E183
              refine own_mkA S183 hx hw G (W := 1) (own_q48 hw) rx183 Ab Fx183 ga182 (by decide) (by decide) (by decide) (by decide) (by rw [hml]; rfl) [(.ref sn)] (Nat.le_refl _) (hb hby at_146) (by decide) (by decide) 149 rfl (fun T184 h184 cn S184 f_sn K184 R184 => ?_)
              refine g_astore S184.here hx (hb hby at_149) rfl #[.val (.int p1), .val (.int p2), .val (.int p3), .val (.long q4), .second, .val (.long q5), .second, .val (.int kd), .val (.int z8), .val (.ref tp), .val (.int d), .val (.int p9), .val (.int p10), .val (.ref sn), .unset, .unset] rfl 151 rfl ?_
              refine g_goto S184.here hx (hb hby at_151) 240 (by decide) (by decide) ?_
              exact tail _ _ _ _ _ _ One.u (S184.more (by decide) (by decide)) f_sn
          · refine g_aload S0'.here hx (hb hby at_101) rfl rfl 103 rfl ?_
            refine S0'.callS hx (W := 0) (own_q114 hw) (own_q115 hw) (own_q41 hw) (own_q116 hw) (by decide) (ctT l Z a0 hw tp cs hh S0'.old G G2 f_tp l9) nosf (by decide) (by decide) (by rw [hml]; rfl) [(.ref tp)] [] (lenOf own_pd447 rfl) rfl rfl (Nat.le_refl _) (hb hby at_103) (by decide) (by decide) 106 rfl (fun v185 vm185 T185 h185 S185 Q185 R185 => ?_)
            obtain ⟨bb, rfl, Ab, E185, gb⟩ := Q185
            show Goes _ _ _ _ T185 (mkF m 106 #[.val (.int p1), .val (.int p2), .val (.int p3), .val (.long q4), .second, .val (.long q5), .second, .val (.int kd), .val (.int z8), .val (.ref tp), .val (.int d), .val (.int p9), .val (.int p10), .unset, .unset, .unset] [(.ref bb)])
            have f_tp_b := f_tp
            have f_tp := f_tp.ext E185
            refine g_astore S185.here hx (hb hby at_106) rfl #[.val (.int p1), .val (.int p2), .val (.int p3), .val (.long q4), .second, .val (.long q5), .second, .val (.int kd), .val (.int z8), .val (.ref tp), .val (.int d), .val (.int p9), .val (.int p10), .unset, .val (.ref bb), .unset] rfl 108 rfl ?_
            refine g_aload S185.here hx (hb hby at_108) rfl rfl 110 rfl ?_
            refine g_iload S185.here hx (hb hby at_110) rfl 112 rfl ?_
            refine g_iload S185.here hx (hb hby at_112) rfl 114 rfl ?_
            obtain ⟨ka, ca, Va, La, na⟩ := Ab
            have el := own_nat (n := ca.length) (by omega)
            have z0 : (0 : Int32).toInt = 0 := by decide
            refine S185.stC hx Va p9.toInt.toNat ⟨by rw [Int32.lt_iff_toInt_lt]; omega, by rw [Int32.lt_iff_toInt_lt]; omega⟩ (by simp only [Int32.toNatClampNeg]) (by rw [List.length_map]; omega) (Nat.le_trans S0'.size gb) d (own_nar (own_b16 bd)) (hb hby at_114) 115 rfl (fun T186 h186 S186 W186 V186 R186 => ?_)
            have Ab : own_arr Z h186 bb 9 := ⟨ka, ca.set p9.toInt.toNat d, by rw [List.length_set, List.map_set]; exact V186, own_lat_set La bd, by rw [List.length_set]; exact na⟩
            have f_tp := f_tp_b.ext (own_ext_wr E185 W186 gb)
            refine S186.new hx (own_q38 hw) (own_q2 hw) (own_q1 hw) (hb hby at_115) (by decide) (by decide) 118 rfl (fun T187 h187 sn S187 g187 E187 A187 D187 F187 R187 U187 => ?_)
            have ga187 : Z.heap.size ≤ sn := by rw [g187]; exact S186.size
            have f_tp := f_tp.ext E187
            have rw187 : own_raw Z h187 sn := ⟨A187, ⟨_, D187 (Or.inr (own_q4 hw)) (ty := .array .byte) (by decide)⟩, _, D187 (Or.inr (own_q5 hw)) (ty := .byte) (by decide)⟩
            refine g_dup S187.here hx (hb hby at_118) rfl 119 rfl ?_
            refine g_aload S187.here hx (hb hby at_119) rfl rfl 121 rfl ?_
            refine own_mkA S187 hx hw G (W := 1) (own_q48 hw) rw187 (Ab.ext E187) F187 ga187 (by decide) (by decide) (by decide) (by decide) (by rw [hml]; rfl) [(.ref sn)] (Nat.le_refl _) (hb hby at_121) (by decide) (by decide) 124 rfl (fun T188 h188 cn S188 f_sn K188 R188 => ?_)
            refine g_astore S188.here hx (hb hby at_124) rfl #[.val (.int p1), .val (.int p2), .val (.int p3), .val (.long q4), .second, .val (.long q5), .second, .val (.int kd), .val (.int z8), .val (.ref tp), .val (.int d), .val (.int p9), .val (.int p10), .val (.ref sn), .val (.ref bb), .unset] rfl 126 rfl ?_
            refine g_goto S188.here hx (hb hby at_126) 240 (by decide) (by decide) ?_
            exact tail _ _ _ _ _ _ (One.val rfl) (S188.more (by decide) (by decide)) f_sn
        · refine S0'.new hx (own_q38 hw) (own_q2 hw) (own_q1 hw) (hb hby at_78) (by decide) (by decide) 81 rfl (fun T189 h189 sn S189 g189 E189 A189 D189 F189 R189 U189 => ?_)
          have ga189 : Z.heap.size ≤ sn := by rw [g189]; exact S0'.size
          have f_tp := f_tp.ext E189
          have rw189 : own_raw Z h189 sn := ⟨A189, ⟨_, D189 (Or.inr (own_q4 hw)) (ty := .array .byte) (by decide)⟩, _, D189 (Or.inr (own_q5 hw)) (ty := .byte) (by decide)⟩
          refine g_dup S189.here hx (hb hby at_81) rfl 82 rfl ?_
          refine g_aload S189.here hx (hb hby at_82) rfl rfl 84 rfl ?_
          refine S189.callS hx (W := 2) (own_q114 hw) (own_q115 hw) (own_q41 hw) (own_q116 hw) (by decide) (ctT l Z a0 hw tp cs h189 S189.old G G2 f_tp l9) nosf (by decide) (by decide) (by rw [hml]; rfl) [(.ref tp)] [(.ref sn), (.ref sn)] (lenOf own_pd447 rfl) rfl rfl (Nat.le_refl _) (hb hby at_84) (by decide) (by decide) 87 rfl (fun v190 vm190 T190 h190 S190 Q190 R190 => ?_)
          obtain ⟨bb, rfl, Ab, E190, gb⟩ := Q190
          show Goes _ _ _ _ T190 (mkF m 87 #[.val (.int p1), .val (.int p2), .val (.int p3), .val (.long q4), .second, .val (.long q5), .second, .val (.int kd), .val (.int z8), .val (.ref tp), .val (.int d), .val (.int p9), .val (.int p10), .unset, .unset, .unset] [(.ref bb), (.ref sn), (.ref sn)])
          have f_tp_b := f_tp
          have f_tp := f_tp.ext E190
          have Fx190 := R190.safe rw189.1.lt F189
          have rx190 := rw189.ext E190
          have Ex190 := own_ext_trans E189 E190
          refine own_mkA S190 hx hw G (W := 1) (own_q48 hw) rx190 Ab Fx190 ga189 (by decide) (by decide) (by decide) (by decide) (by rw [hml]; rfl) [(.ref sn)] (Nat.le_refl _) (hb hby at_87) (by decide) (by decide) 90 rfl (fun T191 h191 cn S191 f_sn K191 R191 => ?_)
          refine g_astore S191.here hx (hb hby at_90) rfl #[.val (.int p1), .val (.int p2), .val (.int p3), .val (.long q4), .second, .val (.long q5), .second, .val (.int kd), .val (.int z8), .val (.ref tp), .val (.int d), .val (.int p9), .val (.int p10), .val (.ref sn), .unset, .unset] rfl 92 rfl ?_
          refine g_goto S191.here hx (hb hby at_92) 240 (by decide) (by decide) ?_
          exact tail _ _ _ _ _ _ One.u (S191.more (by decide) (by decide)) f_sn
      · refine g_aconst_null S0'.here hx (hb hby at_66) 67 rfl ?_
        refine g_astore S0'.here hx (hb hby at_67) rfl #[.val (.int p1), .val (.int p2), .val (.int p3), .val (.long q4), .second, .val (.long q5), .second, .val (.int kd), .val (.int z8), .val (.ref tp), .val (.int d), .val (.int p9), .val (.int p10), .val .null, .unset, .unset] rfl 69 rfl ?_
        refine g_goto S0'.here hx (hb hby at_69) 240 (by decide) (by decide) ?_
        refine g_aload S0'.here hx (hb hby at_240) rfl rfl 242 rfl ?_
        refine S0'.callS hx (W := 0) (own_q9 hw) (own_q10 hw) (own_q11 hw) (own_q12 hw) (by decide) (ctNn l Z a0 hw s1 s2 hh S0'.old G3) nosf (by decide) (by decide) (by rw [hml]; rfl) [.null] [] (lenOf own_pd442 rfl) rfl rfl (Nat.le_refl _) (hb hby at_242) (by decide) (by decide) 245 rfl (fun v192 vm192 T192 h192 S192 Q192 R192 => ?_)
        obtain ⟨rfl, E192⟩ := Q192
        show Goes _ _ _ _ T192 (mkF m 245 #[.val (.int p1), .val (.int p2), .val (.int p3), .val (.long q4), .second, .val (.long q5), .second, .val (.int kd), .val (.int z8), .val (.ref tp), .val (.int d), .val (.int p9), .val (.int p10), .val .null, .unset, .unset] [.null])
        refine g_astore S192.here hx (hb hby at_245) rfl #[.val (.int p1), .val (.int p2), .val (.int p3), .val (.long q4), .second, .val (.long q5), .second, .val (.int kd), .val (.int z8), .val (.ref tp), .val (.int d), .val (.int p9), .val (.int p10), .val .null, .val .null, .unset] rfl 247 rfl ?_
        refine g_aload S192.here hx (hb hby at_247) rfl rfl 249 rfl ?_
        refine g_ifnonnullF S192.here hx (hb hby at_249) 252 rfl ?_
        refine g_aconst_null S192.here hx (hb hby at_252) 253 rfl ?_
        refine g_astore S192.here hx (hb hby at_253) rfl #[.val (.int p1), .val (.int p2), .val (.int p3), .val (.long q4), .second, .val (.long q5), .second, .val (.int kd), .val (.int z8), .val (.ref tp), .val (.int d), .val (.int p9), .val (.int p10), .val .null, .val .null, .val .null] rfl 255 rfl ?_
        refine g_goto S192.here hx (hb hby at_255) 297 (by decide) (by decide) ?_
        refine g_aload S192.here hx (hb hby at_297) rfl rfl 299 rfl ?_
        refine g_aload S192.here hx (hb hby at_299) rfl rfl 301 rfl ?_
        refine S192.acmp hx (hb hby at_301) rfl rfl true (decide_eq_true rfl) (by decide) 304 (by decide) ?_
        refine g_iconst S192.here hx (hb hby at_304) (1 : Int32) (by decide) 305 rfl ?_
        refine g_goto S192.here hx (hb hby at_305) 309 (by decide) (by decide) ?_
        exact S192.iret hx hlk hret (Or.inr (Or.inl rfl)) rfl (hb hby at_309) rfl (by decide) (by decide)
    refine g_iload S0.here hx (hb hby at_21) rfl 23 rfl ?_
    refine g_ifF S0.here hx (hb hby at_23) 1 (by decide) (by show ¬ (1 = 0); decide) 26 rfl ?_
    refine S0.ldcC hx (by decide) (own_q37 hw) (own_wS hw) (by decide) (vs := (own_tp.map fun c => c.toInt8.toInt32).map Value.int) (z := Int32.ofNat own_tp.length) (by decide +kernel) (by decide +kernel) (by decide +kernel) (hb hby at_26) (n := 36) (by decide +kernel) (by decide) (by decide) (by decide) 28 rfl (fun vm193 T193 h193 tp b193 k193 S193 E193 R193 q193a q193b q193c q193d N193 => ?_)
    have f_tp : own_str Z h193 tp own_tp := ⟨own_tp_lat, by decide +kernel, b193, k193, q193a, q193b, q193c, q193d⟩
    refine g_goto S193.here hx (hb hby at_28) 33 (by decide) (by decide) ?_
    exact join _ _ _ _ _ _ S193 f_tp (by decide)
theorem own_lenw {args : Array Value} {s : State} {t : Term} {a : Addr} {c : Cell} {ty : FieldType} {z : Int32} (ev : t.eval args s none [] s = some (.ref a)) (A : Arr s s.heap a c ty) (h : (Jvm.Cond.eq (Term.length t) (Term.int z)).value args s none s [] = some true) : c.slots.size < 2 ^ 31 ∧ c.slots.size.toInt32 = z := by
  have ha := A.fin (Vm.Alike.refl _)
  by_cases hl : c.slots.size < 2 ^ 31
  · exact ⟨hl, gotT (Cond.eq_ints (len_f ev ha hl) (Term.int_eval z)) h⟩
  · exfalso
    obtain ⟨x, y, q1, -, -⟩ := cmp_v (Or.inl h)
    simp [Term.eval, ev, ha, hl] at q1
theorem own_elemw {args : Array Value} {s : State} {t u : Term} {a : Addr} {c : Cell} {ty : FieldType} {j : Int32} {v : Value} (ev : t.eval args s none [] s = some (.ref a)) (A : Arr s s.heap a c ty) (eu : u.eval args s none [] s = some v) {i : Nat} (hi : j.toNatClampNeg = i) (h : (Jvm.Cond.eq (Term.elem t (Term.int j)) u).value args s none s [] = some true) : c.slots[i]? = some v := by
  subst hi
  obtain ⟨x, y, q1, q2, k1, k2⟩ := cmp_v (Or.inl h)
  cases eu.symm.trans q2
  obtain ⟨-, q3⟩ := elem_in q1 ev (Term.int_eval j) A.1
  rw [q3]
  simp only [Cond.value, q1, q2] at h
  cases x <;> cases v <;> simp [Kin, Value.isRef] at k1 k2 h ⊢ <;> exact h
theorem own_coder {args : Array Value} {s : State} {t : Term} {a : Addr} {z : Int32} (ev : t.eval args s none [] s = some (.ref a)) (h : (Jvm.Cond.eq (Term.field t "java/lang/String" "coder" "B") (Term.int z)).value args s none s [] = some true) : Fld s s.heap a "java/lang/String" "coder" "B" (.int z) := by
  obtain ⟨x, y, q1, q2, k1, k2⟩ := cmp_v (Or.inl h)
  cases (Term.int_eval z).symm.trans q2
  simp only [Cond.value, q1, Term.int_eval] at h
  obtain ⟨w, rfl⟩ : ∃ w, x = .int w := by cases x <;> simp [Kin, Value.isRef] at k2 ⊢
  simp at h; subst h
  exact Fld.start ((fld_at ev).symm.trans q1)
set_option maxRecDepth 65536 in
set_option maxHeartbeats 40000000 in
theorem comes_1 {Post : Tables → Env → Array Value → State → Outcome → State → Prop} (hpost : ∀ tb e args s v u, (limb_1_1.after args s (.returned v) u = true ∧ limb_1_2.after args s (.returned v) u = true ∧ True) → ReturnedEndW s (.returned v) u (Jvm.fieldLocs frame_1_writes args s ++ Jvm.arrayLocs frame_1_arrays args s ++ Jvm.staticLocs frame_1_statics s) 24 3200 → Post tb e args s (.returned v) u) :
    ArmFor flags0 classFile x code maxLocals ret World_1 tables_1 room_1 Calls_1 rest_1 Pre_1 Post := by
  intro l hfl _ _ p e ha hc hk s m args below hf hA hF happ hP
  obtain ⟨hcalls, hrest, hpre⟩ := hP
  obtain ⟨-, -, -, hnamed, -, -, -, hat⟩ := (Spec.applies_iff hf).mp happ
  obtain ⟨hg, hn⟩ := and_e (Cond.before_iff.mp (show (Jvm.Cond.and given_1 narrow_1).before args s = true from hpre))
  obtain ⟨gc, gr⟩ := and_e hg
  obtain ⟨g0, gr0⟩ := and_e gr
  obtain ⟨g1, gr1⟩ := and_e gr0
  obtain ⟨g2, gr2⟩ := and_e gr1
  obtain ⟨g3, gr3⟩ := and_e gr2
  have g4 := gr3
  obtain ⟨w0, w1, w2, w3, w4, rfl⟩ : ∃ w0 w1 w2 w3 w4 : Value, args = #[w0, w1, w2, w3, w4] := by
    have hs : args.size = 5 := by simpa [Cond.value, given_1] using gc
    obtain ⟨L⟩ := args
    match L, hs with
    | [w0, w1, w2, w3, w4], _ => exact ⟨w0, w1, w2, w3, w4, rfl⟩
  have hw := fun d (hd : d ∈ tables_1) => atoms_spec (ws := Jvm.Cond.code x code maxLocals ret :: tables_1) hat d (List.mem_cons_of_mem _ hd)
  have hfit : Fit s := fun {y c} hc i hi => by
    obtain ⟨ha, rfl⟩ := Array.getElem?_eq_some_iff.mp hc
    have q := List.all_eq_true.mp ((Array.all_eq_true_iff_forall_mem.mp hF) _ (Array.getElem_mem ha)) i (List.mem_range.mpr hi)
    simpa [Array.getElem?_eq_getElem hi] using q
  obtain ⟨i0, e0⟩ := is_v g0
  obtain rfl : w0 = (.int i0) := Option.some.inj e0
  obtain ⟨i1, e1⟩ := is_v g1
  obtain rfl : w1 = (.int i1) := Option.some.inj e1
  obtain ⟨i2, e2⟩ := is_v g2
  obtain rfl : w2 = (.int i2) := Option.some.inj e2
  obtain ⟨i3, e3⟩ := isL_v g3
  obtain rfl : w3 = (.long i3) := Option.some.inj e3
  obtain ⟨i4, e4⟩ := isL_v g4
  obtain rfl : w4 = (.long i4) := Option.some.inj e4
  obtain ⟨hsets, hown0⟩ := atoms_of _ (rest_1_c_eq ▸ (show rest_1_c.before _ s = true from hrest))
  have n5 := not_v (Cond.before_iff.mp (hsets _ (List.mem_of_getElem? (i := 2) rfl)))
  obtain ⟨z, ez⟩ := is_v (Cond.before_iff.mp (hsets _ (List.mem_of_getElem? (i := 1) rfl)))
  have G : own_cs s := ⟨z, Sta.start ez (Or.inl (hsets _ (List.mem_of_getElem? (i := 0) rfl))), gotF (Cond.eq_ints ez (Term.int_eval (0))) n5⟩
  obtain ⟨fm, ef, rf⟩ := isR_v (Cond.before_iff.mp (hsets _ (List.mem_of_getElem? (i := 8) rfl)))
  have G2 : own_sf s := ⟨fm, Sta.start ef (Or.inl (hsets _ (List.mem_of_getElem? (i := 7) rfl))), rf⟩
  obtain ⟨n0, nr0⟩ := and_e hn
  obtain ⟨n1, nr1⟩ := and_e nr0
  obtain ⟨n2, nr2⟩ := and_e nr1
  obtain ⟨n3, nr3⟩ := and_e nr2
  obtain ⟨n4, nr4⟩ := and_e nr3
  obtain ⟨n5, nr5⟩ := and_e nr4
  obtain ⟨n6, nr6⟩ := and_e nr5
  obtain ⟨n7, nr7⟩ := and_e nr6
  obtain ⟨n8, nr8⟩ := and_e nr7
  obtain ⟨n9, nr9⟩ := and_e nr8
  obtain ⟨n10, nr10⟩ := and_e nr9
  obtain ⟨n11, nr11⟩ := and_e nr10
  obtain ⟨n12, nr12⟩ := and_e nr11
  obtain ⟨n13, nr13⟩ := and_e nr12
  obtain ⟨n14, nr14⟩ := and_e nr13
  obtain ⟨n15, nr15⟩ := and_e nr14
  obtain ⟨n16, nr16⟩ := and_e nr15
  obtain ⟨n17, nr17⟩ := and_e nr16
  obtain ⟨n18, nr18⟩ := and_e nr17
  obtain ⟨n19, nr19⟩ := and_e nr18
  obtain ⟨n20, nr20⟩ := and_e nr19
  obtain ⟨n21, nr21⟩ := and_e nr20
  obtain ⟨n22, nr22⟩ := and_e nr21
  obtain ⟨n23, nr23⟩ := and_e nr22
  obtain ⟨n24, nr24⟩ := and_e nr23
  obtain ⟨n25, nr25⟩ := and_e nr24
  obtain ⟨n26, nr26⟩ := and_e nr25
  obtain ⟨n27, nr27⟩ := and_e nr26
  obtain ⟨n28, nr28⟩ := and_e nr27
  obtain ⟨n29, nr29⟩ := and_e nr28
  obtain ⟨n30, nr30⟩ := and_e nr29
  obtain ⟨n31, nr31⟩ := and_e nr30
  have n32 := nr31
  obtain ⟨v0, ev⟩ := exa_v n1
  obtain ⟨cv, Av⟩ := Arr.start ev n0
  obtain ⟨s1, e1⟩ := exa_v n3
  obtain ⟨s2, e2⟩ := exa_v n5
  obtain ⟨zv, Lv⟩ := own_lenw ev Av n2
  have w0 := own_elemw ev Av e1 rfl n4
  have w1 := own_elemw ev Av e2 rfl n6
  have VA : Arv s s.heap v0 cv.cls (.object "com/example/ambient_wiring/ambientwiring/BeanScope") (2 : Int32) [.ref s1, .ref s2] .null := Arv.start hfit Av zv Lv (by decide) rfl ⟨w0, w1, trivial⟩
  obtain ⟨m1, f1⟩ := exa_v n7
  have F1 := Fld.start ((fld_at e1).symm.trans f1)
  have X1 := Exa.start f1 n7
  have C1 := own_coder f1 n9
  obtain ⟨t1, h1v⟩ := arr_v n10
  obtain ⟨ct1, At1⟩ := Arr.start h1v n10
  have V1 := Fld.start ((fld_at f1).symm.trans h1v)
  obtain ⟨zt1, Lt1⟩ := own_lenw h1v At1 n11
  have W1 : Arv s s.heap t1 ct1.cls .byte (Int32.ofNat own_ts.length) ((own_ts.map fun c => c.toInt8.toInt32).map Value.int) (.int 0) := Arv.start hfit At1 zt1 Lt1 (by decide) (by decide) ⟨own_elemw h1v At1 (Term.int_eval _) rfl n15, own_elemw h1v At1 (Term.int_eval _) rfl n16, own_elemw h1v At1 (Term.int_eval _) rfl n17, own_elemw h1v At1 (Term.int_eval _) rfl n18, own_elemw h1v At1 (Term.int_eval _) rfl n19, own_elemw h1v At1 (Term.int_eval _) rfl n20, own_elemw h1v At1 (Term.int_eval _) rfl n21, own_elemw h1v At1 (Term.int_eval _) rfl n22, own_elemw h1v At1 (Term.int_eval _) rfl n23, trivial⟩
  have N1 : own_str s s.heap m1 own_ts := ⟨own_ts_lat, by decide, t1, _, X1, C1, V1, W1⟩
  obtain ⟨m2, f2⟩ := exa_v n8
  have F2 := Fld.start ((fld_at e2).symm.trans f2)
  have X2 := Exa.start f2 n8
  have C2 := own_coder f2 n12
  obtain ⟨t2, h2v⟩ := arr_v n13
  obtain ⟨ct2, At2⟩ := Arr.start h2v n13
  have V2 := Fld.start ((fld_at f2).symm.trans h2v)
  obtain ⟨zt2, Lt2⟩ := own_lenw h2v At2 n14
  have W2 : Arv s s.heap t2 ct2.cls .byte (Int32.ofNat own_tp.length) ((own_tp.map fun c => c.toInt8.toInt32).map Value.int) (.int 0) := Arv.start hfit At2 zt2 Lt2 (by decide) (by decide) ⟨own_elemw h2v At2 (Term.int_eval _) rfl n24, own_elemw h2v At2 (Term.int_eval _) rfl n25, own_elemw h2v At2 (Term.int_eval _) rfl n26, own_elemw h2v At2 (Term.int_eval _) rfl n27, own_elemw h2v At2 (Term.int_eval _) rfl n28, own_elemw h2v At2 (Term.int_eval _) rfl n29, own_elemw h2v At2 (Term.int_eval _) rfl n30, own_elemw h2v At2 (Term.int_eval _) rfl n31, own_elemw h2v At2 (Term.int_eval _) rfl n32, trivial⟩
  have N2 : own_str s s.heap m2 own_tp := ⟨own_tp_lat, by decide, t2, _, X2, C2, V2, W2⟩
  have G3 : own_en s s1 s2 := ⟨v0, m1, m2, cv.cls, Sta.start ev (Or.inr ⟨(own_q11 hw), (own_q17 hw)⟩), VA, Exa.start ev n1, F1, F2, N1, N2, Sta.start e1 (Or.inr ⟨(own_q11 hw), (own_q25 hw)⟩), Sta.start e2 (Or.inr ⟨(own_q11 hw), (own_q26 hw)⟩)⟩
  have hC := CHv.start (own_ew hw) (fun q hq => hcalls.1 q hq) (hsets _ (List.mem_of_getElem? (i := 2) rfl)) (own_wS hw _ (by simp [Bundle.stringAtoms])) (own_wS hw _ (by simp [Bundle.stringAtoms, Bundle.sN]))
  obtain ⟨n, o, h1, h2, h3, v, L, rfl, ⟨rfl, N, -⟩, -, hq⟩ := ct0 l s _ hw i0 i1 i2 i3 i4 s1 s2 s.heap (Old.start s) G G2 G3 tables_1 p e ha hc hk s m _ below hf ((Spec.applies_iff_loose hf).mp happ).1 ⟨rfl, State.Warmed39.refl s, rfl, hC, fun _ q => nomatch q⟩ (fun q => by cases q)
  have hq := hq.2 (by decide)
  refine ⟨n, _, h1, h2, h3, hpost _ _ _ _ _ _ ⟨Cond.after_iff.mpr rfl, Cond.after_iff.mpr (eq_i res_at (Term.int_eval (1)) rfl), trivial⟩ ⟨hq.1, hq.2.1, hq.2.2.1, (hq.2.2.2.sift fun y hy => Or.inr (N y hy)).mono (by decide) (by decide)⟩⟩
theorem main_1_1 : Claimed_1_1 := comes_1 fun _ _ _ _ _ _ h hF => ⟨h.1, hF⟩
theorem main_1_2 : Claimed_1_2 := comes_1 fun _ _ _ _ _ _ h hF => ⟨h.2.1, hF⟩
end Jvm.Pilot.@@N@@
namespace Jvm.Pilot.@@N@@
open Jvm Jvm.ClassFile Sem Op Lib Jvm.Free Jvm.Stand Jvm.Pilot.@@N@@.Jvm.D
/-! MADE BY PROGRAM (witnessworld.py) out of the Statement's table words and the real class files: 22 classes; the members and pool entries that the words name. The judged class is class 1, her method 1. -/
namespace start1
open Jvm.ClassFile
def u (s : String) : CpInfo := .utf8 (stringToUtf16 s)
/-- a pool by its gaps: so many unusable entries, then the entry; so many at the end -/
def gap : Nat → List CpInfo → List CpInfo
  | 0, r => r
  | n + 1, r => .unusable :: gap n r
def poolList (es : List (Nat × CpInfo)) (last : Nat) : List CpInfo := es.foldr (fun e r => gap e.1 (e.2 :: r)) (gap last [])
def pool (es : List (Nat × CpInfo)) (last : Nat) : Array CpInfo := ⟨poolList es last⟩
def fileOf (pool : Array CpInfo) (this : Nat) (attrs : Array Attribute := #[]) (ms : Array MethodInfo := #[]) (fl : Nat := 33) (sup : Nat := 0) (ifs : Array Nat := #[]) (fds : Array FieldInfo := #[]) : ClassFile where
  minorVersion := 0
  majorVersion := 65
  constantPool := pool
  accessFlags := fl
  thisClass := this
  superClass := sup
  interfaces := ifs
  fields := fds
  methods := ms
  attributes := attrs
def plain (name : String) (sup : Option ClassId) : Class where
  name := name
  kind := .ordinary
  loader := none
  accessFlags := 33
  super := sup
  interfaces := #[]
  cf := none
  fields := #[]
  methods := #[]
  instanceTypes := #[]
  staticTypes := #[]
  resolved := #[]
  callSites := []
  init := .initialized
  statics := none
  mirror := none

def pool0 : Array CpInfo := pool [(5, u "<init>"), (0, u "()V"), (1, .class_ 10), (1, u "java/lang/Object"), (85, u "clone"), (0, u "()Ljava/lang/Object;")] 26

def k0c0 : Code := { maxStack := 0, maxLocals := 1, code := object_method_1_code, exceptionTable := #[], attributes := #[] }
def k0m0 : Method := { name := "<init>", desc := "()V", sig := { parameters := [], returnType := none }, accessFlags := 1, code := some k0c0 }
def k0m1 : Method := { name := "clone", desc := "()Ljava/lang/Object;", sig := { parameters := [], returnType := some (.object "java/lang/Object") }, accessFlags := 260, code := none }
/-- java/lang/Object -/
def k0 : Class := { plain "java/lang/Object" none with
  accessFlags := 33
  interfaces := #[]
  cf := some (fileOf pool0 8 #[] #[{ accessFlags := 1, nameIndex := 5, descriptorIndex := 6, attributes := #[] }, { accessFlags := 260, nameIndex := 96, descriptorIndex := 97, attributes := #[] }] 33 0 #[] #[])
  fields := #[]
  methods := #[k0m0, k0m1]
  instanceTypes := #[]
  staticTypes := #[]
  resolved := Array.replicate 124 none
  statics := none }

def pool1 : Array CpInfo := pool [(2, .class_ 4), (1, u "java/lang/Object"), (0, u "<init>"), (0, u "()V"), (0, .string 8), (0, u "prototype"), (0, .string 10), (0, u "singleton"), (0, .integer 2147483647), (0, .class_ 13), (0, u "java/lang/String"), (0, .methodref 15 16), (0, .class_ 17), (0, .nameAndType 18 19), (0, u "com/example/ambient_wiring/ambientwiring/BeanScopeNamedPinLaw"), (0, u "template"), (0, u "(Ljava/lang/String;)[C"), (0, .methodref 12 21), (0, .nameAndType 5 22), (0, u "([C)V"), (0, .methodref 15 24), (0, .nameAndType 25 26), (0, u "drop"), (0, u "(Ljava/lang/String;I)[C"), (0, .methodref 15 28), (0, .nameAndType 29 30), (0, u "insert"), (0, u "(Ljava/lang/String;IC)[C"), (0, .methodref 15 32), (0, .nameAndType 33 34), (0, u "drawn9"), (0, u "(JJ)[C"), (0, .methodref 15 36), (0, .nameAndType 37 38), (0, u "drawn8"), (0, u "(J)[C"), (0, .methodref 40 41), (0, .class_ 42), (0, .nameAndType 43 44), (0, u "com/example/ambient_wiring/ambientwiring/BeanScope"), (0, u "named"), (0, u "(Ljava/lang/String;)Lcom/example/ambient_wiring/ambientwiring/BeanScope;"), (0, .methodref 12 46), (0, .nameAndType 47 48), (0, u "equals"), (0, u "(Ljava/lang/Object;)Z"), (0, .fieldref 40 50), (0, .nameAndType 51 52), (0, u "SINGLETON"), (0, u "Lcom/example/ambient_wiring/ambientwiring/BeanScope;"), (0, .fieldref 40 54), (0, .nameAndType 55 52), (0, u "PROTOTYPE"), (0, .methodref 12 57), (0, .nameAndType 58 59), (0, u "charAt"), (0, u "(I)C"), (0, .methodref 15 61), (0, .nameAndType 62 63), (0, u "dropAt"), (0, u "(Ljava/lang/String;II)C"), (0, .methodref 15 65), (0, .nameAndType 66 67), (0, u "insAt"), (0, u "(Ljava/lang/String;IIC)C"), (0, .long 255), (1, .methodref 15 71), (0, .nameAndType 72 73), (0, u "byteOf"), (0, u "(JI)C"), (2, u "law"), (0, u "(IIIJJ)Z")] 3

def k1m0 : Method := { name := "<init>", desc := "()V", sig := { parameters := [], returnType := none }, accessFlags := 1, code := none }
def k1c1 : Code := { maxStack := 6, maxLocals := 16, code := code, exceptionTable := #[], attributes := #[] }
def k1m1 : Method := { name := "law", desc := "(IIIJJ)Z", sig := { parameters := [.int, .int, .int, .long, .long], returnType := some .boolean }, accessFlags := 9, code := some k1c1 }
def k1c2 : Code := { maxStack := 4, maxLocals := 2, code := method_3_code, exceptionTable := #[], attributes := #[] }
def k1m2 : Method := { name := "template", desc := "(Ljava/lang/String;)[C", sig := { parameters := [(.object "java/lang/String")], returnType := some (.array .char) }, accessFlags := 10, code := some k1c2 }
def k1c3 : Code := { maxStack := 3, maxLocals := 3, code := method_4_code, exceptionTable := #[], attributes := #[] }
def k1m3 : Method := { name := "dropAt", desc := "(Ljava/lang/String;II)C", sig := { parameters := [(.object "java/lang/String"), .int, .int], returnType := some .char }, accessFlags := 10, code := some k1c3 }
def k1c4 : Code := { maxStack := 5, maxLocals := 3, code := method_5_code, exceptionTable := #[], attributes := #[] }
def k1m4 : Method := { name := "drop", desc := "(Ljava/lang/String;I)[C", sig := { parameters := [(.object "java/lang/String"), .int], returnType := some (.array .char) }, accessFlags := 10, code := some k1c4 }
def k1c5 : Code := { maxStack := 3, maxLocals := 4, code := method_6_code, exceptionTable := #[], attributes := #[] }
def k1m5 : Method := { name := "insAt", desc := "(Ljava/lang/String;IIC)C", sig := { parameters := [(.object "java/lang/String"), .int, .int, .char], returnType := some .char }, accessFlags := 10, code := some k1c5 }
def k1c6 : Code := { maxStack := 6, maxLocals := 4, code := method_7_code, exceptionTable := #[], attributes := #[] }
def k1m6 : Method := { name := "insert", desc := "(Ljava/lang/String;IC)[C", sig := { parameters := [(.object "java/lang/String"), .int, .char], returnType := some (.array .char) }, accessFlags := 10, code := some k1c6 }
def k1c7 : Code := { maxStack := 4, maxLocals := 3, code := method_8_code, exceptionTable := #[], attributes := #[] }
def k1m7 : Method := { name := "byteOf", desc := "(JI)C", sig := { parameters := [.long, .int], returnType := some .char }, accessFlags := 10, code := some k1c7 }
def k1c8 : Code := { maxStack := 5, maxLocals := 3, code := method_9_code, exceptionTable := #[], attributes := #[] }
def k1m8 : Method := { name := "drawn8", desc := "(J)[C", sig := { parameters := [.long], returnType := some (.array .char) }, accessFlags := 10, code := some k1c8 }
def k1c9 : Code := { maxStack := 5, maxLocals := 5, code := method_10_code, exceptionTable := #[], attributes := #[] }
def k1m9 : Method := { name := "drawn9", desc := "(JJ)[C", sig := { parameters := [.long, .long], returnType := some (.array .char) }, accessFlags := 10, code := some k1c9 }
/-- com/example/ambient_wiring/ambientwiring/BeanScopeNamedPinLaw -/
def k1 : Class := { plain "com/example/ambient_wiring/ambientwiring/BeanScopeNamedPinLaw" (some 0) with
  accessFlags := 49
  interfaces := #[]
  cf := some (fileOf pool1 15 #[] #[{ accessFlags := 1, nameIndex := 5, descriptorIndex := 6, attributes := #[] }, { accessFlags := 9, nameIndex := 76, descriptorIndex := 77, attributes := #[] }, { accessFlags := 10, nameIndex := 18, descriptorIndex := 19, attributes := #[] }, { accessFlags := 10, nameIndex := 62, descriptorIndex := 63, attributes := #[] }, { accessFlags := 10, nameIndex := 25, descriptorIndex := 26, attributes := #[] }, { accessFlags := 10, nameIndex := 66, descriptorIndex := 67, attributes := #[] }, { accessFlags := 10, nameIndex := 29, descriptorIndex := 30, attributes := #[] }, { accessFlags := 10, nameIndex := 72, descriptorIndex := 73, attributes := #[] }, { accessFlags := 10, nameIndex := 37, descriptorIndex := 38, attributes := #[] }, { accessFlags := 10, nameIndex := 33, descriptorIndex := 34, attributes := #[] }] 49 2 #[] #[])
  fields := #[]
  methods := #[k1m0, k1m1, k1m2, k1m3, k1m4, k1m5, k1m6, k1m7, k1m8, k1m9]
  instanceTypes := #[]
  staticTypes := #[]
  resolved := Array.replicate 81 none
  statics := none }

def pool2 : Array CpInfo := pool [(1, .class_ 2), (0, u "java/io/Serializable"), (0, .class_ 4), (0, u "java/lang/Object")] 2

/-- java/io/Serializable -/
def k2 : Class := { plain "java/io/Serializable" (some 0) with
  accessFlags := 1537
  interfaces := #[]
  cf := some (fileOf pool2 1 #[] #[] 1537 3 #[] #[])
  fields := #[]
  methods := #[]
  instanceTypes := #[]
  staticTypes := #[]
  resolved := Array.replicate 7 none
  statics := none }

def pool3 : Array CpInfo := pool [(1, .class_ 2), (0, u "java/lang/Comparable"), (0, .class_ 4), (0, u "java/lang/Object")] 7

/-- java/lang/Comparable -/
def k3 : Class := { plain "java/lang/Comparable" (some 0) with
  accessFlags := 1537
  interfaces := #[]
  cf := some (fileOf pool3 1 #[] #[] 1537 3 #[] #[])
  fields := #[]
  methods := #[]
  instanceTypes := #[]
  staticTypes := #[]
  resolved := Array.replicate 12 none
  statics := none }

def pool4 : Array CpInfo := pool [(2, .class_ 4), (1, u "java/lang/CharSequence"), (42, .class_ 48), (0, u "java/lang/CharSequence$1CodePointIterator"), (10, .class_ 60), (0, u "java/lang/CharSequence$1CharIterator"), (5, .class_ 67), (0, u "java/lang/Object")] 63

/-- java/lang/CharSequence -/
def k4 : Class := { plain "java/lang/CharSequence" (some 0) with
  accessFlags := 1537
  interfaces := #[]
  cf := some (fileOf pool4 2 #[.nestMembers #[47, 59]] #[] 1537 66 #[] #[])
  fields := #[]
  methods := #[]
  instanceTypes := #[]
  staticTypes := #[]
  resolved := Array.replicate 131 none
  statics := none }

def pool5 : Array CpInfo := pool [(1, .class_ 2), (0, u "java/lang/constant/Constable"), (0, .class_ 4), (0, u "java/lang/Object")] 6

/-- java/lang/constant/Constable -/
def k5 : Class := { plain "java/lang/constant/Constable" (some 0) with
  accessFlags := 1537
  interfaces := #[]
  cf := some (fileOf pool5 1 #[] #[] 1537 3 #[] #[])
  fields := #[]
  methods := #[]
  instanceTypes := #[]
  staticTypes := #[]
  resolved := Array.replicate 11 none
  statics := none }

def pool6 : Array CpInfo := pool [(1, .class_ 2), (0, u "java/lang/constant/ConstantDesc"), (0, .class_ 4), (0, u "java/lang/Object")] 32

/-- java/lang/constant/ConstantDesc -/
def k6 : Class := { plain "java/lang/constant/ConstantDesc" (some 0) with
  accessFlags := 1537
  interfaces := #[]
  cf := some (fileOf pool6 1 #[] #[] 1537 3 #[] #[])
  fields := #[]
  methods := #[]
  instanceTypes := #[]
  staticTypes := #[]
  resolved := Array.replicate 37 none
  statics := none }

def pool7 : Array CpInfo := pool [(1, .methodref 2 3), (0, .class_ 4), (0, .nameAndType 5 6), (0, u "java/lang/Object"), (0, u "<init>"), (0, u "()V"), (0, .string 8), (0, u ""), (0, .fieldref 10 11), (0, .class_ 12), (0, .nameAndType 13 14), (0, u "java/lang/String"), (0, u "value"), (0, u "[B"), (0, .fieldref 10 16), (0, .nameAndType 17 18), (0, u "coder"), (0, u "B"), (2, u "hash"), (0, u "I"), (2, u "hashIsZero"), (0, u "Z"), (0, .methodref 10 28), (0, .nameAndType 5 29), (0, u "([CIILjava/lang/Void;)V"), (8, .fieldref 10 39), (0, .nameAndType 40 26), (0, u "COMPACT_STRINGS"), (1, .class_ 44), (1, u "java/lang/StringUTF16"), (0, u "compress"), (1, .methodref 42 48), (0, .nameAndType 49 50), (0, u "coderFromArrayLen"), (0, u "([BI)B"), (56, .class_ 109), (1, u "java/lang/StringLatin1"), (32, u "()Z"), (34, .methodref 42 178), (0, .nameAndType 45 179), (0, u "([CII)[B"), (183, u "([BI)C"), (27, u "(II)V"), (35, u "(I)C"), (64, .methodref 10 493), (0, .nameAndType 494 142), (0, u "isLatin1"), (0, .methodref 107 496), (0, .nameAndType 497 363), (0, u "charAt"), (3, u "checkIndex"), (39, .methodref 107 542), (0, .nameAndType 543 544), (0, u "equals"), (0, u "([B[B)Z"), (28, u "(Ljava/lang/Object;)Z"), (1, .class_ 576), (0, u "java/lang/CharSequence"), (22, u "CASE_INSENSITIVE_ORDER"), (0, u "Ljava/util/Comparator;"), (409, u "([C)V"), (42, .fieldref 1054 1055), (0, .class_ 1056), (0, .nameAndType 1057 1058), (0, u "jdk/internal/util/Preconditions"), (0, u "SIOOBE_FORMATTER"), (0, u "Ljava/util/function/BiFunction;"), (0, .methodref 1054 1060), (0, .nameAndType 501 1061), (0, u "(IILjava/util/function/BiFunction;)I"), (39, u "serialPersistentFields"), (0, u "[Ljava/io/ObjectStreamField;"), (0, .class_ 1104), (0, u "java/lang/String$CaseInsensitiveComparator"), (1, .class_ 1107), (0, u "java/io/Serializable"), (0, .class_ 1109), (0, u "java/lang/Comparable"), (0, .class_ 1111), (0, u "java/lang/constant/Constable"), (0, .class_ 1113), (0, u "java/lang/constant/ConstantDesc"), (2, u "serialVersionUID"), (0, u "J"), (3, u "REPL"), (0, u "C"), (2, u "LATIN1"), (1, u "UTF16")] 323

def k7m0 : Method := { name := "<init>", desc := "()V", sig := { parameters := [], returnType := none }, accessFlags := 1, code := none }
def k7c1 : Code := { maxStack := 5, maxLocals := 2, code := jdk_42_method_3_code, exceptionTable := #[], attributes := #[] }
def k7m1 : Method := { name := "<init>", desc := "([C)V", sig := { parameters := [(.array .char)], returnType := none }, accessFlags := 1, code := some k7c1 }
def k7c2 : Code := { maxStack := 2, maxLocals := 2, code := jdk_42_method_56_code, exceptionTable := #[], attributes := #[] }
def k7m2 : Method := { name := "charAt", desc := "(I)C", sig := { parameters := [.int], returnType := some .char }, accessFlags := 1, code := some k7c2 }
def k7c3 : Code := { maxStack := 2, maxLocals := 3, code := jdk_42_method_66_code, exceptionTable := #[], attributes := #[] }
def k7m3 : Method := { name := "equals", desc := "(Ljava/lang/Object;)Z", sig := { parameters := [(.object "java/lang/Object")], returnType := some .boolean }, accessFlags := 1, code := some k7c3 }
def k7c4 : Code := { maxStack := 4, maxLocals := 6, code := jdk_42_method_149_code, exceptionTable := #[], attributes := #[] }
def k7m4 : Method := { name := "<init>", desc := "([CIILjava/lang/Void;)V", sig := { parameters := [(.array .char), .int, .int, (.object "java/lang/Void")], returnType := none }, accessFlags := 2, code := some k7c4 }
def k7c5 : Code := { maxStack := 1, maxLocals := 1, code := jdk_42_method_154_code, exceptionTable := #[], attributes := #[] }
def k7m5 : Method := { name := "isLatin1", desc := "()Z", sig := { parameters := [], returnType := some .boolean }, accessFlags := 0, code := some k7c5 }
def k7c6 : Code := { maxStack := 3, maxLocals := 2, code := jdk_42_method_155_code, exceptionTable := #[], attributes := #[] }
def k7m6 : Method := { name := "checkIndex", desc := "(II)V", sig := { parameters := [.int, .int], returnType := none }, accessFlags := 8, code := some k7c6 }
/-- java/lang/String -/
def k7 : Class := { plain "java/lang/String" (some 0) with
  accessFlags := 49
  interfaces := #[2, 3, 4, 5, 6]
  cf := some (fileOf pool7 10 #[.nestMembers #[1103]] #[{ accessFlags := 1, nameIndex := 5, descriptorIndex := 6, attributes := #[] }, { accessFlags := 1, nameIndex := 5, descriptorIndex := 1010, attributes := #[] }, { accessFlags := 1, nameIndex := 497, descriptorIndex := 427, attributes := #[] }, { accessFlags := 1, nameIndex := 543, descriptorIndex := 573, attributes := #[] }, { accessFlags := 2, nameIndex := 5, descriptorIndex := 29, attributes := #[] }, { accessFlags := 0, nameIndex := 494, descriptorIndex := 142, attributes := #[] }, { accessFlags := 8, nameIndex := 501, descriptorIndex := 391, attributes := #[] }] 49 2 #[1106, 1108, 575, 1110, 1112] #[{ accessFlags := 18, nameIndex := 13, descriptorIndex := 14, attributes := #[] }, { accessFlags := 18, nameIndex := 17, descriptorIndex := 18, attributes := #[] }, { accessFlags := 2, nameIndex := 21, descriptorIndex := 22, attributes := #[] }, { accessFlags := 2, nameIndex := 25, descriptorIndex := 26, attributes := #[] }, { accessFlags := 26, nameIndex := 1116, descriptorIndex := 1117, attributes := #[] }, { accessFlags := 24, nameIndex := 40, descriptorIndex := 26, attributes := #[] }, { accessFlags := 26, nameIndex := 1101, descriptorIndex := 1102, attributes := #[] }, { accessFlags := 26, nameIndex := 1121, descriptorIndex := 1122, attributes := #[] }, { accessFlags := 25, nameIndex := 599, descriptorIndex := 600, attributes := #[] }, { accessFlags := 24, nameIndex := 1125, descriptorIndex := 18, attributes := #[] }, { accessFlags := 24, nameIndex := 1127, descriptorIndex := 18, attributes := #[] }])
  fields := #[{ name := "value", type := (.array .byte), accessFlags := 18, slot := 0, constantValue := 0 }, { name := "coder", type := .byte, accessFlags := 18, slot := 1, constantValue := 0 }, { name := "hash", type := .int, accessFlags := 2, slot := 2, constantValue := 0 }, { name := "hashIsZero", type := .boolean, accessFlags := 2, slot := 3, constantValue := 0 }, { name := "serialVersionUID", type := .long, accessFlags := 26, slot := 0, constantValue := 0 }, { name := "COMPACT_STRINGS", type := .boolean, accessFlags := 24, slot := 1, constantValue := 0 }, { name := "serialPersistentFields", type := (.array (.object "java/io/ObjectStreamField")), accessFlags := 26, slot := 2, constantValue := 0 }, { name := "REPL", type := .char, accessFlags := 26, slot := 3, constantValue := 0 }, { name := "CASE_INSENSITIVE_ORDER", type := (.object "java/util/Comparator"), accessFlags := 25, slot := 4, constantValue := 0 }, { name := "LATIN1", type := .byte, accessFlags := 24, slot := 5, constantValue := 0 }, { name := "UTF16", type := .byte, accessFlags := 24, slot := 6, constantValue := 0 }]
  methods := #[k7m0, k7m1, k7m2, k7m3, k7m4, k7m5, k7m6]
  instanceTypes := #[(.array .byte), .byte, .int, .boolean]
  staticTypes := #[.long, .boolean, (.array (.object "java/io/ObjectStreamField")), .char, (.object "java/util/Comparator"), .byte, .byte]
  resolved := Array.replicate 1451 none
  statics := some 0 }

def pool8 : Array CpInfo := pool [(2, .class_ 4), (1, u "java/lang/Enum"), (0, u "name"), (0, u "Ljava/lang/String;"), (2, u "ordinal"), (0, u "I"), (1, .class_ 14), (1, u "java/lang/Object"), (4, u "hash"), (86, .class_ 108), (1, u "java/lang/Enum$EnumDesc"), (2, .class_ 112), (0, u "java/lang/constant/Constable"), (0, .class_ 114), (0, u "java/lang/Comparable"), (0, .class_ 116), (0, u "java/io/Serializable")] 87

/-- java/lang/Enum -/
def k8 : Class := { plain "java/lang/Enum" (some 0) with
  accessFlags := 1057
  interfaces := #[5, 3, 2]
  cf := some (fileOf pool8 2 #[.nestMembers #[106]] #[] 1057 12 #[111, 113, 115] #[{ accessFlags := 18, nameIndex := 5, descriptorIndex := 6, attributes := #[] }, { accessFlags := 18, nameIndex := 9, descriptorIndex := 10, attributes := #[] }, { accessFlags := 2, nameIndex := 19, descriptorIndex := 10, attributes := #[] }])
  fields := #[{ name := "name", type := (.object "java/lang/String"), accessFlags := 18, slot := 0, constantValue := 0 }, { name := "ordinal", type := .int, accessFlags := 18, slot := 1, constantValue := 0 }, { name := "hash", type := .int, accessFlags := 2, slot := 2, constantValue := 0 }]
  methods := #[]
  instanceTypes := #[(.object "java/lang/String"), .int, .int]
  staticTypes := #[]
  resolved := Array.replicate 204 none
  statics := none }

def pool9 : Array CpInfo := pool [(1, .class_ 2), (0, u "com/example/ambient_wiring/ambientwiring/BeanScope"), (2, u "SINGLETON"), (0, u "Lcom/example/ambient_wiring/ambientwiring/BeanScope;"), (2, u "PROTOTYPE"), (0, .fieldref 1 11), (0, .nameAndType 12 13), (0, u "$VALUES"), (0, u "[Lcom/example/ambient_wiring/ambientwiring/BeanScope;"), (0, .methodref 15 16), (0, .class_ 13), (0, .nameAndType 17 18), (0, u "clone"), (0, u "()Ljava/lang/Object;"), (1, .class_ 22), (1, u "java/lang/Enum"), (6, .fieldref 1 30), (0, .nameAndType 31 32), (0, u "name"), (0, u "Ljava/lang/String;"), (0, .methodref 1 34), (0, .nameAndType 35 36), (0, u "values"), (0, u "()[Lcom/example/ambient_wiring/ambientwiring/BeanScope;"), (0, .methodref 38 39), (0, .class_ 40), (0, .nameAndType 41 42), (0, u "java/lang/String"), (0, u "equals"), (0, u "(Ljava/lang/Object;)Z"), (20, u "(Ljava/lang/String;)Lcom/example/ambient_wiring/ambientwiring/BeanScope;"), (3, u "named")] 22

def k9c0 : Code := { maxStack := 1, maxLocals := 0, code := prog_4_method_1_code, exceptionTable := #[], attributes := #[] }
def k9m0 : Method := { name := "values", desc := "()[Lcom/example/ambient_wiring/ambientwiring/BeanScope;", sig := { parameters := [], returnType := some (.array (.object "com/example/ambient_wiring/ambientwiring/BeanScope")) }, accessFlags := 9, code := some k9c0 }
def k9c1 : Code := { maxStack := 2, maxLocals := 5, code := prog_4_method_4_code, exceptionTable := #[], attributes := #[] }
def k9m1 : Method := { name := "named", desc := "(Ljava/lang/String;)Lcom/example/ambient_wiring/ambientwiring/BeanScope;", sig := { parameters := [(.object "java/lang/String")], returnType := some (.object "com/example/ambient_wiring/ambientwiring/BeanScope") }, accessFlags := 8, code := some k9c1 }
/-- com/example/ambient_wiring/ambientwiring/BeanScope -/
def k9 : Class := { plain "com/example/ambient_wiring/ambientwiring/BeanScope" (some 8) with
  accessFlags := 16432
  interfaces := #[]
  cf := some (fileOf pool9 1 #[] #[{ accessFlags := 9, nameIndex := 35, descriptorIndex := 36, attributes := #[] }, { accessFlags := 8, nameIndex := 67, descriptorIndex := 63, attributes := #[] }] 16432 20 #[] #[{ accessFlags := 16409, nameIndex := 5, descriptorIndex := 6, attributes := #[] }, { accessFlags := 16409, nameIndex := 9, descriptorIndex := 6, attributes := #[] }, { accessFlags := 18, nameIndex := 31, descriptorIndex := 32, attributes := #[] }, { accessFlags := 4122, nameIndex := 12, descriptorIndex := 13, attributes := #[] }])
  fields := #[{ name := "SINGLETON", type := (.object "com/example/ambient_wiring/ambientwiring/BeanScope"), accessFlags := 16409, slot := 0, constantValue := 0 }, { name := "PROTOTYPE", type := (.object "com/example/ambient_wiring/ambientwiring/BeanScope"), accessFlags := 16409, slot := 1, constantValue := 0 }, { name := "name", type := (.object "java/lang/String"), accessFlags := 18, slot := 3, constantValue := 0 }, { name := "$VALUES", type := (.array (.object "com/example/ambient_wiring/ambientwiring/BeanScope")), accessFlags := 4122, slot := 2, constantValue := 0 }]
  methods := #[k9m0, k9m1]
  instanceTypes := #[(.object "java/lang/String"), .int, .int, (.object "java/lang/String")]
  staticTypes := #[(.object "com/example/ambient_wiring/ambientwiring/BeanScope"), (.object "com/example/ambient_wiring/ambientwiring/BeanScope"), (.array (.object "com/example/ambient_wiring/ambientwiring/BeanScope"))]
  resolved := Array.replicate 90 none
  statics := some 1 }

def pool10 : Array CpInfo := pool [(1, .class_ 2), (0, u "java/lang/Cloneable"), (0, .class_ 4), (0, u "java/lang/Object")] 2

/-- java/lang/Cloneable -/
def k10 : Class := { plain "java/lang/Cloneable" (some 0) with
  accessFlags := 1537
  interfaces := #[]
  cf := some (fileOf pool10 1 #[] #[] 1537 3 #[] #[])
  fields := #[]
  methods := #[]
  instanceTypes := #[]
  staticTypes := #[]
  resolved := Array.replicate 7 none
  statics := none }

def pool11 : Array CpInfo := pool [(6, .class_ 8), (1, u "java/lang/Object"), (0, u "<init>"), (0, u "()V"), (1, .class_ 14), (1, u "java/lang/StringUTF16"), (31, u "$assertionsDisabled"), (0, u "Z"), (13, u "HI_BYTE_SHIFT"), (0, u "I"), (2, u "LO_BYTE_SHIFT"), (49, .methodref 12 116), (0, .nameAndType 117 118), (0, u "compress"), (0, u "([CI[BII)I"), (3, u "([CII)[B"), (138, u "coderFromArrayLen"), (0, u "([BI)B"), (106, .class_ 371), (1, u "java/lang/StringUTF16$LinesSpliterator"), (58, u "MAX_LENGTH"), (196, .class_ 628), (0, u "java/lang/StringUTF16$CodePointsSpliterator"), (0, .class_ 630), (0, u "java/lang/StringUTF16$CharsSpliterator")] 4

def k11m0 : Method := { name := "<init>", desc := "()V", sig := { parameters := [], returnType := none }, accessFlags := 0, code := none }
def k11c1 : Code := { maxStack := 2, maxLocals := 2, code := jdk_52_method_15_code, exceptionTable := #[], attributes := #[] }
def k11m1 : Method := { name := "coderFromArrayLen", desc := "([BI)B", sig := { parameters := [(.array .byte), .int], returnType := some .byte }, accessFlags := 8, code := some k11c1 }
def k11c2 : Code := { maxStack := 5, maxLocals := 6, code := jdk_52_method_16_code, exceptionTable := #[], attributes := #[] }
def k11m2 : Method := { name := "compress", desc := "([CII)[B", sig := { parameters := [(.array .char), .int, .int], returnType := some (.array .byte) }, accessFlags := 9, code := some k11c2 }
def k11c3 : Code := { maxStack := 3, maxLocals := 7, code := jdk_52_method_21_code, exceptionTable := #[], attributes := #[] }
def k11m3 : Method := { name := "compress", desc := "([CI[BII)I", sig := { parameters := [(.array .char), .int, (.array .byte), .int, .int], returnType := some .int }, accessFlags := 9, code := some k11c3 }
/-- java/lang/StringUTF16 -/
def k11 : Class := { plain "java/lang/StringUTF16" (some 0) with
  accessFlags := 48
  interfaces := #[]
  cf := some (fileOf pool11 12 #[.nestMembers #[627, 629, 369]] #[{ accessFlags := 0, nameIndex := 9, descriptorIndex := 10, attributes := #[] }, { accessFlags := 8, nameIndex := 261, descriptorIndex := 262, attributes := #[] }, { accessFlags := 9, nameIndex := 117, descriptorIndex := 122, attributes := #[] }, { accessFlags := 9, nameIndex := 117, descriptorIndex := 118, attributes := #[] }] 48 6 #[] #[{ accessFlags := 26, nameIndex := 61, descriptorIndex := 62, attributes := #[] }, { accessFlags := 26, nameIndex := 65, descriptorIndex := 62, attributes := #[] }, { accessFlags := 24, nameIndex := 430, descriptorIndex := 62, attributes := #[] }, { accessFlags := 4120, nameIndex := 46, descriptorIndex := 47, attributes := #[] }])
  fields := #[{ name := "HI_BYTE_SHIFT", type := .int, accessFlags := 26, slot := 0, constantValue := 0 }, { name := "LO_BYTE_SHIFT", type := .int, accessFlags := 26, slot := 1, constantValue := 0 }, { name := "MAX_LENGTH", type := .int, accessFlags := 24, slot := 2, constantValue := 0 }, { name := "$assertionsDisabled", type := .boolean, accessFlags := 4120, slot := 3, constantValue := 0 }]
  methods := #[k11m0, k11m1, k11m2, k11m3]
  instanceTypes := #[]
  staticTypes := #[.int, .int, .int, .boolean]
  resolved := Array.replicate 635 none
  statics := none }

def pool12 : Array CpInfo := pool [(1, .class_ 2), (0, u "java/lang/String"), (1, .class_ 6), (1, u "java/lang/Object"), (0, u "<init>"), (0, u "()V"), (0, .methodref 1 10), (0, .nameAndType 11 12), (0, u "checkIndex"), (0, u "(II)V"), (1, .class_ 16), (1, u "java/lang/StringLatin1"), (36, u "([BI)C"), (67, u "$assertionsDisabled"), (0, u "Z"), (98, .class_ 223), (1, u "java/lang/StringLatin1$LinesSpliterator"), (28, u "charAt"), (28, u "equals"), (0, u "([B[B)Z"), (107, .class_ 391), (0, u "java/lang/StringLatin1$CharsSpliterator")] 3

def k12m0 : Method := { name := "<init>", desc := "()V", sig := { parameters := [], returnType := none }, accessFlags := 0, code := none }
def k12c1 : Code := { maxStack := 2, maxLocals := 2, code := jdk_43_method_2_code, exceptionTable := #[], attributes := #[] }
def k12m1 : Method := { name := "charAt", desc := "([BI)C", sig := { parameters := [(.array .byte), .int], returnType := some .char }, accessFlags := 9, code := some k12c1 }
def k12c2 : Code := { maxStack := 3, maxLocals := 3, code := jdk_43_method_13_code, exceptionTable := #[], attributes := #[] }
def k12m2 : Method := { name := "equals", desc := "([B[B)Z", sig := { parameters := [(.array .byte), (.array .byte)], returnType := some .boolean }, accessFlags := 9, code := some k12c2 }
/-- java/lang/StringLatin1 -/
def k12 : Class := { plain "java/lang/StringLatin1" (some 0) with
  accessFlags := 48
  interfaces := #[]
  cf := some (fileOf pool12 14 #[.nestMembers #[390, 221]] #[{ accessFlags := 0, nameIndex := 7, descriptorIndex := 8, attributes := #[] }, { accessFlags := 9, nameIndex := 252, descriptorIndex := 53, attributes := #[] }, { accessFlags := 9, nameIndex := 281, descriptorIndex := 282, attributes := #[] }] 48 4 #[] #[{ accessFlags := 4120, nameIndex := 121, descriptorIndex := 122, attributes := #[] }])
  fields := #[{ name := "$assertionsDisabled", type := .boolean, accessFlags := 4120, slot := 0, constantValue := 0 }]
  methods := #[k12m0, k12m1, k12m2]
  instanceTypes := #[]
  staticTypes := #[.boolean]
  resolved := Array.replicate 395 none
  statics := none }

def pool13 : Array CpInfo := pool [(2, .class_ 4), (1, u "java/lang/Object"), (0, u "<init>"), (0, u "()V"), (17, .class_ 26), (1, u "jdk/internal/util/Preconditions"), (6, u "checkIndex"), (21, .class_ 56), (0, u "jdk/internal/util/Preconditions$4"), (57, .class_ 115), (0, u "jdk/internal/util/Preconditions$1"), (7, u "SIOOBE_FORMATTER"), (0, u "Ljava/util/function/BiFunction;"), (0, .class_ 126), (0, u "jdk/internal/util/Preconditions$2"), (3, u "AIOOBE_FORMATTER"), (0, .class_ 132), (0, u "jdk/internal/util/Preconditions$3"), (3, u "IOOBE_FORMATTER"), (41, u "(IILjava/util/function/BiFunction;)I")] 15

def k13m0 : Method := { name := "<init>", desc := "()V", sig := { parameters := [], returnType := none }, accessFlags := 1, code := none }
def k13c1 : Code := { maxStack := 3, maxLocals := 3, code := jdk_41_method_11_code, exceptionTable := #[], attributes := #[] }
def k13m1 : Method := { name := "checkIndex", desc := "(IILjava/util/function/BiFunction;)I", sig := { parameters := [.int, .int, (.object "java/util/function/BiFunction")], returnType := some .int }, accessFlags := 9, code := some k13c1 }
/-- jdk/internal/util/Preconditions -/
def k13 : Class := { plain "jdk/internal/util/Preconditions" (some 0) with
  accessFlags := 33
  interfaces := #[]
  cf := some (fileOf pool13 24 #[.nestMembers #[55, 131, 125, 114]] #[{ accessFlags := 1, nameIndex := 5, descriptorIndex := 6, attributes := #[] }, { accessFlags := 9, nameIndex := 33, descriptorIndex := 178, attributes := #[] }] 33 2 #[] #[{ accessFlags := 25, nameIndex := 123, descriptorIndex := 124, attributes := #[] }, { accessFlags := 25, nameIndex := 130, descriptorIndex := 124, attributes := #[] }, { accessFlags := 25, nameIndex := 136, descriptorIndex := 124, attributes := #[] }])
  fields := #[{ name := "SIOOBE_FORMATTER", type := (.object "java/util/function/BiFunction"), accessFlags := 25, slot := 0, constantValue := 0 }, { name := "AIOOBE_FORMATTER", type := (.object "java/util/function/BiFunction"), accessFlags := 25, slot := 1, constantValue := 0 }, { name := "IOOBE_FORMATTER", type := (.object "java/util/function/BiFunction"), accessFlags := 25, slot := 2, constantValue := 0 }]
  methods := #[k13m0, k13m1]
  instanceTypes := #[]
  staticTypes := #[(.object "java/util/function/BiFunction"), (.object "java/util/function/BiFunction"), (.object "java/util/function/BiFunction")]
  resolved := Array.replicate 194 none
  statics := some 2 }

def pool14 : Array CpInfo := pool [(9, u "<init>"), (6, .class_ 18), (1, u "java/lang/Object"), (0, u "()V"), (1, .class_ 23), (1, u "jdk/internal/util/ArraysSupport"), (0, u "LOG2_ARRAY_LONG_INDEX_SCALE"), (0, u "I"), (2, u "U"), (0, u "Ljdk/internal/misc/Unsafe;"), (8, u "BIG_ENDIAN"), (0, u "Z"), (8, u "LOG2_BYTE_BIT_SIZE"), (4, u "LOG2_ARRAY_INT_INDEX_SCALE"), (54, u "JLA"), (0, u "Ljdk/internal/access/JavaLangAccess;"), (11, u "LOG2_ARRAY_BOOLEAN_INDEX_SCALE"), (9, u "LOG2_ARRAY_BYTE_INDEX_SCALE"), (5, u "LOG2_ARRAY_CHAR_INDEX_SCALE"), (5, u "LOG2_ARRAY_SHORT_INDEX_SCALE"), (18, u "LOG2_ARRAY_FLOAT_INDEX_SCALE"), (24, u "LOG2_ARRAY_DOUBLE_INDEX_SCALE"), (89, u "T_BOOLEAN"), (2, u "T_CHAR"), (1, u "T_FLOAT"), (1, u "T_DOUBLE"), (1, u "T_BYTE"), (1, u "T_SHORT"), (1, u "T_INT"), (1, u "T_LONG"), (1, u "SOFT_MAX_ARRAY_LENGTH")] 83

def k14m0 : Method := { name := "<init>", desc := "()V", sig := { parameters := [], returnType := none }, accessFlags := 2, code := none }
/-- jdk/internal/util/ArraysSupport -/
def k14 : Class := { plain "jdk/internal/util/ArraysSupport" (some 0) with
  accessFlags := 33
  interfaces := #[]
  cf := some (fileOf pool14 21 #[] #[{ accessFlags := 2, nameIndex := 9, descriptorIndex := 19, attributes := #[] }] 33 16 #[] #[{ accessFlags := 24, nameIndex := 28, descriptorIndex := 29, attributes := #[] }, { accessFlags := 26, nameIndex := 38, descriptorIndex := 39, attributes := #[] }, { accessFlags := 25, nameIndex := 121, descriptorIndex := 25, attributes := #[] }, { accessFlags := 25, nameIndex := 131, descriptorIndex := 25, attributes := #[] }, { accessFlags := 25, nameIndex := 137, descriptorIndex := 25, attributes := #[] }, { accessFlags := 25, nameIndex := 143, descriptorIndex := 25, attributes := #[] }, { accessFlags := 25, nameIndex := 53, descriptorIndex := 25, attributes := #[] }, { accessFlags := 25, nameIndex := 24, descriptorIndex := 25, attributes := #[] }, { accessFlags := 25, nameIndex := 162, descriptorIndex := 25, attributes := #[] }, { accessFlags := 25, nameIndex := 187, descriptorIndex := 25, attributes := #[] }, { accessFlags := 26, nameIndex := 48, descriptorIndex := 25, attributes := #[] }, { accessFlags := 25, nameIndex := 277, descriptorIndex := 25, attributes := #[] }, { accessFlags := 25, nameIndex := 280, descriptorIndex := 25, attributes := #[] }, { accessFlags := 25, nameIndex := 282, descriptorIndex := 25, attributes := #[] }, { accessFlags := 25, nameIndex := 284, descriptorIndex := 25, attributes := #[] }, { accessFlags := 25, nameIndex := 286, descriptorIndex := 25, attributes := #[] }, { accessFlags := 25, nameIndex := 288, descriptorIndex := 25, attributes := #[] }, { accessFlags := 25, nameIndex := 290, descriptorIndex := 25, attributes := #[] }, { accessFlags := 25, nameIndex := 292, descriptorIndex := 25, attributes := #[] }, { accessFlags := 26, nameIndex := 108, descriptorIndex := 109, attributes := #[] }, { accessFlags := 25, nameIndex := 294, descriptorIndex := 25, attributes := #[] }])
  fields := #[{ name := "U", type := (.object "jdk/internal/misc/Unsafe"), accessFlags := 24, slot := 0, constantValue := 0 }, { name := "BIG_ENDIAN", type := .boolean, accessFlags := 26, slot := 1, constantValue := 0 }, { name := "LOG2_ARRAY_BOOLEAN_INDEX_SCALE", type := .int, accessFlags := 25, slot := 2, constantValue := 0 }, { name := "LOG2_ARRAY_BYTE_INDEX_SCALE", type := .int, accessFlags := 25, slot := 3, constantValue := 0 }, { name := "LOG2_ARRAY_CHAR_INDEX_SCALE", type := .int, accessFlags := 25, slot := 4, constantValue := 0 }, { name := "LOG2_ARRAY_SHORT_INDEX_SCALE", type := .int, accessFlags := 25, slot := 5, constantValue := 0 }, { name := "LOG2_ARRAY_INT_INDEX_SCALE", type := .int, accessFlags := 25, slot := 6, constantValue := 0 }, { name := "LOG2_ARRAY_LONG_INDEX_SCALE", type := .int, accessFlags := 25, slot := 7, constantValue := 0 }, { name := "LOG2_ARRAY_FLOAT_INDEX_SCALE", type := .int, accessFlags := 25, slot := 8, constantValue := 0 }, { name := "LOG2_ARRAY_DOUBLE_INDEX_SCALE", type := .int, accessFlags := 25, slot := 9, constantValue := 0 }, { name := "LOG2_BYTE_BIT_SIZE", type := .int, accessFlags := 26, slot := 10, constantValue := 0 }, { name := "T_BOOLEAN", type := .int, accessFlags := 25, slot := 11, constantValue := 0 }, { name := "T_CHAR", type := .int, accessFlags := 25, slot := 12, constantValue := 0 }, { name := "T_FLOAT", type := .int, accessFlags := 25, slot := 13, constantValue := 0 }, { name := "T_DOUBLE", type := .int, accessFlags := 25, slot := 14, constantValue := 0 }, { name := "T_BYTE", type := .int, accessFlags := 25, slot := 15, constantValue := 0 }, { name := "T_SHORT", type := .int, accessFlags := 25, slot := 16, constantValue := 0 }, { name := "T_INT", type := .int, accessFlags := 25, slot := 17, constantValue := 0 }, { name := "T_LONG", type := .int, accessFlags := 25, slot := 18, constantValue := 0 }, { name := "JLA", type := (.object "jdk/internal/access/JavaLangAccess"), accessFlags := 26, slot := 19, constantValue := 0 }, { name := "SOFT_MAX_ARRAY_LENGTH", type := .int, accessFlags := 25, slot := 20, constantValue := 0 }]
  methods := #[k14m0]
  instanceTypes := #[]
  staticTypes := #[(.object "jdk/internal/misc/Unsafe"), .boolean, .int, .int, .int, .int, .int, .int, .int, .int, .int, .int, .int, .int, .int, .int, .int, .int, .int, (.object "jdk/internal/access/JavaLangAccess"), .int]
  resolved := Array.replicate 378 none
  statics := none }

/-- the primitive byte -/
def k15 : Class := { plain "byte" none with kind := .primitive 'B', accessFlags := 0x411 }
/-- [B -/
def k16 : Class := { plain "[B" (some 0) with kind := .array 15 .byte, interfaces := #[10, 2], accessFlags := 1041 }

/-- the primitive char -/
def k17 : Class := { plain "char" none with kind := .primitive 'C', accessFlags := 0x411 }
/-- [C -/
def k18 : Class := { plain "[C" (some 0) with kind := .array 17 .char, interfaces := #[10, 2], accessFlags := 1041 }

/-- the primitive int -/
def k19 : Class := { plain "int" none with kind := .primitive 'I', accessFlags := 0x411 }
/-- [I -/
def k20 : Class := { plain "[I" (some 0) with kind := .array 19 .int, interfaces := #[10, 2], accessFlags := 1041 }

/-- [Lcom/example/ambient_wiring/ambientwiring/BeanScope; -/
def k21 : Class := { plain "[Lcom/example/ambient_wiring/ambientwiring/BeanScope;" (some 0) with kind := .array 9 (.object "com/example/ambient_wiring/ambientwiring/BeanScope"), interfaces := #[10, 2], accessFlags := 1041 }

def heap : Heap := #[{ cls := 7, slots := #[.long 0, .int 1, .null, .int 0, .null, .int 0, .int 0], vm := .statics 7 },
  { cls := 9, slots := #[.ref 4, .ref 5, .ref 3], vm := .statics 9 },
  { cls := 13, slots := #[.null, .null, .null], vm := .statics 13 },
  { cls := 21, slots := #[.ref 4, .ref 5], vm := .none },
  { cls := 9, slots := #[.null, .int 0, .int 0, .ref 6], vm := .none },
  { cls := 9, slots := #[.null, .int 1, .int 0, .ref 7], vm := .none },
  { cls := 7, slots := #[.ref 8, .int 0, .int 0, .int 0], vm := .none },
  { cls := 7, slots := #[.ref 9, .int 0, .int 0, .int 0], vm := .none },
  { cls := 16, slots := #[.int 115, .int 105, .int 110, .int 103, .int 108, .int 101, .int 116, .int 111, .int 110], vm := .none },
  { cls := 16, slots := #[.int 112, .int 114, .int 111, .int 116, .int 111, .int 116, .int 121, .int 112, .int 101], vm := .none }]
def classes : Array Class := #[k0, k1, k2, k3, k4, k5, k6, k7, k8, k9, k10, k11, k12, k13, k14, k15, k16, k17, k18, k19, k20, k21]
def interned : List (Array UInt16 × Addr) := []
def slotsUsed : Nat := 49
def theMethod : MethodId := ⟨1, 1⟩
def args0 : Array Value := #[.int 5, .int 5, .int 5, .long 5, .long 5]
def aboutOver (below : List Frame) : State where
  vm := { classes := classes, interned := interned.toArray }
  heap := heap
  slotsUsed := slotsUsed
  threads := #[{ frames := .invoking theMethod args0 :: below }]
def below0 : List Frame := [.native { method := ⟨0, 0⟩, args := #[] }]
def about1 : State := aboutOver below0
def p0 : Program := .bare "" "" ""
def e0 : Env := launch0.env 0 0 0
theorem w_frames : about1.frames = Frame.invoking theMethod args0 :: below0 := rfl
set_option maxRecDepth 65536 in
theorem w_args : argsFit about1.vm theMethod args0 = true := by decide +kernel
set_option maxRecDepth 65536 in
theorem w_heap : heapFits about1 = true := by decide +kernel
set_option maxRecDepth 65536 in
theorem w_runnable : about1.curStatus? = some .runnable := by decide +kernel
set_option maxRecDepth 65536 in
theorem w_alone : about1.alone = true := by decide +kernel
set_option maxRecDepth 65536 in
theorem w_named : about1.methodNamed? x = some theMethod := by decide +kernel
set_option maxRecDepth 65536 in
theorem w_hears : about1.hears theMethod below0 = true := by decide +kernel
set_option maxRecDepth 65536 in
theorem w_ripe : about1.ripe theMethod args0 below0 = true := by decide +kernel
theorem w_running : about1.status = .running := rfl
set_option maxRecDepth 65536 in
theorem w_room : about1.hasRoom e0.platform room_1 = true :=
  launch0.hasRoom_least _ room_1 (by decide +kernel) (by decide +kernel) (by decide +kernel) (by decide +kernel) (by decide +kernel) (by decide +kernel)
theorem allAtoms_all (ts : List Jvm.Cond) (a : Array Jvm.Value) (st : Jvm.State) : (allAtoms ts).before a st = ts.all (fun c => c.before a st) := by
  induction ts with
  | nil => rfl
  | cons c t ih =>
    show (Jvm.Cond.and c (allAtoms t)).before a st = _
    rw [Jvm.Cond.before_and, ih, List.all_cons]
def words1 : List Jvm.Cond := Jvm.Cond.code x code maxLocals ret :: tables_1
/-- a 'code' word, met by the world's own term for the bytes: nothing is compared byte by byte -/
theorem code_word {y : MethodName} {bytes : ByteArray} {mx : Nat} {rt : Option FieldType} {a : Array Value} {s : State} {m : MethodId} {meth : Method} {c : Code} (h1 : s.methodNamed? y = some m) (h2 : s.vm.method? m = some meth) (h3 : meth.code = some c) (h4 : c.code = bytes)
    (h5 : (c.maxLocals == mx && c.exceptionTable.isEmpty && decide (c.maxStack ≤ mostOperands) && decide (meth.sig.returnType = rt) && !meth.locks && decide (parseMethodDescriptor y.desc = some meth.sig)) = true) : (Jvm.Cond.code y bytes mx rt).before a s = true := by
  simp only [Bool.and_eq_true, beq_iff_eq, Bool.not_eq_true', decide_eq_true_eq] at h5
  obtain ⟨⟨⟨⟨⟨g1, g2⟩, g3⟩, g4⟩, g5⟩, g6⟩ := h5
  simp [Cond.before, Cond.holds, Cond.value, h1, h2, h3, h4, g1, g2, g3, g4, g5, g6]
def isCode : Jvm.Cond → Bool
  | .code _ _ _ _ => true
  | _ => false
theorem all_split {L : List Jvm.Cond} {P : Jvm.Cond → Bool} (h1 : L.all (fun c => isCode c || P c) = true) (h2 : ∀ c ∈ L.filter isCode, P c = true) : L.all P = true := by
  refine List.all_eq_true.mpr fun c hc => ?_
  have h := List.all_eq_true.mp h1 c hc
  rcases Bool.eq_false_or_eq_true (isCode c) with hi | hi
  · exact h2 c (List.mem_filter.mpr ⟨hc, hi⟩)
  · simpa [hi] using h
set_option maxRecDepth 65536 in
theorem w_c0 : (Jvm.Cond.code x code maxLocals ret).before args0 about1 = true := code_word (m := ⟨1, 1⟩) (meth := k1m1) (c := k1c1) (by decide +kernel) rfl rfl rfl (by decide +kernel)
set_option maxRecDepth 65536 in
theorem w_c1 : (Jvm.Cond.code ({ cls := "com/example/ambient_wiring/ambientwiring/BeanScope", name := "named", desc := "(Ljava/lang/String;)Lcom/example/ambient_wiring/ambientwiring/BeanScope;" } : Jvm.MethodName) prog_4_method_4_code (5 : Nat) (Option.some (Jvm.ClassFile.FieldType.object "com/example/ambient_wiring/ambientwiring/BeanScope"))).before args0 about1 = true := code_word (m := ⟨9, 1⟩) (meth := k9m1) (c := k9c1) (by decide +kernel) rfl rfl rfl (by decide +kernel)
set_option maxRecDepth 65536 in
theorem w_c2 : (Jvm.Cond.code ({ cls := "com/example/ambient_wiring/ambientwiring/BeanScope", name := "values", desc := "()[Lcom/example/ambient_wiring/ambientwiring/BeanScope;" } : Jvm.MethodName) prog_4_method_1_code (0 : Nat) (Option.some (Jvm.ClassFile.FieldType.array (Jvm.ClassFile.FieldType.object "com/example/ambient_wiring/ambientwiring/BeanScope")))).before args0 about1 = true := code_word (m := ⟨9, 0⟩) (meth := k9m0) (c := k9c0) (by decide +kernel) rfl rfl rfl (by decide +kernel)
set_option maxRecDepth 65536 in
theorem w_c3 : (Jvm.Cond.code ({ cls := "java/lang/String", name := "equals", desc := "(Ljava/lang/Object;)Z" } : Jvm.MethodName) jdk_42_method_66_code (3 : Nat) (Option.some Jvm.ClassFile.FieldType.boolean)).before args0 about1 = true := code_word (m := ⟨7, 3⟩) (meth := k7m3) (c := k7c3) (by decide +kernel) rfl rfl rfl (by decide +kernel)
set_option maxRecDepth 65536 in
theorem w_c4 : (Jvm.Cond.code ({ cls := "com/example/ambient_wiring/ambientwiring/BeanScopeNamedPinLaw", name := "drawn8", desc := "(J)[C" } : Jvm.MethodName) method_9_code (3 : Nat) (Option.some (Jvm.ClassFile.FieldType.array Jvm.ClassFile.FieldType.char))).before args0 about1 = true := code_word (m := ⟨1, 8⟩) (meth := k1m8) (c := k1c8) (by decide +kernel) rfl rfl rfl (by decide +kernel)
set_option maxRecDepth 65536 in
theorem w_c5 : (Jvm.Cond.code ({ cls := "com/example/ambient_wiring/ambientwiring/BeanScopeNamedPinLaw", name := "byteOf", desc := "(JI)C" } : Jvm.MethodName) method_8_code (3 : Nat) (Option.some Jvm.ClassFile.FieldType.char)).before args0 about1 = true := code_word (m := ⟨1, 7⟩) (meth := k1m7) (c := k1c7) (by decide +kernel) rfl rfl rfl (by decide +kernel)
set_option maxRecDepth 65536 in
theorem w_c6 : (Jvm.Cond.code ({ cls := "java/lang/String", name := "<init>", desc := "([C)V" } : Jvm.MethodName) jdk_42_method_3_code (2 : Nat) (Option.none : Option Jvm.ClassFile.FieldType)).before args0 about1 = true := code_word (m := ⟨7, 1⟩) (meth := k7m1) (c := k7c1) (by decide +kernel) rfl rfl rfl (by decide +kernel)
set_option maxRecDepth 65536 in
theorem w_c7 : (Jvm.Cond.code ({ cls := "java/lang/String", name := "<init>", desc := "([CIILjava/lang/Void;)V" } : Jvm.MethodName) jdk_42_method_149_code (6 : Nat) (Option.none : Option Jvm.ClassFile.FieldType)).before args0 about1 = true := code_word (m := ⟨7, 4⟩) (meth := k7m4) (c := k7c4) (by decide +kernel) rfl rfl rfl (by decide +kernel)
set_option maxRecDepth 65536 in
theorem w_c8 : (Jvm.Cond.code ({ cls := "java/lang/Object", name := "<init>", desc := "()V" } : Jvm.MethodName) object_method_1_code (1 : Nat) (Option.none : Option Jvm.ClassFile.FieldType)).before args0 about1 = true := code_word (m := ⟨0, 0⟩) (meth := k0m0) (c := k0c0) (by decide +kernel) rfl rfl rfl (by decide +kernel)
set_option maxRecDepth 65536 in
theorem w_c9 : (Jvm.Cond.code ({ cls := "java/lang/StringUTF16", name := "compress", desc := "([CII)[B" } : Jvm.MethodName) jdk_52_method_16_code (6 : Nat) (Option.some (Jvm.ClassFile.FieldType.array Jvm.ClassFile.FieldType.byte))).before args0 about1 = true := code_word (m := ⟨11, 2⟩) (meth := k11m2) (c := k11c2) (by decide +kernel) rfl rfl rfl (by decide +kernel)
set_option maxRecDepth 65536 in
theorem w_c10 : (Jvm.Cond.code ({ cls := "java/lang/StringUTF16", name := "compress", desc := "([CI[BII)I" } : Jvm.MethodName) jdk_52_method_21_code (7 : Nat) (Option.some Jvm.ClassFile.FieldType.int)).before args0 about1 = true := code_word (m := ⟨11, 3⟩) (meth := k11m3) (c := k11c3) (by decide +kernel) rfl rfl rfl (by decide +kernel)
set_option maxRecDepth 65536 in
theorem w_c11 : (Jvm.Cond.code ({ cls := "java/lang/StringUTF16", name := "coderFromArrayLen", desc := "([BI)B" } : Jvm.MethodName) jdk_52_method_15_code (2 : Nat) (Option.some Jvm.ClassFile.FieldType.byte)).before args0 about1 = true := code_word (m := ⟨11, 1⟩) (meth := k11m1) (c := k11c1) (by decide +kernel) rfl rfl rfl (by decide +kernel)
set_option maxRecDepth 65536 in
theorem w_c12 : (Jvm.Cond.code ({ cls := "java/lang/StringLatin1", name := "equals", desc := "([B[B)Z" } : Jvm.MethodName) jdk_43_method_13_code (3 : Nat) (Option.some Jvm.ClassFile.FieldType.boolean)).before args0 about1 = true := code_word (m := ⟨12, 2⟩) (meth := k12m2) (c := k12c2) (by decide +kernel) rfl rfl rfl (by decide +kernel)
set_option maxRecDepth 65536 in
theorem w_c13 : (Jvm.Cond.code ({ cls := "com/example/ambient_wiring/ambientwiring/BeanScopeNamedPinLaw", name := "drawn9", desc := "(JJ)[C" } : Jvm.MethodName) method_10_code (5 : Nat) (Option.some (Jvm.ClassFile.FieldType.array Jvm.ClassFile.FieldType.char))).before args0 about1 = true := code_word (m := ⟨1, 9⟩) (meth := k1m9) (c := k1c9) (by decide +kernel) rfl rfl rfl (by decide +kernel)
set_option maxRecDepth 65536 in
theorem w_c14 : (Jvm.Cond.code ({ cls := "com/example/ambient_wiring/ambientwiring/BeanScopeNamedPinLaw", name := "insert", desc := "(Ljava/lang/String;IC)[C" } : Jvm.MethodName) method_7_code (4 : Nat) (Option.some (Jvm.ClassFile.FieldType.array Jvm.ClassFile.FieldType.char))).before args0 about1 = true := code_word (m := ⟨1, 6⟩) (meth := k1m6) (c := k1c6) (by decide +kernel) rfl rfl rfl (by decide +kernel)
set_option maxRecDepth 65536 in
theorem w_c15 : (Jvm.Cond.code ({ cls := "com/example/ambient_wiring/ambientwiring/BeanScopeNamedPinLaw", name := "insAt", desc := "(Ljava/lang/String;IIC)C" } : Jvm.MethodName) method_6_code (4 : Nat) (Option.some Jvm.ClassFile.FieldType.char)).before args0 about1 = true := code_word (m := ⟨1, 5⟩) (meth := k1m5) (c := k1c5) (by decide +kernel) rfl rfl rfl (by decide +kernel)
set_option maxRecDepth 65536 in
theorem w_c16 : (Jvm.Cond.code ({ cls := "java/lang/String", name := "charAt", desc := "(I)C" } : Jvm.MethodName) jdk_42_method_56_code (2 : Nat) (Option.some Jvm.ClassFile.FieldType.char)).before args0 about1 = true := code_word (m := ⟨7, 2⟩) (meth := k7m2) (c := k7c2) (by decide +kernel) rfl rfl rfl (by decide +kernel)
set_option maxRecDepth 65536 in
theorem w_c17 : (Jvm.Cond.code ({ cls := "java/lang/String", name := "isLatin1", desc := "()Z" } : Jvm.MethodName) jdk_42_method_154_code (1 : Nat) (Option.some Jvm.ClassFile.FieldType.boolean)).before args0 about1 = true := code_word (m := ⟨7, 5⟩) (meth := k7m5) (c := k7c5) (by decide +kernel) rfl rfl rfl (by decide +kernel)
set_option maxRecDepth 65536 in
theorem w_c18 : (Jvm.Cond.code ({ cls := "java/lang/StringLatin1", name := "charAt", desc := "([BI)C" } : Jvm.MethodName) jdk_43_method_2_code (2 : Nat) (Option.some Jvm.ClassFile.FieldType.char)).before args0 about1 = true := code_word (m := ⟨12, 1⟩) (meth := k12m1) (c := k12c1) (by decide +kernel) rfl rfl rfl (by decide +kernel)
set_option maxRecDepth 65536 in
theorem w_c19 : (Jvm.Cond.code ({ cls := "java/lang/String", name := "checkIndex", desc := "(II)V" } : Jvm.MethodName) jdk_42_method_155_code (2 : Nat) (Option.none : Option Jvm.ClassFile.FieldType)).before args0 about1 = true := code_word (m := ⟨7, 6⟩) (meth := k7m6) (c := k7c6) (by decide +kernel) rfl rfl rfl (by decide +kernel)
set_option maxRecDepth 65536 in
theorem w_c20 : (Jvm.Cond.code ({ cls := "jdk/internal/util/Preconditions", name := "checkIndex", desc := "(IILjava/util/function/BiFunction;)I" } : Jvm.MethodName) jdk_41_method_11_code (3 : Nat) (Option.some Jvm.ClassFile.FieldType.int)).before args0 about1 = true := code_word (m := ⟨13, 1⟩) (meth := k13m1) (c := k13c1) (by decide +kernel) rfl rfl rfl (by decide +kernel)
set_option maxRecDepth 65536 in
theorem w_c21 : (Jvm.Cond.code ({ cls := "com/example/ambient_wiring/ambientwiring/BeanScopeNamedPinLaw", name := "drop", desc := "(Ljava/lang/String;I)[C" } : Jvm.MethodName) method_5_code (3 : Nat) (Option.some (Jvm.ClassFile.FieldType.array Jvm.ClassFile.FieldType.char))).before args0 about1 = true := code_word (m := ⟨1, 4⟩) (meth := k1m4) (c := k1c4) (by decide +kernel) rfl rfl rfl (by decide +kernel)
set_option maxRecDepth 65536 in
theorem w_c22 : (Jvm.Cond.code ({ cls := "com/example/ambient_wiring/ambientwiring/BeanScopeNamedPinLaw", name := "dropAt", desc := "(Ljava/lang/String;II)C" } : Jvm.MethodName) method_4_code (3 : Nat) (Option.some Jvm.ClassFile.FieldType.char)).before args0 about1 = true := code_word (m := ⟨1, 3⟩) (meth := k1m3) (c := k1c3) (by decide +kernel) rfl rfl rfl (by decide +kernel)
set_option maxRecDepth 65536 in
theorem w_c23 : (Jvm.Cond.code ({ cls := "com/example/ambient_wiring/ambientwiring/BeanScopeNamedPinLaw", name := "template", desc := "(Ljava/lang/String;)[C" } : Jvm.MethodName) method_3_code (2 : Nat) (Option.some (Jvm.ClassFile.FieldType.array Jvm.ClassFile.FieldType.char))).before args0 about1 = true := code_word (m := ⟨1, 2⟩) (meth := k1m2) (c := k1c2) (by decide +kernel) rfl rfl rfl (by decide +kernel)
def codes1 : List Jvm.Cond := [Jvm.Cond.code x code maxLocals ret, Jvm.Cond.code ({ cls := "com/example/ambient_wiring/ambientwiring/BeanScope", name := "named", desc := "(Ljava/lang/String;)Lcom/example/ambient_wiring/ambientwiring/BeanScope;" } : Jvm.MethodName) prog_4_method_4_code (5 : Nat) (Option.some (Jvm.ClassFile.FieldType.object "com/example/ambient_wiring/ambientwiring/BeanScope")), Jvm.Cond.code ({ cls := "com/example/ambient_wiring/ambientwiring/BeanScope", name := "values", desc := "()[Lcom/example/ambient_wiring/ambientwiring/BeanScope;" } : Jvm.MethodName) prog_4_method_1_code (0 : Nat) (Option.some (Jvm.ClassFile.FieldType.array (Jvm.ClassFile.FieldType.object "com/example/ambient_wiring/ambientwiring/BeanScope"))), Jvm.Cond.code ({ cls := "java/lang/String", name := "equals", desc := "(Ljava/lang/Object;)Z" } : Jvm.MethodName) jdk_42_method_66_code (3 : Nat) (Option.some Jvm.ClassFile.FieldType.boolean), Jvm.Cond.code ({ cls := "com/example/ambient_wiring/ambientwiring/BeanScopeNamedPinLaw", name := "drawn8", desc := "(J)[C" } : Jvm.MethodName) method_9_code (3 : Nat) (Option.some (Jvm.ClassFile.FieldType.array Jvm.ClassFile.FieldType.char)), Jvm.Cond.code ({ cls := "com/example/ambient_wiring/ambientwiring/BeanScopeNamedPinLaw", name := "byteOf", desc := "(JI)C" } : Jvm.MethodName) method_8_code (3 : Nat) (Option.some Jvm.ClassFile.FieldType.char), Jvm.Cond.code ({ cls := "java/lang/String", name := "<init>", desc := "([C)V" } : Jvm.MethodName) jdk_42_method_3_code (2 : Nat) (Option.none : Option Jvm.ClassFile.FieldType), Jvm.Cond.code ({ cls := "java/lang/String", name := "<init>", desc := "([CIILjava/lang/Void;)V" } : Jvm.MethodName) jdk_42_method_149_code (6 : Nat) (Option.none : Option Jvm.ClassFile.FieldType), Jvm.Cond.code ({ cls := "java/lang/Object", name := "<init>", desc := "()V" } : Jvm.MethodName) object_method_1_code (1 : Nat) (Option.none : Option Jvm.ClassFile.FieldType), Jvm.Cond.code ({ cls := "java/lang/StringUTF16", name := "compress", desc := "([CII)[B" } : Jvm.MethodName) jdk_52_method_16_code (6 : Nat) (Option.some (Jvm.ClassFile.FieldType.array Jvm.ClassFile.FieldType.byte)), Jvm.Cond.code ({ cls := "java/lang/StringUTF16", name := "compress", desc := "([CI[BII)I" } : Jvm.MethodName) jdk_52_method_21_code (7 : Nat) (Option.some Jvm.ClassFile.FieldType.int), Jvm.Cond.code ({ cls := "java/lang/StringUTF16", name := "coderFromArrayLen", desc := "([BI)B" } : Jvm.MethodName) jdk_52_method_15_code (2 : Nat) (Option.some Jvm.ClassFile.FieldType.byte), Jvm.Cond.code ({ cls := "java/lang/StringLatin1", name := "equals", desc := "([B[B)Z" } : Jvm.MethodName) jdk_43_method_13_code (3 : Nat) (Option.some Jvm.ClassFile.FieldType.boolean), Jvm.Cond.code ({ cls := "com/example/ambient_wiring/ambientwiring/BeanScopeNamedPinLaw", name := "drawn9", desc := "(JJ)[C" } : Jvm.MethodName) method_10_code (5 : Nat) (Option.some (Jvm.ClassFile.FieldType.array Jvm.ClassFile.FieldType.char)), Jvm.Cond.code ({ cls := "com/example/ambient_wiring/ambientwiring/BeanScopeNamedPinLaw", name := "insert", desc := "(Ljava/lang/String;IC)[C" } : Jvm.MethodName) method_7_code (4 : Nat) (Option.some (Jvm.ClassFile.FieldType.array Jvm.ClassFile.FieldType.char)), Jvm.Cond.code ({ cls := "com/example/ambient_wiring/ambientwiring/BeanScopeNamedPinLaw", name := "insAt", desc := "(Ljava/lang/String;IIC)C" } : Jvm.MethodName) method_6_code (4 : Nat) (Option.some Jvm.ClassFile.FieldType.char), Jvm.Cond.code ({ cls := "java/lang/String", name := "charAt", desc := "(I)C" } : Jvm.MethodName) jdk_42_method_56_code (2 : Nat) (Option.some Jvm.ClassFile.FieldType.char), Jvm.Cond.code ({ cls := "java/lang/String", name := "isLatin1", desc := "()Z" } : Jvm.MethodName) jdk_42_method_154_code (1 : Nat) (Option.some Jvm.ClassFile.FieldType.boolean), Jvm.Cond.code ({ cls := "java/lang/StringLatin1", name := "charAt", desc := "([BI)C" } : Jvm.MethodName) jdk_43_method_2_code (2 : Nat) (Option.some Jvm.ClassFile.FieldType.char), Jvm.Cond.code ({ cls := "java/lang/String", name := "checkIndex", desc := "(II)V" } : Jvm.MethodName) jdk_42_method_155_code (2 : Nat) (Option.none : Option Jvm.ClassFile.FieldType), Jvm.Cond.code ({ cls := "jdk/internal/util/Preconditions", name := "checkIndex", desc := "(IILjava/util/function/BiFunction;)I" } : Jvm.MethodName) jdk_41_method_11_code (3 : Nat) (Option.some Jvm.ClassFile.FieldType.int), Jvm.Cond.code ({ cls := "com/example/ambient_wiring/ambientwiring/BeanScopeNamedPinLaw", name := "drop", desc := "(Ljava/lang/String;I)[C" } : Jvm.MethodName) method_5_code (3 : Nat) (Option.some (Jvm.ClassFile.FieldType.array Jvm.ClassFile.FieldType.char)), Jvm.Cond.code ({ cls := "com/example/ambient_wiring/ambientwiring/BeanScopeNamedPinLaw", name := "dropAt", desc := "(Ljava/lang/String;II)C" } : Jvm.MethodName) method_4_code (3 : Nat) (Option.some Jvm.ClassFile.FieldType.char), Jvm.Cond.code ({ cls := "com/example/ambient_wiring/ambientwiring/BeanScopeNamedPinLaw", name := "template", desc := "(Ljava/lang/String;)[C" } : Jvm.MethodName) method_3_code (2 : Nat) (Option.some (Jvm.ClassFile.FieldType.array Jvm.ClassFile.FieldType.char))]
set_option maxRecDepth 65536 in
theorem codes_eq : words1.filter isCode = codes1 := rfl
theorem w_codes : ∀ c ∈ words1.filter isCode, c.before args0 about1 = true := by
  rw [codes_eq]
  intro c hc
  simp only [codes1, List.mem_cons, List.not_mem_nil, or_false] at hc
  rcases hc with rfl | rfl | rfl | rfl | rfl | rfl | rfl | rfl | rfl | rfl | rfl | rfl | rfl | rfl | rfl | rfl | rfl | rfl | rfl | rfl | rfl | rfl | rfl | rfl
  · exact w_c0
  · exact w_c1
  · exact w_c2
  · exact w_c3
  · exact w_c4
  · exact w_c5
  · exact w_c6
  · exact w_c7
  · exact w_c8
  · exact w_c9
  · exact w_c10
  · exact w_c11
  · exact w_c12
  · exact w_c13
  · exact w_c14
  · exact w_c15
  · exact w_c16
  · exact w_c17
  · exact w_c18
  · exact w_c19
  · exact w_c20
  · exact w_c21
  · exact w_c22
  · exact w_c23
set_option maxRecDepth 65536 in
theorem w_t1 : (words1.take 24).all (fun c => isCode c || c.before args0 about1) = true := by decide +kernel
set_option maxRecDepth 65536 in
theorem w_t2 : ((words1.drop 24).take 24).all (fun c => isCode c || c.before args0 about1) = true := by decide +kernel
set_option maxRecDepth 65536 in
theorem w_t3 : (((words1.drop 24).drop 24).take 24).all (fun c => isCode c || c.before args0 about1) = true := by decide +kernel
set_option maxRecDepth 65536 in
theorem w_t4 : ((((words1.drop 24).drop 24).drop 24).take 24).all (fun c => isCode c || c.before args0 about1) = true := by decide +kernel
set_option maxRecDepth 65536 in
theorem w_t5 : ((((words1.drop 24).drop 24).drop 24).drop 24).all (fun c => isCode c || c.before args0 about1) = true := by decide +kernel
theorem w_tables : (allAtoms (Jvm.Cond.code x code maxLocals ret :: tables_1)).before args0 about1 = true := by
  rw [allAtoms_all]
  show words1.all (fun c => c.before args0 about1) = true
  refine all_split ?_ w_codes
  rw [← List.take_append_drop 24 words1, List.all_append, w_t1, ← List.take_append_drop 24 (words1.drop 24), List.all_append, w_t2, ← List.take_append_drop 24 ((words1.drop 24).drop 24), List.all_append, w_t3, ← List.take_append_drop 24 (((words1.drop 24).drop 24).drop 24), List.all_append, w_t4, w_t5]
  rfl
set_option maxRecDepth 65536 in
theorem w_rest : rest_1_c.before args0 about1 = true := by decide +kernel
set_option maxRecDepth 65536 in
theorem w_case : (Jvm.Cond.and given_1 narrow_1).before args0 about1 = true := by decide +kernel
set_option maxRecDepth 65536 in
theorem w_consts : constsHeld consts_1 about1 := Jvm.Lit.constsHeldB_iff.mp (by decide +kernel)
theorem w_applies : (headSpec (Jvm.Cond.code x code maxLocals ret :: tables_1) room_1).applies x e0.platform about1 = true :=
  (Spec.applies_iff w_frames).mpr ⟨w_running, w_runnable, w_alone, w_named, w_hears, w_ripe, w_room, w_tables⟩
theorem atStart : AtStart classFile x code maxLocals ret World_1 tables_1 room_1 Calls_1 rest_1 Pre_1 launch0 p0 e0 about1 theMethod args0 below0 :=
  ⟨lists_1, trivial, launch0.admits_env _ _ _, launch0.least_env, fairChoices_fair.cas, fairChoices_fair.clock, w_frames, w_args, w_heap, w_applies, ⟨w_consts, trivial⟩, w_rest, w_case⟩
end start1
theorem witness_1 : WitnessClaimed_1 := ⟨start1.p0, start1.e0, start1.about1, start1.theMethod, start1.args0, start1.below0, start1.atStart⟩
end Jvm.Pilot.@@N@@
