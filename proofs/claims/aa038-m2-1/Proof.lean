import JvmDerived
import JvmDerived.Pilot.@@N@@Statement
import JvmDerived.Pilot.@@N@@Code
set_option linter.unusedVariables false
set_option linter.unusedSimpArgs false

@@BLOCK:TracedD.lean.txt@@
namespace Jvm.Own
open Sem ClassFile Op Lib Jvm.Stand Jvm.Free Jvm.LawKit Jvm.RoadKit
/-- the goal of a walk: from here the invocation ends, and P holds of its end -/
def Goes (tb : Tables) (e : Env) (below : List Frame) (P : Outcome → State → Prop) (T : State) (F : JFrame) : Prop :=
  ∃ t o, Steps tb e below (T.setTop F) t ∧ t.status = .running ∧ Ended t below o ∧ P o t
/-- what a comparison says, of the integers -/
def icR : ClassFile.Cond → Int → Int → Prop
  | .eq, x, y => x = y
  | .ne, x, y => ¬ x = y
  | .lt, x, y => x < y
  | .ge, x, y => y ≤ x
  | .gt, x, y => y < x
  | .le, x, y => x ≤ y
theorem icR_iff (cd : ClassFile.Cond) (x y : Int32) : if_icmp.holds cd x y = true ↔ icR cd x.toInt y.toInt := by
  cases cd <;> simp [if_icmp.holds, icR, Int32.lt_iff_toInt_lt, Int32.le_iff_toInt_le, Int32.toInt_inj]
theorem icR_yes {cd : ClassFile.Cond} {x y : Int32} {X Y : Int} (ex : x.toInt = X) (ey : y.toInt = Y) (h : icR cd X Y) : if_icmp.holds cd x y = true := by
  subst ex ey; exact (icR_iff cd x y).mpr h
theorem icR_no {cd : ClassFile.Cond} {x y : Int32} {X Y : Int} (ex : x.toInt = X) (ey : y.toInt = Y) (h : ¬ icR cd X Y) : if_icmp.holds cd x y = false := by
  subst ex ey; exact Bool.eq_false_iff.mpr fun q => h ((icR_iff cd x y).mp q)
section G
variable {tb : Tables} {e : Env} {below : List Frame} {P : Outcome → State → Prop} {T T' : State} {F F' : JFrame}
theorem Goes.via (k : Goes tb e below P T' F') (st : ∀ target, Steps tb e below (T'.setTop F') target → Steps tb e below (T.setTop F) target) : Goes tb e below P T F := by
  obtain ⟨t, o, h1, h2⟩ := k; exact ⟨t, o, st _ h1, h2⟩
theorem Goes.to (k : Goes tb e below P T' F') (st : Steps tb e below (T.setTop F) (T'.setTop F')) : Goes tb e below P T F := k.via fun _ h => st.trans h
theorem Goes.cast (q : F = F') (k : Goes tb e below P T F') : Goes tb e below P T F := q ▸ k
variable [Ours tb] {m : MethodId} {c : Code} {pc : Nat} {L L' : Array Slot} {S : List Value}
theorem g_aloadN (h : At T m c below) (hx : tb.exec = Jvm.exec) {k : Fin 4} {v : Value} (hd : decode c.code pc = .ok (.aload_n k, 1)) (hl : L[k.val]? = some (.val v)) (hv : v.isRef = true) (p' : Nat) (hp : p' = pc + 1) (q : Goes tb e below P T (mkF m p' L (v :: S))) : Goes tb e below P T (mkF m pc L (S)) := by
  subst hp; exact q.via fun _ k => XS.aloadN h hx rfl hd hl hv k
theorem g_aload (h : At T m c below) (hx : tb.exec = Jvm.exec) {k : Nat} {v : Value} (hd : decode c.code pc = .ok (.aload k, 2)) (hl : L[k]? = some (.val v)) (hv : v.isRef = true) (p' : Nat) (hp : p' = pc + 2) (q : Goes tb e below P T (mkF m p' L (v :: S))) : Goes tb e below P T (mkF m pc L (S)) := by
  subst hp; exact q.via fun _ k => XS.aload h hx rfl hd hl hv k
theorem g_iloadN (h : At T m c below) (hx : tb.exec = Jvm.exec) {k : Fin 4} {v : Int32} (hd : decode c.code pc = .ok (.iload_n k, 1)) (hl : L[k.val]? = some (.val (.int v))) (p' : Nat) (hp : p' = pc + 1) (q : Goes tb e below P T (mkF m p' L (.int v :: S))) : Goes tb e below P T (mkF m pc L (S)) := by
  subst hp; exact q.via fun _ k => XS.iloadN h hx rfl hd hl k
theorem g_iload (h : At T m c below) (hx : tb.exec = Jvm.exec) {k : Nat} {v : Int32} (hd : decode c.code pc = .ok (.iload k, 2)) (hl : L[k]? = some (.val (.int v))) (p' : Nat) (hp : p' = pc + 2) (q : Goes tb e below P T (mkF m p' L (.int v :: S))) : Goes tb e below P T (mkF m pc L (S)) := by
  subst hp; exact q.via fun _ k => XS.iload h hx rfl hd hl k
theorem g_lloadN (h : At T m c below) (hx : tb.exec = Jvm.exec) {k : Fin 4} {v : Int64} (hd : decode c.code pc = .ok (.lload_n k, 1)) (hl : L[k.val]? = some (.val (.long v))) (p' : Nat) (hp : p' = pc + 1) (q : Goes tb e below P T (mkF m p' L (.long v :: S))) : Goes tb e below P T (mkF m pc L (S)) := by
  subst hp; exact q.via fun _ k => XS.lloadN h hx rfl hd hl k
theorem g_lload (h : At T m c below) (hx : tb.exec = Jvm.exec) {k : Nat} {v : Int64} (hd : decode c.code pc = .ok (.lload k, 2)) (hl : L[k]? = some (.val (.long v))) (p' : Nat) (hp : p' = pc + 2) (q : Goes tb e below P T (mkF m p' L (.long v :: S))) : Goes tb e below P T (mkF m pc L (S)) := by
  subst hp; exact q.via fun _ k => XS.lload h hx rfl hd hl k
theorem g_istoreN (h : At T m c below) (hx : tb.exec = Jvm.exec) {k : Fin 4} {x : Int32} (hd : decode c.code pc = .ok (.istore_n k, 1)) (L2 : Array Slot) (hl : storeLocals L k.val (.int x) = some L2) (p' : Nat) (hp : p' = pc + 1) (q : Goes tb e below P T (mkF m p' L2 (S))) : Goes tb e below P T (mkF m pc L (.int x :: S)) := by
  subst hp; exact q.via fun _ k => XS.istoreN h hx rfl hd rfl hl k
theorem g_istore (h : At T m c below) (hx : tb.exec = Jvm.exec) {k : Nat} {x : Int32} (hd : decode c.code pc = .ok (.istore k, 2)) (L2 : Array Slot) (hl : storeLocals L k (.int x) = some L2) (p' : Nat) (hp : p' = pc + 2) (q : Goes tb e below P T (mkF m p' L2 (S))) : Goes tb e below P T (mkF m pc L (.int x :: S)) := by
  subst hp; exact q.via fun _ k => XS.istore h hx rfl hd rfl hl k
theorem g_lstoreN (h : At T m c below) (hx : tb.exec = Jvm.exec) {k : Fin 4} {x : Int64} (hd : decode c.code pc = .ok (.lstore_n k, 1)) (L2 : Array Slot) (hl : storeLocals L k.val (.long x) = some L2) (p' : Nat) (hp : p' = pc + 1) (q : Goes tb e below P T (mkF m p' L2 (S))) : Goes tb e below P T (mkF m pc L (.long x :: S)) := by
  subst hp; exact q.via fun _ k => XS.lstoreN h hx rfl hd rfl hl k
theorem g_lstore (h : At T m c below) (hx : tb.exec = Jvm.exec) {k : Nat} {x : Int64} (hd : decode c.code pc = .ok (.lstore k, 2)) (L2 : Array Slot) (hl : storeLocals L k (.long x) = some L2) (p' : Nat) (hp : p' = pc + 2) (q : Goes tb e below P T (mkF m p' L2 (S))) : Goes tb e below P T (mkF m pc L (.long x :: S)) := by
  subst hp; exact q.via fun _ k => XS.lstore h hx rfl hd rfl hl k
theorem g_astoreN (h : At T m c below) (hx : tb.exec = Jvm.exec) {k : Fin 4} {x : Value} (hd : decode c.code pc = .ok (.astore_n k, 1)) (hv : x.isRef = true) (L2 : Array Slot) (hl : storeLocals L k.val x = some L2) (p' : Nat) (hp : p' = pc + 1) (q : Goes tb e below P T (mkF m p' L2 (S))) : Goes tb e below P T (mkF m pc L (x :: S)) := by
  subst hp; exact q.via fun _ k => XS.astoreN h hx rfl hd rfl hv hl k
theorem g_astore (h : At T m c below) (hx : tb.exec = Jvm.exec) {k : Nat} {x : Value} (hd : decode c.code pc = .ok (.astore k, 2)) (hv : x.isRef = true) (L2 : Array Slot) (hl : storeLocals L k x = some L2) (p' : Nat) (hp : p' = pc + 2) (q : Goes tb e below P T (mkF m p' L2 (S))) : Goes tb e below P T (mkF m pc L (x :: S)) := by
  subst hp; exact q.via fun _ k => XS.astore h hx rfl hd rfl hv hl k
theorem g_iconst (h : At T m c below) (hx : tb.exec = Jvm.exec) {i : Int} (hd : decode c.code pc = .ok (.iconst i, 1)) (v : Int32) (hv : Int32.ofInt i = v) (p' : Nat) (hp : p' = pc + 1) (q : Goes tb e below P T (mkF m p' L (.int v :: S))) : Goes tb e below P T (mkF m pc L (S)) := by
  subst hp hv; exact q.via fun _ k => XS.iconst h hx rfl hd  k
theorem g_bipush (h : At T m c below) (hx : tb.exec = Jvm.exec) {i : Int} (hd : decode c.code pc = .ok (.bipush i, 2)) (v : Int32) (hv : (Int8.ofInt i).toInt32 = v) (p' : Nat) (hp : p' = pc + 2) (q : Goes tb e below P T (mkF m p' L (.int v :: S))) : Goes tb e below P T (mkF m pc L (S)) := by
  subst hp hv; exact q.via fun _ k => XS.bipush h hx rfl hd  k
theorem g_sipush (h : At T m c below) (hx : tb.exec = Jvm.exec) {i : Int} (hd : decode c.code pc = .ok (.sipush i, 3)) (v : Int32) (hv : (Int16.ofInt i).toInt32 = v) (p' : Nat) (hp : p' = pc + 3) (q : Goes tb e below P T (mkF m p' L (.int v :: S))) : Goes tb e below P T (mkF m pc L (S)) := by
  subst hp hv; exact q.via fun _ k => XS.sipush h hx rfl hd  k
theorem g_aconst_null (h : At T m c below) (hx : tb.exec = Jvm.exec)  (hd : decode c.code pc = .ok (.aconst_null, 1))  (p' : Nat) (hp : p' = pc + 1) (q : Goes tb e below P T (mkF m p' L (.null :: S))) : Goes tb e below P T (mkF m pc L (S)) := by
  subst hp; exact q.via fun _ k => XS.aconstNull h hx rfl hd  k
theorem g_iadd (h : At T m c below) (hx : tb.exec = Jvm.exec) {x y : Int32} (hd : decode c.code pc = .ok (.iadd, 1))  (p' : Nat) (hp : p' = pc + 1) (q : Goes tb e below P T (mkF m p' L (.int (x + y) :: S))) : Goes tb e below P T (mkF m pc L (.int y :: .int x :: S)) := by
  subst hp; exact q.via fun _ k => XS.iadd h hx rfl hd rfl k
theorem g_isub (h : At T m c below) (hx : tb.exec = Jvm.exec) {x y : Int32} (hd : decode c.code pc = .ok (.isub, 1))  (p' : Nat) (hp : p' = pc + 1) (q : Goes tb e below P T (mkF m p' L (.int (x - y) :: S))) : Goes tb e below P T (mkF m pc L (.int y :: .int x :: S)) := by
  subst hp; exact q.via fun _ k => XS.isub h hx rfl hd rfl k
theorem g_imul (h : At T m c below) (hx : tb.exec = Jvm.exec) {x y : Int32} (hd : decode c.code pc = .ok (.imul, 1))  (p' : Nat) (hp : p' = pc + 1) (q : Goes tb e below P T (mkF m p' L (.int (x * y) :: S))) : Goes tb e below P T (mkF m pc L (.int y :: .int x :: S)) := by
  subst hp; exact q.via fun _ k => XS.imul h hx rfl hd rfl k
theorem g_iand (h : At T m c below) (hx : tb.exec = Jvm.exec) {x y : Int32} (hd : decode c.code pc = .ok (.iand, 1))  (p' : Nat) (hp : p' = pc + 1) (q : Goes tb e below P T (mkF m p' L (.int (x &&& y) :: S))) : Goes tb e below P T (mkF m pc L (.int y :: .int x :: S)) := by
  subst hp; exact q.via fun _ k => XS.iand h hx rfl hd rfl k
theorem g_ior (h : At T m c below) (hx : tb.exec = Jvm.exec) {x y : Int32} (hd : decode c.code pc = .ok (.ior, 1))  (p' : Nat) (hp : p' = pc + 1) (q : Goes tb e below P T (mkF m p' L (.int (x ||| y) :: S))) : Goes tb e below P T (mkF m pc L (.int y :: .int x :: S)) := by
  subst hp; exact q.via fun _ k => XS.ior h hx rfl hd rfl k
theorem g_ixor (h : At T m c below) (hx : tb.exec = Jvm.exec) {x y : Int32} (hd : decode c.code pc = .ok (.ixor, 1))  (p' : Nat) (hp : p' = pc + 1) (q : Goes tb e below P T (mkF m p' L (.int (x ^^^ y) :: S))) : Goes tb e below P T (mkF m pc L (.int y :: .int x :: S)) := by
  subst hp; exact q.via fun _ k => XS.ixor h hx rfl hd rfl k
theorem g_ishl (h : At T m c below) (hx : tb.exec = Jvm.exec) {x y : Int32} (hd : decode c.code pc = .ok (.ishl, 1))  (p' : Nat) (hp : p' = pc + 1) (q : Goes tb e below P T (mkF m p' L (.int (x <<< (y &&& 31)) :: S))) : Goes tb e below P T (mkF m pc L (.int y :: .int x :: S)) := by
  subst hp; exact q.via fun _ k => XS.ishl h hx rfl hd rfl k
theorem g_ishr (h : At T m c below) (hx : tb.exec = Jvm.exec) {x y : Int32} (hd : decode c.code pc = .ok (.ishr, 1))  (p' : Nat) (hp : p' = pc + 1) (q : Goes tb e below P T (mkF m p' L (.int (x >>> (y &&& 31)) :: S))) : Goes tb e below P T (mkF m pc L (.int y :: .int x :: S)) := by
  subst hp; exact q.via fun _ k => XS.ishr h hx rfl hd rfl k
theorem g_iushr (h : At T m c below) (hx : tb.exec = Jvm.exec) {x y : Int32} (hd : decode c.code pc = .ok (.iushr, 1))  (p' : Nat) (hp : p' = pc + 1) (q : Goes tb e below P T (mkF m p' L (.int ((x.toUInt32 >>> (y &&& 31).toUInt32).toInt32) :: S))) : Goes tb e below P T (mkF m pc L (.int y :: .int x :: S)) := by
  subst hp; exact q.via fun _ k => XS.iushr h hx rfl hd rfl k
theorem g_ladd (h : At T m c below) (hx : tb.exec = Jvm.exec) {x y : Int64} (hd : decode c.code pc = .ok (.ladd, 1))  (p' : Nat) (hp : p' = pc + 1) (q : Goes tb e below P T (mkF m p' L (.long (x + y) :: S))) : Goes tb e below P T (mkF m pc L (.long y :: .long x :: S)) := by
  subst hp; exact q.via fun _ k => XS.ladd h hx rfl hd rfl k
theorem g_lsub (h : At T m c below) (hx : tb.exec = Jvm.exec) {x y : Int64} (hd : decode c.code pc = .ok (.lsub, 1))  (p' : Nat) (hp : p' = pc + 1) (q : Goes tb e below P T (mkF m p' L (.long (x - y) :: S))) : Goes tb e below P T (mkF m pc L (.long y :: .long x :: S)) := by
  subst hp; exact q.via fun _ k => XS.lsub h hx rfl hd rfl k
theorem g_lmul (h : At T m c below) (hx : tb.exec = Jvm.exec) {x y : Int64} (hd : decode c.code pc = .ok (.lmul, 1))  (p' : Nat) (hp : p' = pc + 1) (q : Goes tb e below P T (mkF m p' L (.long (x * y) :: S))) : Goes tb e below P T (mkF m pc L (.long y :: .long x :: S)) := by
  subst hp; exact q.via fun _ k => XS.lmul h hx rfl hd rfl k
theorem g_land (h : At T m c below) (hx : tb.exec = Jvm.exec) {x y : Int64} (hd : decode c.code pc = .ok (.land, 1))  (p' : Nat) (hp : p' = pc + 1) (q : Goes tb e below P T (mkF m p' L (.long (x &&& y) :: S))) : Goes tb e below P T (mkF m pc L (.long y :: .long x :: S)) := by
  subst hp; exact q.via fun _ k => XS.land h hx rfl hd rfl k
theorem g_lor (h : At T m c below) (hx : tb.exec = Jvm.exec) {x y : Int64} (hd : decode c.code pc = .ok (.lor, 1))  (p' : Nat) (hp : p' = pc + 1) (q : Goes tb e below P T (mkF m p' L (.long (x ||| y) :: S))) : Goes tb e below P T (mkF m pc L (.long y :: .long x :: S)) := by
  subst hp; exact q.via fun _ k => XS.lor h hx rfl hd rfl k
theorem g_lshl (h : At T m c below) (hx : tb.exec = Jvm.exec) {x : Int64} {y : Int32} (hd : decode c.code pc = .ok (.lshl, 1))  (p' : Nat) (hp : p' = pc + 1) (q : Goes tb e below P T (mkF m p' L (.long (x <<< (y &&& 0x3f).toInt64) :: S))) : Goes tb e below P T (mkF m pc L (.int y :: .long x :: S)) := by
  subst hp; exact q.via fun _ k => XS.lshl h hx rfl hd rfl k
theorem g_lshr (h : At T m c below) (hx : tb.exec = Jvm.exec) {x : Int64} {y : Int32} (hd : decode c.code pc = .ok (.lshr, 1))  (p' : Nat) (hp : p' = pc + 1) (q : Goes tb e below P T (mkF m p' L (.long (x >>> (y &&& 0x3f).toInt64) :: S))) : Goes tb e below P T (mkF m pc L (.int y :: .long x :: S)) := by
  subst hp; exact q.via fun _ k => XS.lshr h hx rfl hd rfl k
theorem g_lushr (h : At T m c below) (hx : tb.exec = Jvm.exec) {x : Int64} {y : Int32} (hd : decode c.code pc = .ok (.lushr, 1))  (p' : Nat) (hp : p' = pc + 1) (q : Goes tb e below P T (mkF m p' L (.long ((x.toUInt64 >>> (y &&& 0x3f).toInt64.toUInt64).toInt64) :: S))) : Goes tb e below P T (mkF m pc L (.int y :: .long x :: S)) := by
  subst hp; exact q.via fun _ k => XS.lushr h hx rfl hd rfl k
theorem g_lcmp (h : At T m c below) (hx : tb.exec = Jvm.exec) {x y : Int64} (hd : decode c.code pc = .ok (.lcmp, 1))  (p' : Nat) (hp : p' = pc + 1) (q : Goes tb e below P T (mkF m p' L (.int (lcmpW x y) :: S))) : Goes tb e below P T (mkF m pc L (.long y :: .long x :: S)) := by
  subst hp; exact q.via fun _ k => XS.lcmp h hx rfl hd rfl k
theorem g_i2l (h : At T m c below) (hx : tb.exec = Jvm.exec) {x : Int32} (hd : decode c.code pc = .ok (.i2l, 1))  (p' : Nat) (hp : p' = pc + 1) (q : Goes tb e below P T (mkF m p' L (.long (x.toInt64) :: S))) : Goes tb e below P T (mkF m pc L (.int x :: S)) := by
  subst hp; exact q.via fun _ k => XS.i2l h hx rfl hd rfl k
theorem g_l2i (h : At T m c below) (hx : tb.exec = Jvm.exec) {x : Int64} (hd : decode c.code pc = .ok (.l2i, 1))  (p' : Nat) (hp : p' = pc + 1) (q : Goes tb e below P T (mkF m p' L (.int (x.toInt32) :: S))) : Goes tb e below P T (mkF m pc L (.long x :: S)) := by
  subst hp; exact q.via fun _ k => XS.l2i h hx rfl hd rfl k
theorem g_i2b (h : At T m c below) (hx : tb.exec = Jvm.exec) {x : Int32} (hd : decode c.code pc = .ok (.i2b, 1))  (p' : Nat) (hp : p' = pc + 1) (q : Goes tb e below P T (mkF m p' L (.int (x.toInt8.toInt32) :: S))) : Goes tb e below P T (mkF m pc L (.int x :: S)) := by
  subst hp; exact q.via fun _ k => XS.i2b h hx rfl hd rfl k
theorem g_i2c (h : At T m c below) (hx : tb.exec = Jvm.exec) {x : Int32} (hd : decode c.code pc = .ok (.i2c, 1))  (p' : Nat) (hp : p' = pc + 1) (q : Goes tb e below P T (mkF m p' L (.int (x.toUInt32.toUInt16.toUInt32.toInt32) :: S))) : Goes tb e below P T (mkF m pc L (.int x :: S)) := by
  subst hp; exact q.via fun _ k => XS.i2c h hx rfl hd rfl k
theorem g_i2s (h : At T m c below) (hx : tb.exec = Jvm.exec) {x : Int32} (hd : decode c.code pc = .ok (.i2s, 1))  (p' : Nat) (hp : p' = pc + 1) (q : Goes tb e below P T (mkF m p' L (.int (x.toInt16.toInt32) :: S))) : Goes tb e below P T (mkF m pc L (.int x :: S)) := by
  subst hp; exact q.via fun _ k => XS.i2s h hx rfl hd rfl k
theorem g_irem (h : At T m c below) (hx : tb.exec = Jvm.exec) {x y : Int32} (hd : decode c.code pc = .ok (.irem, 1)) (hy : y ≠ 0) (p' : Nat) (hp : p' = pc + 1) (q : Goes tb e below P T (mkF m p' L (.int (x % y) :: S))) : Goes tb e below P T (mkF m pc L (.int y :: .int x :: S)) := by
  subst hp; exact q.via fun _ k => XS.irem h hx rfl hd rfl hy (by rw [show x - x / y * y = x % y from irem_eq_mod x y]; exact k)
theorem g_idiv (h : At T m c below) (hx : tb.exec = Jvm.exec) {x y : Int32} (hd : decode c.code pc = .ok (.idiv, 1)) (hy : y ≠ 0) (p' : Nat) (hp : p' = pc + 1) (q : Goes tb e below P T (mkF m p' L (.int (x / y) :: S))) : Goes tb e below P T (mkF m pc L (.int y :: .int x :: S)) := by
  subst hp; exact q.via fun _ k => XS.idiv h hx rfl hd rfl hy k
theorem g_dup (h : At T m c below) (hx : tb.exec = Jvm.exec) {x : Value} (hd : decode c.code pc = .ok (.dup, 1)) (hc : x.category = 1) (p' : Nat) (hp : p' = pc + 1) (q : Goes tb e below P T (mkF m p' L (x :: x :: S))) : Goes tb e below P T (mkF m pc L (x :: S)) := by
  subst hp; exact q.via fun _ k => XS.dup h hx rfl hd rfl hc k
theorem g_pop (h : At T m c below) (hx : tb.exec = Jvm.exec) {x : Value} (hd : decode c.code pc = .ok (.pop, 1)) (hc : x.category = 1) (p' : Nat) (hp : p' = pc + 1) (q : Goes tb e below P T (mkF m p' L (S))) : Goes tb e below P T (mkF m pc L (x :: S)) := by
  subst hp; exact q.via fun _ k => XS.pop h hx rfl hd rfl hc k
theorem g_dup_x1 (h : At T m c below) (hx : tb.exec = Jvm.exec) {x y : Value} (hd : decode c.code pc = .ok (.dup_x1, 1)) (hc : x.category = 1) (hc' : y.category = 1) (p' : Nat) (hp : p' = pc + 1) (q : Goes tb e below P T (mkF m p' L (x :: y :: x :: S))) : Goes tb e below P T (mkF m pc L (x :: y :: S)) := by
  subst hp; exact q.via fun _ k => XS.dupX1 h hx rfl hd rfl hc hc' k
theorem g_lconst (h : At T m c below) (hx : tb.exec = Jvm.exec) {k : Fin 2} (hd : decode c.code pc = .ok (.lconst k, 1)) (v : Int64) (hv : Int64.ofNat k.val = v) (p' : Nat) (hp : p' = pc + 1) (q : Goes tb e below P T (mkF m p' L (.long v :: S))) : Goes tb e below P T (mkF m pc L (S)) := by
  subst hp hv; exact q.via fun _ k => XS.lconst h hx rfl hd  k
theorem g_iinc (h : At T m c below) (hx : tb.exec = Jvm.exec) {k : Nat} {i : Int} {x : Int32} (hd : decode c.code pc = .ok (.iinc k i, 3)) (hl : L[k]? = some (.val (.int x))) (L2 : Array Slot) (hl2 : storeLocals L k (.int (x + Int32.ofInt i)) = some L2) (p' : Nat) (hp : p' = pc + 3) (q : Goes tb e below P T (mkF m p' L2 (S))) : Goes tb e below P T (mkF m pc L (S)) := by
  subst hp; exact q.via fun _ k => XS.iinc h hx rfl hd hl hl2 k
theorem g_goto (h : At T m c below) (hx : tb.exec = Jvm.exec) {o : Int} (hd : decode c.code pc = .ok (.goto o, 3)) (p' : Nat) (ho : 0 ≤ (pc : Int) + o) (hp : ((pc : Int) + o).toNat = p') (q : Goes tb e below P T (mkF m p' L S)) : Goes tb e below P T (mkF m pc L S) := q.via fun _ k => XS.goto h hx rfl rfl hd ho hp k
theorem g_icmpT (h : At T m c below) (hx : tb.exec = Jvm.exec) {cd : ClassFile.Cond} {x y : Int32} {o : Int} (hd : decode c.code pc = .ok (.if_icmp cd o, 3)) (X Y : Int) (ex : x.toInt = X) (ey : y.toInt = Y) (hc : icR cd X Y) (p' : Nat) (ho : 0 ≤ (pc : Int) + o) (hp : ((pc : Int) + o).toNat = p') (q : Goes tb e below P T (mkF m p' L S)) : Goes tb e below P T (mkF m pc L (.int y :: .int x :: S)) := q.via fun _ k => XS.icmpYes h hx rfl rfl hd rfl (icR_yes ex ey hc) ho hp k
theorem g_icmpF (h : At T m c below) (hx : tb.exec = Jvm.exec) {cd : ClassFile.Cond} {x y : Int32} {o : Int} (hd : decode c.code pc = .ok (.if_icmp cd o, 3)) (X Y : Int) (ex : x.toInt = X) (ey : y.toInt = Y) (hc : ¬ icR cd X Y) (p' : Nat) (hp : p' = pc + 3) (q : Goes tb e below P T (mkF m p' L S)) : Goes tb e below P T (mkF m pc L (.int y :: .int x :: S)) := by
  subst hp; exact q.via fun _ k => XS.icmpNo h hx rfl hd rfl (icR_no ex ey hc) k
theorem g_icmp (h : At T m c below) (hx : tb.exec = Jvm.exec) {cd : ClassFile.Cond} {x y : Int32} {o : Int} (hd : decode c.code pc = .ok (.if_icmp cd o, 3)) (X Y : Int) (ex : x.toInt = X) (ey : y.toInt = Y) (p1 p2 : Nat) (ho : 0 ≤ (pc : Int) + o) (hp : ((pc : Int) + o).toNat = p1) (hp2 : p2 = pc + 3) (q1 : icR cd X Y → Goes tb e below P T (mkF m p1 L S)) (q2 : ¬ icR cd X Y → Goes tb e below P T (mkF m p2 L S)) : Goes tb e below P T (mkF m pc L (.int y :: .int x :: S)) := by
  by_cases hc : icR cd X Y
  · exact g_icmpT h hx hd X Y ex ey hc p1 ho hp (q1 hc)
  · exact g_icmpF h hx hd X Y ex ey hc p2 hp2 (q2 hc)
theorem g_ifT (h : At T m c below) (hx : tb.exec = Jvm.exec) {cd : ClassFile.Cond} {x : Int32} {o : Int} (hd : decode c.code pc = .ok (.ifCond cd o, 3)) (X : Int) (ex : x.toInt = X) (hc : icR cd X 0) (p' : Nat) (ho : 0 ≤ (pc : Int) + o) (hp : ((pc : Int) + o).toNat = p') (q : Goes tb e below P T (mkF m p' L S)) : Goes tb e below P T (mkF m pc L (.int x :: S)) := q.via fun _ k => XS.ifYes h hx rfl rfl hd rfl ((if0 _ _).trans (icR_yes ex (by decide) hc)) ho hp k
theorem g_ifF (h : At T m c below) (hx : tb.exec = Jvm.exec) {cd : ClassFile.Cond} {x : Int32} {o : Int} (hd : decode c.code pc = .ok (.ifCond cd o, 3)) (X : Int) (ex : x.toInt = X) (hc : ¬ icR cd X 0) (p' : Nat) (hp : p' = pc + 3) (q : Goes tb e below P T (mkF m p' L S)) : Goes tb e below P T (mkF m pc L (.int x :: S)) := by
  subst hp; exact q.via fun _ k => XS.ifNo h hx rfl hd rfl ((if0 _ _).trans (icR_no ex (by decide) hc)) k
theorem g_if (h : At T m c below) (hx : tb.exec = Jvm.exec) {cd : ClassFile.Cond} {x : Int32} {o : Int} (hd : decode c.code pc = .ok (.ifCond cd o, 3)) (X : Int) (ex : x.toInt = X) (p1 p2 : Nat) (ho : 0 ≤ (pc : Int) + o) (hp : ((pc : Int) + o).toNat = p1) (hp2 : p2 = pc + 3) (q1 : icR cd X 0 → Goes tb e below P T (mkF m p1 L S)) (q2 : ¬ icR cd X 0 → Goes tb e below P T (mkF m p2 L S)) : Goes tb e below P T (mkF m pc L (.int x :: S)) := by
  by_cases hc : icR cd X 0
  · exact g_ifT h hx hd X ex hc p1 ho hp (q1 hc)
  · exact g_ifF h hx hd X ex hc p2 hp2 (q2 hc)
theorem g_ifnullT (h : At T m c below) (hx : tb.exec = Jvm.exec) {o : Int} (hd : decode c.code pc = .ok (.ifnull o, 3)) (p' : Nat) (ho : 0 ≤ (pc : Int) + o) (hp : ((pc : Int) + o).toNat = p') (q : Goes tb e below P T (mkF m p' L S)) : Goes tb e below P T (mkF m pc L (.null :: S)) := q.via fun _ k => XS.ifnullYes h hx rfl rfl hd rfl ho hp k
theorem g_ifnullF (h : At T m c below) (hx : tb.exec = Jvm.exec) {o : Int} {b : Addr} (hd : decode c.code pc = .ok (.ifnull o, 3)) (p' : Nat) (hp : p' = pc + 3) (q : Goes tb e below P T (mkF m p' L S)) : Goes tb e below P T (mkF m pc L (.ref b :: S)) := by
  subst hp; exact q.via fun _ k => XS.ifnullNo h hx rfl hd rfl k
theorem g_ifnonnullT (h : At T m c below) (hx : tb.exec = Jvm.exec) {o : Int} {b : Addr} (hd : decode c.code pc = .ok (.ifnonnull o, 3)) (p' : Nat) (ho : 0 ≤ (pc : Int) + o) (hp : ((pc : Int) + o).toNat = p') (q : Goes tb e below P T (mkF m p' L S)) : Goes tb e below P T (mkF m pc L (.ref b :: S)) := q.via fun _ k => XS.ifnonnullYes h hx rfl rfl hd rfl ho hp k
theorem g_ifnonnullF (h : At T m c below) (hx : tb.exec = Jvm.exec) {o : Int} (hd : decode c.code pc = .ok (.ifnonnull o, 3)) (p' : Nat) (hp : p' = pc + 3) (q : Goes tb e below P T (mkF m p' L S)) : Goes tb e below P T (mkF m pc L (.null :: S)) := by
  subst hp; exact q.via fun _ k => XS.ifnonnullNo h hx rfl hd rfl k
end G
/-! part B: the walk's state (St), one law a step that reads the tables or the heap -/
/-- md 0: no String constant is loaded; 1: some may be; 2: and a stack trace may be filled in -/
def EndOf (md : Nat) (s : State) (o : Outcome) (t : State) (L : List Loc) (k n : Nat) : Prop := (md = 0 → FrameEnd s o t L k n) ∧ (md ≠ 0 → ReturnedEndW s o t L k n)
def KnOf (md : Nat) (vm : Vm) (bl : List Frame) : Prop := md = 2 → vm.MethodsKnown ∧ vm.FramesKnown bl
def St (md : Nat) (p : Program) (l : Launch) (e : Env) (R : Room) (s : State) (m : MethodId) (args : Array Value) (below : List Frame) (meth : Method) (c : Code) (own : String) (Z : State) (EL : List (String × Nat)) (vm : Vm) (T : State) (h : Heap) (cells slots : Nat) : Prop :=
  ∃ locs k, Stand p l e R (s.setVm vm) m args below meth c T locs cells slots ∧ T.heap = h ∧ Z.Warmed39 vm ∧ vm.findClass own = some m.cls ∧ s.Since vm k ∧ k ≤ h.size ∧ CHr Z EL s.vm s.heap vm h ∧ Fr Z.heap.size locs ∧ Old Z Z.heap.size h ∧ (md = 0 → vm = s.vm ∧ EL = []) ∧ KnOf md vm below ∧ ∃ a0, EW Z a0 EL ∧ Old Z Z.heap.size s.heap
/-- what a body leaves, as its caller is told -/
def Pof (md : Nat) (Z : State) (EL : List (String × Nat)) (s : State) (rm : Room) (Q : Option Value → Heap → Prop) : Outcome → State → Prop :=
  fun o U => ∃ v L, o = .returned v ∧ (Q v U.heap ∧ Fr Z.heap.size L ∧ Old Z Z.heap.size U.heap) ∧ CHr Z EL s.vm s.heap U.vm U.heap ∧ EndOf md s o U L rm.cells rm.slots
/-- a contract -/
def Ct (md : Nat) (l : Launch) (Z : State) (EL : List (String × Nat)) (sf : List Addr) (y : MethodName) (bytes : ByteArray) (maxL : Nat) (ret : Option FieldType) (rm : Room) (as' : Array Value) (h : Heap) (Q : Option Value → Heap → Prop) : Prop :=
  ∀ ws, MetFree l y (head1 (Cond.code y bytes maxL ret :: ws) rm) (fun a U => a = as' ∧ Z.Warmed39 U.vm ∧ U.heap = h ∧ CHv Z EL U.vm h ∧ ∀ x ∈ sf, Safe Z EL U.vm h x) (fun _ _ bl s _ => KnOf md s.vm bl) (fun _ U o U' => Pof md Z EL U rm Q o U')
theorem own_is1 {z : Int32} {Q : Prop} (h : (z = 1 ∧ Q) ∨ (z = 0 ∧ ¬ Q)) (q : Q) : z = 1 := h.elim (fun r => r.1) fun r => absurd q r.2
theorem own_is0 {z : Int32} {Q : Prop} (h : (z = 1 ∧ Q) ∨ (z = 0 ∧ ¬ Q)) (q : ¬ Q) : z = 0 := h.elim (fun r => absurd r.2 q) fun r => r.1
theorem own_two {Q : Addr → Prop} {a b : Addr} (h1 : Q a) (h2 : Q b) : ∀ x ∈ [a, b], Q x := fun x hx => (List.mem_cons.mp hx).elim (fun e => e ▸ h1) fun e => (List.mem_singleton.mp e) ▸ h2
theorem own_ne_new {a b : Addr} {h : Heap} (g : b = h.size) (l : a < h.size) : b ≠ a := fun q => absurd l (by rw [← q, g]; exact Nat.lt_irrefl _)
section B
variable {md : Nat} {p : Program} {l : Launch} {e : Env} {R : Room} {s : State} {m : MethodId} {args : Array Value} {below : List Frame} {meth : Method} {c : Code} {own : String} {Z : State} {EL : List (String × Nat)} {vm vm' : Vm} {T : State} {h h' : Heap} {cells slots : Nat} {P : Outcome → State → Prop} {pc : Nat} {L : Array Slot} {K : List Value} {a0 : Array Value}
theorem safe_nil {x : Addr} : Safe Z [] vm h x := fun B => by obtain ⟨q, hq, -⟩ := B; cases hq
theorem chv_nil : CHv Z [] vm h := fun q hq => by cases hq
theorem chr_nil (g : h.size ≤ h'.size) : CHr Z [] vm h vm' h' := ⟨chv_nil, g, fun y B => by obtain ⟨q, hq, -⟩ := B; cases hq⟩
theorem ew_nil : EW Z a0 [] := EW.nil
theorem St.here (S : St md p l e R s m args below meth c own Z EL vm T h cells slots) : At T m c below := by obtain ⟨_, _, X, -⟩ := S; exact X.here
theorem St.old (S : St md p l e R s m args below meth c own Z EL vm T h cells slots) : Old Z Z.heap.size h := by obtain ⟨_, _, -, -, -, -, -, -, -, -, O, -⟩ := S; exact O
theorem St.warm (S : St md p l e R s m args below meth c own Z EL vm T h cells slots) : Z.Warmed39 vm := by obtain ⟨_, _, -, -, hZ, -⟩ := S; exact hZ
theorem St.chr (S : St md p l e R s m args below meth c own Z EL vm T h cells slots) : CHr Z EL s.vm s.heap vm h := by obtain ⟨_, _, -, -, -, -, -, -, C, -⟩ := S; exact C
theorem St.ew (S : St md p l e R s m args below meth c own Z EL vm T h cells slots) : ∃ a0, EW Z a0 EL := by obtain ⟨_, _, -, -, -, -, -, -, -, -, -, -, -, a0, E, -⟩ := S; exact ⟨a0, E⟩
theorem St.size (S : St md p l e R s m args below meth c own Z EL vm T h cells slots) : Z.heap.size ≤ h.size := S.old.2.1
theorem St.safeE (S : St md p l e R s m args below meth c own Z EL vm T h cells slots) {x : Addr} {C : String} (E : Exa Z h x C) (h1 : C ≠ "java/lang/String") (h2 : C ≠ "[B") : Safe Z EL vm h x := Safe.exa S.warm.alike E h1 h2
theorem St.safeA (S : St md p l e R s m args below meth c own Z EL vm T h cells slots) {x : Addr} {k : ClassId} {ty : FieldType} {z : Int32} {vs : List Value} {dv : Value} (F : Arv Z h x k ty z vs dv) (ht : ty ≠ .byte) : Safe Z EL vm h x := Safe.arv S.warm.alike F ht
/-- entering a body -/
theorem Ct.intro {y : MethodName} {bytes : ByteArray} {maxL : Nat} {ret : Option FieldType} {rm : Room} {as' : Array Value} {Q : Option Value → Heap → Prop} (hpl : plainFor y = true) (hO : Old Z Z.heap.size h) (hmd : md = 0 → EL = []) (hE : ∃ a0, EW Z a0 EL) {sf : List Addr}
    (body : ∀ p e s m below meth c T, p.tables.exec = Jvm.exec → c.code = bytes → c.maxLocals = maxL → meth.sig.returnType = ret → meth.name = y.name → meth.locks = false → (∀ x ∈ sf, Safe Z EL s.vm h x) →
      St md p l e rm s m as' below meth c y.cls Z EL s.vm T h 0 0 → Goes p.tables e below (Pof md Z EL s rm Q) T (entryFrame m as' maxL)) : Ct md l Z EL sf y bytes maxL ret rm as' h Q := by
  intro ws
  refine MetFree.of_bodySF hpl hisR ?_
  intro p e s m args below meth c s₁ Bd hml hP hK
  obtain ⟨rfl, hZ, rfl, hC, hsf⟩ := hP
  obtain ⟨a1, hE⟩ := hE
  have X0 : Stand p l e rm s m args below meth c s₁ [] 0 0 := Stand.of_body Bd
  have e0 : s₁.heap = s.heap := by rw [Bd.state]; rfl
  have hown : s.vm.findClass y.cls = some m.cls := findClass_of_methodNamed Bd.named
  refine body p e s m below meth c s₁ Bd.exec Bd.bytes hml Bd.returns (name_of_methodNamed Bd.named Bd.method).1 Bd.notSynchronized hsf ⟨[], 0, X0, e0, hZ, hown, (State.WarmedH.refl s).since 0, Nat.zero_le _, CHr.refl hC, Fr.nil _, hO, fun q => ⟨rfl, hmd q⟩, hK, a1, hE, hO⟩
/-- new -/
theorem St.new (S : St md p l e R s m args below meth c own Z EL vm T h cells slots) (hx : p.tables.exec = Jvm.exec) {C : String} {index n : Nat} (w : (Cond.classLink own index C).before a0 Z = true) (wi : (Cond.instantiable C n).before a0 Z = true) (wz : (Cond.initialized C).before a0 Z = true) (hd : decode c.code pc = .ok (.new index, 3)) (hc : cells + 1 ≤ R.cells) (hl : slots + n ≤ R.slots) (p' : Nat) (hp : p' = pc + 3)
    (q : ∀ T' h' a, St md p l e R s m args below meth c own Z EL vm T' h' (cells + 1) (slots + n) → a = h.size → Ext h h' → Exa Z h' a C → (∀ {O nm d : String} {ty : FieldType}, Laid Z a0 C O nm d → parseFieldDescriptor d = some ty → Fld Z h' a O nm d (defaultValue ty)) → Safe Z EL vm h' a → CHr Z EL vm h vm h' → (∃ cell : Cell, h'[a]? = some cell ∧ cell.vm = .none ∧ cell.monitor = {}) → Goes p.tables e below P T' (mkF m p' L (.ref a :: K))) : Goes p.tables e below P T (mkF m pc L K) := by
  subst hp
  obtain ⟨locs, k, X, eT, hZ, hown, hS, hk, hC, hF, hO, h0, h2, hE⟩ := S
  obtain ⟨T', h', X', e', E', A', D', U', st⟩ := newO X hx hZ hown w wi wz eT (g := mkF m pc L K) rfl hd hc hl
  exact (q T' h' h.size ⟨locs, k, X', e', hZ, hown, hS, Nat.le_trans hk E'.1, hC.trans (CHr.ext E' hC.1), hF, hO.ext E', h0, h2, hE⟩ rfl E' A' D' (Safe.ext E' hC.1 (Safe.new (Nat.le_refl _))) (CHr.ext E' hC.1) U').via st
theorem St.getF (S : St md p l e R s m args below meth c own Z EL vm T h cells slots) (hx : p.tables.exec = Jvm.exec) {R0 O n d host : String} {index : Nat} (w : (Cond.fieldLink own index R0 n d).before a0 Z = true ∨ (Cond.fieldLinkNest own index R0 n d host).before a0 Z = true) (via : Via Z R0 O n d) {a : Addr} {v : Value} (F : Fld Z h a O n d v) (hd : decode c.code pc = .ok (.getfield index, 3)) (p' : Nat) (hp : p' = pc + 3)
    (q : ∀ T', St md p l e R s m args below meth c own Z EL vm T' h cells slots → Goes p.tables e below P T' (mkF m p' L (v :: K))) : Goes p.tables e below P T (mkF m pc L (.ref a :: K)) := by
  subst hp
  obtain ⟨locs, k, X, eT, hZ, hown, r⟩ := S
  obtain ⟨T', X', e', st⟩ := RoadKit.getF X hx hZ hown w via eT F (g := mkF m pc L (.ref a :: K)) rfl rfl hd
  exact (q T' ⟨locs, k, X', e', hZ, hown, r⟩).via st
theorem St.putF (S : St md p l e R s m args below meth c own Z EL vm T h cells slots) (hx : p.tables.exec = Jvm.exec) {R0 O n d host C : String} {index kk : Nat} {ty : FieldType} (w : (Cond.fieldLink own index R0 n d).before a0 Z = true ∨ (Cond.fieldLinkNest own index R0 n d host).before a0 Z = true) (via : Via Z R0 O n d) {a : Addr} {v u : Value} (F : Fld Z h a O n d u) (E : Exa Z h a C)
    (Ly : (Cond.lays C O n d).before a0 Z = true ∨ ((Cond.laysFinal C O n d).before a0 Z = true ∧ own = O ∧ meth.name = "<init>")) (wi : (Cond.instantiable C kk).before a0 Z = true) (hty : parseFieldDescriptor d = some ty) (hn : narrow ty v = v) (hf : fits ty v = true) (sf : Safe Z EL vm h a) (ga : Z.heap.size ≤ a) (hd : decode c.code pc = .ok (.putfield index, 3)) (p' : Nat) (hp : p' = pc + 3)
    (q : ∀ T' h', St md p l e R s m args below meth c own Z EL vm T' h' cells slots → Wr h h' a (Jvm.RoadKit.slotOf Z O n d) v → CHr Z EL vm h vm h' → Goes p.tables e below P T' (mkF m p' L K)) : Goes p.tables e below P T (mkF m pc L (v :: .ref a :: K)) := by
  subst hp
  obtain ⟨locs, k, X, eT, hZ, hown, hS, hk, hC, hF, hO, h0, h2, hE⟩ := S
  obtain ⟨T', h', X', e', W', st⟩ := RoadKit.putF X hx hZ hown w via eT F E Ly wi hty hn hf (g := mkF m pc L (v :: .ref a :: K)) rfl rfl hd
  have hR := CHr.wr W' sf hC.1
  exact (q T' h' ⟨_, k, X', e', hZ, hown, hS, Nat.le_trans hk hR.2.1, hC.trans hR, Fr.snoc X' hF ga, hO.wr W' ga, h0, h2, hE⟩ W' hR).via st
theorem St.getS (S : St md p l e R s m args below meth c own Z EL vm T h cells slots) (hx : p.tables.exec = Jvm.exec) {R0 O n d host : String} {index : Nat} (w : (Cond.fieldLink own index R0 n d).before a0 Z = true ∨ (Cond.fieldLinkNest own index R0 n d host).before a0 Z = true) (via : Via Z R0 O n d) {v : Value} (F : Sta Z h O n d v) (hd : decode c.code pc = .ok (.getstatic index, 3)) (p' : Nat) (hp : p' = pc + 3)
    (q : ∀ T', St md p l e R s m args below meth c own Z EL vm T' h cells slots → Goes p.tables e below P T' (mkF m p' L (v :: K))) : Goes p.tables e below P T (mkF m pc L K) := by
  subst hp
  obtain ⟨locs, k, X, eT, hZ, hown, r⟩ := S
  obtain ⟨T', X', e', st⟩ := getS2 X hx hZ hown w via eT F (g := mkF m pc L K) rfl hd
  exact (q T' ⟨locs, k, X', e', hZ, hown, r⟩).via st
theorem St.castY (S : St md p l e R s m args below meth c own Z EL vm T h cells slots) (hx : p.tables.exec = Jvm.exec) {C : String} {index : Nat} (w : (Cond.classLink own index C).before a0 Z = true) {a : Addr} (F : Ins Z h a C true) (hd : decode c.code pc = .ok (.checkcast index, 3)) (p' : Nat) (hp : p' = pc + 3)
    (q : ∀ T', St md p l e R s m args below meth c own Z EL vm T' h cells slots → Goes p.tables e below P T' (mkF m p' L (.ref a :: K))) : Goes p.tables e below P T (mkF m pc L (.ref a :: K)) := by
  subst hp
  obtain ⟨locs, k, X, eT, hZ, hown, r⟩ := S
  obtain ⟨T', X', e', st⟩ := RoadKit.castY X hx hZ hown w eT F (g := mkF m pc L (.ref a :: K)) rfl rfl hd
  exact (q T' ⟨locs, k, X', e', hZ, hown, r⟩).via st
theorem St.instY (S : St md p l e R s m args below meth c own Z EL vm T h cells slots) (hx : p.tables.exec = Jvm.exec) {C : String} {index : Nat} (w : (Cond.classLink own index C).before a0 Z = true) {a : Addr} (F : Ins Z h a C true) (hd : decode c.code pc = .ok (.instanceof index, 3)) (p' : Nat) (hp : p' = pc + 3)
    (q : ∀ T', St md p l e R s m args below meth c own Z EL vm T' h cells slots → Goes p.tables e below P T' (mkF m p' L (.int 1 :: K))) : Goes p.tables e below P T (mkF m pc L (.ref a :: K)) := by
  subst hp
  obtain ⟨locs, k, X, eT, hZ, hown, r⟩ := S
  obtain ⟨T', X', e', st⟩ := RoadKit.instY X hx hZ hown w eT F (g := mkF m pc L (.ref a :: K)) rfl rfl hd
  exact (q T' ⟨locs, k, X', e', hZ, hown, r⟩).via st
theorem St.ldcI (S : St md p l e R s m args below meth c own Z EL vm T h cells slots) (hx : p.tables.exec = Jvm.exec) {index : Nat} {v : Int32} (w : (Cond.constant own index v).before a0 Z = true) (hd : decode c.code pc = .ok (.ldc index, 2)) (p' : Nat) (hp : p' = pc + 2)
    (q : Goes p.tables e below P T (mkF m p' L (.int v :: K))) : Goes p.tables e below P T (mkF m pc L K) := by
  subst hp
  obtain ⟨locs, k, X, eT, hZ, hown, r⟩ := S
  exact q.via fun t k => X.ldcInt hx hown (mvT (s := s.setVm vm) hZ w) (g := mkF m pc L K) rfl hd t k
theorem St.ldcJ (S : St md p l e R s m args below meth c own Z EL vm T h cells slots) (hx : p.tables.exec = Jvm.exec) {index : Nat} {v : Int64} (w : (Cond.constantLong own index v).before a0 Z = true) (hd : decode c.code pc = .ok (.ldc2_w index, 3)) (p' : Nat) (hp : p' = pc + 3)
    (q : Goes p.tables e below P T (mkF m p' L (.long v :: K))) : Goes p.tables e below P T (mkF m pc L K) := by
  subst hp
  obtain ⟨locs, k, X, eT, hZ, hown, r⟩ := S
  exact q.via fun t k => X.ldc2Long hx hown (mvT (s := s.setVm vm) hZ w) (g := mkF m pc L K) rfl hd t k
/-- newarray of a primitive kind -/
theorem St.newA (S : St md p l e R s m args below meth c own Z EL vm T h cells slots) (hx : p.tables.exec = Jvm.exec) {aty : ArrayType} (w : (Cond.arrayClass (newarray.typeOf aty)).before a0 Z = true) {n : Int32} (hn : ¬ n < 0) {cap : Nat} (hcap : n.toNatClampNeg ≤ cap) (hb : cap * 8 ≤ 536870912) (hd : decode c.code pc = .ok (.newarray aty, 2)) (hc : cells + 1 ≤ R.cells) (hl : slots + cap ≤ R.slots) (p' : Nat) (hp : p' = pc + 2)
    (q : ∀ T' h' a k, St md p l e R s m args below meth c own Z EL vm T' h' (cells + 1) (slots + cap) → a = h.size → Ext h h' → Arv Z h' a k (newarray.typeOf aty) n (List.replicate cap (defaultValue (newarray.typeOf aty))) (defaultValue (newarray.typeOf aty)) → Safe Z EL vm h' a → CHr Z EL vm h vm h' → Goes p.tables e below P T' (mkF m p' L (.ref a :: K))) : Goes p.tables e below P T (mkF m pc L (.int n :: K)) := by
  subst hp
  obtain ⟨locs, k, X, eT, hZ, hown, hS, hk, hC, hF, hO, h0, h2, hE⟩ := S
  obtain ⟨T', h', cA, X', e', E', A', st⟩ := newP X hx hZ w eT (g := mkF m pc L (.int n :: K)) rfl hd rfl hn hcap hb hc hl
  exact (q T' h' h.size cA ⟨locs, k, X', e', hZ, hown, hS, Nat.le_trans hk E'.1, hC.trans (CHr.ext E' hC.1), hF, hO.ext E', h0, h2, hE⟩ rfl E' ((Arv.new A' hn).pad (pad_rep [] _ cap)) (Safe.ext E' hC.1 (Safe.new (Nat.le_refl _))) (CHr.ext E' hC.1)).via st
/-- castore -/
theorem St.stC (S : St md p l e R s m args below meth c own Z EL vm T h cells slots) (hx : p.tables.exec = Jvm.exec) {a : Addr} {k : ClassId} {z j x : Int32} {vs : List Value} {dv : Value} (A : Arv Z h a k .char z vs dv) (i : Nat) (hj : ¬ j < 0 ∧ j < z) (hi : j.toNatClampNeg = i) (hv : i < vs.length) (ga : Z.heap.size ≤ a) (x' : Int32) (hx' : nar .char x = x') (hd : decode c.code pc = .ok (.castore, 1)) (p' : Nat) (hp : p' = pc + 1)
    (q : ∀ T' h', St md p l e R s m args below meth c own Z EL vm T' h' cells slots → Wr h h' a i (.int x') → Arv Z h' a k .char z (vs.set i (.int x')) dv → CHr Z EL vm h vm h' → Goes p.tables e below P T' (mkF m p' L K)) : Goes p.tables e below P T (mkF m pc L (.int x :: .int j :: .ref a :: K)) := by
  subst hp hx'
  have sf := S.safeA A (by decide)
  obtain ⟨locs, kk, X, eT, hZ, hown, hS, hk, hC, hF, hO, h0, h2, hE⟩ := S
  obtain ⟨cl, A1, A2, A3, A4, A5, A6⟩ := A
  obtain ⟨T', h', X', e', W', st⟩ := RoadKit.stC X hx hZ eT A1 (j := j) (inb_of A3 hj) (g := mkF m pc L (.int x :: .int j :: .ref a :: K)) rfl rfl hd
  have hR := CHr.wr W' sf hC.1
  exact (q T' h' ⟨_, kk, X', e', hZ, hown, hS, Nat.le_trans hk hR.2.1, hC.trans hR, Fr.snoc X' hF ga, hO.wr W' ga, h0, h2, hE⟩ (by rw [← hi]; exact W') (Arv.set A1 A2 A3 A4 A5 A6 (fits_nar_char x) W' i hi hv) hR).via st
theorem St.len (S : St md p l e R s m args below meth c own Z EL vm T h cells slots) (hx : p.tables.exec = Jvm.exec) {a : Addr} {k : ClassId} {ty : FieldType} {z : Int32} {vs : List Value} {dv : Value} (A : Arv Z h a k ty z vs dv) (hd : decode c.code pc = .ok (.arraylength, 1)) (p' : Nat) (hp : p' = pc + 1)
    (q : Goes p.tables e below P T (mkF m p' L (.int z :: K))) : Goes p.tables e below P T (mkF m pc L (.ref a :: K)) := by
  subst hp
  obtain ⟨locs, kk, X, eT, hZ, hown, r⟩ := S
  obtain ⟨cl, A1, A2, A3, A4, A5, A6⟩ := A
  refine q.via fun t k => X.arraylength hx (by rw [eT]; exact A1.1) (State.isArrayOf_alike (T := s.setVm vm) hZ.alike A1.2.1) (g := mkF m pc L (.ref a :: K)) rfl rfl hd t ?_
  rw [len_of A3 A4]; exact k
end B

/-! part C: calls, String constants, returns -/
abbrev PreN (R : Room) (as' : Array Value) (h : Heap) (k n : Nat) : Pt → Array Value → Prop := fun A a => a = as' ∧ A.U.heap = h ∧ A.cells + k ≤ R.cells ∧ A.slots + n ≤ R.slots
abbrev PostN (Q : Option Value → Heap → List Loc → Prop) (k n : Nat) : Pt → Array Value → Option Value → Pt → Prop := fun A _ v B => ∃ L, Q v B.U.heap L ∧ B.locs = A.locs ++ L ∧ B.cells = A.cells + k ∧ B.slots = A.slots + n
abbrev PostW (Q : Option Value → Heap → List Loc → Prop) (k n : Nat) (Z : State) (EL : List (String × Nat)) (vm : Vm) (h : Heap) : Pt → Array Value → Option Value → Pt → Prop := fun A _ v B => ∃ L, Q v B.U.heap L ∧ B.locs = A.locs ++ L ∧ B.cells = A.cells + k ∧ B.slots = A.slots + n ∧ CHr Z EL vm h B.U.vm B.U.heap
section C
variable {md : Nat} {p : Program} {l : Launch} {e : Env} {R : Room} {s : State} {m : MethodId} {args : Array Value} {below : List Frame} {meth : Method} {c : Code} {own : String} {Z : State} {EL : List (String × Nat)} {vm : Vm} {T : State} {h : Heap} {cells slots : Nat} {P : Outcome → State → Prop} {pc : Nat} {L : Array Slot} {K : List Value} {a0 : Array Value} {y : MethodName} {bytes : ByteArray} {maxL : Nat} {ret : Option FieldType} {rm : Room} {as' : Array Value} {Q : Option Value → Heap → Prop} {W len : Nat}
theorem nosf : ∀ x ∈ ([] : List Addr), x < h.size ∧ Safe Z EL vm h x := fun _ q => nomatch q
theorem ctBack {sf : List Addr} (hM : Ct 0 l Z [] sf y bytes maxL ret rm as' h Q) (hZ : Z.Warmed39 s.vm) (wc : (Cond.code y bytes maxL ret).before a0 Z = true) (wz : (Cond.initialized y.cls).before a0 Z = true) (hf : rm.frames + 1 ≤ R.frames) (hl : W + (maxL + 11) + rm.locals ≤ R.locals) :
    Back l R p e below s args y len W (PreN R as' h rm.cells rm.slots) (PostN (fun v h' L => Q v h' ∧ Fr Z.heap.size L ∧ Old Z Z.heap.size h' ∧ h.size ≤ h'.size) rm.cells rm.slots) := by
  have hM' : MetFree l y (head1 [Cond.code y bytes maxL ret] rm) (fun a U => a = as' ∧ Z.Warmed39 U.vm ∧ U.heap = h) (fun _ _ _ _ _ => True) (fun _ U o U' => ∃ v L, o = .returned v ∧ (Q v U'.heap ∧ Fr Z.heap.size L ∧ Old Z Z.heap.size U'.heap ∧ h.size ≤ U'.heap.size) ∧ FrameEnd U o U' L rm.cells rm.slots) := fun p e ha hc hk s m args below hf happ hP hK => by
    obtain ⟨n, o, h1, h2, h3, v, L, r1, r2, r3, r4⟩ := hM [] p e ha hc hk s m args below hf happ ⟨hP.1, hP.2.1, hP.2.2, chv_nil, fun _ _ => safe_nil⟩ (fun q => by cases q)
    exact ⟨n, o, h1, h2, h3, v, L, r1, ⟨r2.1, r2.2.1, r2.2.2, by rw [← hP.2.2]; exact r3.2.1⟩, r4.1 rfl⟩
  exact backOf (Q := fun v h' L => Q v h' ∧ Fr Z.heap.size L ∧ Old Z Z.heap.size h' ∧ h.size ≤ h'.size) hM' hZ wc wz hf hl
theorem ctBackS {sf : List Addr} (hmd : md ≠ 0) (hM : Ct md l Z EL sf y bytes maxL ret rm as' h Q) (hZ : Z.Warmed39 vm) (wc : (Cond.code y bytes maxL ret).before a0 Z = true) (wz : (Cond.initialized y.cls).before a0 Z = true) (hf : rm.frames + 1 ≤ R.frames) (hl : W + (maxL + 11) + rm.locals ≤ R.locals) {a1 : Array Value} (hEL : EW Z a1 EL) (H : CHv Z EL vm h) (hkn : KnOf md vm below) (hsf : ∀ x ∈ sf, x < h.size ∧ Safe Z EL vm h x) :
    BackS l R p e below (s.setVm vm) args y len W (PreN R as' h rm.cells rm.slots) (PostW (fun v h' L => Q v h' ∧ Fr Z.heap.size L ∧ Old Z Z.heap.size h') rm.cells rm.slots Z EL vm h) :=
  BackS.of_freeWG (bytes := bytes) (maxL := maxL) (ret := ret) (E := fun _ first o t L k n => k = rm.cells ∧ n = rm.slots ∧ (∃ v, o = .returned v ∧ Q v t.heap ∧ Fr Z.heap.size L ∧ Old Z Z.heap.size t.heap) ∧ CHr Z EL first.vm first.heap t.vm t.heap) (hM []) hf hl
    (fun m meth c A a Y hp => have hU : Z.Warmed39 A.U.vm := wtrans (s := s.setVm vm) hZ Y.warmed
      ⟨by show (Cond.and _ .tt).before a A.U = true; rw [Cond.before_and, mv hU wc]; rfl, mv hU wc, mv hU wz, hp.2.2.1, hp.2.2.2⟩)
    (fun m meth c A a g mk Y hp => ⟨hp.1, wtrans (s := s.setVm vm) hZ Y.warmed, hp.2.1, (CHv.at Y hZ hEL H).1, fun x hx => (CHv.at Y hZ hEL H).safe (hsf x hx).1 (hsf x hx).2⟩) (fun m meth c A a g mk Y _ hg q2 => known_frames Y hg (hkn q2).1 (hkn q2).2)
    (fun _ _ _ _ ⟨v, L, h1, h2, h3, h4⟩ => ⟨L, _, _, h4.2 hmd, rfl, rfl, ⟨v, h1, h2⟩, h3⟩)
    (fun m meth c A a g mk v t L k n Y hp _ _ ⟨e1, e2, ⟨v', e3, e4⟩, e5⟩ => by
      cases e3; subst e1 e2
      refine ⟨L, e4, rfl, rfl, rfl, (CHv.at Y hZ hEL H).trans ?_⟩
      rw [← hp.2.1]; exact e5)
theorem St.callSN (S : St md p l e R s m args below meth c own Z EL vm T h cells slots) (hx : p.tables.exec = Jvm.exec) {index : Nat}  (w1 : (Cond.methodLink own index y).before a0 Z = true) (w2 : (Cond.static y).before a0 Z = true) (w3 : (Cond.initialized y.cls).before a0 Z = true) (w4 : (Cond.code y bytes maxL ret).before a0 Z = true) (hy : y.cls ≠ "java/lang/invoke/MethodHandle" ∧ y.cls ≠ "java/lang/invoke/VarHandle") {k n : Nat} {QN : Option Value → Heap → List Loc → Prop} (hK : Back l R p e below (s.setVm vm) args y 3 W (PreN R as' h k n) (PostN QN k n)) (hQ : ∀ v h' Lc, QN v h' Lc → Fr Z.heap.size Lc ∧ Old Z Z.heap.size h' ∧ CHr Z EL vm h vm h') (hml : L.size = c.maxLocals) (argsL rest : List Value) (hlen : ∀ sig, parseMethodDescriptor y.desc = some sig → argsL.length = sig.parameters.length) (hst : K = argsL.reverse ++ rest) (has : argsL.toArray = as') (hW : (rest.map fun v => v.category).sum ≤ W) (hd : decode c.code pc = .ok (.invokestatic index, 3)) (hc : cells + k ≤ R.cells) (hs : slots + n ≤ R.slots) (p' : Nat) (hp : p' = pc + 3)
    (q : ∀ v T' h' Lc, St md p l e R s m args below meth c own Z EL vm T' h' (cells + k) (slots + n) → QN v h' Lc → CHr Z EL vm h vm h' → Goes p.tables e below P T' (mkF m p' L (v.toList ++ rest))) : Goes p.tables e below P T (mkF m pc L K) := by
  subst hp hst has
  obtain ⟨locs, k0, X, eT, hZ, hown, hS, hk, hC, hF, hO, h0, h2, hE⟩ := S
  obtain ⟨v, vm1, ⟨T', L', k', n'⟩, -, X', ⟨Lc, hq, l', y', z'⟩, st⟩ := Jvm.LawKit.callS X hx hown (mvT (s := s.setVm vm) hZ w1) (mvT (s := s.setVm vm) hZ w2) (mvT (s := s.setVm vm) hZ w3) (mvT (s := s.setVm vm) hZ w4) hy hK (g := mkF m pc L (argsL.reverse ++ rest)) rfl hml  (argsL := argsL) (rest := rest) hlen rfl (by show 2 * 0 + _ ≤ _; omega) hd (fun _ _ => ⟨rfl, eT, hc, hs⟩)
  dsimp only [Pt.U, Pt.locs, Pt.cells, Pt.slots] at X' l' y' z' st hq
  subst l' y' z'
  obtain ⟨r1, r2, r3⟩ := hQ v _ Lc hq
  exact (q v T' T'.heap Lc ⟨_, k0, X', rfl, hZ, hown, hS, Nat.le_trans hk r3.2.1, hC.trans r3, hF.app r1, r2, h0, h2, hE⟩ hq r3).via st
theorem St.callS {sf : List Addr} (S : St md p l e R s m args below meth c own Z EL vm T h cells slots) (hx : p.tables.exec = Jvm.exec) {index : Nat}  (w1 : (Cond.methodLink own index y).before a0 Z = true) (w2 : (Cond.static y).before a0 Z = true) (w3 : (Cond.initialized y.cls).before a0 Z = true) (w4 : (Cond.code y bytes maxL ret).before a0 Z = true) (hy : y.cls ≠ "java/lang/invoke/MethodHandle" ∧ y.cls ≠ "java/lang/invoke/VarHandle") (hM : Ct md l Z EL sf y bytes maxL ret rm as' h Q) (hsf : ∀ x ∈ sf, x < h.size ∧ Safe Z EL vm h x) (hf : rm.frames + 1 ≤ R.frames) (hl : W + (maxL + 11) + rm.locals ≤ R.locals) (hml : L.size = c.maxLocals) (argsL rest : List Value) (hlen : ∀ sig, parseMethodDescriptor y.desc = some sig → argsL.length = sig.parameters.length) (hst : K = argsL.reverse ++ rest) (has : argsL.toArray = as') (hW : (rest.map fun v => v.category).sum ≤ W) (hd : decode c.code pc = .ok (.invokestatic index, 3)) (hc : cells + rm.cells ≤ R.cells) (hs : slots + rm.slots ≤ R.slots) (p' : Nat) (hp : p' = pc + 3)
    (q : ∀ v vm' T' h', St md p l e R s m args below meth c own Z EL vm' T' h' (cells + rm.cells) (slots + rm.slots) → Q v h' → CHr Z EL vm h vm' h' → Goes p.tables e below P T' (mkF m p' L (v.toList ++ rest))) : Goes p.tables e below P T (mkF m pc L K) := by
  by_cases hmd : md = 0
  · subst hmd
    have hEL : EL = [] := by obtain ⟨_, _, -, -, -, -, -, -, -, -, -, h0, -⟩ := S; exact (h0 rfl).2
    subst hEL
    have hZ := S.warm
    exact St.callSN S hx w1 w2 w3 w4 hy (ctBack (s := s.setVm vm) hM hZ w4 w3 hf hl) (fun v h' Lc r => ⟨r.2.1, r.2.2.1, chr_nil r.2.2.2⟩) hml argsL rest hlen hst has hW hd hc hs p' hp (fun v T' h' Lc S' r R' => q v vm T' h' S' r.1 R')
  · subst hp hst has
    obtain ⟨locs, k0, X, eT, hZ, hown, hS, hk, hC, hF, hO, h0, h2, a1, hE⟩ := S
    have hK := ctBackS (s := s) (R := R) (p := p) (e := e) (below := below) (args := args) (W := W) (len := 3) hmd hM hZ w4 w3 hf hl hE.1 hC.1 h2 hsf
    obtain ⟨v, vm1, ⟨T', L', k', n'⟩, -, X', hS2, hgr, ⟨Lc, ⟨hq, r1, r2⟩, l', y', z', hR⟩, st⟩ := callSS X hx hown (mvT (s := s.setVm vm) hZ w1) (mvT (s := s.setVm vm) hZ w2) (mvT (s := s.setVm vm) hZ w3) (mvT (s := s.setVm vm) hZ w4) hy hK (g := mkF m pc L (argsL.reverse ++ rest)) rfl hml  (argsL := argsL) (rest := rest) hlen rfl (by show 2 * 0 + _ ≤ _; omega) hd (fun _ _ => ⟨rfl, eT, hc, hs⟩)
    dsimp only [Pt.U, Pt.locs, Pt.cells, Pt.slots] at X' l' y' z' st hq hS2 hgr hR
    subst l' y' z'
    obtain ⟨Y1, Y2, Y3, Y4⟩ := rebS hS (n1 := T.heap.size) (by rw [eT]; exact hk) X' hS2 hgr hZ hown
    exact (q v T'.vm T' T'.heap ⟨_, _, Y1, rfl, Y3, Y4, Y2, Nat.le_refl _, hC.trans hR, hF.app r1, r2, fun z => absurd z hmd, fun z => ⟨(h2 z).1.alikeC hS2.1.alike, (h2 z).2.alikeC hS2.1.alike⟩, a1, hE⟩ hq hR).to st
theorem St.callIN (S : St md p l e R s m args below meth c own Z EL vm T h cells slots) (hx : p.tables.exec = Jvm.exec) {index : Nat} {a : Addr} (hy1 : y.name = "<init>") (w1 : (Cond.methodLink own index y).before a0 Z = true) (w2 : (Cond.instanceMethod y).before a0 Z = true) (w4 : (Cond.code y bytes maxL none).before a0 Z = true) (hy : y.cls ≠ "java/lang/invoke/MethodHandle" ∧ y.cls ≠ "java/lang/invoke/VarHandle") {k n : Nat} {QN : Option Value → Heap → List Loc → Prop} (hK : Back l R p e below (s.setVm vm) args y 3 W (PreN R as' h k n) (PostN QN k n)) (hQ : ∀ v h' Lc, QN v h' Lc → Fr Z.heap.size Lc ∧ Old Z Z.heap.size h' ∧ CHr Z EL vm h vm h') (hml : L.size = c.maxLocals) (argsL rest : List Value) (hlen : ∀ sig, parseMethodDescriptor y.desc = some sig → argsL.length = sig.parameters.length) (hst : K = argsL.reverse ++ .ref a :: rest) (has : (.ref a :: argsL).toArray = as') (hW : (rest.map fun v => v.category).sum ≤ W) (hd : decode c.code pc = .ok (.invokespecial index, 3)) (hc : cells + k ≤ R.cells) (hs : slots + n ≤ R.slots) (p' : Nat) (hp : p' = pc + 3)
    (q : ∀ v T' h' Lc, St md p l e R s m args below meth c own Z EL vm T' h' (cells + k) (slots + n) → QN v h' Lc → CHr Z EL vm h vm h' → Goes p.tables e below P T' (mkF m p' L (v.toList ++ rest))) : Goes p.tables e below P T (mkF m pc L K) := by
  subst hp hst has
  obtain ⟨locs, k0, X, eT, hZ, hown, hS, hk, hC, hF, hO, h0, h2, hE⟩ := S
  obtain ⟨v, vm1, ⟨T', L', k', n'⟩, -, X', ⟨Lc, hq, l', y', z'⟩, st⟩ := X.specialBack hx hy1 hown (mvT (s := s.setVm vm) hZ w1) (mvT (s := s.setVm vm) hZ w2) (mvT (s := s.setVm vm) hZ w4) hy hK (g := mkF m pc L (argsL.reverse ++ .ref a :: rest)) rfl hml (Steps.refl _) (argsL := argsL) (rest := rest) hlen rfl (by show 2 * 0 + _ ≤ _; omega) hd (fun _ _ => ⟨rfl, eT, hc, hs⟩)
  dsimp only [Pt.U, Pt.locs, Pt.cells, Pt.slots] at X' l' y' z' st hq
  subst l' y' z'
  obtain ⟨r1, r2, r3⟩ := hQ v _ Lc hq
  exact (q v T' T'.heap Lc ⟨_, k0, X', rfl, hZ, hown, hS, Nat.le_trans hk r3.2.1, hC.trans r3, hF.app r1, r2, h0, h2, hE⟩ hq r3).to st
theorem St.callI {sf : List Addr} (S : St md p l e R s m args below meth c own Z EL vm T h cells slots) (hx : p.tables.exec = Jvm.exec) {index : Nat} {a : Addr} (hy1 : y.name = "<init>") (w1 : (Cond.methodLink own index y).before a0 Z = true) (w2 : (Cond.instanceMethod y).before a0 Z = true) (w4 : (Cond.code y bytes maxL none).before a0 Z = true) (hy : y.cls ≠ "java/lang/invoke/MethodHandle" ∧ y.cls ≠ "java/lang/invoke/VarHandle") (wz : (Cond.initialized y.cls).before a0 Z = true) (hM : Ct md l Z EL sf y bytes maxL none rm as' h Q) (hsf : ∀ x ∈ sf, x < h.size ∧ Safe Z EL vm h x) (hf : rm.frames + 1 ≤ R.frames) (hl : W + (maxL + 11) + rm.locals ≤ R.locals) (hml : L.size = c.maxLocals) (argsL rest : List Value) (hlen : ∀ sig, parseMethodDescriptor y.desc = some sig → argsL.length = sig.parameters.length) (hst : K = argsL.reverse ++ .ref a :: rest) (has : (.ref a :: argsL).toArray = as') (hW : (rest.map fun v => v.category).sum ≤ W) (hd : decode c.code pc = .ok (.invokespecial index, 3)) (hc : cells + rm.cells ≤ R.cells) (hs : slots + rm.slots ≤ R.slots) (p' : Nat) (hp : p' = pc + 3)
    (q : ∀ v vm' T' h', St md p l e R s m args below meth c own Z EL vm' T' h' (cells + rm.cells) (slots + rm.slots) → Q v h' → CHr Z EL vm h vm' h' → Goes p.tables e below P T' (mkF m p' L (v.toList ++ rest))) : Goes p.tables e below P T (mkF m pc L K) := by
  by_cases hmd : md = 0
  · subst hmd
    have hEL : EL = [] := by obtain ⟨_, _, -, -, -, -, -, -, -, -, -, h0, -⟩ := S; exact (h0 rfl).2
    subst hEL
    have hZ := S.warm
    exact St.callIN S hx hy1 w1 w2 w4 hy (ctBack (s := s.setVm vm) hM hZ w4 wz hf hl) (fun v h' Lc r => ⟨r.2.1, r.2.2.1, chr_nil r.2.2.2⟩) hml argsL rest hlen hst has hW hd hc hs p' hp (fun v T' h' Lc S' r R' => q v vm T' h' S' r.1 R')
  · subst hp hst has
    obtain ⟨locs, k0, X, eT, hZ, hown, hS, hk, hC, hF, hO, h0, h2, a1, hE⟩ := S
    have hK := ctBackS (s := s) (R := R) (p := p) (e := e) (below := below) (args := args) (W := W) (len := 3) hmd hM hZ w4 wz hf hl hE.1 hC.1 h2 hsf
    obtain ⟨v, vm1, ⟨T', L', k', n'⟩, -, X', hS2, hgr, ⟨Lc, ⟨hq, r1, r2⟩, l', y', z', hR⟩, st⟩ := X.specialBackS hx hy1 hown (mvT (s := s.setVm vm) hZ w1) (mvT (s := s.setVm vm) hZ w2) (mvT (s := s.setVm vm) hZ w4) hy hK (g := mkF m pc L (argsL.reverse ++ .ref a :: rest)) rfl hml (Steps.refl _) (argsL := argsL) (rest := rest) hlen rfl (by show 2 * 0 + _ ≤ _; omega) hd (fun _ _ => ⟨rfl, eT, hc, hs⟩)
    dsimp only [Pt.U, Pt.locs, Pt.cells, Pt.slots] at X' l' y' z' st hq hS2 hgr hR
    subst l' y' z'
    obtain ⟨Y1, Y2, Y3, Y4⟩ := rebS hS (n1 := T.heap.size) (by rw [eT]; exact hk) X' hS2 hgr hZ hown
    exact (q v T'.vm T' T'.heap ⟨_, _, Y1, rfl, Y3, Y4, Y2, Nat.le_refl _, hC.trans hR, hF.app r1, r2, fun z => absurd z hmd, fun z => ⟨(h2 z).1.alikeC hS2.1.alike, (h2 z).2.alikeC hS2.1.alike⟩, a1, hE⟩ hq hR).to st
theorem St.callVN (S : St md p l e R s m args below meth c own Z EL vm T h cells slots) (hx : p.tables.exec = Jvm.exec) {index : Nat} {a : Addr} {C : String} {x : MethodName} (w1 : (Cond.methodLink own index x).before a0 Z = true) (w2 : (Cond.declares x).before a0 Z = true) (nf : NotFace (s.setVm vm) x) (w5 : (Cond.selects C x y).before a0 Z = true) (w6 : (Cond.instanceMethod y).before a0 Z = true) (hy : x.cls ≠ "java/lang/invoke/MethodHandle" ∧ x.cls ≠ "java/lang/invoke/VarHandle") (E : Exa Z h a C) {k n : Nat} {QN : Option Value → Heap → List Loc → Prop} (hK : Back l R p e below (s.setVm vm) args y 3 W (PreN R as' h k n) (PostN QN k n)) (hQ : ∀ v h' Lc, QN v h' Lc → Fr Z.heap.size Lc ∧ Old Z Z.heap.size h' ∧ CHr Z EL vm h vm h') (hml : L.size = c.maxLocals) (argsL rest : List Value) (hlen : ∀ sig, parseMethodDescriptor x.desc = some sig → argsL.length = sig.parameters.length) (hst : K = argsL.reverse ++ .ref a :: rest) (has : (.ref a :: argsL).toArray = as') (hW : (rest.map fun v => v.category).sum ≤ W) (hd : decode c.code pc = .ok (.invokevirtual index, 3)) (hc : cells + k ≤ R.cells) (hs : slots + n ≤ R.slots) (p' : Nat) (hp : p' = pc + 3)
    (q : ∀ v T' h' Lc, St md p l e R s m args below meth c own Z EL vm T' h' (cells + k) (slots + n) → QN v h' Lc → CHr Z EL vm h vm h' → Goes p.tables e below P T' (mkF m p' L (v.toList ++ rest))) : Goes p.tables e below P T (mkF m pc L K) := by
  subst hp hst has
  obtain ⟨locs, k0, X, eT, hZ, hown, hS, hk, hC, hF, hO, h0, h2, hE⟩ := S
  obtain ⟨cq, kq, qa, qb, qc⟩ := isOf (s := s.setVm vm) hZ eT E
  obtain ⟨v, vm1, ⟨T', L', k', n'⟩, -, X', ⟨Lc, hq, l', y', z'⟩, st⟩ := X.virtualBack hx hown (mvT (s := s.setVm vm) hZ w1) (mvT (s := s.setVm vm) hZ w2) nf (mvT (s := s.setVm vm) hZ w5) (mvT (s := s.setVm vm) hZ w6) hy hK qa qc (g := mkF m pc L (argsL.reverse ++ .ref a :: rest)) rfl hml (Steps.refl _) (argsL := argsL) (rest := rest) hlen rfl (by show 2 * 0 + _ ≤ _; omega) hd (fun _ _ => ⟨rfl, eT, hc, hs⟩)
  dsimp only [Pt.U, Pt.locs, Pt.cells, Pt.slots] at X' l' y' z' st hq
  subst l' y' z'
  obtain ⟨r1, r2, r3⟩ := hQ v _ Lc hq
  exact (q v T' T'.heap Lc ⟨_, k0, X', rfl, hZ, hown, hS, Nat.le_trans hk r3.2.1, hC.trans r3, hF.app r1, r2, h0, h2, hE⟩ hq r3).to st
theorem St.callV {sf : List Addr} (S : St md p l e R s m args below meth c own Z EL vm T h cells slots) (hx : p.tables.exec = Jvm.exec) {index : Nat} {a : Addr} {C : String} {x : MethodName} (w1 : (Cond.methodLink own index x).before a0 Z = true) (w2 : (Cond.declares x).before a0 Z = true) (nf : NotFace (s.setVm vm) x) (w5 : (Cond.selects C x y).before a0 Z = true) (w6 : (Cond.instanceMethod y).before a0 Z = true) (hy : x.cls ≠ "java/lang/invoke/MethodHandle" ∧ x.cls ≠ "java/lang/invoke/VarHandle") (E : Exa Z h a C) (wc : (Cond.code y bytes maxL ret).before a0 Z = true) (wz : (Cond.initialized y.cls).before a0 Z = true) (hM : Ct md l Z EL sf y bytes maxL ret rm as' h Q) (hsf : ∀ x ∈ sf, x < h.size ∧ Safe Z EL vm h x) (hf : rm.frames + 1 ≤ R.frames) (hl : W + (maxL + 11) + rm.locals ≤ R.locals) (hml : L.size = c.maxLocals) (argsL rest : List Value) (hlen : ∀ sig, parseMethodDescriptor x.desc = some sig → argsL.length = sig.parameters.length) (hst : K = argsL.reverse ++ .ref a :: rest) (has : (.ref a :: argsL).toArray = as') (hW : (rest.map fun v => v.category).sum ≤ W) (hd : decode c.code pc = .ok (.invokevirtual index, 3)) (hc : cells + rm.cells ≤ R.cells) (hs : slots + rm.slots ≤ R.slots) (p' : Nat) (hp : p' = pc + 3)
    (q : ∀ v vm' T' h', St md p l e R s m args below meth c own Z EL vm' T' h' (cells + rm.cells) (slots + rm.slots) → Q v h' → CHr Z EL vm h vm' h' → Goes p.tables e below P T' (mkF m p' L (v.toList ++ rest))) : Goes p.tables e below P T (mkF m pc L K) := by
  by_cases hmd : md = 0
  · subst hmd
    have hEL : EL = [] := by obtain ⟨_, _, -, -, -, -, -, -, -, -, -, h0, -⟩ := S; exact (h0 rfl).2
    subst hEL
    have hZ := S.warm
    exact St.callVN S hx w1 w2 nf w5 w6 hy E (ctBack (s := s.setVm vm) hM hZ wc wz hf hl) (fun v h' Lc r => ⟨r.2.1, r.2.2.1, chr_nil r.2.2.2⟩) hml argsL rest hlen hst has hW hd hc hs p' hp (fun v T' h' Lc S' r R' => q v vm T' h' S' r.1 R')
  · subst hp hst has
    obtain ⟨locs, k0, X, eT, hZ, hown, hS, hk, hC, hF, hO, h0, h2, a1, hE⟩ := S
    obtain ⟨cq, kq, qa, qb, qc⟩ := isOf (s := s.setVm vm) hZ eT E
    have hK := ctBackS (s := s) (R := R) (p := p) (e := e) (below := below) (args := args) (W := W) (len := 3) hmd hM hZ wc wz hf hl hE.1 hC.1 h2 hsf
    obtain ⟨v, vm1, ⟨T', L', k', n'⟩, -, X', hS2, hgr, ⟨Lc, ⟨hq, r1, r2⟩, l', y', z', hR⟩, st⟩ := X.virtualBackS hx hown (mvT (s := s.setVm vm) hZ w1) (mvT (s := s.setVm vm) hZ w2) nf (mvT (s := s.setVm vm) hZ w5) (mvT (s := s.setVm vm) hZ w6) hy hK qa qc (g := mkF m pc L (argsL.reverse ++ .ref a :: rest)) rfl hml (Steps.refl _) (argsL := argsL) (rest := rest) hlen rfl (by show 2 * 0 + _ ≤ _; omega) hd (fun _ _ => ⟨rfl, eT, hc, hs⟩)
    dsimp only [Pt.U, Pt.locs, Pt.cells, Pt.slots] at X' l' y' z' st hq hS2 hgr hR
    subst l' y' z'
    obtain ⟨Y1, Y2, Y3, Y4⟩ := rebS hS (n1 := T.heap.size) (by rw [eT]; exact hk) X' hS2 hgr hZ hown
    exact (q v T'.vm T' T'.heap ⟨_, _, Y1, rfl, Y3, Y4, Y2, Nat.le_refl _, hC.trans hR, hF.app r1, r2, fun z => absurd z hmd, fun z => ⟨(h2 z).1.alikeC hS2.1.alike, (h2 z).2.alikeC hS2.1.alike⟩, a1, hE⟩ hq hR).to st
theorem St.callUN (S : St md p l e R s m args below meth c own Z EL vm T h cells slots) (hx : p.tables.exec = Jvm.exec) {index : Nat} {a : Addr} {C owner : String} {x : MethodName} (w1 : (Cond.methodLink own index x).before a0 Z = true) (w2 : (Cond.sameMethod x.cls owner x.name x.desc).before a0 Z = true) (w3 : (Cond.declares ⟨owner, x.name, x.desc⟩).before a0 Z = true) (w5 : (Cond.selects C x y).before a0 Z = true) (w6 : (Cond.instanceMethod y).before a0 Z = true) (hy : owner ≠ "java/lang/invoke/MethodHandle" ∧ owner ≠ "java/lang/invoke/VarHandle") (E : Exa Z h a C) {k n : Nat} {QN : Option Value → Heap → List Loc → Prop} (hK : Back l R p e below (s.setVm vm) args y 3 W (PreN R as' h k n) (PostN QN k n)) (hQ : ∀ v h' Lc, QN v h' Lc → Fr Z.heap.size Lc ∧ Old Z Z.heap.size h' ∧ CHr Z EL vm h vm h') (hml : L.size = c.maxLocals) (argsL rest : List Value) (hlen : ∀ sig, parseMethodDescriptor x.desc = some sig → argsL.length = sig.parameters.length) (hst : K = argsL.reverse ++ .ref a :: rest) (has : (.ref a :: argsL).toArray = as') (hW : (rest.map fun v => v.category).sum ≤ W) (hd : decode c.code pc = .ok (.invokevirtual index, 3)) (hc : cells + k ≤ R.cells) (hs : slots + n ≤ R.slots) (p' : Nat) (hp : p' = pc + 3)
    (q : ∀ v T' h' Lc, St md p l e R s m args below meth c own Z EL vm T' h' (cells + k) (slots + n) → QN v h' Lc → CHr Z EL vm h vm h' → Goes p.tables e below P T' (mkF m p' L (v.toList ++ rest))) : Goes p.tables e below P T (mkF m pc L K) := by
  subst hp hst has
  obtain ⟨locs, k0, X, eT, hZ, hown, hS, hk, hC, hF, hO, h0, h2, hE⟩ := S
  obtain ⟨cq, kq, qa, qb, qc⟩ := isOf (s := s.setVm vm) hZ eT E
  obtain ⟨v, vm1, ⟨T', L', k', n'⟩, -, X', ⟨Lc, hq, l', y', z'⟩, st⟩ := X.virtualBackUp hx hown (mvT (s := s.setVm vm) hZ w1) (mvT (s := s.setVm vm) hZ w2) (mvT (s := s.setVm vm) hZ w3) hy (mvT (s := s.setVm vm) hZ w5) (mvT (s := s.setVm vm) hZ w6) hK qa qc (g := mkF m pc L (argsL.reverse ++ .ref a :: rest)) rfl hml (Steps.refl _) (argsL := argsL) (rest := rest) hlen rfl (by show 2 * 0 + _ ≤ _; omega) hd (fun _ _ => ⟨rfl, eT, hc, hs⟩)
  dsimp only [Pt.U, Pt.locs, Pt.cells, Pt.slots] at X' l' y' z' st hq
  subst l' y' z'
  obtain ⟨r1, r2, r3⟩ := hQ v _ Lc hq
  exact (q v T' T'.heap Lc ⟨_, k0, X', rfl, hZ, hown, hS, Nat.le_trans hk r3.2.1, hC.trans r3, hF.app r1, r2, h0, h2, hE⟩ hq r3).to st
theorem St.callU {sf : List Addr} (S : St md p l e R s m args below meth c own Z EL vm T h cells slots) (hx : p.tables.exec = Jvm.exec) {index : Nat} {a : Addr} {C owner : String} {x : MethodName} (w1 : (Cond.methodLink own index x).before a0 Z = true) (w2 : (Cond.sameMethod x.cls owner x.name x.desc).before a0 Z = true) (w3 : (Cond.declares ⟨owner, x.name, x.desc⟩).before a0 Z = true) (w5 : (Cond.selects C x y).before a0 Z = true) (w6 : (Cond.instanceMethod y).before a0 Z = true) (hy : owner ≠ "java/lang/invoke/MethodHandle" ∧ owner ≠ "java/lang/invoke/VarHandle") (E : Exa Z h a C) (wc : (Cond.code y bytes maxL ret).before a0 Z = true) (wz : (Cond.initialized y.cls).before a0 Z = true) (hM : Ct md l Z EL sf y bytes maxL ret rm as' h Q) (hsf : ∀ x ∈ sf, x < h.size ∧ Safe Z EL vm h x) (hf : rm.frames + 1 ≤ R.frames) (hl : W + (maxL + 11) + rm.locals ≤ R.locals) (hml : L.size = c.maxLocals) (argsL rest : List Value) (hlen : ∀ sig, parseMethodDescriptor x.desc = some sig → argsL.length = sig.parameters.length) (hst : K = argsL.reverse ++ .ref a :: rest) (has : (.ref a :: argsL).toArray = as') (hW : (rest.map fun v => v.category).sum ≤ W) (hd : decode c.code pc = .ok (.invokevirtual index, 3)) (hc : cells + rm.cells ≤ R.cells) (hs : slots + rm.slots ≤ R.slots) (p' : Nat) (hp : p' = pc + 3)
    (q : ∀ v vm' T' h', St md p l e R s m args below meth c own Z EL vm' T' h' (cells + rm.cells) (slots + rm.slots) → Q v h' → CHr Z EL vm h vm' h' → Goes p.tables e below P T' (mkF m p' L (v.toList ++ rest))) : Goes p.tables e below P T (mkF m pc L K) := by
  by_cases hmd : md = 0
  · subst hmd
    have hEL : EL = [] := by obtain ⟨_, _, -, -, -, -, -, -, -, -, -, h0, -⟩ := S; exact (h0 rfl).2
    subst hEL
    have hZ := S.warm
    exact St.callUN S hx w1 w2 w3 w5 w6 hy E (ctBack (s := s.setVm vm) hM hZ wc wz hf hl) (fun v h' Lc r => ⟨r.2.1, r.2.2.1, chr_nil r.2.2.2⟩) hml argsL rest hlen hst has hW hd hc hs p' hp (fun v T' h' Lc S' r R' => q v vm T' h' S' r.1 R')
  · subst hp hst has
    obtain ⟨locs, k0, X, eT, hZ, hown, hS, hk, hC, hF, hO, h0, h2, a1, hE⟩ := S
    obtain ⟨cq, kq, qa, qb, qc⟩ := isOf (s := s.setVm vm) hZ eT E
    have hK := ctBackS (s := s) (R := R) (p := p) (e := e) (below := below) (args := args) (W := W) (len := 3) hmd hM hZ wc wz hf hl hE.1 hC.1 h2 hsf
    obtain ⟨v, vm1, ⟨T', L', k', n'⟩, -, X', hS2, hgr, ⟨Lc, ⟨hq, r1, r2⟩, l', y', z', hR⟩, st⟩ := virtualBackUpS X hx hown (mvT (s := s.setVm vm) hZ w1) (mvT (s := s.setVm vm) hZ w2) (mvT (s := s.setVm vm) hZ w3) hy (mvT (s := s.setVm vm) hZ w5) (mvT (s := s.setVm vm) hZ w6) hK qa qc (g := mkF m pc L (argsL.reverse ++ .ref a :: rest)) rfl hml (Steps.refl _) (argsL := argsL) (rest := rest) hlen rfl (by show 2 * 0 + _ ≤ _; omega) hd (fun _ _ => ⟨rfl, eT, hc, hs⟩)
    dsimp only [Pt.U, Pt.locs, Pt.cells, Pt.slots] at X' l' y' z' st hq hS2 hgr hR
    subst l' y' z'
    obtain ⟨Y1, Y2, Y3, Y4⟩ := rebS hS (n1 := T.heap.size) (by rw [eT]; exact hk) X' hS2 hgr hZ hown
    exact (q v T'.vm T' T'.heap ⟨_, _, Y1, rfl, Y3, Y4, Y2, Nat.le_refl _, hC.trans hR, hF.app r1, r2, fun z => absurd z hmd, fun z => ⟨(h2 z).1.alikeC hS2.1.alike, (h2 z).2.alikeC hS2.1.alike⟩, a1, hE⟩ hq hR).to st
theorem St.callPN (S : St md p l e R s m args below meth c own Z EL vm T h cells slots) (hx : p.tables.exec = Jvm.exec) {index : Nat} {a : Addr} (w1 : (Cond.methodLink own index y).before a0 Z = true) (w6 : (Cond.instanceMethod y).before a0 Z = true) (w5 : (Cond.selects y.cls y y).before a0 Z = true) (w7 : (Cond.privateMethod y).before a0 Z = true) (w4 : (Cond.code y bytes maxL ret).before a0 Z = true) (hy : y.cls ≠ "java/lang/invoke/MethodHandle" ∧ y.cls ≠ "java/lang/invoke/VarHandle") {C : String} (E : Exa Z h a C) {k n : Nat} {QN : Option Value → Heap → List Loc → Prop} (hK : Back l R p e below (s.setVm vm) args y 3 W (PreN R as' h k n) (PostN QN k n)) (hQ : ∀ v h' Lc, QN v h' Lc → Fr Z.heap.size Lc ∧ Old Z Z.heap.size h' ∧ CHr Z EL vm h vm h') (hml : L.size = c.maxLocals) (argsL rest : List Value) (hlen : ∀ sig, parseMethodDescriptor y.desc = some sig → argsL.length = sig.parameters.length) (hst : K = argsL.reverse ++ .ref a :: rest) (has : (.ref a :: argsL).toArray = as') (hW : (rest.map fun v => v.category).sum ≤ W) (hd : decode c.code pc = .ok (.invokevirtual index, 3)) (hc : cells + k ≤ R.cells) (hs : slots + n ≤ R.slots) (p' : Nat) (hp : p' = pc + 3)
    (q : ∀ v T' h' Lc, St md p l e R s m args below meth c own Z EL vm T' h' (cells + k) (slots + n) → QN v h' Lc → CHr Z EL vm h vm h' → Goes p.tables e below P T' (mkF m p' L (v.toList ++ rest))) : Goes p.tables e below P T (mkF m pc L K) := by
  subst hp hst has
  obtain ⟨locs, k0, X, eT, hZ, hown, hS, hk, hC, hF, hO, h0, h2, hE⟩ := S
  obtain ⟨cq, qa, qb⟩ := E.cell
  obtain ⟨v, vm1, ⟨T', L', k', n'⟩, -, X', ⟨Lc, hq, l', y', z'⟩, st⟩ := X.privateBack hx hown (mvT (s := s.setVm vm) hZ w1) (mvT (s := s.setVm vm) hZ w6) (mvT (s := s.setVm vm) hZ w5) (Cond.privateMethod_at (mvP (s := s.setVm vm) hZ w7 (args := #[]))) (mvT (s := s.setVm vm) hZ w4) hy hK (g := mkF m pc L (argsL.reverse ++ .ref a :: rest)) rfl hml (Steps.refl _) (a := a) (by rw [eT]; exact qa) qb (argsL := argsL) (rest := rest) hlen rfl (by show 2 * 0 + _ ≤ _; omega) hd (fun _ _ => ⟨rfl, eT, hc, hs⟩)
  dsimp only [Pt.U, Pt.locs, Pt.cells, Pt.slots] at X' l' y' z' st hq
  subst l' y' z'
  obtain ⟨r1, r2, r3⟩ := hQ v _ Lc hq
  exact (q v T' T'.heap Lc ⟨_, k0, X', rfl, hZ, hown, hS, Nat.le_trans hk r3.2.1, hC.trans r3, hF.app r1, r2, h0, h2, hE⟩ hq r3).to st
theorem St.callP {sf : List Addr} (S : St md p l e R s m args below meth c own Z EL vm T h cells slots) (hx : p.tables.exec = Jvm.exec) {index : Nat} {a : Addr} (w1 : (Cond.methodLink own index y).before a0 Z = true) (w6 : (Cond.instanceMethod y).before a0 Z = true) (w5 : (Cond.selects y.cls y y).before a0 Z = true) (w7 : (Cond.privateMethod y).before a0 Z = true) (w4 : (Cond.code y bytes maxL ret).before a0 Z = true) (hy : y.cls ≠ "java/lang/invoke/MethodHandle" ∧ y.cls ≠ "java/lang/invoke/VarHandle") {C : String} (E : Exa Z h a C) (wz : (Cond.initialized y.cls).before a0 Z = true) (hM : Ct md l Z EL sf y bytes maxL ret rm as' h Q) (hsf : ∀ x ∈ sf, x < h.size ∧ Safe Z EL vm h x) (hf : rm.frames + 1 ≤ R.frames) (hl : W + (maxL + 11) + rm.locals ≤ R.locals) (hml : L.size = c.maxLocals) (argsL rest : List Value) (hlen : ∀ sig, parseMethodDescriptor y.desc = some sig → argsL.length = sig.parameters.length) (hst : K = argsL.reverse ++ .ref a :: rest) (has : (.ref a :: argsL).toArray = as') (hW : (rest.map fun v => v.category).sum ≤ W) (hd : decode c.code pc = .ok (.invokevirtual index, 3)) (hc : cells + rm.cells ≤ R.cells) (hs : slots + rm.slots ≤ R.slots) (p' : Nat) (hp : p' = pc + 3)
    (q : ∀ v vm' T' h', St md p l e R s m args below meth c own Z EL vm' T' h' (cells + rm.cells) (slots + rm.slots) → Q v h' → CHr Z EL vm h vm' h' → Goes p.tables e below P T' (mkF m p' L (v.toList ++ rest))) : Goes p.tables e below P T (mkF m pc L K) := by
  by_cases hmd : md = 0
  · subst hmd
    have hEL : EL = [] := by obtain ⟨_, _, -, -, -, -, -, -, -, -, -, h0, -⟩ := S; exact (h0 rfl).2
    subst hEL
    have hZ := S.warm
    exact St.callPN S hx w1 w6 w5 w7 w4 hy E (ctBack (s := s.setVm vm) hM hZ w4 wz hf hl) (fun v h' Lc r => ⟨r.2.1, r.2.2.1, chr_nil r.2.2.2⟩) hml argsL rest hlen hst has hW hd hc hs p' hp (fun v T' h' Lc S' r R' => q v vm T' h' S' r.1 R')
  · subst hp hst has
    obtain ⟨locs, k0, X, eT, hZ, hown, hS, hk, hC, hF, hO, h0, h2, a1, hE⟩ := S
    obtain ⟨cq, qa, qb⟩ := E.cell
    have hK := ctBackS (s := s) (R := R) (p := p) (e := e) (below := below) (args := args) (W := W) (len := 3) hmd hM hZ w4 wz hf hl hE.1 hC.1 h2 hsf
    obtain ⟨v, vm1, ⟨T', L', k', n'⟩, -, X', hS2, hgr, ⟨Lc, ⟨hq, r1, r2⟩, l', y', z', hR⟩, st⟩ := privateBackS X hx hown (mvT (s := s.setVm vm) hZ w1) (mvT (s := s.setVm vm) hZ w6) (mvT (s := s.setVm vm) hZ w5) (Cond.privateMethod_at (mvP (s := s.setVm vm) hZ w7 (args := #[]))) (mvT (s := s.setVm vm) hZ w4) hy hK (g := mkF m pc L (argsL.reverse ++ .ref a :: rest)) rfl hml (Steps.refl _) (a := a) (by rw [eT]; exact qa) qb (argsL := argsL) (rest := rest) hlen rfl (by show 2 * 0 + _ ≤ _; omega) hd (fun _ _ => ⟨rfl, eT, hc, hs⟩)
    dsimp only [Pt.U, Pt.locs, Pt.cells, Pt.slots] at X' l' y' z' st hq hS2 hgr hR
    subst l' y' z'
    obtain ⟨Y1, Y2, Y3, Y4⟩ := rebS hS (n1 := T.heap.size) (by rw [eT]; exact hk) X' hS2 hgr hZ hown
    exact (q v T'.vm T' T'.heap ⟨_, _, Y1, rfl, Y3, Y4, Y2, Nat.le_refl _, hC.trans hR, hF.app r1, r2, fun z => absurd z hmd, fun z => ⟨(h2 z).1.alikeC hS2.1.alike, (h2 z).2.alikeC hS2.1.alike⟩, a1, hE⟩ hq hR).to st
theorem St.callFN (S : St md p l e R s m args below meth c own Z EL vm T h cells slots) (hx : p.tables.exec = Jvm.exec) {index : Nat} {a : Addr} {C : String} {x : MethodName} {count : Nat} (w1 : (Cond.methodLink own index x).before a0 Z = true) (w2 : (Cond.declares x).before a0 Z = true) (w3 : (Cond.interfaceMethod x.cls x.cls x.name x.desc).before a0 Z = true) (w5 : (Cond.selects C x y).before a0 Z = true) (w6 : (Cond.instanceMethod y).before a0 Z = true) (w7 : (Cond.publicMethod y).before a0 Z = true) (w8 : (Cond.unhidden C x.name x.desc).before a0 Z = true) (w9 : (Cond.castable C x.cls).before a0 Z = true) (hy : x.cls ≠ "java/lang/invoke/MethodHandle" ∧ x.cls ≠ "java/lang/invoke/VarHandle") (E : Exa Z h a C) {k n : Nat} {QN : Option Value → Heap → List Loc → Prop} (hK : Back l R p e below (s.setVm vm) args y 5 W (PreN R as' h k n) (PostN QN k n)) (hQ : ∀ v h' Lc, QN v h' Lc → Fr Z.heap.size Lc ∧ Old Z Z.heap.size h' ∧ CHr Z EL vm h vm h') (hml : L.size = c.maxLocals) (argsL rest : List Value) (hlen : ∀ sig, parseMethodDescriptor x.desc = some sig → argsL.length = sig.parameters.length) (hst : K = argsL.reverse ++ .ref a :: rest) (has : (.ref a :: argsL).toArray = as') (hW : (rest.map fun v => v.category).sum ≤ W) (hd : decode c.code pc = .ok (.invokeinterface index count, 5)) (hc : cells + k ≤ R.cells) (hs : slots + n ≤ R.slots) (p' : Nat) (hp : p' = pc + 5)
    (q : ∀ v T' h' Lc, St md p l e R s m args below meth c own Z EL vm T' h' (cells + k) (slots + n) → QN v h' Lc → CHr Z EL vm h vm h' → Goes p.tables e below P T' (mkF m p' L (v.toList ++ rest))) : Goes p.tables e below P T (mkF m pc L K) := by
  subst hp hst has
  obtain ⟨locs, k0, X, eT, hZ, hown, hS, hk, hC, hF, hO, h0, h2, hE⟩ := S
  obtain ⟨cq, kq, qa, qb, qc⟩ := isOf (s := s.setVm vm) hZ eT E
  obtain ⟨v, vm1, ⟨T', L', k', n'⟩, -, X', ⟨Lc, hq, l', y', z'⟩, st⟩ := X.interfaceBack hx hown (mvT (s := s.setVm vm) hZ w1) (mvT (s := s.setVm vm) hZ w2) (mvT (s := s.setVm vm) hZ w3 (by simp [Cond.onTables, Cond.keepsFace, Cond.keeps, Cond.steady, Cond.faceAtom]; exact hy)) (mvT (s := s.setVm vm) hZ w5) (mvT (s := s.setVm vm) hZ w6) (mvT (s := s.setVm vm) hZ w7) (mvT (s := s.setVm vm) hZ w8) (mvT (s := s.setVm vm) hZ w9) hy hK qa qb qc (g := mkF m pc L (argsL.reverse ++ .ref a :: rest)) rfl hml (Steps.refl _) (argsL := argsL) (rest := rest) hlen rfl (by show 2 * 0 + _ ≤ _; omega) hd (fun _ _ => ⟨rfl, eT, hc, hs⟩)
  dsimp only [Pt.U, Pt.locs, Pt.cells, Pt.slots] at X' l' y' z' st hq
  subst l' y' z'
  obtain ⟨r1, r2, r3⟩ := hQ v _ Lc hq
  exact (q v T' T'.heap Lc ⟨_, k0, X', rfl, hZ, hown, hS, Nat.le_trans hk r3.2.1, hC.trans r3, hF.app r1, r2, h0, h2, hE⟩ hq r3).to st
theorem St.callF {sf : List Addr} (S : St md p l e R s m args below meth c own Z EL vm T h cells slots) (hx : p.tables.exec = Jvm.exec) {index : Nat} {a : Addr} {C : String} {x : MethodName} {count : Nat} (w1 : (Cond.methodLink own index x).before a0 Z = true) (w2 : (Cond.declares x).before a0 Z = true) (w3 : (Cond.interfaceMethod x.cls x.cls x.name x.desc).before a0 Z = true) (w5 : (Cond.selects C x y).before a0 Z = true) (w6 : (Cond.instanceMethod y).before a0 Z = true) (w7 : (Cond.publicMethod y).before a0 Z = true) (w8 : (Cond.unhidden C x.name x.desc).before a0 Z = true) (w9 : (Cond.castable C x.cls).before a0 Z = true) (hy : x.cls ≠ "java/lang/invoke/MethodHandle" ∧ x.cls ≠ "java/lang/invoke/VarHandle") (E : Exa Z h a C) (wc : (Cond.code y bytes maxL ret).before a0 Z = true) (wz : (Cond.initialized y.cls).before a0 Z = true) (hM : Ct md l Z EL sf y bytes maxL ret rm as' h Q) (hsf : ∀ x ∈ sf, x < h.size ∧ Safe Z EL vm h x) (hf : rm.frames + 1 ≤ R.frames) (hl : W + (maxL + 11) + rm.locals ≤ R.locals) (hml : L.size = c.maxLocals) (argsL rest : List Value) (hlen : ∀ sig, parseMethodDescriptor x.desc = some sig → argsL.length = sig.parameters.length) (hst : K = argsL.reverse ++ .ref a :: rest) (has : (.ref a :: argsL).toArray = as') (hW : (rest.map fun v => v.category).sum ≤ W) (hd : decode c.code pc = .ok (.invokeinterface index count, 5)) (hc : cells + rm.cells ≤ R.cells) (hs : slots + rm.slots ≤ R.slots) (p' : Nat) (hp : p' = pc + 5)
    (q : ∀ v vm' T' h', St md p l e R s m args below meth c own Z EL vm' T' h' (cells + rm.cells) (slots + rm.slots) → Q v h' → CHr Z EL vm h vm' h' → Goes p.tables e below P T' (mkF m p' L (v.toList ++ rest))) : Goes p.tables e below P T (mkF m pc L K) := by
  by_cases hmd : md = 0
  · subst hmd
    have hEL : EL = [] := by obtain ⟨_, _, -, -, -, -, -, -, -, -, -, h0, -⟩ := S; exact (h0 rfl).2
    subst hEL
    have hZ := S.warm
    exact St.callFN S hx w1 w2 w3 w5 w6 w7 w8 w9 hy E (ctBack (s := s.setVm vm) hM hZ wc wz hf hl) (fun v h' Lc r => ⟨r.2.1, r.2.2.1, chr_nil r.2.2.2⟩) hml argsL rest hlen hst has hW hd hc hs p' hp (fun v T' h' Lc S' r R' => q v vm T' h' S' r.1 R')
  · subst hp hst has
    obtain ⟨locs, k0, X, eT, hZ, hown, hS, hk, hC, hF, hO, h0, h2, a1, hE⟩ := S
    obtain ⟨cq, kq, qa, qb, qc⟩ := isOf (s := s.setVm vm) hZ eT E
    have hK := ctBackS (s := s) (R := R) (p := p) (e := e) (below := below) (args := args) (W := W) (len := 5) hmd hM hZ wc wz hf hl hE.1 hC.1 h2 hsf
    obtain ⟨v, vm1, ⟨T', L', k', n'⟩, -, X', hS2, hgr, ⟨Lc, ⟨hq, r1, r2⟩, l', y', z', hR⟩, st⟩ := X.interfaceBackS hx hown (mvT (s := s.setVm vm) hZ w1) (mvT (s := s.setVm vm) hZ w2) (mvT (s := s.setVm vm) hZ w3 (by simp [Cond.onTables, Cond.keepsFace, Cond.keeps, Cond.steady, Cond.faceAtom]; exact hy)) (mvT (s := s.setVm vm) hZ w5) (mvT (s := s.setVm vm) hZ w6) (mvT (s := s.setVm vm) hZ w7) (mvT (s := s.setVm vm) hZ w8) (mvT (s := s.setVm vm) hZ w9) hy hK qa qb qc (g := mkF m pc L (argsL.reverse ++ .ref a :: rest)) rfl hml (Steps.refl _) (argsL := argsL) (rest := rest) hlen rfl (by show 2 * 0 + _ ≤ _; omega) hd (fun _ _ => ⟨rfl, eT, hc, hs⟩)
    dsimp only [Pt.U, Pt.locs, Pt.cells, Pt.slots] at X' l' y' z' st hq hS2 hgr hR
    subst l' y' z'
    obtain ⟨Y1, Y2, Y3, Y4⟩ := rebS hS (n1 := T.heap.size) (by rw [eT]; exact hk) X' hS2 hgr hZ hown
    exact (q v T'.vm T' T'.heap ⟨_, _, Y1, rfl, Y3, Y4, Y2, Nat.le_refl _, hC.trans hR, hF.app r1, r2, fun z => absurd z hmd, fun z => ⟨(h2 z).1.alikeC hS2.1.alike, (h2 z).2.alikeC hS2.1.alike⟩, a1, hE⟩ hq hR).to st
/-- a String constant, whatever it says -/
theorem St.ldcO (S : St md p l e R s m args below meth c own Z EL vm T h cells slots) (hx : p.tables.exec = Jvm.exec) (hmd : md ≠ 0) {index : Nat} {text : String} (w : (Cond.stringLink own index text).before a0 Z = true) (wS : ∀ a ∈ Bundle.stringAtoms, a.before a0 Z = true) (hd : decode c.code pc = .ok (.ldc index, 2)) {n : Nat} (hn : 4 * text.toList.length ≤ n) (hbig : n ≤ 536870912) (hc : cells + 2 ≤ R.cells) (hl : slots + (n + 4) ≤ R.slots) (p' : Nat) (hp : p' = pc + 2)
    (q : ∀ vm' T' h' a, St md p l e R s m args below meth c own Z EL vm' T' h' (cells + 2) (slots + (n + 4)) → Ext h h' → CHr Z EL vm h vm' h' → Goes p.tables e below P T' (mkF m p' L (.ref a :: K))) : Goes p.tables e below P T (mkF m pc L K) := by
  subst hp
  obtain ⟨locs, k0, X, eT, hZ, hown, hS, hk, hC, hF, hO, h0, h2, a1, hE⟩ := S
  obtain ⟨a, T', h', k1, X', e', E', hS', hk', hZ', hown', hR, -, st⟩ := ldcOH X hx hZ hown w wS eT hS hk hE.1 hC.1 (g := mkF m pc L K) rfl hd hn hbig hc hl
  have hal : vm.Alike T'.vm := hZ.alike.symm.trans hZ'.alike
  exact (q T'.vm T' h' a ⟨locs, k1, X', e', hZ', hown', hS', hk', hC.trans hR, hF, hO.ext E', fun z => absurd z hmd, fun z => ⟨(h2 z).1.alikeC hal, (h2 z).2.alikeC hal⟩, a1, hE⟩ E' hR).via st
/-- a String constant of the list, read -/
theorem St.ldcC (S : St md p l e R s m args below meth c own Z EL vm T h cells slots) (hx : p.tables.exec = Jvm.exec) (hmd : md ≠ 0) {index : Nat} {text : String} (w : (Cond.stringLink own index text).before a0 Z = true) (wS : ∀ a ∈ Bundle.stringAtoms, a.before a0 Z = true) (hmem : (own, index) ∈ EL) {vs : List Value} {z : Int32} (ht : (∀ c ∈ text.toList, c.toNat < 256) ∧ text.toList.map (fun c => Value.int (Jvm.Lit.byteI c.toNat.toUInt16)) = vs) (hz : ¬ z < 0) (hzl : z.toNatClampNeg = vs.length)
    (hd : decode c.code pc = .ok (.ldc index, 2)) {n : Nat} (hn : 4 * text.toList.length ≤ n) (hbig : n ≤ 536870912) (hc : cells + 2 ≤ R.cells) (hl : slots + (n + 4) ≤ R.slots) (p' : Nat) (hp : p' = pc + 2)
    (q : ∀ vm' T' h' a b k, St md p l e R s m args below meth c own Z EL vm' T' h' (cells + 2) (slots + (n + 4)) → Ext h h' → CHr Z EL vm h vm' h' → Exa Z h' a "java/lang/String" → Fld Z h' a "java/lang/String" "coder" "B" (.int 0) → Fld Z h' a "java/lang/String" "value" "[B" (.ref b) → Arv Z h' b k .byte z vs (.int 0) → (∀ x, Safe Z EL vm' h' x → x ≠ a ∧ x ≠ b) → Goes p.tables e below P T' (mkF m p' L (.ref a :: K))) : Goes p.tables e below P T (mkF m pc L K) := by
  subst hp
  obtain ⟨locs, k0, X, eT, hZ, hown, hS, hk, hC, hF, hO, h0, h2, a1, hE⟩ := S
  obtain ⟨a, T', h', k1, b, k, X', e', E', hS', hk', hZ', hown', q1, q2, q3, q4, -, -, hR, -, hne, st⟩ := ldcCH X hx hZ hown w wS eT hS hk hE.1 hmem hC.1 ht hz hzl (g := mkF m pc L K) rfl hd hn hbig hc hl
  have hal : vm.Alike T'.vm := hZ.alike.symm.trans hZ'.alike
  exact (q T'.vm T' h' a b k ⟨locs, k1, X', e', hZ', hown', hS', hk', hC.trans hR, hF, hO.ext E', fun z => absurd z hmd, fun z => ⟨(h2 z).1.alikeC hal, (h2 z).2.alikeC hal⟩, a1, hE⟩ E' hR q1 q2 q3 q4 hne).via st
/-- the end of a body -/
theorem St.leave' (S : St md p l e R s m args below meth c own Z EL vm T h cells slots) (hlk : meth.locks = false) {v : Option Value} (hv : meth.sig.returnType = none → v = none) (hq : Q v h) (hc : cells ≤ R.cells) (hs : slots ≤ R.slots) {F : JFrame}
    (step : ∀ (locs : List Loc) (fs : List Frame), Stand p l e R (s.setVm vm) m args below meth c T locs cells slots → (∀ (f : JFrame) (acts : List Action), f.method = m → f.locked = none → f.entered = [] → (doReturn e (T.setTop f) acts v).1 = T.setFrames fs) → Steps p.tables e below (T.setTop F) (T.setFrames fs)) :
    Goes p.tables e below (Pof md Z EL s R Q) T F := by
  obtain ⟨locs, k0, X, eT, hZ, hown, hS, hk, hC, hF, hO, h0, h2, a1, hE⟩ := S
  have hR := CHv.at X hZ hE.1 hC.1
  by_cases hmd : md = 0
  · obtain ⟨rfl, rfl⟩ := h0 hmd
    obtain ⟨fs, hr, hrun, hended, hW, hsame⟩ := X.leave hv
    exact ⟨_, _, step locs fs X hr, hrun, hended, v, locs, rfl, ⟨by show Q v T.heap; rw [eT]; exact hq, hF, by show Old Z _ T.heap; rw [eT]; exact hO⟩, by show CHr Z _ _ _ T.vm T.heap; rw [eT]; exact hC.trans hR, fun _ => ⟨⟨_, rfl⟩, hW, hsame.mono hc hs⟩, fun q => absurd hmd q⟩
  · obtain ⟨fs, hr, hrun, hended, r1, r2, r3, r4⟩ := leaveW X hS (by rw [eT]; exact hk) hv hlk
    exact ⟨_, _, step locs fs X hr, hrun, hended, v, locs, rfl, ⟨by show Q v T.heap; rw [eT]; exact hq, hF, by show Old Z _ T.heap; rw [eT]; exact hO⟩, by show CHr Z _ _ _ T.vm T.heap; rw [eT]; exact hC.trans hR, fun q => absurd q hmd, fun _ => ⟨r1, r2, r3, r4.mono hc hs⟩⟩
theorem St.iret (S : St md p l e R s m args below meth c own Z EL vm T h cells slots) (hx : p.tables.exec = Jvm.exec) (hlk : meth.locks = false) {t : FieldType} {z : Int32} (hret : meth.sig.returnType = some t) (ht : t = .int ∨ t = .boolean ∨ t = .byte ∨ t = .char ∨ t = .short) (hn : narrow t (.int z) = .int z) (hd : decode c.code pc = .ok (.ireturn, 1)) (hq : Q (some (.int z)) h) (hc : cells ≤ R.cells) (hs : slots ≤ R.slots) : Goes p.tables e below (Pof md Z EL s R Q) T (mkF m pc L (.int z :: K)) :=
  S.leave' hlk (fun q => by rw [hret] at q; cases q) hq hc hs fun locs fs X hr => retOut X hx hret hn (Or.inl ⟨rfl, ht, z, rfl⟩) hd hr
theorem St.lret (S : St md p l e R s m args below meth c own Z EL vm T h cells slots) (hx : p.tables.exec = Jvm.exec) (hlk : meth.locks = false) {z : Int64} (hret : meth.sig.returnType = some .long) (hd : decode c.code pc = .ok (.lreturn, 1)) (hq : Q (some (.long z)) h) (hc : cells ≤ R.cells) (hs : slots ≤ R.slots) : Goes p.tables e below (Pof md Z EL s R Q) T (mkF m pc L (.long z :: K)) :=
  S.leave' hlk (fun q => by rw [hret] at q; cases q) hq hc hs fun locs fs X hr => retOut X hx hret rfl (Or.inr (Or.inl ⟨rfl, rfl, z, rfl⟩)) hd hr
theorem St.aret (S : St md p l e R s m args below meth c own Z EL vm T h cells slots) (hx : p.tables.exec = Jvm.exec) (hlk : meth.locks = false) {t : FieldType} {v : Value} (hret : meth.sig.returnType = some t) (ht : t.isReference = true) (hv : v.isRef = true) (hn : narrow t v = v) (hd : decode c.code pc = .ok (.areturn, 1)) (hq : Q (some v) h) (hc : cells ≤ R.cells) (hs : slots ≤ R.slots) : Goes p.tables e below (Pof md Z EL s R Q) T (mkF m pc L (v :: K)) :=
  S.leave' hlk (fun q => by rw [hret] at q; cases q) hq hc hs fun locs fs X hr => retOut X hx hret hn (Or.inr (Or.inr (Or.inr (Or.inr ⟨rfl, ht, hv⟩)))) hd hr
theorem St.vret (S : St md p l e R s m args below meth c own Z EL vm T h cells slots) (hx : p.tables.exec = Jvm.exec) (hlk : meth.locks = false) (hret : meth.sig.returnType = none) (hd : decode c.code pc = .ok (.return_, 1)) (hq : Q none h) (hc : cells ≤ R.cells) (hs : slots ≤ R.slots) : Goes p.tables e below (Pof md Z EL s R Q) T (mkF m pc L []) :=
  S.leave' hlk (fun _ => rfl) hq hc hs fun locs fs X hr => X.returnOut hx hret hd hr
end C

/-! part E: more steps -/
section E
variable {md : Nat} {p : Program} {l : Launch} {e : Env} {R : Room} {s : State} {m : MethodId} {args : Array Value} {below : List Frame} {meth : Method} {c : Code} {own : String} {Z : State} {EL : List (String × Nat)} {vm : Vm} {T : State} {h : Heap} {cells slots : Nat} {P : Outcome → State → Prop} {pc : Nat} {L : Array Slot} {K : List Value} {a0 : Array Value}
theorem St.initO (S : St md p l e R s m args below meth c own Z EL vm T h cells slots) (hx : p.tables.exec = Jvm.exec) {index : Nat} (w1 : (Cond.methodLink own index Lib.objectInit).before a0 Z = true) (w2 : (Cond.instanceMethod Lib.objectInit).before a0 Z = true) (w3 : (Cond.code Lib.objectInit ⟨#[0xb1]⟩ 1 none).before a0 Z = true) (hml : L.size = c.maxLocals) {a : Addr} {W : Nat} (hf : 1 ≤ R.frames) (hW : (K.map fun v => v.category).sum ≤ W) (hl : W + 12 ≤ R.locals) (hd : decode c.code pc = .ok (.invokespecial index, 3)) (p' : Nat) (hp : p' = pc + 3)
    (q : ∀ T', St md p l e R s m args below meth c own Z EL vm T' h cells slots → Goes p.tables e below P T' (mkF m p' L K)) : Goes p.tables e below P T (mkF m pc L (.ref a :: K)) := by
  subst hp
  obtain ⟨locs, k, X, eT, hZ, hown, r⟩ := S
  obtain ⟨T', X', e', st⟩ := RoadKit.initO X hx hZ hown w1 w2 w3 eT (g := mkF m pc L (.ref a :: K)) rfl hml rfl hd hf (W := W) (by show 2 * 0 + _ ≤ _; omega) hl
  exact (q T' ⟨locs, k, X', e', hZ, hown, r⟩).via st
theorem St.instNull (S : St md p l e R s m args below meth c own Z EL vm T h cells slots) (hx : p.tables.exec = Jvm.exec) {index : Nat} (hd : decode c.code pc = .ok (.instanceof index, 3)) (p' : Nat) (hp : p' = pc + 3)
    (q : Goes p.tables e below P T (mkF m p' L (.int 0 :: K))) : Goes p.tables e below P T (mkF m pc L (.null :: K)) := by
  subst hp
  obtain ⟨locs, k, X, eT, hZ, hown, r⟩ := S
  exact q.via fun t k => X.instanceofNull hx (g := mkF m pc L (.null :: K)) rfl rfl hd t k
theorem St.acmp (S : St md p l e R s m args below meth c own Z EL vm T h cells slots) (hx : p.tables.exec = Jvm.exec) {cd : ACond} {x y : Value} {o : Int} (hd : decode c.code pc = .ok (.if_acmp cd o, 3)) (h1 : x.isRef = true) (h2 : y.isRef = true) (same : Bool) (hq : decide (x = y) = same) (ho : 0 ≤ (pc : Int) + o) (p' : Nat) (hp : p' = if acV cd same = true then ((pc : Int) + o).toNat else pc + 3)
    (q : Goes p.tables e below P T (mkF m p' L K)) : Goes p.tables e below P T (mkF m pc L (y :: x :: K)) := by
  obtain ⟨locs, k, X, eT, hZ, hown, r⟩ := S
  exact q.via fun t k => RoadKit.acmp X hx (g := mkF m pc L (y :: x :: K)) rfl h1 h2 rfl hd rfl hq ho hp k
theorem Arv.at' {a : Addr} {k : ClassId} {ty : FieldType} {z j : Int32} {vs : List Value} {dv v : Value} (A : Arv Z h a k ty z vs dv) (hj : ¬ j < 0 ∧ j < z) (hv : vs.getD j.toNatClampNeg dv = v) : ∃ cl : Cell, Arr Z h a cl ty ∧ ¬ (j < 0 ∨ cl.slots.size ≤ j.toNatClampNeg) ∧ cl.slots[j.toNatClampNeg]? = some v := by
  obtain ⟨cl, A1, A2, A3, A4, A5, A6⟩ := A
  exact ⟨cl, A1, inb_of A3 hj, A5.at (inb_of A3 hj) hv⟩
theorem St.aald (S : St md p l e R s m args below meth c own Z EL vm T h cells slots) (hx : p.tables.exec = Jvm.exec) {a : Addr} {k : ClassId} {ty : FieldType} {z j : Int32} {vs : List Value} {dv v : Value} (A : Arv Z h a k ty z vs dv) (hty : ty.isReference = true) (hj : ¬ j < 0 ∧ j < z) (hv : vs.getD j.toNatClampNeg dv = v) (hd : decode c.code pc = .ok (.aaload, 1)) (p' : Nat) (hp : p' = pc + 1)
    (q : Goes p.tables e below P T (mkF m p' L (v :: K))) : Goes p.tables e below P T (mkF m pc L (.int j :: .ref a :: K)) := by
  subst hp
  obtain ⟨locs, kk, X, eT, hZ, hown, r⟩ := S
  obtain ⟨cl, A1, A2, A3⟩ := Arv.at' A hj hv
  exact q.via fun t k => X.aaload hx (j := j) (v := v) (by rw [eT]; exact A1.1) (State.isArrayOf_alike (T := s.setVm vm) hZ.alike A1.2.1) hty A1.2.2 A2 A3 (g := mkF m pc L (.int j :: .ref a :: K)) rfl rfl hd t k
theorem St.cald (S : St md p l e R s m args below meth c own Z EL vm T h cells slots) (hx : p.tables.exec = Jvm.exec) {a : Addr} {k : ClassId} {z j : Int32} {vs : List Value} {dv v : Value} (A : Arv Z h a k .char z vs dv) (hj : ¬ j < 0 ∧ j < z) (hv : vs.getD j.toNatClampNeg dv = v) (hd : decode c.code pc = .ok (.caload, 1)) (p' : Nat) (hp : p' = pc + 1)
    (q : Goes p.tables e below P T (mkF m p' L (v :: K))) : Goes p.tables e below P T (mkF m pc L (.int j :: .ref a :: K)) := by
  subst hp
  obtain ⟨locs, kk, X, eT, hZ, hown, r⟩ := S
  obtain ⟨cl, A1, A2, A3⟩ := Arv.at' A hj hv
  exact q.via fun t k => X.caload hx (j := j) (v := v) (by rw [eT]; exact A1.1) (State.isArrayOf_alike (T := s.setVm vm) hZ.alike A1.2.1) A1.2.2 A2 A3 (g := mkF m pc L (.int j :: .ref a :: K)) rfl rfl hd t k
theorem St.bald (S : St md p l e R s m args below meth c own Z EL vm T h cells slots) (hx : p.tables.exec = Jvm.exec) {a : Addr} {k : ClassId} {z j : Int32} {vs : List Value} {dv v : Value} (A : Arv Z h a k .byte z vs dv) (hj : ¬ j < 0 ∧ j < z) (hv : vs.getD j.toNatClampNeg dv = v) (hd : decode c.code pc = .ok (.baload, 1)) (p' : Nat) (hp : p' = pc + 1)
    (q : Goes p.tables e below P T (mkF m p' L (v :: K))) : Goes p.tables e below P T (mkF m pc L (.int j :: .ref a :: K)) := by
  subst hp
  obtain ⟨locs, kk, X, eT, hZ, hown, r⟩ := S
  obtain ⟨cl, A1, A2, A3⟩ := Arv.at' A hj hv
  exact q.via fun t k => X.baloadBytes hx (j := j) (v := v) (by rw [eT]; exact A1.1) (State.isArrayOf_alike (T := s.setVm vm) hZ.alike A1.2.1) A1.2.2 A2 A3 (g := mkF m pc L (.int j :: .ref a :: K)) rfl rfl hd t k
theorem St.clone (S : St md p l e R s m args below meth c own Z EL vm T h cells slots) (hx : p.tables.exec = Jvm.exec) {ad : String} {index : Nat} (w1 : (Cond.methodLink own index ⟨ad, "clone", "()Ljava/lang/Object;"⟩).before a0 Z = true) (w2 : (Cond.sameMethod ad "java/lang/Object" "clone" "()Ljava/lang/Object;").before a0 Z = true) (w3 : (Cond.native ⟨"java/lang/Object", "clone", "()Ljava/lang/Object;"⟩).before a0 Z = true)
    (w4 : (Cond.instanceMethod ⟨"java/lang/Object", "clone", "()Ljava/lang/Object;"⟩).before a0 Z = true) (w5 : (Cond.selects ad ⟨ad, "clone", "()Ljava/lang/Object;"⟩ ⟨"java/lang/Object", "clone", "()Ljava/lang/Object;"⟩).before a0 Z = true) (w6 : (Cond.castable ad "java/lang/Cloneable").before a0 Z = true)
    {a : Addr} {k : ClassId} {ty : FieldType} {z : Int32} {vs : List Value} {dv : Value} (F : Arv Z h a k ty z vs dv) (E : Exa Z h a ad) (hml : L.size = c.maxLocals) {W cap : Nat} (hf : 1 ≤ R.frames) (hW : (K.map fun v => v.category).sum ≤ W) (hl : W + 14 ≤ R.locals) (hcap : z.toNatClampNeg ≤ cap) (hc : cells + 1 ≤ R.cells) (hsl : slots + cap ≤ R.slots) (hd : decode c.code pc = .ok (.invokevirtual index, 3)) (p' : Nat) (hp : p' = pc + 3)
    (q : ∀ T' h' b, St md p l e R s m args below meth c own Z EL vm T' h' (cells + 1) (slots + cap) → b = h.size → Ext h h' → Arv Z h' b k ty z vs dv → Exa Z h' b ad → Goes p.tables e below P T' (mkF m p' L (.ref b :: K))) : Goes p.tables e below P T (mkF m pc L (.ref a :: K)) := by
  subst hp
  obtain ⟨locs, k0, X, eT, hZ, hown, hS, hk, hC, hF, hO, h0, h2, hE⟩ := S
  obtain ⟨T', h', X', e', E', A', B', st⟩ := cloneH X hx hZ hown w1 w2 w3 w4 w5 w6 eT F.arh E (g := mkF m pc L (.ref a :: K)) rfl hml rfl hd hf (W := W) (by show 2 * 0 + _ ≤ _; omega) hl hcap hc hsl
  exact (q T' h' h.size ⟨locs, k0, X', e', hZ, hown, hS, Nat.le_trans hk E'.1, hC.trans (CHr.ext E' hC.1), hF, hO.ext E', h0, h2, hE⟩ rfl E' A' B').via st
/-- anewarray of a class -/
theorem St.newR (S : St md p l e R s m args below meth c own Z EL vm T h cells slots) (hx : p.tables.exec = Jvm.exec) {C : String} {index : Nat} (w1 : (Cond.classLink own index C).before a0 Z = true) (w2 : (Cond.arrayOver (.object C)).before a0 Z = true) {n : Int32} (hn : ¬ n < 0) {cap : Nat} (hcap : n.toNatClampNeg ≤ cap) (hb : cap * 8 ≤ 536870912) (hd : decode c.code pc = .ok (.anewarray index, 3)) (hc : cells + 1 ≤ R.cells) (hl : slots + cap ≤ R.slots) (p' : Nat) (hp : p' = pc + 3)
    (q : ∀ T' h' a k, St md p l e R s m args below meth c own Z EL vm T' h' (cells + 1) (slots + cap) → a = h.size → Ext h h' → Arv Z h' a k (.object C) n (List.replicate cap .null) .null → Ovr Z k C → CHr Z EL vm h vm h' → Goes p.tables e below P T' (mkF m p' L (.ref a :: K))) : Goes p.tables e below P T (mkF m pc L (.int n :: K)) := by
  subst hp
  obtain ⟨locs, k, X, eT, hZ, hown, hS, hk, hC, hF, hO, h0, h2, hE⟩ := S
  obtain ⟨T', h', cA, X', e', E', A', O', st⟩ := RoadKit.newR X hx hZ hown w1 w2 eT (g := mkF m pc L (.int n :: K)) rfl hd rfl hn hcap hb hc hl
  exact (q T' h' h.size cA ⟨locs, k, X', e', hZ, hown, hS, Nat.le_trans hk E'.1, hC.trans (CHr.ext E' hC.1), hF, hO.ext E', h0, h2, hE⟩ rfl E' ((Arv.new A' hn).pad (pad_rep [] _ cap)) O' (CHr.ext E' hC.1)).via st
/-- aastore -/
theorem St.stR (S : St md p l e R s m args below meth c own Z EL vm T h cells slots) (hx : p.tables.exec = Jvm.exec) {a : Addr} {k : ClassId} {ty : FieldType} {z j : Int32} {vs : List Value} {dv v : Value} (A : Arv Z h a k ty z vs dv) (hty : ty.isReference = true) (hf : fits ty v = true) (i : Nat) (hj : ¬ j < 0 ∧ j < z) (hi : j.toNatClampNeg = i) (hv : i < vs.length) (ga : Z.heap.size ≤ a) (F : Sto Z h a v) (sf : Safe Z EL vm h a) (hd : decode c.code pc = .ok (.aastore, 1)) (p' : Nat) (hp : p' = pc + 1)
    (q : ∀ T' h', St md p l e R s m args below meth c own Z EL vm T' h' cells slots → Wr h h' a i v → Arv Z h' a k ty z (vs.set i v) dv → CHr Z EL vm h vm h' → Goes p.tables e below P T' (mkF m p' L K)) : Goes p.tables e below P T (mkF m pc L (v :: .int j :: .ref a :: K)) := by
  subst hp
  obtain ⟨locs, kk, X, eT, hZ, hown, hS, hk, hC, hF, hO, h0, h2, hE⟩ := S
  obtain ⟨cl, A1, A2, A3, A4, A5, A6⟩ := A
  obtain ⟨T', h', X', e', W', st⟩ := RoadKit.stR X hx hZ eT A1 (j := j) (inb_of A3 hj) hty F (g := mkF m pc L (v :: .int j :: .ref a :: K)) rfl rfl hd
  have hR := CHr.wr W' sf hC.1
  exact (q T' h' ⟨_, kk, X', e', hZ, hown, hS, Nat.le_trans hk hR.2.1, hC.trans hR, Fr.snoc X' hF ga, hO.wr W' ga, h0, h2, hE⟩ (by rw [← hi]; exact W') (Arv.set A1 A2 A3 A4 A5 A6 hf W' i hi hv) hR).via st
/-- bastore into a byte[] -/
theorem St.stB (S : St md p l e R s m args below meth c own Z EL vm T h cells slots) (hx : p.tables.exec = Jvm.exec) {a : Addr} {k : ClassId} {z j x : Int32} {vs : List Value} {dv : Value} (A : Arv Z h a k .byte z vs dv) (i : Nat) (hj : ¬ j < 0 ∧ j < z) (hi : j.toNatClampNeg = i) (hv : i < vs.length) (ga : Z.heap.size ≤ a) (sf : Safe Z EL vm h a) (hd : decode c.code pc = .ok (.bastore, 1)) (p' : Nat) (hp : p' = pc + 1)
    (q : ∀ T' h', St md p l e R s m args below meth c own Z EL vm T' h' cells slots → Wr h h' a i (.int x.toInt8.toInt32) → Arv Z h' a k .byte z (vs.set i (.int x.toInt8.toInt32)) dv → CHr Z EL vm h vm h' → Goes p.tables e below P T' (mkF m p' L K)) : Goes p.tables e below P T (mkF m pc L (.int x :: .int j :: .ref a :: K)) := by
  subst hp
  obtain ⟨locs, kk, X, eT, hZ, hown, hS, hk, hC, hF, hO, h0, h2, hE⟩ := S
  obtain ⟨cl, A1, A2, A3, A4, A5, A6⟩ := A
  obtain ⟨T', h', X', e', W', st⟩ := RoadKit.stB X hx hZ eT A1 (j := j) (inb_of A3 hj) (g := mkF m pc L (.int x :: .int j :: .ref a :: K)) rfl rfl hd
  have hR := CHr.wr W' sf hC.1
  exact (q T' h' ⟨_, kk, X', e', hZ, hown, hS, Nat.le_trans hk hR.2.1, hC.trans hR, Fr.snoc X' hF ga, hO.wr W' ga, h0, h2, hE⟩ (by rw [← hi]; exact W') (Arv.set A1 A2 A3 A4 A5 A6 (fits_nar_byte x) W' i hi hv) hR).via st
/-- super(message) of a Throwable's subclass, the stack trace filled in -/
theorem St.exc1 (S : St 2 p l e R s m args below meth c own Z EL vm T h cells slots) (hx : p.tables.exec = Jvm.exec) (hl : l.stackTraces = true) {rc : String} {links : List Free.Exc.Link} {ic n : Nat} (hok : Free.Exc.linksOk 1 links = true) (w1 : (Cond.methodLink own ic (Free.Exc.ctor 1 (Free.Exc.headName links))).before a0 Z = true) (w2 : (Cond.instanceMethod (Free.Exc.ctor 1 (Free.Exc.headName links))).before a0 Z = true) (wT : (Free.Exc.chainTab 1 rc links).before a0 Z = true) (wi : (Cond.instantiable rc n).before a0 Z = true) (r : ∀ d ∈ twoRefs, d.before a0 Z = true)
    {a : Addr} (E : Exa Z h a rc) (N : Unt h a) (B : Fld Z h a "java/lang/Throwable" "backtrace" "Ljava/lang/Object;" .null) (B2 : Fld Z h a "java/lang/Throwable" "detailMessage" "Ljava/lang/String;" .null) {msg : Value} (hmsg : msg.isRef = true) (sf : Safe Z EL vm h a) (ga : Z.heap.size ≤ a) (hml : L.size = c.maxLocals) (hd : decode c.code pc = .ok (.invokespecial ic, 3))
    (hf : 4 + links.length ≤ R.frames) (hlo : (K.map fun v => v.category).sum + (56 + 14 * links.length) ≤ R.locals) (hc : cells + 1 ≤ R.cells) (hsl : slots + 2752 ≤ R.slots) (p' : Nat) (hp : p' = pc + 3)
    (q : ∀ T' h', St 2 p l e R s m args below meth c own Z EL vm T' h' (cells + 1) (slots + 2752) → Kp Z h h' a → Exa Z h' a rc → Fld Z h' a "java/lang/Throwable" "detailMessage" "Ljava/lang/String;" msg → CHr Z EL vm h vm h' → Goes p.tables e below P T' (mkF m p' L K)) : Goes p.tables e below P T (mkF m pc L (msg :: .ref a :: K)) := by
  subst hp
  obtain ⟨locs, k0, X, eT, hZ, hown, hS, hk, hC, hF, hO, h0, h2, a1, hE, hOs⟩ := S
  have hT0 : ThS Z (s.setVm vm).heap := ThS.start.ext hOs.2
  obtain ⟨T', h', X', e', K', E', -, M', -, -, st⟩ := excL1 X hx hl hZ hown hok w1 w2 wT wi r hT0 (ThS.start.ext hO.2) (h2 rfl).1 (h2 rfl).2 eT E N B B2 hmsg (g := mkF m pc L (msg :: .ref a :: K)) rfl hml rfl hd hf (by show 2 * 0 + _ + _ ≤ _; omega) hc hsl
  have hKe := keep_of_kp K'
  have hR : CHr Z EL vm h vm h' := CHr.keep hKe (fun x hx => by cases List.mem_singleton.mp hx; exact sf) hC.1
  exact (q T' h' ⟨_, k0, X', e', hZ, hown, hS, Nat.le_trans hk hR.2.1, hC.trans hR, Fr.six hF ga, hO.keep hKe (fun x hx => by cases List.mem_singleton.mp hx; exact ga), h0, h2, a1, hE, hOs⟩ K' E' M' hR).via st
theorem St.more (S : St md p l e R s m args below meth c own Z EL vm T h cells slots) {k n : Nat} (h1 : cells ≤ k) (h2 : slots ≤ n) : St md p l e R s m args below meth c own Z EL vm T h k n := by
  obtain ⟨locs, k0, X, r⟩ := S
  exact ⟨locs, k0, X.more h1 h2, r⟩
end E

end Jvm.Own

namespace Jvm.Own
open Sem ClassFile Op Lib Jvm.Stand Jvm.Free Jvm.LawKit Jvm.RoadKit
/-! the sheet's words on Throwable: T.Links without 'lays Throwable Throwable suppressedExceptions' -/
open Bundle Jvm.Free.Exc LibCode.Throwable in
def own_thl (rc : String) : List Cond := [.native tFill0, .initialized tN, .superclass tN "java/lang/Object", .instanceMethod tFill, .codeSync tFill Fill.code 1 (some (.object tN)), .instanceMethod tFill0, .instanceMethod oInit, .code oInit ⟨#[0xb1]⟩ 1 none,
  .methodLink tN 1 oInit, .methodLink tN 27 tFill, .methodLink tN 202 tFill0, .fieldLink tN 7 tN "cause" thD, .fieldLink tN 17 tN "stackTrace" steD, .fieldLink tN 24 tN "suppressedExceptions" listD, .fieldLink tN 13 tN "UNASSIGNED_STACK" steD, .fieldLink tN 20 tN "SUPPRESSED_SENTINEL" listD, .fieldLink tN 198 tN "backtrace" obD,
  .lays rc tN "cause" thD, .lays rc tN "stackTrace" steD, .lays rc tN "suppressedExceptions" listD, .lays rc tN "detailMessage" msgD, .lays rc tN "backtrace" obD, .lays rc tN "depth" "I", .laysStatic tN "UNASSIGNED_STACK" steD, .laysStatic tN "SUPPRESSED_SENTINEL" listD,
  .selects rc tFill0 tFill0, .soleField tN "backtrace", .soleField tN "depth"]
open Bundle Jvm.Free.Exc LibCode.Throwable in
set_option maxHeartbeats 4000000 in
theorem own_links {args : Array Value} {W : State} {pl : Platform} (howns : pl.frameOwnsMonitors = true) (hfin : pl.finalization = false) (hpl : pl.magicAccessors = ({} : Platform).magicAccessors) {rc : String} (a : ∀ c ∈ own_thl rc, c.before args W = true) :
    ∃ T : ThrowableC, T.Links pl W ∧ W.vm.findClass tN = some T.cT ∧ W.methodNamed? tFill = some T.fill ∧ W.methodNamed? tFill0 = some T.fill0 ∧ W.fieldFound? tN "stackTrace" steD = some (T.cT, T.kT, T.i17, T.fStack) ∧ T.fStack.type = .array (.object "java/lang/StackTraceElement") ∧ W.fieldFound? tN "UNASSIGNED_STACK" steD = some (T.cT, T.kT, T.i13, T.fUnassigned) := by
  have w : ∀ (i : Nat) (d : Cond), (own_thl rc)[i]? = some d → d.holds args W none W [] = true := fun i d h => a d (List.mem_of_getElem? h)
  obtain ⟨⟨c, j⟩, mN, nN, gN, natN, codN, lckN, sigN⟩ := Cond.native_spec (w 0 _ rfl)
  have hc : W.vm.findClass tN = some c := findClass_of_methodNamed nN
  obtain ⟨k, hk, nk⟩ := Vm.findClass_spec hc
  obtain ⟨_, k1, _, _, hk1, _, _, -, _, nif⟩ := Cond.superclass_spec hc (w 2 _ rfl)
  cases hk.symm.trans hk1
  obtain ⟨iF, mF, nF, gF, atF, stF, abF, -, -⟩ := Cond.ownMethod (x := tFill) hc hk (w 3 _ rfl)
  obtain ⟨mF', cF, gF', codF, byF, loF, reF, lckF, -, sigF⟩ := Cond.codeSync_spec nF (w 4 _ rfl)
  cases gF.symm.trans gF'
  obtain ⟨j', mN', nN', gN', atN, stN, abN, nmN, dsN⟩ := Cond.ownMethod (x := tFill0) hc hk (w 5 _ rfl)
  cases nN.symm.trans nN'
  cases gN.symm.trans gN'
  obtain ⟨mO, eO, nO, gO, stO, abO⟩ := Cond.instanceMethod_spec (w 6 _ rfl)
  obtain ⟨eO', cO, gO', codO, byO, -, -, lckO, -, sigO⟩ := Cond.code_spec nO (w 7 _ rfl)
  cases gO.symm.trans gO'
  obtain ⟨kO, hkO, nkO⟩ := Vm.findClass_spec (findClass_of_methodNamed nO)
  obtain ⟨nmO, dsO⟩ := name_of_methodNamed nO gO
  obtain ⟨ci1, n1, cf, l1, r1, hcf, p1⟩ := Cond.linkedMethod hc hk nO (w 8 _ rfl) pl hpl
  obtain ⟨ci27, n27, cf2, l27, r27, hcf2, p27⟩ := Cond.linkedMethod hc hk nF (w 9 _ rfl) pl hpl
  cases hcf.symm.trans hcf2
  obtain ⟨ci202, n202, cf3, l202, r202, hcf3, p202⟩ := Cond.linkedMethod hc hk nN (w 10 _ rfl) pl hpl
  cases hcf.symm.trans hcf3
  obtain ⟨ci7, i7, f7, l7, r7, a7, s7, u7, -, -, -⟩ := Cond.ownField (t := .object tN) hc hk (by decide +kernel) (w 11 _ rfl) (w 17 _ rfl) pl hpl
  obtain ⟨ci17, i17, f17, l17, r17, a17, s17, u17, n17, t17, q17⟩ := Cond.ownField (t := .array (.object "java/lang/StackTraceElement")) hc hk (by decide +kernel) (w 12 _ rfl) (w 18 _ rfl) pl hpl
  obtain ⟨ci24, i24, f24, l24, r24, a24, s24, u24, n24, -, q24⟩ := Cond.ownField (t := .object "java/util/List") hc hk (by decide +kernel) (w 13 _ rfl) (w 19 _ rfl) pl hpl
  obtain ⟨ci13, i13, f13, aS, cS, l13, r13, a13, s13, -, -, sta, -, -, -, -, q13⟩ := Cond.ownStatic (t := .array (.object "java/lang/StackTraceElement")) hc hk (by decide +kernel) (w 14 _ rfl) (w 23 _ rfl) pl hpl
  obtain ⟨ci20, i20, f20, _, _, l20, r20, a20, s20, -, -, -, -, -, -, -, -⟩ := Cond.ownStatic (t := .object "java/util/List") hc hk (by decide +kernel) (w 15 _ rfl) (w 24 _ rfl) pl hpl
  obtain ⟨_, _, _, _, _, fM, _, _, _, sM, uM, _⟩ := Cond.lays_spec (w 20 _ rfl)
  have apart : f17.slot ≠ f24.slot := Cond.lays_apart (w 18 _ rfl) (w 19 _ rfl) q17 q24 (by rw [n17, n24]; decide)
  have prm : ∀ {y : MethodName} {mm : Method} {ps : List FieldType}, (parseMethodDescriptor y.desc).map (·.parameters) = some ps → parseMethodDescriptor y.desc = some mm.sig → mm.sig.parameters = ps := fun h1 h2 => by rw [h2] at h1; simpa using h1
  refine ⟨{ cT := c, kT := k, cO := c, aS := aS, fillIdx := iF, fill0Idx := j, initSIdx := iF, obj := mO, kObj := kO, methFill := mF, methFill0 := mN, methInitS := mF, methObj := eO, codeFill := cF, codeInitS := cF, codeObj := cO, fBack := f7, fDepth := f7, fStack := f17, fCause := f7, fSupp := f24, fMsg := fM, fUnassigned := f13, fSentinel := f20, cfT := cf, ci1 := ci1, n1 := n1, ci27 := ci27, n27 := n27, ci202 := ci202, n202 := n202, ci7 := ci7, i7 := i7, ci13 := ci13, i13 := i13, ci17 := ci17, i17 := i17, ci20 := ci20, i20 := i20, ci24 := ci24, i24 := i24 }, ?_, hc, nF, nN, q17, t17, q13⟩
  have e1 := Cond.initialized_spec hc hk (w 1 _ rfl)
  have e2 : mF.sig.parameters = [] := prm (y := tFill) (by decide +kernel) sigF
  have e3 : mN.sig.parameters = [.int] := prm (y := tFill0) (by decide +kernel) sigN
  have e4 : eO.sig.parameters.length = 0 := by rw [prm (y := oInit) (ps := []) (by decide +kernel) sigO]; rfl
  have e5 : lookupSpecial W.vm mO.cls "<init>" eO.desc = .method mO := by rw [dsO]; exact lookupSpecial_of_named nO gO stO
  have e6 := Vm.findClass_boot hc hk
  constructor <;> assumption
theorem own_push {xs : Heap} {x : Cell} {i : Nat} (h : i < xs.size) : (xs.push x)[i]? = xs[i]? := by rw [Array.getElem?_push, if_neg (by omega)]
theorem own_thl_face (rc : String) : ∀ c ∈ own_thl rc, c.keepsFace = true := by
  have h : (own_thl rc).all (fun c => c.keepsFace) = true := by first | rfl | (simp [own_thl, Cond.keepsFace, Cond.keeps, Cond.steady, Cond.faceAtom]; done) | (simp [own_thl, Cond.keepsFace, Cond.keeps, Cond.steady]; rfl)
  exact fun c hc => List.all_eq_true.mp h c hc
open Bundle Jvm.Free.Exc Jvm.Free.Str in
set_option maxHeartbeats 8000000 in
/-- this.fillInStackTrace(), its trace filled in -/
theorem St.fill {p : Program} {l : Launch} {e : Env} {R : Room} {s : State} {m : MethodId} {args : Array Value} {below : List Frame} {meth : Method} {c : Code} {Z : State} {EL : List (String × Nat)} {vm : Vm} {T : State} {h : Heap} {cells slots : Nat} {P : Outcome → State → Prop} {pc : Nat} {L : Array Slot} {K : List Value} {a0 : Array Value}
    (S : St 2 p l e R s m args below meth c tN Z EL vm T h cells slots) (hx : p.tables.exec = Jvm.exec) (hl : l.stackTraces = true) {rc : String} {n : Nat} (aw : ∀ c ∈ own_thl rc, c.before a0 Z = true) (w1 : (Cond.methodLink tN 27 tFill).before a0 Z = true) (w2 : (Cond.instanceMethod tFill).before a0 Z = true) (wd : (Cond.declares tFill).before a0 Z = true) (ws : (Cond.selects rc tFill tFill).before a0 Z = true) (wi : (Cond.instantiable rc n).before a0 Z = true) (wo : (Cond.arrayOver (.object "java/lang/Object")).before a0 Z = true)
    {a us : Addr} (E : Exa Z h a rc) (N : Unt h a) (fS : Fld Z h a tN "stackTrace" steD (.ref us)) (fB : Fld Z h a tN "backtrace" obD .null) (sU : Sta Z h tN "UNASSIGNED_STACK" steD (.ref us)) (ga : Z.heap.size ≤ a) (sf : Safe Z EL vm h a) (hml : L.size = c.maxLocals) (hd : decode c.code pc = .ok (.invokevirtual 27, 3))
    {W : Nat} (hf : 3 ≤ R.frames) (hW : (K.map fun v => v.category).sum ≤ W) (hlo : W + 42 ≤ R.locals) (hc : cells + 1 ≤ R.cells) (hsl : slots + 2752 ≤ R.slots) (p' : Nat) (hp : p' = pc + 3)
    (q : ∀ T' h', St 2 p l e R s m args below meth c tN Z EL vm T' h' (cells + 1) (slots + 2752) → Keep h h' [a] → CHr Z EL vm h vm h' → Goes p.tables e below P T' (mkF m p' L (.ref a :: K))) : Goes p.tables e below P T (mkF m pc L (.ref a :: K)) := by
  subst hp
  have ltA := E.lt
  obtain ⟨locs, k0, X, eT, hZ, hown, hS, hk, hC, hF, hO, h0, h2, a1, hE, hOs⟩ := S
  have htr : e.platform.stackTraces = true := by rw [X.admits.platform]; exact hl
  have howns : e.platform.frameOwnsMonitors = true := by rw [X.admits.platform]
  have hfin : e.platform.finalization = false := by rw [X.admits.platform]
  have hpl : e.platform.magicAccessors = ({} : Platform).magicAccessors := by rw [X.admits.platform]
  have aZ : ∀ d ∈ own_thl rc, d.before a0 (Z.setVm vm) = true := fun d hd => Cond.rides hZ (own_thl_face rc d hd) (aw d hd)
  have w : ∀ (i : Nat) (d : Cond), (own_thl rc)[i]? = some d → d.holds a0 (Z.setVm vm) none (Z.setVm vm) [] = true := fun i d h => aZ d (List.mem_of_getElem? h)
  obtain ⟨TC, LZ, fT, nF, n0, qS, tS, qU⟩ := own_links howns hfin hpl aZ
  have LU : TC.Links e.platform (s.setVm vm) := by cases LZ; constructor <;> assumption
  obtain ⟨cell, hcell, hvm, hmon⟩ := N
  obtain ⟨cE, kE, hcE, hfE, hkE, -, hsz⟩ := E
  cases hcE.symm.trans hcell
  obtain ⟨ci, ki, hci, hki, hord, -⟩ := Cond.instantiable_spec (show (Cond.instantiable rc n).holds a0 Z none Z [] = true from wi)
  cases hci.symm.trans hfE
  cases hki.symm.trans hkE
  obtain ⟨kX, hkX, eX⟩ := hZ.alike.2.2 _ _ hkE
  have ordX : kX.kind = .ordinary := by rw [eX]; exact hord
  have szX : cell.slots.size = kX.instanceTypes.size := by rw [eX]; exact hsz hord
  have fX : vm.findClass rc = some cell.cls := by rw [hZ.alike.findClass]; exact hfE
  have tk : ∀ {f : Field} {v : Value}, kX.instanceTypes[f.slot]? = some f.type → fits f.type v = true → Jvm.Takes (s.setVm vm) cell f v := fun {f v} h1 h2 => by
    obtain ⟨q1, q2⟩ := Takes.of_laid (s := s.setVm vm) (v := v) hkX ordX h1 h2
    exact ⟨by rw [szX]; simpa using q1, by rw [hvm]; exact q2⟩
  have rd : ∀ {nm d : String} {v : Value} {cf : ClassId} {k : Class} {i : Nat} {f : Field}, Fld Z h a tN nm d v → (Z.setVm vm).fieldFound? tN nm d = some (cf, k, i, f) → cell.slots[f.slot]? = some v := fun {nm d v cf k i f} F G => by
    obtain ⟨c1, _, _, _, f1, x1, x2, -, -, -, -, x7⟩ := F
    cases x1.symm.trans hcell
    obtain ⟨_, y1, -⟩ := State.fieldFound?_setVm (s := Z) hZ.alike x2
    cases y1.symm.trans G
    exact x7
  obtain ⟨ci198, i198, fb, l198, r198, a198, sB, -, nB, tB, qB⟩ := Cond.ownField (t := .object "java/lang/Object") fT LZ.cls (by decide +kernel) (w 16 _ rfl) (w 21 _ rfl) e.platform hpl
  obtain ⟨_, _, cD, kD, iD, fd, -, -, qD, sD, -, -, -, -⟩ := Cond.lays_spec (w 22 _ rfl)
  cases (Cond.lays_declared (w 22 _ rfl) qD).symm.trans fT
  obtain ⟨hkD, atD⟩ := State.fieldFound?_spec qD
  cases hkD.symm.trans LZ.cls
  obtain ⟨nD, tD⟩ := State.fieldFound?_type qD (t := .int) (by decide +kernel)
  have hfb := Cond.soleField_find fT LZ.cls (w 26 _ rfl) a198 nB sB
  have hfd := Cond.soleField_find fT LZ.cls (w 27 _ rfl) atD nD sD
  obtain ⟨comp, cO, kO0, -, -, hkO0, kindO0, fO0⟩ := Cond.arrayOver_spec (show (Cond.arrayOver (.object "java/lang/Object")).holds a0 Z none Z [] = true from wo)
  obtain ⟨kO, hkO, eO⟩ := hZ.alike.2.2 _ _ hkO0
  have kindO : kO.kind = .array comp (.object "java/lang/Object") := by rw [eO]; exact kindO0
  have fO : vm.findClass "[Ljava/lang/Object;" = some cO := by rw [hZ.alike.findClass]; exact fO0
  have tyS := (Cond.laysAt (s := Z.setVm vm) fX hkX qS (w 18 _ rfl)).1
  have tyB := (Cond.laysAt (s := Z.setVm vm) fX hkX qB (w 21 _ rfl)).1
  have tyD := (Cond.laysAt (s := Z.setVm vm) fX hkX qD (w 22 _ rfl)).1
  obtain ⟨cf, i, kU, fU, st, cellS, u1, u2, u3, u4, u5, u6, u7⟩ := sU
  obtain ⟨kU', v1, v2⟩ := State.fieldFound?_setVm (s := Z) hZ.alike u1
  cases v1.symm.trans qU
  have stA : TC.aS = st := Option.some.inj (LZ.statics.symm.trans (by rw [v2]; exact u4))
  have kS : cellS.vm ≠ .unknown := fun r => by rw [r] at u6; cases u6
  have neS : TC.aS ≠ a := fun r => by
    rw [stA] at r; subst r
    cases u5.symm.trans hcell
    rw [hvm] at u6; cases u6
  have sel0 : selectMethod e.platform (s.setVm vm).vm cell.cls TC.fill0 = .method TC.fill0 := by
    obtain ⟨c2, r2, m2, q1, q2, q3, q4, -⟩ := Cond.selects_spec (w 25 _ rfl)
    cases q1.symm.trans fX
    cases q2.symm.trans (State.methodFound?_of_named n0 (by decide))
    cases q3.symm.trans n0
    rw [Launch.admits_selectMethod X.admits]; exact q4
  have nFU : (s.setVm vm).methodNamed? tFill = some TC.fill := by rw [State.methodNamed?_of_vm (U := s.setVm vm) (V := Z.setVm vm) rfl]; exact nF
  have BK := fillPays (l := l) (R := R) (p := p) (e := e) (below := below) (s := s.setVm vm) (sargs := args) (len := 3) (W := W) hx htr TC LU nFU (u0 := ⟨.ref us, rfl⟩) (fun r => by cases r) (self := a) (cell := cell) (cellS := cellS) (fun _ => by rw [hvm]; simp) (by rw [hvm]; simp) (by rw [hmon]) (by rw [hmon]) (rd fS qS) sel0 neS kS u7 (tk tyS (by rw [tS]; rfl))
    ⟨{ ci198 := ci198, i198 := i198, fBack := fb }, ⟨l198, r198, a198, sB⟩, rd fB qB⟩ (h2 rfl).1 (h2 rfl).2 fT (cO := cO) (fb := fb) (fd := fd) fO hkO kindO hfb hfd (fun x => tk tyB (by rw [tB]; rfl)) (fun x => tk tyD (by rw [tD]; rfl)) (by omega) hlo
  obtain ⟨v, vm1, ⟨T', L', k', n'⟩, -, X', ⟨hv, vm2, lines, hlen, -, hU, l', y', z'⟩, stp⟩ := X.virtualBack hx hown (mvT (s := s.setVm vm) hZ w1) (mvT (s := s.setVm vm) hZ wd) (notFace_of_selects (args := #[]) (mvT (s := s.setVm vm) hZ ws)) (mvT (s := s.setVm vm) hZ ws) (mvT (s := s.setVm vm) hZ w2) (by decide) BK (b := a) (cB := cell.cls) fX ⟨cell, by rw [eT]; exact hcell, rfl, by rw [hvm]; rfl⟩ (g := mkF m pc L (.ref a :: K)) rfl hml (Steps.refl _) (argsL := []) (rest := K)
    (fun sig r => by rw [show parseMethodDescriptor tFill.desc = some ⟨[], some (.object tN)⟩ from by decide +kernel] at r; rw [← Option.some.inj r]; rfl) rfl (by show 2 * 0 + _ ≤ _; omega) hd (fun vmx _ => ⟨rfl, hc, hsl, by show T.heap[a]? = _; rw [eT]; exact hcell, by show T.heap[TC.aS]? = _; rw [eT, stA]; exact u5⟩)
  dsimp only [Pt.U, Pt.locs, Pt.cells, Pt.slots] at X' l' y' z' stp hU
  subst l' y' z' hv
  have hH : T'.heap = (h.push (traceHolder cO lines)).setIfInBounds a (filledOn TC.toThrowableT fb fd cell ⟨.ref us, rfl⟩ h.size lines.length.toInt32) := by rw [hU, ← eT]; rfl
  have nb : (traceHolder cO lines).slots.size ≤ 2752 := traceHolder_size_le cO hlen
  have KK : Keep h T'.heap [a] := by
    refine ⟨by rw [hH]; simp, fun x cx hx' hn => ?_, fun x cx hx' => ?_⟩
    · have lx := (Array.getElem?_eq_some_iff.mp hx').1
      have nx : x ≠ a := fun r => hn (r ▸ List.mem_singleton.mpr rfl)
      rw [hH, Array.getElem?_setIfInBounds_ne (Ne.symm nx), own_push lx]; exact hx'
    · have lx := (Array.getElem?_eq_some_iff.mp hx').1
      by_cases nx : x = a
      · subst nx
        cases hx'.symm.trans hcell
        have lp : x < (h.push (traceHolder cO lines)).size := by rw [Array.size_push]; exact Nat.lt_succ_of_lt lx
        refine ⟨filledOn TC.toThrowableT fb fd cell ⟨.ref us, rfl⟩ h.size lines.length.toInt32, by rw [hH]; exact Array.getElem?_setIfInBounds_self_of_lt lp, rfl, rfl, ?_⟩
        simp [filledOn, Cell.setSlot]
      · refine ⟨cx, ?_, rfl, rfl, rfl⟩
        rw [hH, Array.getElem?_setIfInBounds_ne (Ne.symm nx), own_push lx]; exact hx'
  have hR : CHr Z EL vm h vm T'.heap := CHr.keep KK (fun x hx => by cases List.mem_singleton.mp hx; exact sf) hC.1
  have hF' : Fr Z.heap.size (locs ++ [⟨a, fb.slot⟩, ⟨a, fd.slot⟩, ⟨a, TC.fStack.slot⟩]) := hF.app fun y hy => by
    simp only [List.mem_cons, List.not_mem_nil, or_false] at hy
    rcases hy with rfl | rfl | rfl <;> exact ga
  exact (q T' T'.heap ⟨_, k0, X'.more (Nat.le_refl _) (Nat.add_le_add_left nb _), rfl, hZ, hown, hS, Nat.le_trans hk hR.2.1, hC.trans hR, hF', hO.keep KK (fun x hx => by cases List.mem_singleton.mp hx; exact ga), h0, h2, a1, hE, hOs⟩ KK hR).to stp
end Jvm.Own
/- laws to paste: Road.backV, Road.codOf (cut by pick.py; bodies as the Statement names them) -/
namespace Jvm.Pilot.@@N@@
namespace StrChars
open Jvm Sem ClassFile Op Lib Jvm.Stand Jvm.Free.XT Jvm.Free.ALB Jvm.Free.JM Jvm.Free
open Jvm.Lib.Cold (StaticIs)
/-- a char array whose places are chars -/
def Ch (a : Addr) (A : Cell) (U : State) : Prop := Arr .char a A U ∧ Typed .char A
theorem Ch.mv {a : Addr} {A : Cell} {U U' : State} (h : Ch a A U) (hal : U.vm.Alike U'.vm) (hh : U'.heap = U.heap) : Ch a A U' := ⟨h.1.mv hal hh, h.2⟩
theorem Ch.keep {a : Addr} {A : Cell} {U U' : State} (h : Ch a A U) (hal : U.vm.Alike U'.vm) (hk : U'.heap[a]? = some A) : Ch a A U' := ⟨h.1.keep hal hk, h.2⟩
/-- what place i of a char[]'s cell holds -/
def cv (A : Cell) (i : Nat) : Int32 := match A.slots[i]? with | some (.int x) => x | _ => 0
theorem Ch.get {a : Addr} {A : Cell} {U : State} (h : Ch a A U) {i : Nat} (hi : i < A.slots.size) : A.slots[i]? = some (.int (cv A i)) := by
  have e := Array.getElem?_eq_getElem hi
  have f := h.2 i _ e
  unfold cv; rw [e]
  generalize A.slots[i] = v at f
  cases v <;> simp [fits] at f ⊢
/-- the byte that i2b leaves of a char -/
def lo8 (x : Int32) : Int32 := x.toInt8.toInt32
theorem fits_lo8 (y : Int32) : fits .byte (.int (lo8 y)) = true := by
  have h1 := y.toInt8.le_toInt
  have h2 := y.toInt8.toInt_lt
  simp only [lo8, fits, Bool.and_eq_true, decide_eq_true_eq, Int32.le_iff_toInt_le, Int8.toInt_toInt32, show (-128 : Int32).toInt = -128 from by decide, show (127 : Int32).toInt = 127 from by decide]
  omega
/-- A' is A but that each place j of lo .. hi - 1 holds f j -/
def Laid (A A' : Cell) (lo hi : Nat) (f : Nat → Value) : Prop := A'.cls = A.cls ∧ A'.vm = A.vm ∧ A'.slots.size = A.slots.size ∧ ∀ i, A'.slots[i]? = if lo ≤ i ∧ i < hi then some (f i) else A.slots[i]?
theorem Laid.zero (A : Cell) (lo : Nat) (f : Nat → Value) : Laid A A lo (lo + 0) f := ⟨rfl, rfl, rfl, fun i => by rw [if_neg (by omega)]⟩
theorem Laid.step {A Ak : Cell} {lo k : Nat} {f : Nat → Value} {v : Value} (h : Laid A Ak lo k f) (hlo : lo ≤ k) (hk : k < Ak.slots.size) (hv : v = f k) : Laid A (Ak.setSlot k v) lo (k + 1) f := by
  refine ⟨h.1, h.2.1, by simpa [Cell.setSlot] using h.2.2.1, fun i => ?_⟩
  by_cases e : k = i
  · subst e; rw [Cell.slots_setSlot_self v hk, if_pos (by omega), hv]
  · rw [Cell.slots_setSlot_ne v e, h.2.2.2 i]
    by_cases q : lo ≤ i ∧ i < k
    · rw [if_pos q, if_pos (by omega)]
    · rw [if_neg q, if_neg (by omega)]
def U16 : String := "java/lang/StringUTF16"
namespace Cmp5
def yN : MethodName := ⟨"java/lang/StringUTF16", "compress", "([CI[BII)I"⟩
abbrev yB : ByteArray := jdk_52_method_21_code
theorem d0 : decode yB 0 = .ok (.iconst 0, 1) := by decide +kernel
theorem d1 : decode yB 1 = .ok (.istore 5, 2) := by decide +kernel
theorem d3 : decode yB 3 = .ok (.iload 5, 2) := by decide +kernel
theorem d5 : decode yB 5 = .ok (.iload 4, 2) := by decide +kernel
theorem d7 : decode yB 7 = .ok (.if_icmp (.ge) 37, 3) := by decide +kernel
theorem d10 : decode yB 10 = .ok (.aload_n 0, 1) := by decide +kernel
theorem d11 : decode yB 11 = .ok (.iload_n 1, 1) := by decide +kernel
theorem d12 : decode yB 12 = .ok (.caload, 1) := by decide +kernel
theorem d13 : decode yB 13 = .ok (.istore 6, 2) := by decide +kernel
theorem d15 : decode yB 15 = .ok (.iload 6, 2) := by decide +kernel
theorem d17 : decode yB 17 = .ok (.sipush 255, 3) := by decide +kernel
theorem d20 : decode yB 20 = .ok (.if_icmp (.le) 6, 3) := by decide +kernel
theorem d26 : decode yB 26 = .ok (.aload_n 2, 1) := by decide +kernel
theorem d27 : decode yB 27 = .ok (.iload_n 3, 1) := by decide +kernel
theorem d28 : decode yB 28 = .ok (.iload 6, 2) := by decide +kernel
theorem d30 : decode yB 30 = .ok (.i2b, 1) := by decide +kernel
theorem d31 : decode yB 31 = .ok (.bastore, 1) := by decide +kernel
theorem d32 : decode yB 32 = .ok (.iinc 1 1, 3) := by decide +kernel
theorem d35 : decode yB 35 = .ok (.iinc 3 1, 3) := by decide +kernel
theorem d38 : decode yB 38 = .ok (.iinc 5 1, 3) := by decide +kernel
theorem d41 : decode yB 41 = .ok (.goto (-38), 3) := by decide +kernel
theorem d44 : decode yB 44 = .ok (.iload 4, 2) := by decide +kernel
theorem d46 : decode yB 46 = .ok (.ireturn, 1) := by decide +kernel
def site : List Cond := []
def tab : Cond := tabOf yN yB 7 (some .int) site
def P (b : Addr) (A : Cell) (d : Addr) (B : Cell) (o q len : Nat) (args : Array Value) (s : State) : Prop := args = #[.ref b, .int (Int32.ofNat o), .ref d, .int (Int32.ofNat q), .int (Int32.ofNat len)] ∧ Ch b A s ∧ Arr .byte d B s ∧ b ≠ d ∧ o + len ≤ A.slots.size ∧ q + len ≤ B.slots.size ∧ ∀ i, i < len → ¬ 255 < cv A (o + i)
def E (b : Addr) (A : Cell) (d : Addr) (B : Cell) (o q len : Nat) (r : Option Value) (s u : State) : Prop := r = some (.int (Int32.ofNat len)) ∧ ∃ B', Put d B' s u ∧ Laid B B' q (q + len) (fun j => Value.int (lo8 (cv A (o + (j - q)))))
/-- no char of the range above 255: len; the places written hold each char's low byte -/
theorem law (l : Launch) (b : Addr) (A : Cell) (d : Addr) (B : Cell) (o q len : Nat) : Law l yN 5 5 0 0 yB 7 (some .int) site (P b A d B o q len) (E b A d B o q len) (copyLocs d q len) 0 0 := by
  refine Law.of_walk (plainFor_of_name (by decide +kernel)) (by decide +kernel) (by decide +kernel) (by decide) (fun _ _ h => by rw [h.1]; rfl) (fun _ U U' hal hh h => ⟨h.1, h.2.1.mv hal hh, h.2.2.1.mv hal hh, h.2.2.2⟩) (fun r U U' V V' h1 hal h2 h => ⟨h.1, h.2.elim fun B' q => ⟨B', q.1.mv h1 h2, q.2⟩⟩) ?_
  intro p e s m args below meth c s₁ X0 hexec hbytes hml hret hlk hnm hown hh0 W hP
  obtain ⟨rfl, hA, hB, hne, l1, l2, hp⟩ := hP
  have c1 : Steps p.tables e below (s₁.setTop (entryFrame m #[.ref b, .int (Int32.ofNat o), .ref d, .int (Int32.ofNat q), .int (Int32.ofNat len)] 7)) (s₁.setTop (mkF m 0 #[.val (.ref b), .val (.int (Int32.ofNat o)), .val (.ref d), .val (.int (Int32.ofNat q)), .val (.int (Int32.ofNat len)), .unset, .unset] [])) := entry rfl
  have hA0 := hA.1.mv X0.warmed.alike hh0
  have hB0 := hB.mv X0.warmed.alike hh0
  have a31 := hA.1.2.2.2
  have c2 : Steps p.tables e below (s₁.setTop (entryFrame m #[.ref b, .int (Int32.ofNat o), .ref d, .int (Int32.ofNat q), .int (Int32.ofNat len)] 7)) (s₁.setTop (mkF m 3 #[.val (.ref b), .val (.int (Int32.ofNat o)), .val (.ref d), .val (.int (Int32.ofNat q)), .val (.int (Int32.ofNat len)), .val (.int 0), .unset] [])) := c1.trans (by
    refine iconstV X0.here hexec rfl 0 (hb hbytes d0) (by decide) ?_
    refine XS.istore X0.here hexec rfl (hb hbytes d1) rfl rfl ?_
    exact Steps.refl _)
  have loop : ∀ (r i : Nat), i + r = len → ∀ (z : Slot), (z = .unset ∨ ∃ w, z = .val w ∧ w.category = 1) → ∀ (Tl : State) (Bk : Cell), Stand p l e { frames := 0, locals := 0, cells := 0, slots := 0 } s m #[.ref b, .int (Int32.ofNat o), .ref d, .int (Int32.ofNat q), .int (Int32.ofNat len)] below meth c Tl ([] ++ copyLocs d q i) 0 0 → Put d Bk s₁ Tl → Laid B Bk q (q + i) (fun j => Value.int (lo8 (cv A (o + (j - q))))) →
      Steps p.tables e below (s₁.setTop (entryFrame m #[.ref b, .int (Int32.ofNat o), .ref d, .int (Int32.ofNat q), .int (Int32.ofNat len)] 7)) (Tl.setTop (mkF m 3 #[.val (.ref b), .val (.int (Int32.ofNat (o + i))), .val (.ref d), .val (.int (Int32.ofNat (q + i))), .val (.int (Int32.ofNat len)), .val (.int (Int32.ofNat i)), z] [])) → ∃ (T' : State) (B' : Cell) (z' : Slot), Stand p l e { frames := 0, locals := 0, cells := 0, slots := 0 } s m #[.ref b, .int (Int32.ofNat o), .ref d, .int (Int32.ofNat q), .int (Int32.ofNat len)] below meth c T' ([] ++ copyLocs d q len) 0 0 ∧ Put d B' s₁ T' ∧ Laid B B' q (q + len) (fun j => Value.int (lo8 (cv A (o + (j - q))))) ∧
      Steps p.tables e below (s₁.setTop (entryFrame m #[.ref b, .int (Int32.ofNat o), .ref d, .int (Int32.ofNat q), .int (Int32.ofNat len)] 7)) (T'.setTop (mkF m 3 #[.val (.ref b), .val (.int (Int32.ofNat (o + len))), .val (.ref d), .val (.int (Int32.ofNat (q + len))), .val (.int (Int32.ofNat len)), .val (.int (Int32.ofNat len)), z'] [])) := by
    intro r
    induction r with
    | zero =>
      intro i hi z hz Tl Bk Xl pl fl cl
      have hil : i = len := by omega
      rw [hil] at Xl fl cl
      exact ⟨Tl, Bk, z, Xl, pl, fl, cl⟩
    | succ r ih =>
      intro i hi z hz Tl Bk Xl pl fl cl
      have all := X0.warmed.alike.symm.trans Xl.warmed.alike
      have hAl := hA0.keep all (pl.other hne hA0.1)
      have hBk := hB0.like all pl.1 fl.1 fl.2.1 fl.2.2.1
      have hlt : q + i < Bk.slots.size := by rw [fl.2.2.1]; omega
      have c3 : Steps p.tables e below (s₁.setTop (entryFrame m #[.ref b, .int (Int32.ofNat o), .ref d, .int (Int32.ofNat q), .int (Int32.ofNat len)] 7)) (Tl.setTop (mkF m 12 #[.val (.ref b), .val (.int (Int32.ofNat (o + i))), .val (.ref d), .val (.int (Int32.ofNat (q + i))), .val (.int (Int32.ofNat len)), .val (.int (Int32.ofNat i)), z] [.int (Int32.ofNat (o + i)), .ref b])) := cl.trans (by
        refine XS.iload Xl.here hexec rfl (hb hbytes d3) rfl ?_
        refine XS.iload Xl.here hexec rfl (hb hbytes d5) rfl ?_
        refine XS.icmpNo Xl.here hexec rfl (hb hbytes d7) rfl (ii_ge_f (lt32 (by omega) (by omega))) ?_
        refine XS.aloadN Xl.here hexec rfl (hb hbytes d10) rfl rfl ?_
        refine XS.iloadN Xl.here hexec rfl (hb hbytes d11) rfl ?_
        exact Steps.refl _)
      have c4 : Steps p.tables e below (s₁.setTop (entryFrame m #[.ref b, .int (Int32.ofNat o), .ref d, .int (Int32.ofNat q), .int (Int32.ofNat len)] 7)) (Tl.setTop (mkF m 13 #[.val (.ref b), .val (.int (Int32.ofNat (o + i))), .val (.ref d), .val (.int (Int32.ofNat (q + i))), .val (.int (Int32.ofNat len)), .val (.int (Int32.ofNat i)), z] [.int (cv A (o + i))])) := c3.trans (by
        refine Xl.aget hexec hAl rfl (hA.get (i := o + i) (by omega)) rfl rfl (hb hbytes d12) ?_
        exact Steps.refl _)
      have c5 : Steps p.tables e below (s₁.setTop (entryFrame m #[.ref b, .int (Int32.ofNat o), .ref d, .int (Int32.ofNat q), .int (Int32.ofNat len)] 7)) (Tl.setTop (mkF m 15 #[.val (.ref b), .val (.int (Int32.ofNat (o + i))), .val (.ref d), .val (.int (Int32.ofNat (q + i))), .val (.int (Int32.ofNat len)), .val (.int (Int32.ofNat i)), .val (.int (cv A (o + i)))] [])) := c4.trans (by
        refine XS.istoreS Xl.here hexec rfl (hb hbytes d13) rfl rfl hz ?_
        exact Steps.refl _)
      have c6 : Steps p.tables e below (s₁.setTop (entryFrame m #[.ref b, .int (Int32.ofNat o), .ref d, .int (Int32.ofNat q), .int (Int32.ofNat len)] 7)) (Tl.setTop (mkF m 31 #[.val (.ref b), .val (.int (Int32.ofNat (o + i))), .val (.ref d), .val (.int (Int32.ofNat (q + i))), .val (.int (Int32.ofNat len)), .val (.int (Int32.ofNat i)), .val (.int (cv A (o + i)))] [.int (lo8 (cv A (o + i))), .int (Int32.ofNat (q + i)), .ref d])) := c5.trans (by
        refine XS.iload Xl.here hexec rfl (hb hbytes d15) rfl ?_
        refine sipushV Xl.here hexec rfl 255 (hb hbytes d17) (by decide) ?_
        refine XS.icmpYes Xl.here hexec rfl (pc0 := 20) rfl (hb hbytes d20) rfl (ii_le_t (hp i (by omega))) (by decide) rfl ?_
        refine XS.aloadN Xl.here hexec rfl (hb hbytes d26) rfl rfl ?_
        refine XS.iloadN Xl.here hexec rfl (hb hbytes d27) rfl ?_
        refine XS.iload Xl.here hexec rfl (hb hbytes d28) rfl ?_
        refine i2b Xl.here hexec rfl (hb hbytes d30) rfl ?_
        exact Steps.refl _)
      obtain ⟨T7, X7, p7, st7⟩ := Xl.aput hexec hBk rfl hlt rfl (fits_lo8 (cv A (o + i))) (g := (mkF m 31 #[.val (.ref b), .val (.int (Int32.ofNat (o + i))), .val (.ref d), .val (.int (Int32.ofNat (q + i))), .val (.int (Int32.ofNat len)), .val (.int (Int32.ofNat i)), .val (.int (cv A (o + i)))] [.int (lo8 (cv A (o + i))), .int (Int32.ofNat (q + i)), .ref d])) rfl (rest := []) rfl (hb hbytes d31)
      have c8 : Steps p.tables e below (s₁.setTop (entryFrame m #[.ref b, .int (Int32.ofNat o), .ref d, .int (Int32.ofNat q), .int (Int32.ofNat len)] 7)) (T7.setTop (mkF m 32 #[.val (.ref b), .val (.int (Int32.ofNat (o + i))), .val (.ref d), .val (.int (Int32.ofNat (q + i))), .val (.int (Int32.ofNat len)), .val (.int (Int32.ofNat i)), .val (.int (cv A (o + i)))] [])) := c6.trans (st7 _ (Steps.refl _))
      have c9 : Steps p.tables e below (s₁.setTop (entryFrame m #[.ref b, .int (Int32.ofNat o), .ref d, .int (Int32.ofNat q), .int (Int32.ofNat len)] 7)) (T7.setTop (mkF m 3 #[.val (.ref b), .val (.int (Int32.ofNat (o + i) + 1)), .val (.ref d), .val (.int (Int32.ofNat (q + i) + 1)), .val (.int (Int32.ofNat len)), .val (.int (Int32.ofNat i + 1)), .val (.int (cv A (o + i)))] [])) := c8.trans (by
        refine iincV X7.here hexec rfl 1 (hb hbytes d32) (by decide) rfl rfl ?_
        refine iincV X7.here hexec rfl 1 (hb hbytes d35) (by decide) rfl rfl ?_
        refine iincV X7.here hexec rfl 1 (hb hbytes d38) (by decide) rfl rfl ?_
        refine XS.goto X7.here hexec rfl (pc0 := 41) rfl (hb hbytes d41) (by decide) rfl ?_
        exact Steps.refl _)
      have c10 : Steps p.tables e below (s₁.setTop (entryFrame m #[.ref b, .int (Int32.ofNat o), .ref d, .int (Int32.ofNat q), .int (Int32.ofNat len)] 7)) (T7.setTop (mkF m 3 #[.val (.ref b), .val (.int (Int32.ofNat (o + (i + 1)))), .val (.ref d), .val (.int (Int32.ofNat (q + (i + 1)))), .val (.int (Int32.ofNat len)), .val (.int (Int32.ofNat (i + 1))), .val (.int (cv A (o + i)))] [])) := by
        have := c9
        rw [succ32, succ32, succ32] at this
        exact this
      exact ih (i + 1) (by omega) _ (Or.inr ⟨_, rfl, rfl⟩) T7 _ (by rw [copyLocs_step, ← List.append_assoc]; exact X7) (pl.trans p7) (fl.step (by omega) hlt (by simp)) c10
  obtain ⟨T9, B9, z9, X9, p9, f9, g9⟩ := loop len 0 (by omega) .unset (Or.inl rfl) s₁ B (by simpa [copyLocs] using X0) ⟨hB0.1, fun _ _ => rfl, rfl⟩ (Laid.zero _ _ _) c2
  have c11 : Steps p.tables e below (s₁.setTop (entryFrame m #[.ref b, .int (Int32.ofNat o), .ref d, .int (Int32.ofNat q), .int (Int32.ofNat len)] 7)) (T9.setTop (mkF m 46 #[.val (.ref b), .val (.int (Int32.ofNat (o + len))), .val (.ref d), .val (.int (Int32.ofNat (q + len))), .val (.int (Int32.ofNat len)), .val (.int (Int32.ofNat len)), z9] [.int (Int32.ofNat len)])) := g9.trans (by
    refine XS.iload X9.here hexec rfl (hb hbytes d3) rfl ?_
    refine XS.iload X9.here hexec rfl (hb hbytes d5) rfl ?_
    refine XS.icmpYes X9.here hexec rfl (pc0 := 7) rfl (hb hbytes d7) rfl (ii_ge_t (nlt32 (by omega) (Nat.le_refl _))) (by decide) rfl ?_
    refine XS.iload X9.here hexec rfl (hb hbytes d44) rfl ?_
    exact Steps.refl _)
  exact ⟨T9, some (.int (Int32.ofNat len)), _, _, _, X9, by simp, rfl, rfl, (fun h => by cases h), ⟨rfl, B9, p9.from hh0, f9⟩, fun fs hl => c11.trans (X9.ireturnOut hexec hret rfl (Or.inl rfl) (hb hbytes d46) hl)⟩
end Cmp5
namespace Cmp3
def yN : MethodName := ⟨"java/lang/StringUTF16", "compress", "([CII)[B"⟩
abbrev yB : ByteArray := jdk_52_method_16_code
theorem d0 : decode yB 0 = .ok (.iload_n 2, 1) := by decide +kernel
theorem d1 : decode yB 1 = .ok (.newarray .byte, 2) := by decide +kernel
theorem d3 : decode yB 3 = .ok (.astore_n 3, 1) := by decide +kernel
theorem d4 : decode yB 4 = .ok (.aload_n 0, 1) := by decide +kernel
theorem d5 : decode yB 5 = .ok (.iload_n 1, 1) := by decide +kernel
theorem d6 : decode yB 6 = .ok (.aload_n 3, 1) := by decide +kernel
theorem d7 : decode yB 7 = .ok (.iconst 0, 1) := by decide +kernel
theorem d8 : decode yB 8 = .ok (.iload_n 2, 1) := by decide +kernel
theorem d9 : decode yB 9 = .ok (.invokestatic 115, 3) := by decide +kernel
theorem d12 : decode yB 12 = .ok (.istore 4, 2) := by decide +kernel
theorem d14 : decode yB 14 = .ok (.iload 4, 2) := by decide +kernel
theorem d16 : decode yB 16 = .ok (.iload_n 2, 1) := by decide +kernel
theorem d17 : decode yB 17 = .ok (.if_icmp (.eq) 40, 3) := by decide +kernel
theorem d57 : decode yB 57 = .ok (.aload_n 3, 1) := by decide +kernel
theorem d58 : decode yB 58 = .ok (.areturn, 1) := by decide +kernel
def site : List Cond := [.arrayClass .byte, Cmp5.tab] ++ staticW U16 115 Cmp5.yN
def tab : Cond := tabOf yN yB 6 (some (.array .byte)) site
def P (b : Addr) (A : Cell) (o len : Nat) (args : Array Value) (s : State) : Prop := args = #[.ref b, .int (Int32.ofNat o), .int (Int32.ofNat len)] ∧ Ch b A s ∧ o + len ≤ A.slots.size ∧ len ≤ 536870912 ∧ ∀ i, i < len → ¬ 255 < cv A (o + i)
def E (b : Addr) (A : Cell) (o len : Nat) (r : Option Value) (s u : State) : Prop := NewArr .byte "[B" len (fun j => .int (lo8 (cv A (o + j)))) r s u ∧ u.heap.size = s.heap.size + 1
/-- no char of the range above 255: a new byte[] of their low bytes -/
theorem law (l : Launch) (b : Addr) (A : Cell) (o len : Nat) : Law l yN 3 3 1 18 yB 6 (some (.array .byte)) site (P b A o len) (E b A o len) [] 1 len := by
  refine Law.of_walk (plainFor_of_name (by decide +kernel)) (by decide +kernel) (by decide +kernel) (by decide) (fun _ _ h => by rw [h.1]; rfl) (fun _ U U' hal hh h => ⟨h.1, h.2.1.mv hal hh, h.2.2⟩) (fun r U U' V V' h1 hal h2 h => ⟨NewArr.mv r U U' V V' h1 hal h2 h.1, by rw [h1, h2]; exact h.2⟩) ?_
  intro p e s m args below meth c s₁ X0 hexec hbytes hml hret hlk hnm hown hh0 W hP
  obtain ⟨rfl, hA, l1, l2, hp⟩ := hP
  have a31 := hA.1.2.2.2
  have c1 : Steps p.tables e below (s₁.setTop (entryFrame m #[.ref b, .int (Int32.ofNat o), .int (Int32.ofNat len)] 6)) (s₁.setTop (mkF m 0 #[.val (.ref b), .val (.int (Int32.ofNat o)), .val (.int (Int32.ofNat len)), .unset, .unset, .unset] [])) := entry rfl
  have c2 : Steps p.tables e below (s₁.setTop (entryFrame m #[.ref b, .int (Int32.ofNat o), .int (Int32.ofNat len)] 6)) (s₁.setTop (mkF m 1 #[.val (.ref b), .val (.int (Int32.ofNat o)), .val (.int (Int32.ofNat len)), .unset, .unset, .unset] [.int (Int32.ofNat len)])) := c1.trans (by
    refine XS.iloadN X0.here hexec rfl (hb hbytes d0) rfl ?_
    exact Steps.refl _)
  obtain ⟨T3, B3, X3, ba3, bs3, bv3, bh3, bf3, st3⟩ := X0.anew hexec (atype := .byte) (wk W (.arrayClass .byte)) rfl (by show len * 1 ≤ _; omega) (by omega) (g := (mkF m 1 #[.val (.ref b), .val (.int (Int32.ofNat o)), .val (.int (Int32.ofNat len)), .unset, .unset, .unset] [.int (Int32.ofNat len)])) rfl (hb hbytes d1) (rest := []) rfl (Nat.le_refl _) (by show 0 + len ≤ len; omega)
  rw [hh0] at ba3 st3
  have kp3 : XT.Kept s T3 := (XT.Kept.of_eq hh0).push bh3
  have hA3 := hA.keep X3.warmed.alike (kp3 _ _ hA.1.1)
  have hne : b ≠ s.heap.size := hA.1.ne
  have c4 : Steps p.tables e below (s₁.setTop (entryFrame m #[.ref b, .int (Int32.ofNat o), .int (Int32.ofNat len)] 6)) (T3.setTop (mkF m 3 #[.val (.ref b), .val (.int (Int32.ofNat o)), .val (.int (Int32.ofNat len)), .unset, .unset, .unset] [.ref s.heap.size])) := c2.trans (st3 _ (Steps.refl _))
  have c5 : Steps p.tables e below (s₁.setTop (entryFrame m #[.ref b, .int (Int32.ofNat o), .int (Int32.ofNat len)] 6)) (T3.setTop (mkF m 9 #[.val (.ref b), .val (.int (Int32.ofNat o)), .val (.int (Int32.ofNat len)), .val (.ref s.heap.size), .unset, .unset] [.int (Int32.ofNat len), .int 0, .ref s.heap.size, .int (Int32.ofNat o), .ref b])) := c4.trans (by
    refine XS.astoreN X3.here hexec rfl (hb hbytes d3) rfl rfl rfl ?_
    refine XS.aloadN X3.here hexec rfl (hb hbytes d4) rfl rfl ?_
    refine XS.iloadN X3.here hexec rfl (hb hbytes d5) rfl ?_
    refine XS.aloadN X3.here hexec rfl (hb hbytes d6) rfl rfl ?_
    refine iconstV X3.here hexec rfl 0 (hb hbytes d7) (by decide) ?_
    refine XS.iloadN X3.here hexec rfl (hb hbytes d8) rfl ?_
    exact Steps.refl _)
  obtain ⟨v6, T6, X6, E6, g6⟩ := X3.callS hexec (Cmp5.law l b A s.heap.size B3 o 0 len) hown (wks W (staticW U16 115 Cmp5.yN)) (wk W Cmp5.tab) (W := 0) (Nat.le_of_ble_eq_true rfl) (Nat.le_of_ble_eq_true rfl) (Nat.le_refl _) (by show 0 + len + 0 ≤ len; omega) (g := (mkF m 9 #[.val (.ref b), .val (.int (Int32.ofNat o)), .val (.int (Int32.ofNat len)), .val (.ref s.heap.size), .unset, .unset] [.int (Int32.ofNat len), .int (Int32.ofNat 0), .ref s.heap.size, .int (Int32.ofNat o), .ref b])) rfl (by rw [hml]; rfl) c5 (argsL := [.ref b, .int (Int32.ofNat o), .ref s.heap.size, .int (Int32.ofNat 0), .int (Int32.ofNat len)]) (rest := []) rfl rfl (by show 2 * 0 + 0 ≤ _; decide) (hb hbytes d9) (⟨rfl, hA3, ba3, hne, l1, by rw [bs3]; simp, hp⟩)
  obtain ⟨rfl, B6, p6, f6⟩ := E6
  have c7 : Steps p.tables e below (s₁.setTop (entryFrame m #[.ref b, .int (Int32.ofNat o), .int (Int32.ofNat len)] 6)) (T6.setTop (mkF m 12 #[.val (.ref b), .val (.int (Int32.ofNat o)), .val (.int (Int32.ofNat len)), .val (.ref s.heap.size), .unset, .unset] [.int (Int32.ofNat len)])) := g6
  have c8 : Steps p.tables e below (s₁.setTop (entryFrame m #[.ref b, .int (Int32.ofNat o), .int (Int32.ofNat len)] 6)) (T6.setTop (mkF m 58 #[.val (.ref b), .val (.int (Int32.ofNat o)), .val (.int (Int32.ofNat len)), .val (.ref s.heap.size), .val (.int (Int32.ofNat len)), .unset] [.ref s.heap.size])) := c7.trans (by
    refine XS.istore X6.here hexec rfl (hb hbytes d12) rfl rfl ?_
    refine XS.iload X6.here hexec rfl (hb hbytes d14) rfl ?_
    refine XS.iloadN X6.here hexec rfl (hb hbytes d16) rfl ?_
    refine XS.icmpYes X6.here hexec rfl (pc0 := 17) rfl (hb hbytes d17) rfl (ii_eq_t rfl) (by decide) rfl ?_
    refine XS.aloadN X6.here hexec rfl (hb hbytes d57) rfl rfl ?_
    exact Steps.refl _)
  have X8 := X6.wide (L' := []) (cells' := 1) (slots' := len) (fun x hx hlt => by
    simp only [List.nil_append, copyLocs, List.mem_map, List.mem_range] at hx
    obtain ⟨i, -, rfl⟩ := hx
    exact absurd hlt (Nat.lt_irrefl _)) (Nat.le_refl _) (by omega)
  exact ⟨T6, some (.ref s.heap.size), _, _, _, X8, rfl, rfl, rfl, (fun h => by cases h), ⟨⟨rfl, B6, ba3.like (X3.warmed.alike.symm.trans X6.warmed.alike) p6.1 f6.1 f6.2.1 f6.2.2.1, f6.2.1.trans bv3, by rw [X6.warmed.alike.findClass, f6.1]; exact bf3, by rw [f6.2.2.1, bs3]; simp, fun j hj => by rw [f6.2.2.2 j, if_pos (by omega)]; rfl, kp3.put p6 (Nat.le_refl _)⟩, by rw [p6.2.2, bh3, hh0]; simp⟩, fun fs hl => c8.trans (X8.areturnOut hexec rfl hret rfl (hb hbytes d58) hl)⟩
end Cmp3
namespace CodL
def yN : MethodName := ⟨"java/lang/StringUTF16", "coderFromArrayLen", "([BI)B"⟩
abbrev yB : ByteArray := jdk_52_method_15_code
theorem d0 : decode yB 0 = .ok (.iload_n 1, 1) := by decide +kernel
theorem d1 : decode yB 1 = .ok (.aload_n 0, 1) := by decide +kernel
theorem d2 : decode yB 2 = .ok (.arraylength, 1) := by decide +kernel
theorem d3 : decode yB 3 = .ok (.isub, 1) := by decide +kernel
theorem d4 : decode yB 4 = .ok (.bipush 31, 2) := by decide +kernel
theorem d6 : decode yB 6 = .ok (.iushr, 1) := by decide +kernel
theorem d7 : decode yB 7 = .ok (.i2b, 1) := by decide +kernel
theorem d8 : decode yB 8 = .ok (.ireturn, 1) := by decide +kernel
def site : List Cond := []
def tab : Cond := tabOf yN yB 2 (some .byte) site
def P (d : Addr) (B : Cell) (args : Array Value) (s : State) : Prop := args = #[.ref d, .int (Int32.ofNat B.slots.size)] ∧ Arr .byte d B s
def E (r : Option Value) (s u : State) : Prop := XT.PureE (some (.int 0)) r s u
/-- an array as long as the number of chars: LATIN1 -/
theorem law (l : Launch) (d : Addr) (B : Cell) : Law l yN 2 2 0 0 yB 2 (some .byte) site (P d B) E [] 0 0 := by
  refine Law.of_walk (plainFor_of_name (by decide +kernel)) (by decide +kernel) (by decide +kernel) (by decide) (fun _ _ h => by rw [h.1]; rfl) (fun _ U U' hal hh h => ⟨h.1, h.2.mv hal hh⟩) (fun r U U' V V' h1 hal h2 h => XT.PureE.mv r U U' V V' h1 hal h2 h) ?_
  intro p e s m args below meth c s₁ X0 hexec hbytes hml hret hlk hnm hown hh0 W hP
  obtain ⟨rfl, hB⟩ := hP
  have hB0 := hB.mv X0.warmed.alike hh0
  have c1 : Steps p.tables e below (s₁.setTop (entryFrame m #[.ref d, .int (Int32.ofNat B.slots.size)] 2)) (s₁.setTop (mkF m 0 #[.val (.ref d), .val (.int (Int32.ofNat B.slots.size))] [])) := entry rfl
  have c2 : Steps p.tables e below (s₁.setTop (entryFrame m #[.ref d, .int (Int32.ofNat B.slots.size)] 2)) (s₁.setTop (mkF m 2 #[.val (.ref d), .val (.int (Int32.ofNat B.slots.size))] [.ref d, .int (Int32.ofNat B.slots.size)])) := c1.trans (by
    refine XS.iloadN X0.here hexec rfl (hb hbytes d0) rfl ?_
    refine XS.aloadN X0.here hexec rfl (hb hbytes d1) rfl rfl ?_
    exact Steps.refl _)
  have c3 : Steps p.tables e below (s₁.setTop (entryFrame m #[.ref d, .int (Int32.ofNat B.slots.size)] 2)) (s₁.setTop (mkF m 8 #[.val (.ref d), .val (.int (Int32.ofNat B.slots.size))] [.int (lo8 (ushr (Int32.ofNat B.slots.size - Int32.ofNat B.slots.size) 31))])) := c2.trans (by
    refine X0.alen hexec hB0 rfl rfl (hb hbytes d2) ?_
    refine XS.isub X0.here hexec rfl (hb hbytes d3) rfl ?_
    refine bipushV X0.here hexec rfl 31 (hb hbytes d4) (by decide) ?_
    refine iushr X0.here hexec rfl (hb hbytes d6) rfl ?_
    refine i2b X0.here hexec rfl (hb hbytes d7) rfl ?_
    exact Steps.refl _)
  have e0 : lo8 (ushr (Int32.ofNat B.slots.size - Int32.ofNat B.slots.size) 31) = 0 := by rw [Int32.sub_self]; decide
  rw [e0] at c3
  exact ⟨s₁, some (.int 0), _, _, _, X0, rfl, rfl, rfl, (fun h => by cases h), ⟨rfl, hh0⟩, fun fs hl => c3.trans (X0.ireturnOut hexec hret rfl (Or.inr (Or.inr (Or.inl rfl))) (hb hbytes d8) hl)⟩
end CodL
/-- the String at a is Latin-1 over a new byte[] (the heap's one new cell): the low bytes of the len chars of A from o on; every cell but a is kept -/
def Got (a : Addr) (D : Cell) (fV fC : Field) (A : Cell) (o len : Nat) (r : Option Value) (s u : State) : Prop := r = none ∧ ∃ D' V : Cell, Blank "java/lang/String" a D' u ∧ Same D D' [fV.slot, fC.slot] ∧ D'.slots[fV.slot]? = some (.ref s.heap.size) ∧ D'.slots[fC.slot]? = some (.int 0) ∧ Arr .byte s.heap.size V u ∧ V.vm = .none ∧ u.vm.findClass "[B" = some V.cls ∧ V.slots.size = len ∧ (∀ j, j < len → V.slots[j]? = some (.int (lo8 (cv A (o + j))))) ∧ (∀ (y : Addr) (c : Cell), y ≠ a → s.heap[y]? = some c → u.heap[y]? = some c) ∧ u.heap.size = s.heap.size + 1
theorem Got.mv {a : Addr} {D A : Cell} {fV fC : Field} {o len : Nat} : ∀ r (U U' V V' : State), U'.heap = U.heap → V.vm.Alike V'.vm → V'.heap = V.heap → Got a D fV fC A o len r U V → Got a D fV fC A o len r U' V' :=
  fun r U U' V V' h1 hal h2 ⟨e0, D', X, a1, a2, a3, a4, a5, a6, a7, a8, a9, a10, a11⟩ => ⟨e0, D', X, a1.mv hal h2, a2, by rw [h1]; exact a3, a4, by rw [h1]; exact a5.mv hal h2, a6, by rw [hal.findClass]; exact a7, a8, a9, by rw [h1, h2]; exact a10, by rw [h1, h2]; exact a11⟩
namespace New4
def yN : MethodName := ⟨"java/lang/String", "<init>", "([CIILjava/lang/Void;)V"⟩
abbrev yB : ByteArray := jdk_42_method_149_code
theorem d0 : decode yB 0 = .ok (.aload_n 0, 1) := by decide +kernel
theorem d1 : decode yB 1 = .ok (.invokespecial 1, 3) := by decide +kernel
theorem d4 : decode yB 4 = .ok (.iload_n 3, 1) := by decide +kernel
theorem d5 : decode yB 5 = .ok (.ifCond (.ne) 22, 3) := by decide +kernel
theorem d27 : decode yB 27 = .ok (.getstatic 38, 3) := by decide +kernel
theorem d30 : decode yB 30 = .ok (.ifCond (.eq) 28, 3) := by decide +kernel
theorem d33 : decode yB 33 = .ok (.aload_n 1, 1) := by decide +kernel
theorem d34 : decode yB 34 = .ok (.iload_n 2, 1) := by decide +kernel
theorem d35 : decode yB 35 = .ok (.iload_n 3, 1) := by decide +kernel
theorem d36 : decode yB 36 = .ok (.invokestatic 177, 3) := by decide +kernel
theorem d39 : decode yB 39 = .ok (.astore 5, 2) := by decide +kernel
theorem d41 : decode yB 41 = .ok (.aload_n 0, 1) := by decide +kernel
theorem d42 : decode yB 42 = .ok (.aload 5, 2) := by decide +kernel
theorem d44 : decode yB 44 = .ok (.iload_n 3, 1) := by decide +kernel
theorem d45 : decode yB 45 = .ok (.invokestatic 47, 3) := by decide +kernel
theorem d48 : decode yB 48 = .ok (.putfield 15, 3) := by decide +kernel
theorem d51 : decode yB 51 = .ok (.aload_n 0, 1) := by decide +kernel
theorem d52 : decode yB 52 = .ok (.aload 5, 2) := by decide +kernel
theorem d54 : decode yB 54 = .ok (.putfield 9, 3) := by decide +kernel
theorem d57 : decode yB 57 = .ok (.return_, 1) := by decide +kernel
def site : List Cond := [.fieldLink "java/lang/String" 38 "java/lang/String" "COMPACT_STRINGS" "Z", Cmp3.tab, CodL.tab, .laysFinal "java/lang/String" "java/lang/String" "value" "[B", .fieldLink "java/lang/String" 9 "java/lang/String" "value" "[B", .laysFinal "java/lang/String" "java/lang/String" "coder" "B", .fieldLink "java/lang/String" 15 "java/lang/String" "coder" "B"] ++ objW "java/lang/String" 1 ++ staticW "java/lang/String" 177 Cmp3.yN ++ staticW "java/lang/String" 47 CodL.yN
def tab : Cond := tabOf yN yB 6 none site
def P (a : Addr) (D : Cell) (fV fC : Field) (b : Addr) (A : Cell) (z : Int32) (o len : Nat) (args : Array Value) (s : State) : Prop := args = #[.ref a, .ref b, .int (Int32.ofNat o), .int (Int32.ofNat len), .null] ∧ Blank "java/lang/String" a D s ∧ Found "java/lang/String" "value" "[B" fV s ∧ Found "java/lang/String" "coder" "B" fC s ∧ Ch b A s ∧ StaticIs s "java/lang/String" "COMPACT_STRINGS" "Z" (.int z) ∧ ¬ z = 0 ∧ 0 < len ∧ o + len ≤ A.slots.size ∧ len ≤ 536870912 ∧ ∀ i, i < len → ¬ 255 < cv A (o + i)
def E (a : Addr) (D : Cell) (fV fC : Field) (A : Cell) (o len : Nat) (r : Option Value) (s u : State) : Prop := Got a D fV fC A o len r s u
/-- len > 0, no char of the range above 255: a Latin-1 String of their low bytes -/
theorem law (l : Launch) (a : Addr) (D : Cell) (fV fC : Field) (b : Addr) (A : Cell) (z : Int32) (o len : Nat) : Law l yN 5 4 2 35 yB 6 none site (P a D fV fC b A z o len) (E a D fV fC A o len) [⟨a, fC.slot⟩, ⟨a, fV.slot⟩] 1 len := by
  refine Law.of_walk (plainFor_of_name (by decide +kernel)) (by decide +kernel) (by decide +kernel) (by decide) (fun _ _ h => by rw [h.1]; rfl) (fun _ U U' hal hh h => ⟨h.1, h.2.1.mv hal hh, h.2.2.1.al hal, h.2.2.2.1.al hal, h.2.2.2.2.1.mv hal hh, h.2.2.2.2.2.1.there hal hh, h.2.2.2.2.2.2⟩) (fun r U U' V V' h1 hal h2 h => Got.mv r U U' V V' h1 hal h2 h) ?_
  intro p e s m args below meth c s₁ X0 hexec hbytes hml hret hlk hnm hown hh0 W hP
  obtain ⟨rfl, hB, f1, f2, hA, s1, hz, l0, l1, l2, hp⟩ := hP
  have a31 := hA.1.2.2.2
  have c1 : Steps p.tables e below (s₁.setTop (entryFrame m #[.ref a, .ref b, .int (Int32.ofNat o), .int (Int32.ofNat len), .null] 6)) (s₁.setTop (mkF m 0 #[.val (.ref a), .val (.ref b), .val (.int (Int32.ofNat o)), .val (.int (Int32.ofNat len)), .val .null, .unset] [])) := entry rfl
  have c2 : Steps p.tables e below (s₁.setTop (entryFrame m #[.ref a, .ref b, .int (Int32.ofNat o), .int (Int32.ofNat len), .null] 6)) (s₁.setTop (mkF m 1 #[.val (.ref a), .val (.ref b), .val (.int (Int32.ofNat o)), .val (.int (Int32.ofNat len)), .val .null, .unset] [.ref a])) := c1.trans (by
    refine XS.aloadN X0.here hexec rfl (hb hbytes d0) rfl rfl ?_
    exact Steps.refl _)
  obtain ⟨T3, X3, q3, st3⟩ := X0.oinit hexec hown (wks W (objW "java/lang/String" 1)) (g := (mkF m 1 #[.val (.ref a), .val (.ref b), .val (.int (Int32.ofNat o)), .val (.int (Int32.ofNat len)), .val .null, .unset] [.ref a])) rfl (by rw [hml]; rfl) (rest := []) rfl (hb hbytes d1) (W := 0) (by show 2 * 0 + 0 ≤ _; decide) (Nat.le_of_ble_eq_true rfl) (Nat.le_of_ble_eq_true rfl)
  have hh3 := q3.trans hh0
  have c4 : Steps p.tables e below (s₁.setTop (entryFrame m #[.ref a, .ref b, .int (Int32.ofNat o), .int (Int32.ofNat len), .null] 6)) (T3.setTop (mkF m 27 #[.val (.ref a), .val (.ref b), .val (.int (Int32.ofNat o)), .val (.int (Int32.ofNat len)), .val .null, .unset] [])) := (c2.trans (st3 _ (Steps.refl _))).trans (by
    refine XS.iloadN X3.here hexec rfl (hb hbytes d4) rfl ?_
    refine XS.ifYes X3.here hexec rfl (pc0 := 5) rfl (hb hbytes d5) rfl (i0_ne_t (nz32 (by omega) l0)) (by decide) rfl ?_
    exact Steps.refl _)
  obtain ⟨T5, X5, q5, st5⟩ := X3.sget hexec hown (wk W (.fieldLink "java/lang/String" 38 "java/lang/String" "COMPACT_STRINGS" "Z")) s1 (fun _ _ h => by rw [hh3]; exact h) (g := (mkF m 27 #[.val (.ref a), .val (.ref b), .val (.int (Int32.ofNat o)), .val (.int (Int32.ofNat len)), .val .null, .unset] [])) rfl (hb hbytes d27)
  have hh5 := q5.trans hh3
  have c6 : Steps p.tables e below (s₁.setTop (entryFrame m #[.ref a, .ref b, .int (Int32.ofNat o), .int (Int32.ofNat len), .null] 6)) (T5.setTop (mkF m 30 #[.val (.ref a), .val (.ref b), .val (.int (Int32.ofNat o)), .val (.int (Int32.ofNat len)), .val .null, .unset] [.int z])) := c4.trans (st5 _ (Steps.refl _))
  have c7 : Steps p.tables e below (s₁.setTop (entryFrame m #[.ref a, .ref b, .int (Int32.ofNat o), .int (Int32.ofNat len), .null] 6)) (T5.setTop (mkF m 36 #[.val (.ref a), .val (.ref b), .val (.int (Int32.ofNat o)), .val (.int (Int32.ofNat len)), .val .null, .unset] [.int (Int32.ofNat len), .int (Int32.ofNat o), .ref b])) := c6.trans (by
    refine XS.ifNo X5.here hexec rfl (hb hbytes d30) rfl (i0_eq_f hz) ?_
    refine XS.aloadN X5.here hexec rfl (hb hbytes d33) rfl rfl ?_
    refine XS.iloadN X5.here hexec rfl (hb hbytes d34) rfl ?_
    refine XS.iloadN X5.here hexec rfl (hb hbytes d35) rfl ?_
    exact Steps.refl _)
  obtain ⟨v8, T8, X8, E8, g8⟩ := X5.callS hexec (Cmp3.law l b A o len) hown (wks W (staticW "java/lang/String" 177 Cmp3.yN)) (wk W Cmp3.tab) (W := 0) (Nat.le_of_ble_eq_true rfl) (Nat.le_of_ble_eq_true rfl) (Nat.le_refl _) (by show 0 + len ≤ len; omega) (g := (mkF m 36 #[.val (.ref a), .val (.ref b), .val (.int (Int32.ofNat o)), .val (.int (Int32.ofNat len)), .val .null, .unset] [.int (Int32.ofNat len), .int (Int32.ofNat o), .ref b])) rfl (by rw [hml]; rfl) c7 (argsL := [.ref b, .int (Int32.ofNat o), .int (Int32.ofNat len)]) (rest := []) rfl rfl (by show 2 * 0 + 0 ≤ _; decide) (hb hbytes d36) (⟨rfl, hA.mv X5.warmed.alike hh5, l1, l2, hp⟩)
  obtain ⟨e8, z8⟩ := E8
  obtain ⟨rfl, N, n1, n2, n3, n4, n5, n6⟩ := NewArr.mv _ T5 s _ _ hh5.symm (Vm.Alike.refl _) rfl e8
  rw [hh5] at z8
  have hB1 := hB.keep X8.warmed.alike (n6 _ _ hB.1)
  have hne : s.heap.size ≠ a := (Nat.ne_of_lt (Array.getElem?_eq_some_iff.mp hB.1).1).symm
  have c9 : Steps p.tables e below (s₁.setTop (entryFrame m #[.ref a, .ref b, .int (Int32.ofNat o), .int (Int32.ofNat len), .null] 6)) (T8.setTop (mkF m 39 #[.val (.ref a), .val (.ref b), .val (.int (Int32.ofNat o)), .val (.int (Int32.ofNat len)), .val .null, .unset] [.ref s.heap.size])) := g8
  have c10 : Steps p.tables e below (s₁.setTop (entryFrame m #[.ref a, .ref b, .int (Int32.ofNat o), .int (Int32.ofNat len), .null] 6)) (T8.setTop (mkF m 45 #[.val (.ref a), .val (.ref b), .val (.int (Int32.ofNat o)), .val (.int (Int32.ofNat len)), .val .null, .val (.ref s.heap.size)] [.int (Int32.ofNat N.slots.size), .ref s.heap.size, .ref a])) := by
    have hc : Steps p.tables e below (s₁.setTop (entryFrame m #[.ref a, .ref b, .int (Int32.ofNat o), .int (Int32.ofNat len), .null] 6)) (T8.setTop (mkF m 45 #[.val (.ref a), .val (.ref b), .val (.int (Int32.ofNat o)), .val (.int (Int32.ofNat len)), .val .null, .val (.ref s.heap.size)] [.int (Int32.ofNat len), .ref s.heap.size, .ref a])) := c9.trans (by
      refine XS.astore X8.here hexec rfl (hb hbytes d39) rfl rfl rfl ?_
      refine XS.aloadN X8.here hexec rfl (hb hbytes d41) rfl rfl ?_
      refine XS.aload X8.here hexec rfl (hb hbytes d42) rfl rfl ?_
      refine XS.iloadN X8.here hexec rfl (hb hbytes d44) rfl ?_
      exact Steps.refl _)
    rw [n4]; exact hc
  obtain ⟨v11, T11, X11, E11, g11⟩ := X8.callS hexec (CodL.law l s.heap.size N) hown (wks W (staticW "java/lang/String" 47 CodL.yN)) (wk W CodL.tab) (W := 1) (Nat.le_of_ble_eq_true rfl) (Nat.le_of_ble_eq_true rfl) (Nat.le_refl _) (by show 0 + len + 0 ≤ len; omega) (g := (mkF m 45 #[.val (.ref a), .val (.ref b), .val (.int (Int32.ofNat o)), .val (.int (Int32.ofNat len)), .val .null, .val (.ref s.heap.size)] [.int (Int32.ofNat N.slots.size), .ref s.heap.size, .ref a])) rfl (by rw [hml]; rfl) c10 (argsL := [.ref s.heap.size, .int (Int32.ofNat N.slots.size)]) (rest := [.ref a]) rfl rfl (by show 2 * 0 + (1 + 0) ≤ _; decide) (hb hbytes d45) (⟨rfl, n1⟩)
  obtain ⟨rfl, q11⟩ := E11
  have hB11 := hB1.mv (X8.warmed.alike.symm.trans X11.warmed.alike) q11
  have c12 : Steps p.tables e below (s₁.setTop (entryFrame m #[.ref a, .ref b, .int (Int32.ofNat o), .int (Int32.ofNat len), .null] 6)) (T11.setTop (mkF m 48 #[.val (.ref a), .val (.ref b), .val (.int (Int32.ofNat o)), .val (.int (Int32.ofNat len)), .val .null, .val (.ref s.heap.size)] [.int 0, .ref a])) := g11
  obtain ⟨T13, X13, p13, bl13, sl13, st13⟩ := X11.finit hexec hown (wk W (.fieldLink "java/lang/String" 15 "java/lang/String" "coder" "B")) (Or.inr ⟨_, (wk W (.laysFinal "java/lang/String" "java/lang/String" "coder" "B"))⟩) (Or.inl ⟨rfl, hnm⟩) f2 (Or.inl rfl) hB11 (t := .byte) (by decide +kernel) rfl (g := (mkF m 48 #[.val (.ref a), .val (.ref b), .val (.int (Int32.ofNat o)), .val (.int (Int32.ofNat len)), .val .null, .val (.ref s.heap.size)] [.int 0, .ref a])) rfl (rest := []) rfl (hb hbytes d48)
  have c14 : Steps p.tables e below (s₁.setTop (entryFrame m #[.ref a, .ref b, .int (Int32.ofNat o), .int (Int32.ofNat len), .null] 6)) (T13.setTop (mkF m 54 #[.val (.ref a), .val (.ref b), .val (.int (Int32.ofNat o)), .val (.int (Int32.ofNat len)), .val .null, .val (.ref s.heap.size)] [.ref s.heap.size, .ref a])) := (c12.trans (st13 _ (Steps.refl _))).trans (by
    refine XS.aloadN X13.here hexec rfl (hb hbytes d51) rfl rfl ?_
    refine XS.aload X13.here hexec rfl (hb hbytes d52) rfl rfl ?_
    exact Steps.refl _)
  obtain ⟨T15, X15, p15, bl15, sl15, st15⟩ := X13.finit hexec hown (wk W (.fieldLink "java/lang/String" 9 "java/lang/String" "value" "[B")) (Or.inr ⟨_, (wk W (.laysFinal "java/lang/String" "java/lang/String" "value" "[B"))⟩) (Or.inl ⟨rfl, hnm⟩) f1 (Or.inl rfl) bl13 (t := (.array .byte)) (by decide +kernel) rfl (g := (mkF m 54 #[.val (.ref a), .val (.ref b), .val (.int (Int32.ofNat o)), .val (.int (Int32.ofNat len)), .val .null, .val (.ref s.heap.size)] [.ref s.heap.size, .ref a])) rfl (rest := []) rfl (hb hbytes d54)
  have c16 : Steps p.tables e below (s₁.setTop (entryFrame m #[.ref a, .ref b, .int (Int32.ofNat o), .int (Int32.ofNat len), .null] 6)) (T15.setTop (mkF m 57 #[.val (.ref a), .val (.ref b), .val (.int (Int32.ofNat o)), .val (.int (Int32.ofNat len)), .val .null, .val (.ref s.heap.size)] [])) := c14.trans (st15 _ (Steps.refl _))
  have ap := apart (Or.inr ⟨_, (wk W (.laysFinal "java/lang/String" "java/lang/String" "value" "[B"))⟩) (Or.inr ⟨_, (wk W (.laysFinal "java/lang/String" "java/lang/String" "coder" "B"))⟩) f1 f2 (t₁ := .array .byte) (t₂ := .byte) (by decide +kernel) (by decide +kernel) (by decide)
  have al := X8.warmed.alike.symm.trans X15.warmed.alike
  have n7 : T11.heap[s.heap.size]? = some N := by rw [q11]; exact n1.1
  exact ⟨T15, none, _, _, _, X15, by simp, rfl, by omega, (fun _ => rfl), ⟨rfl, _, N, bl15, ((Same.refl D _).set _ (by simp)).set _ (by simp), sl15, (Cell.slots_setSlot_ne _ ap).trans sl13, n1.keep al (p15.other hne (p13.other hne n7)), n2, by rw [al.findClass]; exact n3, n4, n5, fun y c h1 h2 => p15.other h1 (p13.other h1 (by rw [q11]; exact n6 y c h2)), by rw [p15.2.2, p13.2.2, q11]; exact z8⟩, fun fs hl => c16.trans (X15.returnOut hexec hret (hb hbytes d57) hl)⟩
end New4
namespace New1
def yN : MethodName := ⟨"java/lang/String", "<init>", "([C)V"⟩
abbrev yB : ByteArray := jdk_42_method_3_code
theorem d0 : decode yB 0 = .ok (.aload_n 0, 1) := by decide +kernel
theorem d1 : decode yB 1 = .ok (.aload_n 1, 1) := by decide +kernel
theorem d2 : decode yB 2 = .ok (.iconst 0, 1) := by decide +kernel
theorem d3 : decode yB 3 = .ok (.aload_n 1, 1) := by decide +kernel
theorem d4 : decode yB 4 = .ok (.arraylength, 1) := by decide +kernel
theorem d5 : decode yB 5 = .ok (.aconst_null, 1) := by decide +kernel
theorem d6 : decode yB 6 = .ok (.invokespecial 27, 3) := by decide +kernel
theorem d9 : decode yB 9 = .ok (.return_, 1) := by decide +kernel
def site : List Cond := [New4.tab] ++ initW "java/lang/String" 27 New4.yN
def tab : Cond := tabOf yN yB 2 none site
def P (a : Addr) (D : Cell) (fV fC : Field) (b : Addr) (A : Cell) (z : Int32) (args : Array Value) (s : State) : Prop := args = #[.ref a, .ref b] ∧ Blank "java/lang/String" a D s ∧ Found "java/lang/String" "value" "[B" fV s ∧ Found "java/lang/String" "coder" "B" fC s ∧ Ch b A s ∧ StaticIs s "java/lang/String" "COMPACT_STRINGS" "Z" (.int z) ∧ ¬ z = 0 ∧ 0 < A.slots.size ∧ A.slots.size ≤ 536870912 ∧ ∀ i, i < A.slots.size → ¬ 255 < cv A i
def E (a : Addr) (D : Cell) (fV fC : Field) (A : Cell) (r : Option Value) (s u : State) : Prop := Got a D fV fC A 0 A.slots.size r s u
/-- new String(chars), not empty, no char above 255: a Latin-1 String of their low bytes -/
theorem law (l : Launch) (a : Addr) (D : Cell) (fV fC : Field) (b : Addr) (A : Cell) (z : Int32) : Law l yN 2 1 3 52 yB 2 none site (P a D fV fC b A z) (E a D fV fC A) [⟨a, fC.slot⟩, ⟨a, fV.slot⟩] 1 A.slots.size := by
  refine Law.of_walk (plainFor_of_name (by decide +kernel)) (by decide +kernel) (by decide +kernel) (by decide) (fun _ _ h => by rw [h.1]; rfl) (fun _ U U' hal hh h => ⟨h.1, h.2.1.mv hal hh, h.2.2.1.al hal, h.2.2.2.1.al hal, h.2.2.2.2.1.mv hal hh, h.2.2.2.2.2.1.there hal hh, h.2.2.2.2.2.2⟩) (fun r U U' V V' h1 hal h2 h => Got.mv r U U' V V' h1 hal h2 h) ?_
  intro p e s m args below meth c s₁ X0 hexec hbytes hml hret hlk hnm hown hh0 W hP
  obtain ⟨rfl, hB, f1, f2, hA, s1, hz, l0, l2, hp⟩ := hP
  have c1 : Steps p.tables e below (s₁.setTop (entryFrame m #[.ref a, .ref b] 2)) (s₁.setTop (mkF m 0 #[.val (.ref a), .val (.ref b)] [])) := entry rfl
  have c2 : Steps p.tables e below (s₁.setTop (entryFrame m #[.ref a, .ref b] 2)) (s₁.setTop (mkF m 6 #[.val (.ref a), .val (.ref b)] [.null, .int (Int32.ofNat A.slots.size), .int 0, .ref b, .ref a])) := c1.trans (by
    refine XS.aloadN X0.here hexec rfl (hb hbytes d0) rfl rfl ?_
    refine XS.aloadN X0.here hexec rfl (hb hbytes d1) rfl rfl ?_
    refine iconstV X0.here hexec rfl 0 (hb hbytes d2) (by decide) ?_
    refine XS.aloadN X0.here hexec rfl (hb hbytes d3) rfl rfl ?_
    refine X0.alen hexec (hA.1.mv X0.warmed.alike hh0) rfl rfl (hb hbytes d4) ?_
    refine XS.aconstNull X0.here hexec rfl (hb hbytes d5) ?_
    exact Steps.refl _)
  obtain ⟨v3, T3, X3, E3, g3⟩ := X0.callN hexec (New4.law l a D fV fC b A z 0 A.slots.size) rfl hown (wks W (initW "java/lang/String" 27 New4.yN)) (W New4.tab (by simp only [site, List.mem_cons, List.mem_append, true_or, or_true])) (W := 0) (Nat.le_of_ble_eq_true rfl) (Nat.le_of_ble_eq_true rfl) (Nat.le_refl _) (by show 0 + A.slots.size ≤ A.slots.size; omega) (g := (mkF m 6 #[.val (.ref a), .val (.ref b)] [.null, .int (Int32.ofNat A.slots.size), .int (Int32.ofNat 0), .ref b, .ref a])) rfl (by rw [hml]; rfl) c2 (argsL := [.ref b, .int (Int32.ofNat 0), .int (Int32.ofNat A.slots.size), .null]) (rest := []) rfl rfl (by show 2 * 0 + 0 ≤ _; decide) (hb hbytes d6) (⟨rfl, hB.mv X0.warmed.alike hh0, f1.al X0.warmed.alike, f2.al X0.warmed.alike, hA.mv X0.warmed.alike hh0, s1.there X0.warmed.alike hh0, hz, l0, by omega, l2, fun i hi => by rw [Nat.zero_add]; exact hp i hi⟩)
  have e0 := Got.mv _ s₁ s _ _ hh0.symm (Vm.Alike.refl _) rfl E3
  obtain rfl := e0.1
  have c4 : Steps p.tables e below (s₁.setTop (entryFrame m #[.ref a, .ref b] 2)) (T3.setTop (mkF m 9 #[.val (.ref a), .val (.ref b)] [])) := g3
  exact ⟨T3, none, _, _, _, X3, by simp, rfl, by omega, (fun _ => rfl), e0, fun fs hl => c4.trans (X3.returnOut hexec hret (hb hbytes d9) hl)⟩
theorem pays {l : Launch} {R : Room} {p : Program} {e : Env} {below : List Frame} {s : State} {sargs : Array Value} {len W : Nat} (a : Addr) (D : Cell) (fV fC : Field) (b : Addr) (A : Cell) (z : Int32) (htab : tab.before sargs s = true) (hfr : 4 ≤ R.frames) (hlo : W + 65 ≤ R.locals) :
    Back l R p e below s sargs yN len W (fun A₁ a₁ => A₁.cells + 1 ≤ R.cells ∧ A₁.slots + A.slots.size ≤ R.slots ∧ P a D fV fC b A z a₁ A₁.U) (fun A₁ _ v₁ B₁ => E a D fV fC A v₁ A₁.U B₁.U ∧ B₁.locs = A₁.locs ++ [⟨a, fC.slot⟩, ⟨a, fV.slot⟩] ∧ B₁.cells = A₁.cells + 1 ∧ B₁.slots = A₁.slots + A.slots.size) :=
  (law l a D fV fC b A z).pays htab hfr (by omega)
end New1
end StrChars
namespace StrChars.Road
open Jvm Sem ClassFile Op Lib Jvm.Stand Jvm.Free Jvm.Free.XT
open Jvm.Lib.Cold (StaticIs)
abbrev ST : String := "java/lang/String"
/-- every table word that New1's law asks, flat -/
abbrev words : List Jvm.Cond := [.code New1.yN New1.yB 2 none, .initialized ST, .methodLink ST 27 New4.yN, .instanceMethod New4.yN,
  .code New4.yN New4.yB 6 none, .fieldLink ST 38 ST "COMPACT_STRINGS" "Z", .laysFinal ST ST "value" "[B", .fieldLink ST 9 ST "value" "[B", .laysFinal ST ST "coder" "B", .fieldLink ST 15 ST "coder" "B",
  .methodLink ST 1 Lib.objectInit, .instanceMethod Lib.objectInit, .code Lib.objectInit ⟨#[0xb1]⟩ 1 none, .methodLink ST 177 Cmp3.yN, .static Cmp3.yN, .methodLink ST 47 CodL.yN, .static CodL.yN,
  .code Cmp3.yN Cmp3.yB 6 (some (.array .byte)), .initialized U16, .arrayClass .byte, .methodLink U16 115 Cmp5.yN, .static Cmp5.yN, .code Cmp5.yN Cmp5.yB 7 (some .int), .code CodL.yN CodL.yB 2 (some .byte)]
theorem tab_of {a : Array Value} {s : State} (h : ∀ w ∈ words, w.before a s = true) : New1.tab.before a s = true := by
  have h5 : Cmp5.tab.before a s = true := unparts (wk h (.code Cmp5.yN Cmp5.yB 7 (some .int))) (wks h (.initialized Cmp5.yN.cls :: Cmp5.site))
  have hc : CodL.tab.before a s = true := unparts (wk h (.code CodL.yN CodL.yB 2 (some .byte))) (wks h (.initialized CodL.yN.cls :: CodL.site))
  have q5 : ∀ w ∈ Cmp5.tab :: words, w.before a s = true := fun w hw => (List.mem_cons.mp hw).elim (fun e => e ▸ h5) (h w)
  have h3 : Cmp3.tab.before a s = true := unparts (wk q5 (.code Cmp3.yN Cmp3.yB 6 (some (.array .byte)))) (wks q5 (.initialized Cmp3.yN.cls :: Cmp3.site))
  have q3 : ∀ w ∈ Cmp3.tab :: CodL.tab :: words, w.before a s = true := fun w hw => (List.mem_cons.mp hw).elim (fun e => e ▸ h3) fun hw => (List.mem_cons.mp hw).elim (fun e => e ▸ hc) (h w)
  have h4 : New4.tab.before a s = true := unparts (wk q3 (.code New4.yN New4.yB 6 none)) (wks q3 (.initialized New4.yN.cls :: New4.site))
  have q4 : ∀ w ∈ New4.tab :: words, w.before a s = true := fun w hw => (List.mem_cons.mp hw).elim (fun e => e ▸ h4) (h w)
  exact unparts (wk q4 (.code New1.yN New1.yB 2 none)) (wks q4 (.initialized New1.yN.cls :: New1.site))
/-- the words ride from the start Z to the walk's own state -/
theorem moved {Z s : State} {a0 args : Array Value} (hZ : Z.Warmed39 s.vm) (hw : ∀ d ∈ words, d.before a0 Z = true) : ∀ d ∈ words, d.before args s = true := fun d hd => by
  have q := hw d hd
  have t : ∀ d ∈ words, d = .arrayClass .byte ∨ (d.onTables && d.keepsFace) = true := by decide +kernel
  rcases t d hd with rfl | t
  · exact RoadKit.mvA hZ q
  · exact RoadKit.mv hZ q t
/-- WHAT COMES BACK, over the tables of the start Z: h the heap at the call, h' behind it -/
def Q (Z : State) (x : Addr) (A : Cell) (h : Heap) (v : Option Value) (h' : Heap) (L : List Loc) : Prop := v = none ∧ (∀ y ∈ L, y.base = x) ∧ RoadKit.Keep h h' [x] ∧ h'.size = h.size + 1 ∧ RoadKit.Exa Z h' x ST ∧ RoadKit.Fld Z h' x ST "value" "[B" (.ref h.size) ∧ RoadKit.Fld Z h' x ST "coder" "B" (.int 0) ∧
  (∃ V : Cell, RoadKit.Arr Z h' h.size V .byte ∧ V.vm = .none ∧ Z.vm.findClass "[B" = some V.cls ∧ V.slots.size = A.slots.size ∧ ∀ j, j < A.slots.size → V.slots[j]? = some (.int (lo8 (cv A j)))) ∧
  ∀ (O n d : String) (w : Value), RoadKit.Fld Z h x O n d w → RoadKit.slotOf Z O n d ≠ RoadKit.slotOf Z ST "value" "[B" → RoadKit.slotOf Z O n d ≠ RoadKit.slotOf Z ST "coder" "B" → RoadKit.Fld Z h' x O n d w
/-- **new String(chars) AT A CALL, IN THE ROAD'S FORM**: for specialBack behind newO: x the fresh String, b the char[] with the cell A -/
theorem back {p : Program} {l : Launch} {e : Env} {R : Room} {s : State} {args : Array Value} {below : List Frame} {len W : Nat} {Z : State} {a0 : Array Value} {h : Heap} (hZ : Z.Warmed39 s.vm) (hw : ∀ d ∈ words, d.before a0 Z = true) {kI : Nat} (wi : (Jvm.Cond.instantiable ST kI).before a0 Z = true)
    {x b : Addr} {A : Cell} {z : Int32} {v0 c0 : Value} (E : RoadKit.Exa Z h x ST) (V : RoadKit.Fld Z h x ST "value" "[B" v0) (C : RoadKit.Fld Z h x ST "coder" "B" c0) (K : RoadKit.Arr Z h b A .char) (hty : Typed .char A) (S : RoadKit.Sta Z h ST "COMPACT_STRINGS" "Z" (.int z)) (hz : ¬ z = 0)
    (l0 : 0 < A.slots.size) (l2 : A.slots.size ≤ 536870912) (hp : ∀ i, i < A.slots.size → ¬ 255 < cv A i) (hfr : 4 ≤ R.frames) (hlo : W + 65 ≤ R.locals) :
    Back l R p e below s args New1.yN len W (fun P a => a = #[.ref x, .ref b] ∧ P.U.heap = h ∧ P.cells + 1 ≤ R.cells ∧ P.slots + A.slots.size ≤ R.slots)
      (fun P _ v B => ∃ L, Q Z x A h v B.U.heap L ∧ B.locs = P.locs ++ L ∧ B.cells = P.cells + 1 ∧ B.slots = P.slots + A.slots.size) := by
  intro m meth c P g ig mk a X hg hsize hdg hW hn hp'
  obtain ⟨rfl, rfl, r1, r2⟩ := hp'
  have al : Z.vm.Alike P.U.vm := hZ.alike.trans X.warmed.alike
  obtain ⟨D, cfV, kV, iV, fV, hD, gV, stV, knV, obV, asV, slV⟩ := id V
  obtain ⟨D', cfC, kC, iC, fC, hD', gC, stC, -, -, asC, slC⟩ := id C
  cases hD.symm.trans hD'
  obtain ⟨D2, kD, e1, e2, e3, e4, e5⟩ := id E
  cases hD.symm.trans e1
  obtain ⟨c2, k2, i1, i2, i3, -⟩ := Cond.instantiable_spec wi
  cases e2.symm.trans i1
  cases e3.symm.trans i2
  obtain ⟨kU, u1, u2⟩ := al.2.2 _ _ e3
  have hB : Blank ST x D P.U := ⟨hD, ⟨knV, fun q hq => by rw [hq] at obV; cases obV⟩, by rw [al.findClass]; exact e2, kU, u1, by rw [u2]; exact i3, by rw [u2]; exact e5 i3⟩
  have F1 : Found ST "value" "[B" fV P.U := ⟨SBG.found_only al ⟨cfV, kV, iV, gV⟩, stV⟩
  have F2 : Found ST "coder" "B" fC P.U := ⟨SBG.found_only al ⟨cfC, kC, iC, gC⟩, stC⟩
  have hA : Ch b A P.U := ⟨⟨K.1, State.isArrayOf_alike al K.2.1, K.2.2, by omega⟩, hty⟩
  have hS : StaticIs P.U ST "COMPACT_STRINGS" "Z" (.int z) := by
    obtain ⟨cfS, iS, kS, fS, st, cS, t1, t2, t3, t4, t5, t6, t7⟩ := S
    exact StaticIs.there (s := { Z with heap := P.U.heap }) ⟨cfS, iS, kS, fS, st, cS, t1, t2, t3, t4, t5, (fun q => by rw [q] at t6; cases t6), t7⟩ al rfl
  obtain ⟨v, B, X', ⟨⟨hv, E', V', q1, q2, q3, q4, q5, q6, q7, q8, q9, q10, q11⟩, hl, hc, hs⟩, st⟩ := New1.pays x D fV fC b A z (tab_of (moved hZ hw)) hfr hlo m meth c P g ig mk _ X hg hsize hdg hW hn ⟨r1, r2, rfl, hB, F1, F2, hA, hS, hz, l0, l2, hp⟩
  have al' : Z.vm.Alike B.U.vm := hZ.alike.trans X'.warmed.alike
  have hsz : E'.slots.size = D.slots.size := by
    obtain ⟨-, -, -, kB, w1, w2, w3⟩ := q1
    obtain ⟨kB', y1, y2⟩ := al'.2.2 _ _ e3
    rw [q2.2.1] at w1
    cases w1.symm.trans y1
    rw [w3, e5 i3, y2]
  refine ⟨v, B, X', ⟨_, ⟨hv, ?_, ⟨by omega, fun y cy hy hn' => q10 y cy (by simpa using hn') hy, fun y cy hy => ?_⟩, q11, ⟨E', _, q1.1, by rw [q2.2.1]; exact e2, by rw [q2.2.1]; exact e3, by rw [q2.1]; exact obV, fun _ => by rw [hsz]; exact e5 i3⟩,
    ⟨E', cfV, kV, iV, fV, q1.1, gV, stV, by rw [q2.1]; exact knV, by rw [q2.1]; exact obV, by rw [q2.2.1]; exact asV, q3⟩, ⟨E', cfC, kC, iC, fC, q1.1, gC, stC, by rw [q2.1]; exact knV, by rw [q2.1]; exact obV, by rw [q2.2.1]; exact asC, q4⟩,
    ⟨V', ⟨q5.1, State.isArrayOf_alike al'.symm q5.2.1, q5.2.2.1⟩, q6, by rw [← al'.findClass]; exact q7, q8, fun j hj => by have := q9 j hj; rwa [Nat.zero_add] at this⟩, fun O n d w F n1 n2 => ?_⟩, hl, hc, hs⟩, st⟩
  · intro y hy
    simp only [List.mem_cons, List.not_mem_nil, or_false] at hy
    rcases hy with rfl | rfl <;> rfl
  · by_cases q : y = x
    · subst q
      cases hD.symm.trans hy
      exact ⟨E', q1.1, q2.2.1, q2.1, hsz⟩
    · exact ⟨cy, q10 y cy q hy, rfl, rfl, rfl⟩
  · obtain ⟨D3, cf, k, i, f, g1, g2, g3, g4, g5, g6, g7⟩ := F
    cases hD.symm.trans g1
    simp only [RoadKit.slotOf, g2, gV, gC, Option.map_some, Option.getD_some] at n1 n2
    exact ⟨E', cf, k, i, f, q1.1, g2, g3, by rw [q2.1]; exact g4, by rw [q2.1]; exact g5, by rw [q2.2.1]; exact g6, by rw [q2.2.2 f.slot (by simp [n1, n2])]; exact g7⟩
end StrChars.Road
namespace StrChars.Road
open Jvm Sem ClassFile Op Lib Jvm.Stand Jvm.Free Jvm.Free.XT
/-- WHAT COMES BACK, the byte[] as a list of values -/
def QA (Z : State) (x : Addr) (zn : Int32) (cs : List Int32) (h : Heap) (v : Option Value) (h' : Heap) (L : List Loc) : Prop := v = none ∧ (∀ y ∈ L, y.base = x) ∧ RoadKit.Keep h h' [x] ∧ h'.size = h.size + 1 ∧ RoadKit.Exa Z h' x ST ∧ RoadKit.Fld Z h' x ST "value" "[B" (.ref h.size) ∧ RoadKit.Fld Z h' x ST "coder" "B" (.int 0) ∧
  (∃ kb, Z.vm.findClass "[B" = some kb ∧ RoadKit.Arv Z h' h.size kb .byte zn (cs.map fun c => .int (lo8 c)) (.int 0)) ∧
  ∀ (O n d : String) (w : Value), RoadKit.Fld Z h x O n d w → RoadKit.slotOf Z O n d ≠ RoadKit.slotOf Z ST "value" "[B" → RoadKit.slotOf Z O n d ≠ RoadKit.slotOf Z ST "coder" "B" → RoadKit.Fld Z h' x O n d w
/-- **new String(chars) AT A CALL, THE ARRAYS AS LISTS**: the char[] at b holds cs, not empty, no char above 255 -/
theorem backArv {p : Program} {l : Launch} {e : Env} {R : Room} {s : State} {args : Array Value} {below : List Frame} {len W : Nat} {Z : State} {a0 : Array Value} {h : Heap} (hZ : Z.Warmed39 s.vm) (hw : ∀ d ∈ words, d.before a0 Z = true) {kI : Nat} (wi : (Jvm.Cond.instantiable ST kI).before a0 Z = true)
    {x b : Addr} {k : ClassId} {zn z : Int32} {cs : List Int32} {dv v0 c0 : Value} (E : RoadKit.Exa Z h x ST) (V : RoadKit.Fld Z h x ST "value" "[B" v0) (C : RoadKit.Fld Z h x ST "coder" "B" c0) (K : RoadKit.Arv Z h b k .char zn (cs.map Value.int) dv) (S : RoadKit.Sta Z h ST "COMPACT_STRINGS" "Z" (.int z)) (hz : ¬ z = 0)
    (hlen : zn.toNatClampNeg = cs.length) (h0 : 0 < cs.length) (hbig : cs.length ≤ 536870912) (hall : ∀ c ∈ cs, ¬ 255 < c) (hfr : 4 ≤ R.frames) (hlo : W + 65 ≤ R.locals) :
    Back l R p e below s args New1.yN len W (fun P a => a = #[.ref x, .ref b] ∧ P.U.heap = h ∧ P.cells + 1 ≤ R.cells ∧ P.slots + cs.length ≤ R.slots)
      (fun P _ v B => ∃ L, QA Z x zn cs h v B.U.heap L ∧ B.locs = P.locs ++ L ∧ B.cells = P.cells + 1 ∧ B.slots = P.slots + cs.length) := by
  obtain ⟨A, K1, K2, K3, K4, K5, K6⟩ := K
  have e : A.slots.size = cs.length := K3.trans hlen
  have hat : ∀ (i : Nat) (hi : i < cs.length), A.slots[i]? = some (.int cs[i]) := fun i hi => by rw [K5 i (by omega)]; simp [List.getD_eq_getElem?_getD, hi]
  have hcv : ∀ (i : Nat) (hi : i < cs.length), cv A i = cs[i] := fun i hi => by unfold cv; rw [hat i hi]
  have hty : Typed .char A := fun i v hv => by
    have hi : i < A.slots.size := (Array.getElem?_eq_some_iff.mp hv).1
    have q := K5 i hi
    rw [hv] at q
    rw [Option.some.inj q]
    exact K6 i hi
  refine Back.mono (back hZ hw wi E V C K1 hty S hz (by omega) (by omega) (fun i hi => by rw [hcv i (by omega)]; exact hall _ (List.getElem_mem _)) hfr hlo) (fun P a hp => ⟨hp.1, hp.2.1, hp.2.2.1, by rw [e]; exact hp.2.2.2⟩) (fun P a v B hp hq => ?_)
  obtain ⟨L, ⟨q1, q2, q3, q4, q5, q6, q7, ⟨V', v1, v2, v3, v4, v5⟩, q9⟩, hl, hc, hs⟩ := hq
  refine ⟨L, ⟨q1, q2, q3, q4, q5, q6, q7, ⟨V'.cls, v3, V', v1, rfl, by rw [v4, e, hlen], K4, fun i hi => ?_, fun i hi => ?_⟩, q9⟩, hl, hc, by rw [hs, e]⟩
  · have hi' : i < cs.length := by omega
    rw [v5 i (by omega), hcv i hi']; simp [List.getD_eq_getElem?_getD, hi']
  · have hi' : i < cs.length := by omega
    simp only [List.getD_eq_getElem?_getD, List.getElem?_map, List.getElem?_eq_getElem hi', Option.map_some, Option.getD_some]
    exact fits_lo8 _
end StrChars.Road
namespace StrChars.Road
open Jvm Sem ClassFile Op Lib Jvm.Stand Jvm.Free Jvm.Free.XT
/-- WHAT COMES BACK, in the writer's own shape -/
def QV (Z : State) (x : Addr) (N : Int32) (bs : List Int32) (h : Heap) (n0 : Nat) (v : Option Value) (h' : Heap) (L : List Loc) : Prop := v = none ∧ RoadKit.Fr n0 L ∧ RoadKit.Keep h h' [x] ∧ RoadKit.Exa Z h' x ST ∧ RoadKit.Fld Z h' x ST "coder" "B" (.int 0) ∧
  ∃ (t : Addr) (kb : ClassId), n0 ≤ t ∧ h.size ≤ t ∧ ¬ t = x ∧ RoadKit.Fld Z h' x ST "value" "[B" (.ref t) ∧ RoadKit.Arv Z h' t kb .byte N (bs.map Value.int) (.int 0)
/-- **new String(chars) AT A CALL, FOR THE WRITER**: a char[] of n known ints, each 0 to 255 -/
theorem backV {p : Program} {l : Launch} {e : Env} {R : Room} {s : State} {args : Array Value} {below : List Frame} {len W : Nat} {Z : State} {a0 : Array Value} {h : Heap} (hZ : Z.Warmed39 s.vm) (hw : ∀ d ∈ words, d.before a0 Z = true) {kI : Nat} (wi : (Jvm.Cond.instantiable ST kI).before a0 Z = true)
    {x b : Addr} {kC : ClassId} {cs bs : List Int32} {d v0 c0 : Value} {z N : Int32} {n n0 : Nat} (hx0 : n0 ≤ x) (hh0 : n0 ≤ h.size) (E : RoadKit.Exa Z h x ST) (V : RoadKit.Fld Z h x ST "value" "[B" v0) (C : RoadKit.Fld Z h x ST "coder" "B" c0) (K : RoadKit.Arv Z h b kC .char N (cs.map Value.int) d) (S : RoadKit.Sta Z h ST "COMPACT_STRINGS" "Z" (.int z)) (hz : ¬ z = 0)
    (hn : cs.length = n) (hN : N = Int32.ofNat n) (l0 : 0 < n) (l2 : n ≤ 4000) (hp : ∀ c ∈ cs, ¬ c < 0 ∧ ¬ (255 : Int32) < c) (hb : bs = cs.map (fun c => c.toInt8.toInt32)) (hfr : 4 ≤ R.frames) (hlo : W + 65 ≤ R.locals) :
    Back l R p e below s args (⟨"java/lang/String", "<init>", "([C)V"⟩ : MethodName) len W (fun P a => a = #[.ref x, .ref b] ∧ P.U.heap = h ∧ P.cells + 1 ≤ R.cells ∧ P.slots + n ≤ R.slots)
      (fun P _ v B => ∃ L, QV Z x N bs h n0 v B.U.heap L ∧ B.locs = P.locs ++ L ∧ B.cells = P.cells + 1 ∧ B.slots = P.slots + n) := by
  subst hn hN hb
  refine Back.mono (backArv hZ hw wi E V C K S hz (n32 (by omega)) l0 (by omega) (fun c hc => (hp c hc).2) hfr hlo) (fun P a hp => hp) (fun P a v B hp hq => ?_)
  obtain ⟨L, ⟨q1, q2, q3, q4, q5, q6, q7, ⟨kb, v1, v2⟩, q9⟩, hl, hc, hs⟩ := hq
  exact ⟨L, ⟨q1, fun y hy => by rw [q2 y hy]; exact hx0, q3, q5, q7, h.size, kb, hh0, Nat.le_refl _, Nat.ne_of_gt E.lt, q6, by rw [List.map_map]; exact v2⟩, hl, hc, hs⟩
end StrChars.Road
namespace StrChars
open Jvm Sem ClassFile Op Lib Jvm.Stand Jvm.Free.XT Jvm.Free.ALB Jvm.Free.JM Jvm.Free
open Jvm.Lib.Cold (StaticIs)
def hi8 (x : Int32) : Int32 := lo8 (x >>> ((8 : Int32) &&& 31))
end StrChars
namespace StrChars.Road
open Jvm Sem ClassFile Op Lib Jvm.Stand Jvm.Free Jvm.Free.XT
open Jvm.Lib.Cold (StaticIs)
/-- the bytes of the chars cs, low before high -/
def wideBytes : List Int32 → List Value
  | [] => []
  | c :: cs => .int (lo8 c) :: .int (hi8 c) :: wideBytes cs
/-- an array of N2 bytes vs codes the chars cs by the coder cd -/
def CodA (cs : List Int32) (cd N2 : Int32) (vs : List Value) : Prop := (cd = 0 ∧ N2 = Int32.ofNat cs.length ∧ vs = (cs.map fun c => Value.int (lo8 c)) ∧ ∀ c ∈ cs, ¬ 255 < c) ∨ (cd = 1 ∧ N2 = Int32.ofNat (2 * cs.length) ∧ vs = wideBytes cs ∧ ∃ c ∈ cs, 255 < c)
end StrChars.Road
namespace StrChars.Road
open Jvm Sem ClassFile Op Lib Jvm.Stand Jvm.Free Jvm.Free.XT
open Jvm.Lib.Cold (StaticIs)
/-- what backV says of its String, as the contracts of this text ask it: cs's low bytes, coder 0 -/
theorem codOf {cs : List Int32} {n : Nat} (hn : cs.length = n) (hb : ∀ c ∈ cs, ¬ 255 < c) : CodA cs 0 (Int32.ofNat n) ((cs.map lo8).map Value.int) := Or.inl ⟨rfl, by rw [hn], by simp [List.map_map, Function.comp_def], hb⟩
end StrChars.Road
end Jvm.Pilot.@@N@@

namespace Jvm.Pilot.@@N@@
open Jvm Jvm.ClassFile Sem Op Lib Jvm.Free Jvm.Stand Jvm.LawKit Jvm.RoadKit Jvm.Own Bundle Jvm.Pilot.@@N@@.Jvm.D
theorem own_q0 {Z : State} {a0 : Array Value} (hw : ∀ d ∈ tables_1, d.before a0 Z = true) : (Jvm.Cond.constant "com/example/portcullis/portcullis/OAuthExceptionDescribedAsPinLaw" (7 : Nat) (2147483647 : Int32)).before a0 Z = true := hw _ (List.mem_of_getElem? (i := 0) rfl)
theorem own_q1 {Z : State} {a0 : Array Value} (hw : ∀ d ∈ tables_1, d.before a0 Z = true) : (Jvm.Cond.methodLink "com/example/portcullis/portcullis/OAuthExceptionDescribedAsPinLaw" (8 : Nat) ({ cls := "com/example/portcullis/portcullis/OAuthExceptionDescribedAsPinLaw", name := "code", desc := "(I)Lcom/example/portcullis/portcullis/ErrorCode;" } : Jvm.MethodName)).before a0 Z = true := hw _ (List.mem_of_getElem? (i := 1) rfl)
theorem own_q2 {Z : State} {a0 : Array Value} (hw : ∀ d ∈ tables_1, d.before a0 Z = true) : (Jvm.Cond.static ({ cls := "com/example/portcullis/portcullis/OAuthExceptionDescribedAsPinLaw", name := "code", desc := "(I)Lcom/example/portcullis/portcullis/ErrorCode;" } : Jvm.MethodName)).before a0 Z = true := hw _ (List.mem_of_getElem? (i := 2) rfl)
theorem own_q3 {Z : State} {a0 : Array Value} (hw : ∀ d ∈ tables_1, d.before a0 Z = true) : (Jvm.Cond.initialized "com/example/portcullis/portcullis/OAuthExceptionDescribedAsPinLaw").before a0 Z = true := hw _ (List.mem_of_getElem? (i := 3) rfl)
theorem own_q4 {Z : State} {a0 : Array Value} (hw : ∀ d ∈ tables_1, d.before a0 Z = true) : (Jvm.Cond.code ({ cls := "com/example/portcullis/portcullis/OAuthExceptionDescribedAsPinLaw", name := "code", desc := "(I)Lcom/example/portcullis/portcullis/ErrorCode;" } : Jvm.MethodName) method_4_code (1 : Nat) (Option.some (Jvm.ClassFile.FieldType.object "com/example/portcullis/portcullis/ErrorCode"))).before a0 Z = true := hw _ (List.mem_of_getElem? (i := 4) rfl)
theorem own_q5 {Z : State} {a0 : Array Value} (hw : ∀ d ∈ tables_1, d.before a0 Z = true) : (Jvm.Cond.fieldLink "com/example/portcullis/portcullis/OAuthExceptionDescribedAsPinLaw" (52 : Nat) "com/example/portcullis/portcullis/ErrorCode" "INVALID_REQUEST" "Lcom/example/portcullis/portcullis/ErrorCode;").before a0 Z = true := hw _ (List.mem_of_getElem? (i := 5) rfl)
theorem own_q6 {Z : State} {a0 : Array Value} (hw : ∀ d ∈ tables_1, d.before a0 Z = true) : (Jvm.Cond.initialized "com/example/portcullis/portcullis/ErrorCode").before a0 Z = true := hw _ (List.mem_of_getElem? (i := 6) rfl)
theorem own_q7 {Z : State} {a0 : Array Value} (hw : ∀ d ∈ tables_1, d.before a0 Z = true) : (Jvm.Cond.laysStatic "com/example/portcullis/portcullis/ErrorCode" "INVALID_REQUEST" "Lcom/example/portcullis/portcullis/ErrorCode;").before a0 Z = true := hw _ (List.mem_of_getElem? (i := 7) rfl)
theorem own_q8 {Z : State} {a0 : Array Value} (hw : ∀ d ∈ tables_1, d.before a0 Z = true) : (Jvm.Cond.methodLink "com/example/portcullis/portcullis/OAuthExceptionDescribedAsPinLaw" (14 : Nat) ({ cls := "com/example/portcullis/portcullis/OAuthExceptionDescribedAsPinLaw", name := "text", desc := "(I)Ljava/lang/String;" } : Jvm.MethodName)).before a0 Z = true := hw _ (List.mem_of_getElem? (i := 8) rfl)
theorem own_q9 {Z : State} {a0 : Array Value} (hw : ∀ d ∈ tables_1, d.before a0 Z = true) : (Jvm.Cond.static ({ cls := "com/example/portcullis/portcullis/OAuthExceptionDescribedAsPinLaw", name := "text", desc := "(I)Ljava/lang/String;" } : Jvm.MethodName)).before a0 Z = true := hw _ (List.mem_of_getElem? (i := 9) rfl)
theorem own_q10 {Z : State} {a0 : Array Value} (hw : ∀ d ∈ tables_1, d.before a0 Z = true) : (Jvm.Cond.code ({ cls := "com/example/portcullis/portcullis/OAuthExceptionDescribedAsPinLaw", name := "text", desc := "(I)Ljava/lang/String;" } : Jvm.MethodName) method_3_code (5 : Nat) (Option.some (Jvm.ClassFile.FieldType.object "java/lang/String"))).before a0 Z = true := hw _ (List.mem_of_getElem? (i := 10) rfl)
theorem own_q11 {Z : State} {a0 : Array Value} (hw : ∀ d ∈ tables_1, d.before a0 Z = true) : (Jvm.Cond.classLink "com/example/portcullis/portcullis/OAuthExceptionDescribedAsPinLaw" (41 : Nat) "java/lang/String").before a0 Z = true := hw _ (List.mem_of_getElem? (i := 11) rfl)
theorem own_q12 {Z : State} {a0 : Array Value} (hw : ∀ d ∈ tables_1, d.before a0 Z = true) : (Jvm.Cond.instantiable "java/lang/String" (4 : Nat)).before a0 Z = true := hw _ (List.mem_of_getElem? (i := 12) rfl)
theorem own_q13 {Z : State} {a0 : Array Value} (hw : ∀ d ∈ tables_1, d.before a0 Z = true) : (Jvm.Cond.initialized "java/lang/String").before a0 Z = true := hw _ (List.mem_of_getElem? (i := 13) rfl)
theorem own_q14 {Z : State} {a0 : Array Value} (hw : ∀ d ∈ tables_1, d.before a0 Z = true) : (Jvm.Cond.arrayClass Jvm.ClassFile.FieldType.char).before a0 Z = true := hw _ (List.mem_of_getElem? (i := 14) rfl)
theorem own_q15 {Z : State} {a0 : Array Value} (hw : ∀ d ∈ tables_1, d.before a0 Z = true) : (Jvm.Cond.methodLink "com/example/portcullis/portcullis/OAuthExceptionDescribedAsPinLaw" (49 : Nat) ({ cls := "java/lang/String", name := "<init>", desc := "([C)V" } : Jvm.MethodName)).before a0 Z = true := hw _ (List.mem_of_getElem? (i := 15) rfl)
theorem own_q16 {Z : State} {a0 : Array Value} (hw : ∀ d ∈ tables_1, d.before a0 Z = true) : (Jvm.Cond.instanceMethod ({ cls := "java/lang/String", name := "<init>", desc := "([C)V" } : Jvm.MethodName)).before a0 Z = true := hw _ (List.mem_of_getElem? (i := 16) rfl)
theorem own_q17 {Z : State} {a0 : Array Value} (hw : ∀ d ∈ tables_1, d.before a0 Z = true) : (Jvm.Cond.code ({ cls := "java/lang/String", name := "<init>", desc := "([C)V" } : Jvm.MethodName) jdk_42_method_3_code (2 : Nat) (Option.none : Option Jvm.ClassFile.FieldType)).before a0 Z = true := hw _ (List.mem_of_getElem? (i := 17) rfl)
theorem own_q18 {Z : State} {a0 : Array Value} (hw : ∀ d ∈ tables_1, d.before a0 Z = true) : (Jvm.Cond.methodLink "java/lang/String" (27 : Nat) ({ cls := "java/lang/String", name := "<init>", desc := "([CIILjava/lang/Void;)V" } : Jvm.MethodName)).before a0 Z = true := hw _ (List.mem_of_getElem? (i := 18) rfl)
theorem own_q19 {Z : State} {a0 : Array Value} (hw : ∀ d ∈ tables_1, d.before a0 Z = true) : (Jvm.Cond.instanceMethod ({ cls := "java/lang/String", name := "<init>", desc := "([CIILjava/lang/Void;)V" } : Jvm.MethodName)).before a0 Z = true := hw _ (List.mem_of_getElem? (i := 19) rfl)
theorem own_q21 {Z : State} {a0 : Array Value} (hw : ∀ d ∈ tables_1, d.before a0 Z = true) : (Jvm.Cond.code ({ cls := "java/lang/String", name := "<init>", desc := "([CIILjava/lang/Void;)V" } : Jvm.MethodName) jdk_42_method_149_code (6 : Nat) (Option.none : Option Jvm.ClassFile.FieldType)).before a0 Z = true := hw _ (List.mem_of_getElem? (i := 21) rfl)
theorem own_q22 {Z : State} {a0 : Array Value} (hw : ∀ d ∈ tables_1, d.before a0 Z = true) : (Jvm.Cond.methodLink "java/lang/String" (1 : Nat) ({ cls := "java/lang/Object", name := "<init>", desc := "()V" } : Jvm.MethodName)).before a0 Z = true := hw _ (List.mem_of_getElem? (i := 22) rfl)
theorem own_q23 {Z : State} {a0 : Array Value} (hw : ∀ d ∈ tables_1, d.before a0 Z = true) : (Jvm.Cond.instanceMethod ({ cls := "java/lang/Object", name := "<init>", desc := "()V" } : Jvm.MethodName)).before a0 Z = true := hw _ (List.mem_of_getElem? (i := 23) rfl)
theorem own_q24 {Z : State} {a0 : Array Value} (hw : ∀ d ∈ tables_1, d.before a0 Z = true) : (Jvm.Cond.code ({ cls := "java/lang/Object", name := "<init>", desc := "()V" } : Jvm.MethodName) object_method_1_code (1 : Nat) (Option.none : Option Jvm.ClassFile.FieldType)).before a0 Z = true := hw _ (List.mem_of_getElem? (i := 24) rfl)
theorem own_q25 {Z : State} {a0 : Array Value} (hw : ∀ d ∈ tables_1, d.before a0 Z = true) : (Jvm.Cond.stringLink "java/lang/String" (7 : Nat) "").before a0 Z = true := hw _ (List.mem_of_getElem? (i := 25) rfl)
theorem own_q27 {Z : State} {a0 : Array Value} (hw : ∀ d ∈ tables_1, d.before a0 Z = true) : (Jvm.Cond.laysFinal "java/lang/String" "java/lang/String" "value" "[B").before a0 Z = true := hw _ (List.mem_of_getElem? (i := 27) rfl)
theorem own_q28 {Z : State} {a0 : Array Value} (hw : ∀ d ∈ tables_1, d.before a0 Z = true) : (Jvm.Cond.laysFinal "java/lang/String" "java/lang/String" "coder" "B").before a0 Z = true := hw _ (List.mem_of_getElem? (i := 28) rfl)
theorem own_q31 {Z : State} {a0 : Array Value} (hw : ∀ d ∈ tables_1, d.before a0 Z = true) : (Jvm.Cond.fieldLink "java/lang/String" (9 : Nat) "java/lang/String" "value" "[B").before a0 Z = true := hw _ (List.mem_of_getElem? (i := 31) rfl)
theorem own_q32 {Z : State} {a0 : Array Value} (hw : ∀ d ∈ tables_1, d.before a0 Z = true) : (Jvm.Cond.fieldLink "java/lang/String" (15 : Nat) "java/lang/String" "coder" "B").before a0 Z = true := hw _ (List.mem_of_getElem? (i := 32) rfl)
theorem own_q33 {Z : State} {a0 : Array Value} (hw : ∀ d ∈ tables_1, d.before a0 Z = true) : (Jvm.Cond.classLink "com/example/portcullis/portcullis/OAuthExceptionDescribedAsPinLaw" (18 : Nat) "com/example/portcullis/portcullis/OAuthException").before a0 Z = true := hw _ (List.mem_of_getElem? (i := 33) rfl)
theorem own_q34 {Z : State} {a0 : Array Value} (hw : ∀ d ∈ tables_1, d.before a0 Z = true) : (Jvm.Cond.instantiable "com/example/portcullis/portcullis/OAuthException" (8 : Nat)).before a0 Z = true := hw _ (List.mem_of_getElem? (i := 34) rfl)
theorem own_q35 {Z : State} {a0 : Array Value} (hw : ∀ d ∈ tables_1, d.before a0 Z = true) : (Jvm.Cond.initialized "com/example/portcullis/portcullis/OAuthException").before a0 Z = true := hw _ (List.mem_of_getElem? (i := 35) rfl)
theorem own_q36 {Z : State} {a0 : Array Value} (hw : ∀ d ∈ tables_1, d.before a0 Z = true) : (Jvm.Cond.methodLink "com/example/portcullis/portcullis/OAuthExceptionDescribedAsPinLaw" (20 : Nat) ({ cls := "com/example/portcullis/portcullis/OAuthException", name := "<init>", desc := "(Lcom/example/portcullis/portcullis/ErrorCode;ILjava/lang/String;)V" } : Jvm.MethodName)).before a0 Z = true := hw _ (List.mem_of_getElem? (i := 36) rfl)
theorem own_q37 {Z : State} {a0 : Array Value} (hw : ∀ d ∈ tables_1, d.before a0 Z = true) : (Jvm.Cond.instanceMethod ({ cls := "com/example/portcullis/portcullis/OAuthException", name := "<init>", desc := "(Lcom/example/portcullis/portcullis/ErrorCode;ILjava/lang/String;)V" } : Jvm.MethodName)).before a0 Z = true := hw _ (List.mem_of_getElem? (i := 37) rfl)
theorem own_q38 {Z : State} {a0 : Array Value} (hw : ∀ d ∈ tables_1, d.before a0 Z = true) : (Jvm.Cond.code ({ cls := "com/example/portcullis/portcullis/OAuthException", name := "<init>", desc := "(Lcom/example/portcullis/portcullis/ErrorCode;ILjava/lang/String;)V" } : Jvm.MethodName) prog_13_method_2_code (4 : Nat) (Option.none : Option Jvm.ClassFile.FieldType)).before a0 Z = true := hw _ (List.mem_of_getElem? (i := 38) rfl)
theorem own_q39 {Z : State} {a0 : Array Value} (hw : ∀ d ∈ tables_1, d.before a0 Z = true) : (Jvm.Cond.methodLink "com/example/portcullis/portcullis/OAuthException" (13 : Nat) ({ cls := "java/lang/Exception", name := "<init>", desc := "(Ljava/lang/String;)V" } : Jvm.MethodName)).before a0 Z = true := hw _ (List.mem_of_getElem? (i := 39) rfl)
theorem own_q40 {Z : State} {a0 : Array Value} (hw : ∀ d ∈ tables_1, d.before a0 Z = true) : (Jvm.Cond.instanceMethod ({ cls := "java/lang/Exception", name := "<init>", desc := "(Ljava/lang/String;)V" } : Jvm.MethodName)).before a0 Z = true := hw _ (List.mem_of_getElem? (i := 40) rfl)
theorem own_q42 {Z : State} {a0 : Array Value} (hw : ∀ d ∈ tables_1, d.before a0 Z = true) : (Jvm.Cond.initialized "java/lang/Exception").before a0 Z = true := hw _ (List.mem_of_getElem? (i := 42) rfl)
theorem own_q43 {Z : State} {a0 : Array Value} (hw : ∀ d ∈ tables_1, d.before a0 Z = true) : (Jvm.Cond.code ({ cls := "java/lang/Exception", name := "<init>", desc := "(Ljava/lang/String;)V" } : Jvm.MethodName) jdk_59_method_2_code (2 : Nat) (Option.none : Option Jvm.ClassFile.FieldType)).before a0 Z = true := hw _ (List.mem_of_getElem? (i := 43) rfl)
theorem own_q44 {Z : State} {a0 : Array Value} (hw : ∀ d ∈ tables_1, d.before a0 Z = true) : (Jvm.Cond.methodLink "java/lang/Exception" (7 : Nat) ({ cls := "java/lang/Throwable", name := "<init>", desc := "(Ljava/lang/String;)V" } : Jvm.MethodName)).before a0 Z = true := hw _ (List.mem_of_getElem? (i := 44) rfl)
theorem own_q45 {Z : State} {a0 : Array Value} (hw : ∀ d ∈ tables_1, d.before a0 Z = true) : (Jvm.Cond.instanceMethod ({ cls := "java/lang/Throwable", name := "<init>", desc := "(Ljava/lang/String;)V" } : Jvm.MethodName)).before a0 Z = true := hw _ (List.mem_of_getElem? (i := 45) rfl)
theorem own_q48 {Z : State} {a0 : Array Value} (hw : ∀ d ∈ tables_1, d.before a0 Z = true) : (Jvm.Cond.initialized "java/lang/Throwable").before a0 Z = true := hw _ (List.mem_of_getElem? (i := 48) rfl)
theorem own_q49 {Z : State} {a0 : Array Value} (hw : ∀ d ∈ tables_1, d.before a0 Z = true) : (Jvm.Cond.code ({ cls := "java/lang/Throwable", name := "<init>", desc := "(Ljava/lang/String;)V" } : Jvm.MethodName) jdk_78_method_2_code (2 : Nat) (Option.none : Option Jvm.ClassFile.FieldType)).before a0 Z = true := hw _ (List.mem_of_getElem? (i := 49) rfl)
theorem own_q50 {Z : State} {a0 : Array Value} (hw : ∀ d ∈ tables_1, d.before a0 Z = true) : (Jvm.Cond.methodLink "java/lang/Throwable" (1 : Nat) ({ cls := "java/lang/Object", name := "<init>", desc := "()V" } : Jvm.MethodName)).before a0 Z = true := hw _ (List.mem_of_getElem? (i := 50) rfl)
theorem own_q51 {Z : State} {a0 : Array Value} (hw : ∀ d ∈ tables_1, d.before a0 Z = true) : (Jvm.Cond.fieldLink "java/lang/Throwable" (7 : Nat) "java/lang/Throwable" "cause" "Ljava/lang/Throwable;").before a0 Z = true := hw _ (List.mem_of_getElem? (i := 51) rfl)
theorem own_q52 {Z : State} {a0 : Array Value} (hw : ∀ d ∈ tables_1, d.before a0 Z = true) : (Jvm.Cond.lays "com/example/portcullis/portcullis/OAuthException" "java/lang/Throwable" "cause" "Ljava/lang/Throwable;").before a0 Z = true := hw _ (List.mem_of_getElem? (i := 52) rfl)
theorem own_q53 {Z : State} {a0 : Array Value} (hw : ∀ d ∈ tables_1, d.before a0 Z = true) : (Jvm.Cond.fieldLink "java/lang/Throwable" (13 : Nat) "java/lang/Throwable" "UNASSIGNED_STACK" "[Ljava/lang/StackTraceElement;").before a0 Z = true := hw _ (List.mem_of_getElem? (i := 53) rfl)
theorem own_q54 {Z : State} {a0 : Array Value} (hw : ∀ d ∈ tables_1, d.before a0 Z = true) : (Jvm.Cond.fieldLink "java/lang/Throwable" (17 : Nat) "java/lang/Throwable" "stackTrace" "[Ljava/lang/StackTraceElement;").before a0 Z = true := hw _ (List.mem_of_getElem? (i := 54) rfl)
theorem own_q55 {Z : State} {a0 : Array Value} (hw : ∀ d ∈ tables_1, d.before a0 Z = true) : (Jvm.Cond.lays "com/example/portcullis/portcullis/OAuthException" "java/lang/Throwable" "stackTrace" "[Ljava/lang/StackTraceElement;").before a0 Z = true := hw _ (List.mem_of_getElem? (i := 55) rfl)
theorem own_q56 {Z : State} {a0 : Array Value} (hw : ∀ d ∈ tables_1, d.before a0 Z = true) : (Jvm.Cond.fieldLink "java/lang/Throwable" (20 : Nat) "java/lang/Throwable" "SUPPRESSED_SENTINEL" "Ljava/util/List;").before a0 Z = true := hw _ (List.mem_of_getElem? (i := 56) rfl)
theorem own_q57 {Z : State} {a0 : Array Value} (hw : ∀ d ∈ tables_1, d.before a0 Z = true) : (Jvm.Cond.fieldLink "java/lang/Throwable" (24 : Nat) "java/lang/Throwable" "suppressedExceptions" "Ljava/util/List;").before a0 Z = true := hw _ (List.mem_of_getElem? (i := 57) rfl)
theorem own_q58 {Z : State} {a0 : Array Value} (hw : ∀ d ∈ tables_1, d.before a0 Z = true) : (Jvm.Cond.lays "com/example/portcullis/portcullis/OAuthException" "java/lang/Throwable" "suppressedExceptions" "Ljava/util/List;").before a0 Z = true := hw _ (List.mem_of_getElem? (i := 58) rfl)
theorem own_q59 {Z : State} {a0 : Array Value} (hw : ∀ d ∈ tables_1, d.before a0 Z = true) : (Jvm.Cond.methodLink "java/lang/Throwable" (27 : Nat) ({ cls := "java/lang/Throwable", name := "fillInStackTrace", desc := "()Ljava/lang/Throwable;" } : Jvm.MethodName)).before a0 Z = true := hw _ (List.mem_of_getElem? (i := 59) rfl)
theorem own_q60 {Z : State} {a0 : Array Value} (hw : ∀ d ∈ tables_1, d.before a0 Z = true) : (Jvm.Cond.declares ({ cls := "java/lang/Throwable", name := "fillInStackTrace", desc := "()Ljava/lang/Throwable;" } : Jvm.MethodName)).before a0 Z = true := hw _ (List.mem_of_getElem? (i := 60) rfl)
theorem own_q61 {Z : State} {a0 : Array Value} (hw : ∀ d ∈ tables_1, d.before a0 Z = true) : (Jvm.Cond.instanceMethod ({ cls := "java/lang/Throwable", name := "fillInStackTrace", desc := "()Ljava/lang/Throwable;" } : Jvm.MethodName)).before a0 Z = true := hw _ (List.mem_of_getElem? (i := 61) rfl)
theorem own_q62 {Z : State} {a0 : Array Value} (hw : ∀ d ∈ tables_1, d.before a0 Z = true) : (Jvm.Cond.selects "com/example/portcullis/portcullis/OAuthException" ({ cls := "java/lang/Throwable", name := "fillInStackTrace", desc := "()Ljava/lang/Throwable;" } : Jvm.MethodName) ({ cls := "java/lang/Throwable", name := "fillInStackTrace", desc := "()Ljava/lang/Throwable;" } : Jvm.MethodName)).before a0 Z = true := hw _ (List.mem_of_getElem? (i := 62) rfl)
theorem own_q63 {Z : State} {a0 : Array Value} (hw : ∀ d ∈ tables_1, d.before a0 Z = true) : (Jvm.Cond.arrayOver (Jvm.ClassFile.FieldType.object "java/lang/Object")).before a0 Z = true := hw _ (List.mem_of_getElem? (i := 63) rfl)
theorem own_q82 {Z : State} {a0 : Array Value} (hw : ∀ d ∈ tables_1, d.before a0 Z = true) : (Jvm.Cond.lays "com/example/portcullis/portcullis/OAuthException" "java/lang/Throwable" "detailMessage" "Ljava/lang/String;").before a0 Z = true := hw _ (List.mem_of_getElem? (i := 82) rfl)
theorem own_q83 {Z : State} {a0 : Array Value} (hw : ∀ d ∈ tables_1, d.before a0 Z = true) : (Jvm.Cond.lays "com/example/portcullis/portcullis/OAuthException" "java/lang/Throwable" "backtrace" "Ljava/lang/Object;").before a0 Z = true := hw _ (List.mem_of_getElem? (i := 83) rfl)
theorem own_q86 {Z : State} {a0 : Array Value} (hw : ∀ d ∈ tables_1, d.before a0 Z = true) : (Jvm.Cond.fieldLink "java/lang/Throwable" (31 : Nat) "java/lang/Throwable" "detailMessage" "Ljava/lang/String;").before a0 Z = true := hw _ (List.mem_of_getElem? (i := 86) rfl)
theorem own_q87 {Z : State} {a0 : Array Value} (hw : ∀ d ∈ tables_1, d.before a0 Z = true) : (Jvm.Cond.fieldLink "com/example/portcullis/portcullis/OAuthException" (18 : Nat) "com/example/portcullis/portcullis/OAuthException" "code" "Lcom/example/portcullis/portcullis/ErrorCode;").before a0 Z = true := hw _ (List.mem_of_getElem? (i := 87) rfl)
theorem own_q88 {Z : State} {a0 : Array Value} (hw : ∀ d ∈ tables_1, d.before a0 Z = true) : (Jvm.Cond.laysFinal "com/example/portcullis/portcullis/OAuthException" "com/example/portcullis/portcullis/OAuthException" "code" "Lcom/example/portcullis/portcullis/ErrorCode;").before a0 Z = true := hw _ (List.mem_of_getElem? (i := 88) rfl)
theorem own_q89 {Z : State} {a0 : Array Value} (hw : ∀ d ∈ tables_1, d.before a0 Z = true) : (Jvm.Cond.fieldLink "com/example/portcullis/portcullis/OAuthException" (22 : Nat) "com/example/portcullis/portcullis/OAuthException" "status" "I").before a0 Z = true := hw _ (List.mem_of_getElem? (i := 89) rfl)
theorem own_q90 {Z : State} {a0 : Array Value} (hw : ∀ d ∈ tables_1, d.before a0 Z = true) : (Jvm.Cond.laysFinal "com/example/portcullis/portcullis/OAuthException" "com/example/portcullis/portcullis/OAuthException" "status" "I").before a0 Z = true := hw _ (List.mem_of_getElem? (i := 90) rfl)
theorem own_q91 {Z : State} {a0 : Array Value} (hw : ∀ d ∈ tables_1, d.before a0 Z = true) : (Jvm.Cond.methodLink "com/example/portcullis/portcullis/OAuthExceptionDescribedAsPinLaw" (23 : Nat) ({ cls := "com/example/portcullis/portcullis/OAuthException", name := "describedAs", desc := "(Ljava/lang/String;)Lcom/example/portcullis/portcullis/OAuthException;" } : Jvm.MethodName)).before a0 Z = true := hw _ (List.mem_of_getElem? (i := 91) rfl)
theorem own_q92 {Z : State} {a0 : Array Value} (hw : ∀ d ∈ tables_1, d.before a0 Z = true) : (Jvm.Cond.declares ({ cls := "com/example/portcullis/portcullis/OAuthException", name := "describedAs", desc := "(Ljava/lang/String;)Lcom/example/portcullis/portcullis/OAuthException;" } : Jvm.MethodName)).before a0 Z = true := hw _ (List.mem_of_getElem? (i := 92) rfl)
theorem own_q93 {Z : State} {a0 : Array Value} (hw : ∀ d ∈ tables_1, d.before a0 Z = true) : (Jvm.Cond.instanceMethod ({ cls := "com/example/portcullis/portcullis/OAuthException", name := "describedAs", desc := "(Ljava/lang/String;)Lcom/example/portcullis/portcullis/OAuthException;" } : Jvm.MethodName)).before a0 Z = true := hw _ (List.mem_of_getElem? (i := 93) rfl)
theorem own_q94 {Z : State} {a0 : Array Value} (hw : ∀ d ∈ tables_1, d.before a0 Z = true) : (Jvm.Cond.selects "com/example/portcullis/portcullis/OAuthException" ({ cls := "com/example/portcullis/portcullis/OAuthException", name := "describedAs", desc := "(Ljava/lang/String;)Lcom/example/portcullis/portcullis/OAuthException;" } : Jvm.MethodName) ({ cls := "com/example/portcullis/portcullis/OAuthException", name := "describedAs", desc := "(Ljava/lang/String;)Lcom/example/portcullis/portcullis/OAuthException;" } : Jvm.MethodName)).before a0 Z = true := hw _ (List.mem_of_getElem? (i := 94) rfl)
theorem own_q95 {Z : State} {a0 : Array Value} (hw : ∀ d ∈ tables_1, d.before a0 Z = true) : (Jvm.Cond.code ({ cls := "com/example/portcullis/portcullis/OAuthException", name := "describedAs", desc := "(Ljava/lang/String;)Lcom/example/portcullis/portcullis/OAuthException;" } : Jvm.MethodName) prog_13_method_4_code (2 : Nat) (Option.some (Jvm.ClassFile.FieldType.object "com/example/portcullis/portcullis/OAuthException"))).before a0 Z = true := hw _ (List.mem_of_getElem? (i := 95) rfl)
theorem own_q96 {Z : State} {a0 : Array Value} (hw : ∀ d ∈ tables_1, d.before a0 Z = true) : (Jvm.Cond.classLink "com/example/portcullis/portcullis/OAuthException" (8 : Nat) "com/example/portcullis/portcullis/OAuthException").before a0 Z = true := hw _ (List.mem_of_getElem? (i := 96) rfl)
theorem own_q97 {Z : State} {a0 : Array Value} (hw : ∀ d ∈ tables_1, d.before a0 Z = true) : (Jvm.Cond.methodLink "com/example/portcullis/portcullis/OAuthException" (7 : Nat) ({ cls := "com/example/portcullis/portcullis/OAuthException", name := "<init>", desc := "(Lcom/example/portcullis/portcullis/ErrorCode;ILjava/lang/String;)V" } : Jvm.MethodName)).before a0 Z = true := hw _ (List.mem_of_getElem? (i := 97) rfl)
theorem own_q98 {Z : State} {a0 : Array Value} (hw : ∀ d ∈ tables_1, d.before a0 Z = true) : (Jvm.Cond.methodLink "com/example/portcullis/portcullis/OAuthExceptionDescribedAsPinLaw" (27 : Nat) ({ cls := "com/example/portcullis/portcullis/ErrorCode", name := "standardName", desc := "()Ljava/lang/String;" } : Jvm.MethodName)).before a0 Z = true := hw _ (List.mem_of_getElem? (i := 98) rfl)
theorem own_q99 {Z : State} {a0 : Array Value} (hw : ∀ d ∈ tables_1, d.before a0 Z = true) : (Jvm.Cond.declares ({ cls := "com/example/portcullis/portcullis/ErrorCode", name := "standardName", desc := "()Ljava/lang/String;" } : Jvm.MethodName)).before a0 Z = true := hw _ (List.mem_of_getElem? (i := 99) rfl)
theorem own_q100 {Z : State} {a0 : Array Value} (hw : ∀ d ∈ tables_1, d.before a0 Z = true) : (Jvm.Cond.instanceMethod ({ cls := "com/example/portcullis/portcullis/ErrorCode", name := "standardName", desc := "()Ljava/lang/String;" } : Jvm.MethodName)).before a0 Z = true := hw _ (List.mem_of_getElem? (i := 100) rfl)
theorem own_q101 {Z : State} {a0 : Array Value} (hw : ∀ d ∈ tables_1, d.before a0 Z = true) : (Jvm.Cond.selects "com/example/portcullis/portcullis/ErrorCode" ({ cls := "com/example/portcullis/portcullis/ErrorCode", name := "standardName", desc := "()Ljava/lang/String;" } : Jvm.MethodName) ({ cls := "com/example/portcullis/portcullis/ErrorCode", name := "standardName", desc := "()Ljava/lang/String;" } : Jvm.MethodName)).before a0 Z = true := hw _ (List.mem_of_getElem? (i := 101) rfl)
theorem own_q102 {Z : State} {a0 : Array Value} (hw : ∀ d ∈ tables_1, d.before a0 Z = true) : (Jvm.Cond.code ({ cls := "com/example/portcullis/portcullis/ErrorCode", name := "standardName", desc := "()Ljava/lang/String;" } : Jvm.MethodName) prog_11_method_4_code (1 : Nat) (Option.some (Jvm.ClassFile.FieldType.object "java/lang/String"))).before a0 Z = true := hw _ (List.mem_of_getElem? (i := 102) rfl)
theorem own_q103 {Z : State} {a0 : Array Value} (hw : ∀ d ∈ tables_1, d.before a0 Z = true) : (Jvm.Cond.fieldLink "com/example/portcullis/portcullis/ErrorCode" (62 : Nat) "com/example/portcullis/portcullis/ErrorCode" "standardName" "Ljava/lang/String;").before a0 Z = true := hw _ (List.mem_of_getElem? (i := 103) rfl)
theorem own_q105 {Z : State} {a0 : Array Value} (hw : ∀ d ∈ tables_1, d.before a0 Z = true) : (Jvm.Cond.methodLink "com/example/portcullis/portcullis/OAuthExceptionDescribedAsPinLaw" (33 : Nat) ({ cls := "com/example/portcullis/portcullis/OAuthException", name := "status", desc := "()I" } : Jvm.MethodName)).before a0 Z = true := hw _ (List.mem_of_getElem? (i := 105) rfl)
theorem own_q106 {Z : State} {a0 : Array Value} (hw : ∀ d ∈ tables_1, d.before a0 Z = true) : (Jvm.Cond.declares ({ cls := "com/example/portcullis/portcullis/OAuthException", name := "status", desc := "()I" } : Jvm.MethodName)).before a0 Z = true := hw _ (List.mem_of_getElem? (i := 106) rfl)
theorem own_q107 {Z : State} {a0 : Array Value} (hw : ∀ d ∈ tables_1, d.before a0 Z = true) : (Jvm.Cond.instanceMethod ({ cls := "com/example/portcullis/portcullis/OAuthException", name := "status", desc := "()I" } : Jvm.MethodName)).before a0 Z = true := hw _ (List.mem_of_getElem? (i := 107) rfl)
theorem own_q108 {Z : State} {a0 : Array Value} (hw : ∀ d ∈ tables_1, d.before a0 Z = true) : (Jvm.Cond.selects "com/example/portcullis/portcullis/OAuthException" ({ cls := "com/example/portcullis/portcullis/OAuthException", name := "status", desc := "()I" } : Jvm.MethodName) ({ cls := "com/example/portcullis/portcullis/OAuthException", name := "status", desc := "()I" } : Jvm.MethodName)).before a0 Z = true := hw _ (List.mem_of_getElem? (i := 108) rfl)
theorem own_q109 {Z : State} {a0 : Array Value} (hw : ∀ d ∈ tables_1, d.before a0 Z = true) : (Jvm.Cond.code ({ cls := "com/example/portcullis/portcullis/OAuthException", name := "status", desc := "()I" } : Jvm.MethodName) prog_13_method_5_code (1 : Nat) (Option.some Jvm.ClassFile.FieldType.int)).before a0 Z = true := hw _ (List.mem_of_getElem? (i := 109) rfl)
theorem own_q110 {Z : State} {a0 : Array Value} (hw : ∀ d ∈ tables_1, d.before a0 Z = true) : (Jvm.Cond.methodLink "com/example/portcullis/portcullis/OAuthExceptionDescribedAsPinLaw" (37 : Nat) ({ cls := "com/example/portcullis/portcullis/OAuthException", name := "error", desc := "()Ljava/lang/String;" } : Jvm.MethodName)).before a0 Z = true := hw _ (List.mem_of_getElem? (i := 110) rfl)
theorem own_q111 {Z : State} {a0 : Array Value} (hw : ∀ d ∈ tables_1, d.before a0 Z = true) : (Jvm.Cond.declares ({ cls := "com/example/portcullis/portcullis/OAuthException", name := "error", desc := "()Ljava/lang/String;" } : Jvm.MethodName)).before a0 Z = true := hw _ (List.mem_of_getElem? (i := 111) rfl)
theorem own_q112 {Z : State} {a0 : Array Value} (hw : ∀ d ∈ tables_1, d.before a0 Z = true) : (Jvm.Cond.instanceMethod ({ cls := "com/example/portcullis/portcullis/OAuthException", name := "error", desc := "()Ljava/lang/String;" } : Jvm.MethodName)).before a0 Z = true := hw _ (List.mem_of_getElem? (i := 112) rfl)
theorem own_q113 {Z : State} {a0 : Array Value} (hw : ∀ d ∈ tables_1, d.before a0 Z = true) : (Jvm.Cond.selects "com/example/portcullis/portcullis/OAuthException" ({ cls := "com/example/portcullis/portcullis/OAuthException", name := "error", desc := "()Ljava/lang/String;" } : Jvm.MethodName) ({ cls := "com/example/portcullis/portcullis/OAuthException", name := "error", desc := "()Ljava/lang/String;" } : Jvm.MethodName)).before a0 Z = true := hw _ (List.mem_of_getElem? (i := 113) rfl)
theorem own_q114 {Z : State} {a0 : Array Value} (hw : ∀ d ∈ tables_1, d.before a0 Z = true) : (Jvm.Cond.code ({ cls := "com/example/portcullis/portcullis/OAuthException", name := "error", desc := "()Ljava/lang/String;" } : Jvm.MethodName) prog_13_method_6_code (1 : Nat) (Option.some (Jvm.ClassFile.FieldType.object "java/lang/String"))).before a0 Z = true := hw _ (List.mem_of_getElem? (i := 114) rfl)
theorem own_q115 {Z : State} {a0 : Array Value} (hw : ∀ d ∈ tables_1, d.before a0 Z = true) : (Jvm.Cond.methodLink "com/example/portcullis/portcullis/OAuthException" (33 : Nat) ({ cls := "com/example/portcullis/portcullis/ErrorCode", name := "standardName", desc := "()Ljava/lang/String;" } : Jvm.MethodName)).before a0 Z = true := hw _ (List.mem_of_getElem? (i := 115) rfl)
theorem own_q116 {Z : State} {a0 : Array Value} (hw : ∀ d ∈ tables_1, d.before a0 Z = true) : (Jvm.Cond.methodLink "com/example/portcullis/portcullis/OAuthExceptionDescribedAsPinLaw" (40 : Nat) ({ cls := "java/lang/String", name := "equals", desc := "(Ljava/lang/Object;)Z" } : Jvm.MethodName)).before a0 Z = true := hw _ (List.mem_of_getElem? (i := 116) rfl)
theorem own_q117 {Z : State} {a0 : Array Value} (hw : ∀ d ∈ tables_1, d.before a0 Z = true) : (Jvm.Cond.declares ({ cls := "java/lang/String", name := "equals", desc := "(Ljava/lang/Object;)Z" } : Jvm.MethodName)).before a0 Z = true := hw _ (List.mem_of_getElem? (i := 117) rfl)
theorem own_q118 {Z : State} {a0 : Array Value} (hw : ∀ d ∈ tables_1, d.before a0 Z = true) : (Jvm.Cond.instanceMethod ({ cls := "java/lang/String", name := "equals", desc := "(Ljava/lang/Object;)Z" } : Jvm.MethodName)).before a0 Z = true := hw _ (List.mem_of_getElem? (i := 118) rfl)
theorem own_q119 {Z : State} {a0 : Array Value} (hw : ∀ d ∈ tables_1, d.before a0 Z = true) : (Jvm.Cond.selects "java/lang/String" ({ cls := "java/lang/String", name := "equals", desc := "(Ljava/lang/Object;)Z" } : Jvm.MethodName) ({ cls := "java/lang/String", name := "equals", desc := "(Ljava/lang/Object;)Z" } : Jvm.MethodName)).before a0 Z = true := hw _ (List.mem_of_getElem? (i := 119) rfl)
theorem own_q120 {Z : State} {a0 : Array Value} (hw : ∀ d ∈ tables_1, d.before a0 Z = true) : (Jvm.Cond.code ({ cls := "java/lang/String", name := "equals", desc := "(Ljava/lang/Object;)Z" } : Jvm.MethodName) jdk_42_method_66_code (3 : Nat) (Option.some Jvm.ClassFile.FieldType.boolean)).before a0 Z = true := hw _ (List.mem_of_getElem? (i := 120) rfl)
theorem own_q121 {Z : State} {a0 : Array Value} (hw : ∀ d ∈ tables_1, d.before a0 Z = true) : (Jvm.Cond.methodLink "com/example/portcullis/portcullis/OAuthExceptionDescribedAsPinLaw" (46 : Nat) ({ cls := "com/example/portcullis/portcullis/OAuthException", name := "getMessage", desc := "()Ljava/lang/String;" } : Jvm.MethodName)).before a0 Z = true := hw _ (List.mem_of_getElem? (i := 121) rfl)
theorem own_q122 {Z : State} {a0 : Array Value} (hw : ∀ d ∈ tables_1, d.before a0 Z = true) : (Jvm.Cond.sameMethod "com/example/portcullis/portcullis/OAuthException" "java/lang/Throwable" "getMessage" "()Ljava/lang/String;").before a0 Z = true := hw _ (List.mem_of_getElem? (i := 122) rfl)
theorem own_q123 {Z : State} {a0 : Array Value} (hw : ∀ d ∈ tables_1, d.before a0 Z = true) : (Jvm.Cond.declares ({ cls := "java/lang/Throwable", name := "getMessage", desc := "()Ljava/lang/String;" } : Jvm.MethodName)).before a0 Z = true := hw _ (List.mem_of_getElem? (i := 123) rfl)
theorem own_q124 {Z : State} {a0 : Array Value} (hw : ∀ d ∈ tables_1, d.before a0 Z = true) : (Jvm.Cond.instanceMethod ({ cls := "java/lang/Throwable", name := "getMessage", desc := "()Ljava/lang/String;" } : Jvm.MethodName)).before a0 Z = true := hw _ (List.mem_of_getElem? (i := 124) rfl)
theorem own_q125 {Z : State} {a0 : Array Value} (hw : ∀ d ∈ tables_1, d.before a0 Z = true) : (Jvm.Cond.selects "com/example/portcullis/portcullis/OAuthException" ({ cls := "com/example/portcullis/portcullis/OAuthException", name := "getMessage", desc := "()Ljava/lang/String;" } : Jvm.MethodName) ({ cls := "java/lang/Throwable", name := "getMessage", desc := "()Ljava/lang/String;" } : Jvm.MethodName)).before a0 Z = true := hw _ (List.mem_of_getElem? (i := 125) rfl)
theorem own_q126 {Z : State} {a0 : Array Value} (hw : ∀ d ∈ tables_1, d.before a0 Z = true) : (Jvm.Cond.code ({ cls := "java/lang/Throwable", name := "getMessage", desc := "()Ljava/lang/String;" } : Jvm.MethodName) jdk_78_method_6_code (1 : Nat) (Option.some (Jvm.ClassFile.FieldType.object "java/lang/String"))).before a0 Z = true := hw _ (List.mem_of_getElem? (i := 126) rfl)
theorem own_q127 {Z : State} {a0 : Array Value} (hw : ∀ d ∈ tables_1, d.before a0 Z = true) : (Jvm.Cond.fieldLink "com/example/portcullis/portcullis/OAuthExceptionDescribedAsPinLaw" (89 : Nat) "com/example/portcullis/portcullis/ErrorCode" "REQUEST_URI_NOT_SUPPORTED" "Lcom/example/portcullis/portcullis/ErrorCode;").before a0 Z = true := hw _ (List.mem_of_getElem? (i := 127) rfl)
theorem own_q128 {Z : State} {a0 : Array Value} (hw : ∀ d ∈ tables_1, d.before a0 Z = true) : (Jvm.Cond.laysStatic "com/example/portcullis/portcullis/ErrorCode" "REQUEST_URI_NOT_SUPPORTED" "Lcom/example/portcullis/portcullis/ErrorCode;").before a0 Z = true := hw _ (List.mem_of_getElem? (i := 128) rfl)
theorem own_q129 {Z : State} {a0 : Array Value} (hw : ∀ d ∈ tables_1, d.before a0 Z = true) : (Jvm.Cond.fieldLink "com/example/portcullis/portcullis/OAuthExceptionDescribedAsPinLaw" (56 : Nat) "com/example/portcullis/portcullis/ErrorCode" "INVALID_CLIENT" "Lcom/example/portcullis/portcullis/ErrorCode;").before a0 Z = true := hw _ (List.mem_of_getElem? (i := 129) rfl)
theorem own_q130 {Z : State} {a0 : Array Value} (hw : ∀ d ∈ tables_1, d.before a0 Z = true) : (Jvm.Cond.laysStatic "com/example/portcullis/portcullis/ErrorCode" "INVALID_CLIENT" "Lcom/example/portcullis/portcullis/ErrorCode;").before a0 Z = true := hw _ (List.mem_of_getElem? (i := 130) rfl)
theorem own_q131 {Z : State} {a0 : Array Value} (hw : ∀ d ∈ tables_1, d.before a0 Z = true) : (Jvm.Cond.fieldLink "com/example/portcullis/portcullis/OAuthExceptionDescribedAsPinLaw" (59 : Nat) "com/example/portcullis/portcullis/ErrorCode" "INVALID_GRANT" "Lcom/example/portcullis/portcullis/ErrorCode;").before a0 Z = true := hw _ (List.mem_of_getElem? (i := 131) rfl)
theorem own_q132 {Z : State} {a0 : Array Value} (hw : ∀ d ∈ tables_1, d.before a0 Z = true) : (Jvm.Cond.laysStatic "com/example/portcullis/portcullis/ErrorCode" "INVALID_GRANT" "Lcom/example/portcullis/portcullis/ErrorCode;").before a0 Z = true := hw _ (List.mem_of_getElem? (i := 132) rfl)
theorem own_q144 {Z : State} {a0 : Array Value} (hw : ∀ d ∈ tables_1, d.before a0 Z = true) : (Jvm.Cond.fieldLink "com/example/portcullis/portcullis/OAuthExceptionDescribedAsPinLaw" (62 : Nat) "com/example/portcullis/portcullis/ErrorCode" "UNAUTHORIZED_CLIENT" "Lcom/example/portcullis/portcullis/ErrorCode;").before a0 Z = true := hw _ (List.mem_of_getElem? (i := 144) rfl)
theorem own_q145 {Z : State} {a0 : Array Value} (hw : ∀ d ∈ tables_1, d.before a0 Z = true) : (Jvm.Cond.laysStatic "com/example/portcullis/portcullis/ErrorCode" "UNAUTHORIZED_CLIENT" "Lcom/example/portcullis/portcullis/ErrorCode;").before a0 Z = true := hw _ (List.mem_of_getElem? (i := 145) rfl)
theorem own_q146 {Z : State} {a0 : Array Value} (hw : ∀ d ∈ tables_1, d.before a0 Z = true) : (Jvm.Cond.fieldLink "com/example/portcullis/portcullis/OAuthExceptionDescribedAsPinLaw" (77 : Nat) "com/example/portcullis/portcullis/ErrorCode" "INVALID_TOKEN" "Lcom/example/portcullis/portcullis/ErrorCode;").before a0 Z = true := hw _ (List.mem_of_getElem? (i := 146) rfl)
theorem own_q147 {Z : State} {a0 : Array Value} (hw : ∀ d ∈ tables_1, d.before a0 Z = true) : (Jvm.Cond.laysStatic "com/example/portcullis/portcullis/ErrorCode" "INVALID_TOKEN" "Lcom/example/portcullis/portcullis/ErrorCode;").before a0 Z = true := hw _ (List.mem_of_getElem? (i := 147) rfl)
theorem own_q148 {Z : State} {a0 : Array Value} (hw : ∀ d ∈ tables_1, d.before a0 Z = true) : (Jvm.Cond.fieldLink "com/example/portcullis/portcullis/OAuthExceptionDescribedAsPinLaw" (71 : Nat) "com/example/portcullis/portcullis/ErrorCode" "UNSUPPORTED_RESPONSE_TYPE" "Lcom/example/portcullis/portcullis/ErrorCode;").before a0 Z = true := hw _ (List.mem_of_getElem? (i := 148) rfl)
theorem own_q149 {Z : State} {a0 : Array Value} (hw : ∀ d ∈ tables_1, d.before a0 Z = true) : (Jvm.Cond.laysStatic "com/example/portcullis/portcullis/ErrorCode" "UNSUPPORTED_RESPONSE_TYPE" "Lcom/example/portcullis/portcullis/ErrorCode;").before a0 Z = true := hw _ (List.mem_of_getElem? (i := 149) rfl)
theorem own_q150 {Z : State} {a0 : Array Value} (hw : ∀ d ∈ tables_1, d.before a0 Z = true) : (Jvm.Cond.fieldLink "com/example/portcullis/portcullis/OAuthExceptionDescribedAsPinLaw" (68 : Nat) "com/example/portcullis/portcullis/ErrorCode" "INVALID_SCOPE" "Lcom/example/portcullis/portcullis/ErrorCode;").before a0 Z = true := hw _ (List.mem_of_getElem? (i := 150) rfl)
theorem own_q151 {Z : State} {a0 : Array Value} (hw : ∀ d ∈ tables_1, d.before a0 Z = true) : (Jvm.Cond.laysStatic "com/example/portcullis/portcullis/ErrorCode" "INVALID_SCOPE" "Lcom/example/portcullis/portcullis/ErrorCode;").before a0 Z = true := hw _ (List.mem_of_getElem? (i := 151) rfl)
theorem own_q152 {Z : State} {a0 : Array Value} (hw : ∀ d ∈ tables_1, d.before a0 Z = true) : (Jvm.Cond.fieldLink "com/example/portcullis/portcullis/OAuthExceptionDescribedAsPinLaw" (65 : Nat) "com/example/portcullis/portcullis/ErrorCode" "UNSUPPORTED_GRANT_TYPE" "Lcom/example/portcullis/portcullis/ErrorCode;").before a0 Z = true := hw _ (List.mem_of_getElem? (i := 152) rfl)
theorem own_q153 {Z : State} {a0 : Array Value} (hw : ∀ d ∈ tables_1, d.before a0 Z = true) : (Jvm.Cond.laysStatic "com/example/portcullis/portcullis/ErrorCode" "UNSUPPORTED_GRANT_TYPE" "Lcom/example/portcullis/portcullis/ErrorCode;").before a0 Z = true := hw _ (List.mem_of_getElem? (i := 153) rfl)
theorem own_q154 {Z : State} {a0 : Array Value} (hw : ∀ d ∈ tables_1, d.before a0 Z = true) : (Jvm.Cond.fieldLink "com/example/portcullis/portcullis/OAuthExceptionDescribedAsPinLaw" (80 : Nat) "com/example/portcullis/portcullis/ErrorCode" "INSUFFICIENT_SCOPE" "Lcom/example/portcullis/portcullis/ErrorCode;").before a0 Z = true := hw _ (List.mem_of_getElem? (i := 154) rfl)
theorem own_q155 {Z : State} {a0 : Array Value} (hw : ∀ d ∈ tables_1, d.before a0 Z = true) : (Jvm.Cond.laysStatic "com/example/portcullis/portcullis/ErrorCode" "INSUFFICIENT_SCOPE" "Lcom/example/portcullis/portcullis/ErrorCode;").before a0 Z = true := hw _ (List.mem_of_getElem? (i := 155) rfl)
theorem own_q156 {Z : State} {a0 : Array Value} (hw : ∀ d ∈ tables_1, d.before a0 Z = true) : (Jvm.Cond.fieldLink "com/example/portcullis/portcullis/OAuthExceptionDescribedAsPinLaw" (74 : Nat) "com/example/portcullis/portcullis/ErrorCode" "SERVER_ERROR" "Lcom/example/portcullis/portcullis/ErrorCode;").before a0 Z = true := hw _ (List.mem_of_getElem? (i := 156) rfl)
theorem own_q157 {Z : State} {a0 : Array Value} (hw : ∀ d ∈ tables_1, d.before a0 Z = true) : (Jvm.Cond.laysStatic "com/example/portcullis/portcullis/ErrorCode" "SERVER_ERROR" "Lcom/example/portcullis/portcullis/ErrorCode;").before a0 Z = true := hw _ (List.mem_of_getElem? (i := 157) rfl)
theorem own_q158 {Z : State} {a0 : Array Value} (hw : ∀ d ∈ tables_1, d.before a0 Z = true) : (Jvm.Cond.fieldLink "com/example/portcullis/portcullis/OAuthExceptionDescribedAsPinLaw" (83 : Nat) "com/example/portcullis/portcullis/ErrorCode" "LOGIN_REQUIRED" "Lcom/example/portcullis/portcullis/ErrorCode;").before a0 Z = true := hw _ (List.mem_of_getElem? (i := 158) rfl)
theorem own_q159 {Z : State} {a0 : Array Value} (hw : ∀ d ∈ tables_1, d.before a0 Z = true) : (Jvm.Cond.laysStatic "com/example/portcullis/portcullis/ErrorCode" "LOGIN_REQUIRED" "Lcom/example/portcullis/portcullis/ErrorCode;").before a0 Z = true := hw _ (List.mem_of_getElem? (i := 159) rfl)
theorem own_q160 {Z : State} {a0 : Array Value} (hw : ∀ d ∈ tables_1, d.before a0 Z = true) : (Jvm.Cond.fieldLink "com/example/portcullis/portcullis/OAuthExceptionDescribedAsPinLaw" (86 : Nat) "com/example/portcullis/portcullis/ErrorCode" "REQUEST_NOT_SUPPORTED" "Lcom/example/portcullis/portcullis/ErrorCode;").before a0 Z = true := hw _ (List.mem_of_getElem? (i := 160) rfl)
theorem own_q161 {Z : State} {a0 : Array Value} (hw : ∀ d ∈ tables_1, d.before a0 Z = true) : (Jvm.Cond.laysStatic "com/example/portcullis/portcullis/ErrorCode" "REQUEST_NOT_SUPPORTED" "Lcom/example/portcullis/portcullis/ErrorCode;").before a0 Z = true := hw _ (List.mem_of_getElem? (i := 161) rfl)

section Strs
variable {md : Nat} {p : Program} {l : Launch} {e : Env} {R : Room} {s : State} {m : MethodId} {args : Array Value} {below : List Frame} {meth : Method} {c : Code} {own : String} {Z : State} {EL : List (String × Nat)} {vm : Vm} {T : State} {h h' h0 : Heap} {cells slots : Nat} {P : Outcome → State → Prop} {pc : Nat} {L : Array Slot} {a0 : Array Value} {a b : Addr} {cs ds : List Int32} {W : Nat}
def own_lat (cs : List Int32) : Prop := ∀ c ∈ cs, ¬ c < 0 ∧ ¬ (255 : Int32) < c
def own_str (Z : State) (h : Heap) (a : Addr) (cs : List Int32) : Prop := own_lat cs ∧ cs.length ≤ 4000 ∧ ∃ b k, Exa Z h a "java/lang/String" ∧ Fld Z h a "java/lang/String" "coder" "B" (.int 0) ∧ Fld Z h a "java/lang/String" "value" "[B" (.ref b) ∧ Arv Z h b k .byte (Int32.ofNat cs.length) ((cs.map fun c => c.toInt8.toInt32).map Value.int) (.int 0)
theorem own_str.ext (F : own_str Z h a cs) (E : Ext h h') : own_str Z h' a cs := by
  obtain ⟨f1, f2, b, k, f3, f4, f5, f6⟩ := F; exact ⟨f1, f2, b, k, f3.ext E, f4.ext E, f5.ext E, f6.ext E⟩
theorem own_str.exa (F : own_str Z h a cs) : Exa Z h a "java/lang/String" := by obtain ⟨-, -, _, _, f3, -⟩ := F; exact f3
theorem own_str.lat (F : own_str Z h a cs) : own_lat cs := F.1
theorem own_str.lt (F : own_str Z h a cs) : a < h.size := F.exa.lt
/-- over a step that writes new cells alone -/
theorem own_str.keep {ws : List Addr} (F : own_str Z h a cs) (K : Keep h h' ws) (q : ∀ x ∈ ws, h.size ≤ x) : own_str Z h' a cs := by
  obtain ⟨f1, f2, b, k, f3, f4, f5, f6⟩ := F
  have na : a ∉ ws := fun z => absurd (q a z) (Nat.not_le.mpr f3.lt)
  have nb : b ∉ ws := fun z => absurd (q b z) (Nat.not_le.mpr f6.lt)
  exact ⟨f1, f2, b, k, f3.keep K, f4.keep K na, f5.keep K na, f6.keep K nb⟩
theorem own_up (H : own_lat cs) : ∀ c ∈ cs, ¬ c < 0 ∧ ¬ (65535 : Int32) < c := fun c hc => ⟨(H c hc).1, fun q => (H c hc).2 (by
  rw [Int32.lt_iff_toInt_lt] at q ⊢
  have e1 : (65535 : Int32).toInt = 65535 := by decide
  have e2 : (255 : Int32).toInt = 255 := by decide
  omega)⟩
theorem own_lat_nil : own_lat [] := fun c hc => by cases hc
theorem own_lat_cons {x : Int32} (hx : 0 ≤ x.toInt ∧ x.toInt ≤ 255) (H : own_lat cs) : own_lat (x :: cs) := fun c hc => by
  rcases List.mem_cons.mp hc with rfl | hc
  · have e1 : (0 : Int32).toInt = 0 := by decide
    have e2 : (255 : Int32).toInt = 255 := by decide
    rw [Int32.lt_iff_toInt_lt, Int32.lt_iff_toInt_lt]; omega
  · exact H c hc
theorem own_b16 {x : Int32} (hx : 0 ≤ x.toInt ∧ x.toInt ≤ 255) : 0 ≤ x.toInt ∧ x.toInt ≤ 65535 := ⟨hx.1, by omega⟩
theorem own_cod (H : own_lat cs) : StrChars.Road.CodA cs 0 (Int32.ofNat cs.length) ((cs.map fun c => c.toInt8.toInt32).map Value.int) := StrChars.Road.codOf (cs := cs) rfl fun c hc => (H c hc).2
def own_cs (Z : State) : Prop := ∃ z : Int32, Sta Z Z.heap "java/lang/String" "COMPACT_STRINGS" "Z" (.int z) ∧ ¬ z = 0
def own_sf (Z : State) : Prop := ∃ fm : Value, Sta Z Z.heap "jdk/internal/util/Preconditions" "SIOOBE_FORMATTER" "Ljava/util/function/BiFunction;" fm ∧ fm.isRef = true
theorem own_ext_wr {sl : Nat} {v : Value} (E : Ext h0 h) (W : Wr h h' a sl v) (q : h0.size ≤ a) : Ext h0 h' := by
  obtain ⟨cell, h1, h2, h3, rfl⟩ := W
  refine ⟨by simpa using E.1, fun x c hx => ?_⟩
  have := (Array.getElem?_eq_some_iff.mp hx).1
  rw [Array.getElem?_setIfInBounds_ne (by omega)]; exact E.2 x c hx
theorem own_ext_keep {ws : List Addr} (E : Ext h0 h) (K : Keep h h' ws) (q : ∀ x ∈ ws, h0.size ≤ x) : Ext h0 h' :=
  ⟨Nat.le_trans E.1 K.1, fun x c hx => K.2.1 x c (E.2 x c hx) fun z => absurd (q x z) (Nat.not_le.mpr (Array.getElem?_eq_some_iff.mp hx).1)⟩
theorem own_ext_trans {h1 h2 : Heap} (E : Ext h0 h1) (E' : Ext h1 h2) : Ext h0 h2 := ⟨Nat.le_trans E.1 E'.1, fun x c hx => E'.2 x c (E.2 x c hx)⟩
theorem own_ext_refl : Ext h h := ⟨Nat.le_refl _, fun _ _ q => q⟩
theorem own_nar {x : Int32} (hx : 0 ≤ x.toInt ∧ x.toInt ≤ 65535) : nar .char x = x := by
  have := c_i2c x
  refine Int32.toInt_inj.mp ?_
  show x.toUInt32.toUInt16.toUInt32.toInt32.toInt = x.toInt
  omega
/-- a String as 'new' leaves it -/
def own_raw (Z : State) (h : Heap) (a : Addr) : Prop := Exa Z h a "java/lang/String" ∧ (∃ v0, Fld Z h a "java/lang/String" "value" "[B" v0) ∧ ∃ c0, Fld Z h a "java/lang/String" "coder" "B" c0
theorem own_raw.ext (F : own_raw Z h a) (E : Ext h h') : own_raw Z h' a := by obtain ⟨f1, ⟨v, f2⟩, d, f3⟩ := F; exact ⟨f1.ext E, ⟨v, f2.ext E⟩, d, f3.ext E⟩
theorem own_raw.wr {sl : Nat} {v : Value} (F : own_raw Z h a) (W : Wr h h' b sl v) (q : a ≠ b) : own_raw Z h' a := by obtain ⟨f1, ⟨v, f2⟩, d, f3⟩ := F; exact ⟨f1.wr W, ⟨v, f2.other W (Or.inl q)⟩, d, f3.other W (Or.inl q)⟩
theorem own_pd0 : parseMethodDescriptor "([C)V" = some ⟨[(.array .char)], none⟩ := by decide +kernel
theorem own_mk (S : St md p l e R s m args below meth c own Z EL vm T h cells slots) (hx : p.tables.exec = Jvm.exec) (hw : ∀ d ∈ tables_1, d.before a0 Z = true) (G : own_cs Z) (n : Nat) (hn : cs.length = n) {index : Nat} (w1 : (Cond.methodLink own index (⟨"java/lang/String", "<init>", "([C)V"⟩ : MethodName)).before a0 Z = true) {kC : ClassId} {d : Value} (F : own_raw Z h a) (Kc : Arv Z h b kC .char (Int32.ofNat cs.length) (cs.map Value.int) d) (sf : Safe Z EL vm h a) (ga : Z.heap.size ≤ a) (l0 : 0 < n) (l2 : n ≤ 4000) (hp : own_lat cs) (hf : 4 ≤ R.frames) (hl : W + 65 ≤ R.locals) (hml : L.size = c.maxLocals) (rest : List Value) (hW : (rest.map fun v => v.category).sum ≤ W) (hd : decode c.code pc = .ok (.invokespecial index, 3)) (hc : cells + 1 ≤ R.cells) (hs : slots + n ≤ R.slots) (p' : Nat) (hp' : p' = pc + 3)
    (q : ∀ T' h', St md p l e R s m args below meth c own Z EL vm T' h' (cells + 1) (slots + n) → own_str Z h' a cs → Keep h h' [a] → CHr Z EL vm h vm h' → Goes p.tables e below P T' (mkF m p' L rest)) : Goes p.tables e below P T (mkF m pc L (.ref b :: .ref a :: rest)) := by
  subst hn
  obtain ⟨f1, ⟨v0, f2⟩, c0, f3⟩ := F
  obtain ⟨z, g1, g2⟩ := G
  have hws : ∀ d ∈ StrChars.Road.words, d.before a0 Z = true := fun d hd => hw d ((by decide +kernel : ∀ d ∈ StrChars.Road.words, d ∈ tables_1) d hd)
  refine S.callIN hx rfl w1 (own_q16 hw) (own_q17 hw) (by decide) (StrChars.Road.backV (s := s.setVm vm) (W := W) S.warm hws (kI := 4) (own_q12 hw) (cs := cs) (bs := cs.map fun c => c.toInt8.toInt32) (n := cs.length) (n0 := Z.heap.size) ga S.size f1 f2 f3 Kc (g1.ext S.old.2) g2 rfl rfl l0 l2 hp rfl hf hl) ?_ hml [.ref b] rest (lenOf own_pd0 rfl) rfl rfl hW hd hc hs p' hp' ?_
  · intro v h' Lc r
    have sa : ∀ x ∈ [a], Safe Z EL vm h x := fun x hx => by cases List.mem_singleton.mp hx; exact sf
    exact ⟨r.2.1, S.old.keep r.2.2.1 (fun x hx => by cases List.mem_singleton.mp hx; exact ga), CHr.keep r.2.2.1 sa S.chr.1⟩
  · intro v T' h' Lc S' r R'
    obtain ⟨rfl, -, r3, r4, r5, t, kb, -, -, -, r6, r7⟩ := r
    exact q T' h' S' ⟨hp, l2, t, kb, r4, r5, r6, r7⟩ r3 R'
end Strs
theorem own_wS {Z : State} {a0 : Array Value} (hw : ∀ d ∈ tables_1, d.before a0 Z = true) : ∀ a ∈ Bundle.stringAtoms, a.before a0 Z = true := fun d hd => hw d ((by decide +kernel : ∀ d ∈ Bundle.stringAtoms, d ∈ tables_1) d hd)
theorem own_ew {Z : State} {a0 : Array Value} (hw : ∀ d ∈ tables_1, d.before a0 Z = true) : EW Z a0 consts_1 := EW.cons (own_q25 hw) (by decide +kernel) EW.nil
theorem own_b8 (x : Int32) : 0 ≤ (x &&& (255 : Int32)).toUInt32.toUInt16.toUInt32.toInt32.toInt ∧ (x &&& (255 : Int32)).toUInt32.toUInt16.toUInt32.toInt32.toInt ≤ 255 := by
  have h1 := c_and x 255 (by decide)
  have e : (255 : Int32).toInt = 255 := by decide
  have h2 := c_i2c (x &&& 255)
  omega
/-- a constant of the enum: its class, its name's String -/
def own_ec (Z : State) (h : Heap) (a : Addr) : Prop := Exa Z h a "com/example/portcullis/portcullis/ErrorCode" ∧ ∃ n : Addr, Fld Z h a "com/example/portcullis/portcullis/ErrorCode" "standardName" "Ljava/lang/String;" (.ref n) ∧ Exa Z h n "java/lang/String"
theorem own_ec.ext {Z : State} {h h' : Heap} {a : Addr} (F : own_ec Z h a) (E : Ext h h') : own_ec Z h' a := by obtain ⟨f1, n, f2, f3⟩ := F; exact ⟨f1.ext E, n, f2.ext E, f3.ext E⟩
def own_en (Z : State) (as : List Addr) : Prop := ∃ e0 e1 e2 e3 e4 e5 e6 e7 e8 e9 e10 e11 e12 : Addr, as = [e0, e1, e2, e3, e4, e5, e6, e7, e8, e9, e10, e11, e12] ∧ Sta Z Z.heap "com/example/portcullis/portcullis/ErrorCode" "INVALID_REQUEST" "Lcom/example/portcullis/portcullis/ErrorCode;" (.ref e0) ∧ own_ec Z Z.heap e0 ∧ Sta Z Z.heap "com/example/portcullis/portcullis/ErrorCode" "INVALID_CLIENT" "Lcom/example/portcullis/portcullis/ErrorCode;" (.ref e1) ∧ own_ec Z Z.heap e1 ∧ Sta Z Z.heap "com/example/portcullis/portcullis/ErrorCode" "INVALID_GRANT" "Lcom/example/portcullis/portcullis/ErrorCode;" (.ref e2) ∧ own_ec Z Z.heap e2 ∧ Sta Z Z.heap "com/example/portcullis/portcullis/ErrorCode" "UNAUTHORIZED_CLIENT" "Lcom/example/portcullis/portcullis/ErrorCode;" (.ref e3) ∧ own_ec Z Z.heap e3 ∧ Sta Z Z.heap "com/example/portcullis/portcullis/ErrorCode" "UNSUPPORTED_GRANT_TYPE" "Lcom/example/portcullis/portcullis/ErrorCode;" (.ref e4) ∧ own_ec Z Z.heap e4 ∧ Sta Z Z.heap "com/example/portcullis/portcullis/ErrorCode" "INVALID_SCOPE" "Lcom/example/portcullis/portcullis/ErrorCode;" (.ref e5) ∧ own_ec Z Z.heap e5 ∧ Sta Z Z.heap "com/example/portcullis/portcullis/ErrorCode" "UNSUPPORTED_RESPONSE_TYPE" "Lcom/example/portcullis/portcullis/ErrorCode;" (.ref e6) ∧ own_ec Z Z.heap e6 ∧ Sta Z Z.heap "com/example/portcullis/portcullis/ErrorCode" "SERVER_ERROR" "Lcom/example/portcullis/portcullis/ErrorCode;" (.ref e7) ∧ own_ec Z Z.heap e7 ∧ Sta Z Z.heap "com/example/portcullis/portcullis/ErrorCode" "INVALID_TOKEN" "Lcom/example/portcullis/portcullis/ErrorCode;" (.ref e8) ∧ own_ec Z Z.heap e8 ∧ Sta Z Z.heap "com/example/portcullis/portcullis/ErrorCode" "INSUFFICIENT_SCOPE" "Lcom/example/portcullis/portcullis/ErrorCode;" (.ref e9) ∧ own_ec Z Z.heap e9 ∧ Sta Z Z.heap "com/example/portcullis/portcullis/ErrorCode" "LOGIN_REQUIRED" "Lcom/example/portcullis/portcullis/ErrorCode;" (.ref e10) ∧ own_ec Z Z.heap e10 ∧ Sta Z Z.heap "com/example/portcullis/portcullis/ErrorCode" "REQUEST_NOT_SUPPORTED" "Lcom/example/portcullis/portcullis/ErrorCode;" (.ref e11) ∧ own_ec Z Z.heap e11 ∧ Sta Z Z.heap "com/example/portcullis/portcullis/ErrorCode" "REQUEST_URI_NOT_SUPPORTED" "Lcom/example/portcullis/portcullis/ErrorCode;" (.ref e12) ∧ own_ec Z Z.heap e12
/-- one exception -/
def own_ex (Z : State) (h : Heap) (d cd : Addr) (st : Int32) (msg : Addr) : Prop := Exa Z h d "com/example/portcullis/portcullis/OAuthException" ∧ Fld Z h d "com/example/portcullis/portcullis/OAuthException" "code" "Lcom/example/portcullis/portcullis/ErrorCode;" (.ref cd) ∧ Fld Z h d "com/example/portcullis/portcullis/OAuthException" "status" "I" (.int st) ∧ Fld Z h d "java/lang/Throwable" "detailMessage" "Ljava/lang/String;" (.ref msg)
theorem own_ex.ext {Z : State} {h h' : Heap} {d cd msg : Addr} {st : Int32} (F : own_ex Z h d cd st msg) (E : Ext h h') : own_ex Z h' d cd st msg := by obtain ⟨f1, f2, f3, f4⟩ := F; exact ⟨f1.ext E, f2.ext E, f3.ext E, f4.ext E⟩
/-- what the stack trace's law asks of the start -/
def own_tr (l : Launch) (Z : State) (a0 : Array Value) : Prop := l.stackTraces = true ∧ ∃ us ss : Addr, Sta Z Z.heap "java/lang/Throwable" "UNASSIGNED_STACK" "[Ljava/lang/StackTraceElement;" (.ref us) ∧ Sta Z Z.heap "java/lang/Throwable" "SUPPRESSED_SENTINEL" "Ljava/util/List;" (.ref ss)
def own_has (Z : State) (h : Heap) (a : Addr) (C n d : String) : Prop := ∃ w, Fld Z h a C n d w
theorem own_has.wr {Z : State} {h h' : Heap} {a b : Addr} {C n d : String} {sl : Nat} {v : Value} (F : own_has Z h a C n d) (W : Wr h h' b sl v) : own_has Z h' a C n d := by
  obtain ⟨w, F⟩ := F
  by_cases e : a = b
  · subst e
    by_cases q : Jvm.RoadKit.slotOf Z C n d = sl
    · subst q; exact ⟨v, F.same W⟩
    · exact ⟨w, F.other W (Or.inr q)⟩
  · exact ⟨w, F.other W (Or.inl e)⟩
theorem own_has.keep {Z : State} {h h' : Heap} {a : Addr} {C n d : String} {ws : List Addr} (F : own_has Z h a C n d) (K : Keep h h' ws) : own_has Z h' a C n d := by
  obtain ⟨w, cell, cf, k, i, f, h1, h2, h3, h4, h5, h6, h7⟩ := F
  obtain ⟨c', q1, q2, q3, q4⟩ := K.2.2 a cell h1
  have lt : f.slot < c'.slots.size := by rw [q4]; exact (Array.getElem?_eq_some_iff.mp h7).1
  exact ⟨_, c', cf, k, i, f, q1, h2, h3, by rw [q3]; exact h4, by rw [q3]; exact h5, by rw [q2]; exact h6, Array.getElem?_eq_getElem lt⟩
theorem own_thw {Z : State} {a0 : Array Value} (hw : ∀ d ∈ tables_1, d.before a0 Z = true) : ∀ c ∈ own_thl "com/example/portcullis/portcullis/OAuthException", c.before a0 Z = true := fun d hd => hw d ((by decide +kernel : ∀ d ∈ own_thl "com/example/portcullis/portcullis/OAuthException", d ∈ tables_1) d hd)
def own_t0 : List Int32 := []
theorem own_t0_lat : own_lat own_t0 := own_lat_nil
theorem own_ef1 (m : MethodId) (x0 : Addr) (x1 : Addr) (x2 : Int32) (x3 : Int32) : entryFrame m #[(.ref x0), (.ref x1), (.int x2), (.int x3), .null] 6 = mkF m 0 #[.val (.ref x0), .val (.ref x1), .val (.int x2), .val (.int x3), .val .null, .unset] [] := by first | (simp [entryFrame, mkF, argsToLocals, Value.category]; done) | rfl
theorem own_d2 : decode jdk_42_method_149_code 0 = .ok (.aload_n 0, 1) := by decide +kernel
theorem own_d3 : decode jdk_42_method_149_code 1 = .ok (.invokespecial 1, 3) := by decide +kernel
theorem own_d4 : decode jdk_42_method_149_code 4 = .ok (.iload_n 3, 1) := by decide +kernel
theorem own_d5 : decode jdk_42_method_149_code 5 = .ok (.ifCond .ne 22, 3) := by decide +kernel
theorem own_d6 : decode jdk_42_method_149_code 8 = .ok (.aload_n 0, 1) := by decide +kernel
theorem own_d7 : decode jdk_42_method_149_code 9 = .ok (.ldc 7, 2) := by decide +kernel
theorem own_d8 : decode jdk_42_method_149_code 11 = .ok (.getfield 9, 3) := by decide +kernel
theorem own_d9 : decode jdk_42_method_149_code 14 = .ok (.putfield 9, 3) := by decide +kernel
theorem own_d10 : decode jdk_42_method_149_code 17 = .ok (.aload_n 0, 1) := by decide +kernel
theorem own_d11 : decode jdk_42_method_149_code 18 = .ok (.ldc 7, 2) := by decide +kernel
theorem own_d12 : decode jdk_42_method_149_code 20 = .ok (.getfield 15, 3) := by decide +kernel
theorem own_d13 : decode jdk_42_method_149_code 23 = .ok (.putfield 15, 3) := by decide +kernel
theorem own_d14 : decode jdk_42_method_149_code 26 = .ok (.return_, 1) := by decide +kernel
theorem own_pn15 : plainName "java/lang/String" = true := by first | (simp [plainName, overriddenIn]; done) | decide +kernel
set_option maxRecDepth 65536 in
set_option maxHeartbeats 40000000 in
theorem ctE4 (l : Launch) (Z : State) (a0 : Array Value) (hw : ∀ d ∈ tables_1, d.before a0 Z = true) (a b : Addr) (h : Heap) (O : Old Z Z.heap.size h) (F : own_raw Z h a) (ga : Z.heap.size ≤ a) :
    Ct 2 l Z consts_1 [a] (⟨"java/lang/String", "<init>", "([CIILjava/lang/Void;)V"⟩ : MethodName) jdk_42_method_149_code 6 none ({ frames := 1, cells := 4, slots := 8, locals := 12 } : Room) #[(.ref a), (.ref b), (.int (0 : Int32)), (.int (0 : Int32)), .null] h (fun v h' => v = none ∧ own_str Z h' a own_t0 ∧ Keep h h' [a]) := by
  refine Ct.intro (plainFor_of_name own_pn15) O (fun q => by cases q) ⟨a0, own_ew hw⟩ ?_
  intro p e s m below meth c T0 hx hby hml hret hnm hlk hsf S0
  refine Goes.cast (own_ef1 m a b (0 : Int32) (0 : Int32)) ?_
  obtain ⟨f1, ⟨v0, f2⟩, c0, f3⟩ := F
  refine g_aloadN S0.here hx (hb hby own_d2) rfl rfl 1 rfl ?_
  refine S0.initO hx (own_q22 hw) (own_q23 hw) (own_q24 hw) (by rw [hml]; rfl) (W := 0) (by decide) (Nat.le_refl _) (by decide) (hb hby own_d3) 4 rfl (fun T1 S1 => ?_)
  refine g_iloadN S1.here hx (hb hby own_d4) rfl 5 rfl ?_
  refine g_ifF S1.here hx (hb hby own_d5) 0 (by decide) (by show ¬ (¬ 0 = 0); decide) 8 rfl ?_
  refine g_aloadN S1.here hx (hb hby own_d6) rfl rfl 9 rfl ?_
  refine S1.ldcC hx (by decide) (own_q25 hw) (own_wS hw) (by decide) (vs := (own_t0.map fun c => c.toInt8.toInt32).map Value.int) (z := Int32.ofNat own_t0.length) (by decide +kernel) (by decide +kernel) (by decide +kernel) (hb hby own_d7) (n := 0) (by decide +kernel) (by decide) (by decide) (by decide) 11 rfl (fun vm2 T2 h2 e1 b2 k2 S2 E2 R2 q2a q2b q2c q2d N2 => ?_)
  have f_e1 : own_str Z h2 e1 own_t0 := ⟨own_t0_lat, by decide +kernel, b2, k2, q2a, q2b, q2c, q2d⟩
  have A1 := f1.ext E2
  have V1 := f2.ext E2
  have C1 := f3.ext E2
  have F1 := R2.safe f1.lt (hsf a (List.mem_singleton.mpr rfl))
  have X1 := E2
  refine S2.getF hx (host := "") (Or.inl (own_q31 hw)) Via.refl q2c (hb hby own_d8) 14 rfl (fun T4 S4 => ?_)
  refine S4.putF hx (host := "") (Or.inl (own_q31 hw)) Via.refl V1 A1 (Or.inr ⟨(own_q27 hw), rfl, hnm⟩) (own_q12 hw) (ty := (.array .byte)) (by decide) rfl rfl F1 ga (hb hby own_d9) 17 rfl (fun T5 h5 S5 W5 R5 => ?_)
  have A2 := A1.wr W5
  have V2 := V1.same W5
  have C2 := C1.other W5 (Or.inr (slot_ne (Or.inr (own_q28 hw)) (Or.inr (own_q27 hw)) (by decide) (t := .byte) (t' := .array .byte) (by decide) (by decide)))
  have F2 := R5.safe A1.lt F1
  have B2 := q2d.other W5 (N2 a F1).2.symm
  have K2 := Keep.of_wr W5
  refine g_aloadN S5.here hx (hb hby own_d10) rfl rfl 18 rfl ?_
  refine S5.ldcC hx (by decide) (own_q25 hw) (own_wS hw) (by decide) (vs := (own_t0.map fun c => c.toInt8.toInt32).map Value.int) (z := Int32.ofNat own_t0.length) (by decide +kernel) (by decide +kernel) (by decide +kernel) (hb hby own_d11) (n := 0) (by decide +kernel) (by decide) (by decide) (by decide) 20 rfl (fun vm6 T6 h6 e2 b6 k6 S6 E6 R6 q6a q6b q6c q6d N6 => ?_)
  have f_e2 : own_str Z h6 e2 own_t0 := ⟨own_t0_lat, by decide +kernel, b6, k6, q6a, q6b, q6c, q6d⟩
  have A3 := A2.ext E6
  have V3 := V2.ext E6
  have C3 := C2.ext E6
  have F3 := R6.safe A2.lt F2
  have B3 := B2.ext E6
  have K3 := ((Keep.refl h [a]).ext X1).trans K2 (fun x hx => Or.inl hx) |>.ext E6
  refine S6.getF hx (host := "") (Or.inl (own_q32 hw)) Via.refl q6b (hb hby own_d12) 23 rfl (fun T7 S7 => ?_)
  refine S7.putF hx (host := "") (Or.inl (own_q32 hw)) Via.refl C3 A3 (Or.inr ⟨(own_q28 hw), rfl, hnm⟩) (own_q12 hw) (ty := .byte) (by decide) rfl rfl F3 ga (hb hby own_d13) 26 rfl (fun T8 h8 S8 W8 R8 => ?_)
  have A4 := A3.wr W8
  have C4 := C3.same W8
  have V4 := V3.other W8 (Or.inr (slot_ne (Or.inr (own_q27 hw)) (Or.inr (own_q28 hw)) (by decide) (t := .array .byte) (t' := .byte) (by decide) (by decide)))
  have B4 := B3.other W8 (N2 a F1).2.symm
  have K4 := K3.wr W8 (Or.inl (List.mem_singleton.mpr rfl))
  exact S8.vret hx hlk hret (hb hby own_d14) ⟨rfl, ⟨own_t0_lat, by decide, _, _, A4, C4, V4, B4⟩, K4⟩ (by decide) (by decide)
theorem own_ef16 (m : MethodId) (x0 : Addr) (x1 : Addr) : entryFrame m #[(.ref x0), (.ref x1)] 2 = mkF m 0 #[.val (.ref x0), .val (.ref x1)] [] := by first | (simp [entryFrame, mkF, argsToLocals, Value.category]; done) | rfl
theorem own_d17 : decode jdk_42_method_3_code 0 = .ok (.aload_n 0, 1) := by decide +kernel
theorem own_d18 : decode jdk_42_method_3_code 1 = .ok (.aload_n 1, 1) := by decide +kernel
theorem own_d19 : decode jdk_42_method_3_code 2 = .ok (.iconst 0, 1) := by decide +kernel
theorem own_d20 : decode jdk_42_method_3_code 3 = .ok (.aload_n 1, 1) := by decide +kernel
theorem own_d21 : decode jdk_42_method_3_code 4 = .ok (.arraylength, 1) := by decide +kernel
theorem own_d22 : decode jdk_42_method_3_code 5 = .ok (.aconst_null, 1) := by decide +kernel
theorem own_d23 : decode jdk_42_method_3_code 6 = .ok (.invokespecial 27, 3) := by decide +kernel
theorem own_pd24 : parseMethodDescriptor "([CIILjava/lang/Void;)V" = some ⟨[(.array .char), .int, .int, (.object "java/lang/Void")], none⟩ := by decide +kernel
theorem own_d25 : decode jdk_42_method_3_code 9 = .ok (.return_, 1) := by decide +kernel
set_option maxRecDepth 65536 in
set_option maxHeartbeats 40000000 in
theorem ctE1 (l : Launch) (Z : State) (a0 : Array Value) (hw : ∀ d ∈ tables_1, d.before a0 Z = true) (a b : Addr) (kb : ClassId) (vs : List Value) (dv : Value) (h : Heap) (O : Old Z Z.heap.size h) (F : own_raw Z h a) (ga : Z.heap.size ≤ a) (Ab : Arv Z h b kb .char (0 : Int32) vs dv) :
    Ct 2 l Z consts_1 [a] (⟨"java/lang/String", "<init>", "([C)V"⟩ : MethodName) jdk_42_method_3_code 2 none ({ frames := 2, cells := 4, slots := 8, locals := 29 } : Room) #[(.ref a), (.ref b)] h (fun v h' => v = none ∧ own_str Z h' a own_t0 ∧ Keep h h' [a]) := by
  refine Ct.intro (plainFor_of_name own_pn15) O (fun q => by cases q) ⟨a0, own_ew hw⟩ ?_
  intro p e s m below meth c T0 hx hby hml hret hnm hlk hsf S0
  refine Goes.cast (own_ef16 m a b) ?_
  refine g_aloadN S0.here hx (hb hby own_d17) rfl rfl 1 rfl ?_
  refine g_aloadN S0.here hx (hb hby own_d18) rfl rfl 2 rfl ?_
  refine g_iconst S0.here hx (hb hby own_d19) (0 : Int32) (by decide) 3 rfl ?_
  refine g_aloadN S0.here hx (hb hby own_d20) rfl rfl 4 rfl ?_
  refine S0.len hx Ab (hb hby own_d21) 5 rfl ?_
  refine g_aconst_null S0.here hx (hb hby own_d22) 6 rfl ?_
  refine S0.callI hx (W := 0) (a := a) rfl (own_q18 hw) (own_q19 hw) (own_q21 hw) (by decide) (own_q13 hw) (ctE4 l Z a0 hw a b h O F ga) (fun x hx => by cases List.mem_singleton.mp hx; exact ⟨F.1.lt, hsf a (List.mem_singleton.mpr rfl)⟩) (by decide) (by decide) (by rw [hml]; rfl) [(.ref b), (.int (0 : Int32)), (.int (0 : Int32)), .null] [] (lenOf own_pd24 rfl) rfl rfl (Nat.le_refl _) (hb hby own_d23) (by decide) (by decide) 9 rfl (fun v9 vm9 T9 h9 S9 Q9 R9 => ?_)
  obtain ⟨rfl, f9, k9⟩ := Q9
  show Goes _ _ _ _ T9 (mkF m 9 #[.val (.ref a), .val (.ref b)] [])
  exact S9.vret hx hlk hret (hb hby own_d25) ⟨rfl, f9, k9⟩ (by decide) (by decide)
theorem own_ef26 (m : MethodId) (x0 : Int32) : entryFrame m #[(.int x0)] 1 = mkF m 0 #[.val (.int x0)] [] := by first | (simp [entryFrame, mkF, argsToLocals, Value.category]; done) | rfl
theorem own_d27 : decode method_4_code 0 = .ok (.iload_n 0, 1) := by decide +kernel
theorem own_d28 : decode method_4_code 1 = .ok (.ifCond .ne 7, 3) := by decide +kernel
theorem own_d29 : decode method_4_code 8 = .ok (.iload_n 0, 1) := by decide +kernel
theorem own_d30 : decode method_4_code 9 = .ok (.iconst 1, 1) := by decide +kernel
theorem own_d31 : decode method_4_code 10 = .ok (.if_icmp .ne 7, 3) := by decide +kernel
theorem own_d32 : decode method_4_code 17 = .ok (.iload_n 0, 1) := by decide +kernel
theorem own_d33 : decode method_4_code 18 = .ok (.iconst 2, 1) := by decide +kernel
theorem own_d34 : decode method_4_code 19 = .ok (.if_icmp .ne 7, 3) := by decide +kernel
theorem own_d35 : decode method_4_code 26 = .ok (.iload_n 0, 1) := by decide +kernel
theorem own_d36 : decode method_4_code 27 = .ok (.iconst 3, 1) := by decide +kernel
theorem own_d37 : decode method_4_code 28 = .ok (.if_icmp .ne 7, 3) := by decide +kernel
theorem own_d38 : decode method_4_code 35 = .ok (.iload_n 0, 1) := by decide +kernel
theorem own_d39 : decode method_4_code 36 = .ok (.iconst 4, 1) := by decide +kernel
theorem own_d40 : decode method_4_code 37 = .ok (.if_icmp .ne 7, 3) := by decide +kernel
theorem own_d41 : decode method_4_code 44 = .ok (.iload_n 0, 1) := by decide +kernel
theorem own_d42 : decode method_4_code 45 = .ok (.iconst 5, 1) := by decide +kernel
theorem own_d43 : decode method_4_code 46 = .ok (.if_icmp .ne 7, 3) := by decide +kernel
theorem own_d44 : decode method_4_code 53 = .ok (.iload_n 0, 1) := by decide +kernel
theorem own_d45 : decode method_4_code 54 = .ok (.bipush 6, 2) := by decide +kernel
theorem own_d46 : decode method_4_code 56 = .ok (.if_icmp .ne 7, 3) := by decide +kernel
theorem own_d47 : decode method_4_code 63 = .ok (.iload_n 0, 1) := by decide +kernel
theorem own_d48 : decode method_4_code 64 = .ok (.bipush 7, 2) := by decide +kernel
theorem own_d49 : decode method_4_code 66 = .ok (.if_icmp .ne 7, 3) := by decide +kernel
theorem own_d50 : decode method_4_code 73 = .ok (.iload_n 0, 1) := by decide +kernel
theorem own_d51 : decode method_4_code 74 = .ok (.bipush 8, 2) := by decide +kernel
theorem own_d52 : decode method_4_code 76 = .ok (.if_icmp .ne 7, 3) := by decide +kernel
theorem own_d53 : decode method_4_code 83 = .ok (.iload_n 0, 1) := by decide +kernel
theorem own_d54 : decode method_4_code 84 = .ok (.bipush 9, 2) := by decide +kernel
theorem own_d55 : decode method_4_code 86 = .ok (.if_icmp .ne 7, 3) := by decide +kernel
theorem own_d56 : decode method_4_code 93 = .ok (.iload_n 0, 1) := by decide +kernel
theorem own_d57 : decode method_4_code 94 = .ok (.bipush 10, 2) := by decide +kernel
theorem own_d58 : decode method_4_code 96 = .ok (.if_icmp .ne 7, 3) := by decide +kernel
theorem own_d59 : decode method_4_code 103 = .ok (.iload_n 0, 1) := by decide +kernel
theorem own_d60 : decode method_4_code 104 = .ok (.bipush 11, 2) := by decide +kernel
theorem own_d61 : decode method_4_code 106 = .ok (.if_icmp .ne 7, 3) := by decide +kernel
theorem own_d62 : decode method_4_code 113 = .ok (.getstatic 89, 3) := by decide +kernel
theorem own_d63 : decode method_4_code 116 = .ok (.areturn, 1) := by decide +kernel
theorem own_d64 : decode method_4_code 109 = .ok (.getstatic 86, 3) := by decide +kernel
theorem own_d65 : decode method_4_code 112 = .ok (.areturn, 1) := by decide +kernel
theorem own_d66 : decode method_4_code 99 = .ok (.getstatic 83, 3) := by decide +kernel
theorem own_d67 : decode method_4_code 102 = .ok (.areturn, 1) := by decide +kernel
theorem own_d68 : decode method_4_code 89 = .ok (.getstatic 80, 3) := by decide +kernel
theorem own_d69 : decode method_4_code 92 = .ok (.areturn, 1) := by decide +kernel
theorem own_d70 : decode method_4_code 79 = .ok (.getstatic 77, 3) := by decide +kernel
theorem own_d71 : decode method_4_code 82 = .ok (.areturn, 1) := by decide +kernel
theorem own_d72 : decode method_4_code 69 = .ok (.getstatic 74, 3) := by decide +kernel
theorem own_d73 : decode method_4_code 72 = .ok (.areturn, 1) := by decide +kernel
theorem own_d74 : decode method_4_code 59 = .ok (.getstatic 71, 3) := by decide +kernel
theorem own_d75 : decode method_4_code 62 = .ok (.areturn, 1) := by decide +kernel
theorem own_d76 : decode method_4_code 49 = .ok (.getstatic 68, 3) := by decide +kernel
theorem own_d77 : decode method_4_code 52 = .ok (.areturn, 1) := by decide +kernel
theorem own_d78 : decode method_4_code 40 = .ok (.getstatic 65, 3) := by decide +kernel
theorem own_d79 : decode method_4_code 43 = .ok (.areturn, 1) := by decide +kernel
theorem own_d80 : decode method_4_code 31 = .ok (.getstatic 62, 3) := by decide +kernel
theorem own_d81 : decode method_4_code 34 = .ok (.areturn, 1) := by decide +kernel
theorem own_d82 : decode method_4_code 22 = .ok (.getstatic 59, 3) := by decide +kernel
theorem own_d83 : decode method_4_code 25 = .ok (.areturn, 1) := by decide +kernel
theorem own_d84 : decode method_4_code 13 = .ok (.getstatic 56, 3) := by decide +kernel
theorem own_d85 : decode method_4_code 16 = .ok (.areturn, 1) := by decide +kernel
theorem own_d86 : decode method_4_code 4 = .ok (.getstatic 52, 3) := by decide +kernel
theorem own_d87 : decode method_4_code 7 = .ok (.areturn, 1) := by decide +kernel
theorem own_pn88 : plainName "com/example/portcullis/portcullis/OAuthExceptionDescribedAsPinLaw" = true := by first | (simp [plainName, overriddenIn]; done) | decide +kernel
set_option maxRecDepth 65536 in
set_option maxHeartbeats 40000000 in
theorem ctC (l : Launch) (Z : State) (a0 : Array Value) (hw : ∀ d ∈ tables_1, d.before a0 Z = true) (p1 : Int32) (as : List Addr) (h : Heap) (O : Old Z Z.heap.size h) (G3 : own_en Z as) :
    Ct 2 l Z consts_1 [] (⟨"com/example/portcullis/portcullis/OAuthExceptionDescribedAsPinLaw", "code", "(I)Lcom/example/portcullis/portcullis/ErrorCode;"⟩ : MethodName) method_4_code 1 (some (.object "com/example/portcullis/portcullis/ErrorCode")) ({ frames := 0, cells := 0, slots := 0, locals := 0 } : Room) #[(.int p1)] h (fun v h' => ∃ a : Addr, v = some (.ref a) ∧ own_ec Z h' a ∧ h = h') := by
  refine Ct.intro (plainFor_of_name own_pn88) O (fun q => by cases q) ⟨a0, own_ew hw⟩ ?_
  intro p e s m below meth c T0 hx hby hml hret hnm hlk hsf S0
  refine Goes.cast (own_ef26 m p1) ?_
  obtain ⟨e0, e1, e2, e3, e4, e5, e6, e7, e8, e9, e10, e11, e12, -, s0, c0, s1, c1, s2, c2, s3, c3, s4, c4, s5, c5, s6, c6, s7, c7, s8, c8, s9, c9, s10, c10, s11, c11, s12, c12⟩ := G3
  refine g_iloadN S0.here hx (hb hby own_d27) rfl 1 rfl ?_
  refine g_if S0.here hx (hb hby own_d28) p1.toInt rfl 8 4 (by decide) (by decide) rfl (fun (hc1 : ¬ p1.toInt = 0) => ?_) (fun (hc1 : ¬ (¬ p1.toInt = 0)) => ?_)
  · refine g_iloadN S0.here hx (hb hby own_d29) rfl 9 rfl ?_
    refine g_iconst S0.here hx (hb hby own_d30) (1 : Int32) (by decide) 10 rfl ?_
    refine g_icmp S0.here hx (hb hby own_d31) p1.toInt 1 rfl (by decide) 17 13 (by decide) (by decide) rfl (fun (hc10 : ¬ p1.toInt = 1) => ?_) (fun (hc10 : ¬ (¬ p1.toInt = 1)) => ?_)
    · refine g_iloadN S0.here hx (hb hby own_d32) rfl 18 rfl ?_
      refine g_iconst S0.here hx (hb hby own_d33) (2 : Int32) (by decide) 19 rfl ?_
      refine g_icmp S0.here hx (hb hby own_d34) p1.toInt 2 rfl (by decide) 26 22 (by decide) (by decide) rfl (fun (hc19 : ¬ p1.toInt = 2) => ?_) (fun (hc19 : ¬ (¬ p1.toInt = 2)) => ?_)
      · refine g_iloadN S0.here hx (hb hby own_d35) rfl 27 rfl ?_
        refine g_iconst S0.here hx (hb hby own_d36) (3 : Int32) (by decide) 28 rfl ?_
        refine g_icmp S0.here hx (hb hby own_d37) p1.toInt 3 rfl (by decide) 35 31 (by decide) (by decide) rfl (fun (hc28 : ¬ p1.toInt = 3) => ?_) (fun (hc28 : ¬ (¬ p1.toInt = 3)) => ?_)
        · refine g_iloadN S0.here hx (hb hby own_d38) rfl 36 rfl ?_
          refine g_iconst S0.here hx (hb hby own_d39) (4 : Int32) (by decide) 37 rfl ?_
          refine g_icmp S0.here hx (hb hby own_d40) p1.toInt 4 rfl (by decide) 44 40 (by decide) (by decide) rfl (fun (hc37 : ¬ p1.toInt = 4) => ?_) (fun (hc37 : ¬ (¬ p1.toInt = 4)) => ?_)
          · refine g_iloadN S0.here hx (hb hby own_d41) rfl 45 rfl ?_
            refine g_iconst S0.here hx (hb hby own_d42) (5 : Int32) (by decide) 46 rfl ?_
            refine g_icmp S0.here hx (hb hby own_d43) p1.toInt 5 rfl (by decide) 53 49 (by decide) (by decide) rfl (fun (hc46 : ¬ p1.toInt = 5) => ?_) (fun (hc46 : ¬ (¬ p1.toInt = 5)) => ?_)
            · refine g_iloadN S0.here hx (hb hby own_d44) rfl 54 rfl ?_
              refine g_bipush S0.here hx (hb hby own_d45) (6 : Int32) (by decide) 56 rfl ?_
              refine g_icmp S0.here hx (hb hby own_d46) p1.toInt 6 rfl (by decide) 63 59 (by decide) (by decide) rfl (fun (hc56 : ¬ p1.toInt = 6) => ?_) (fun (hc56 : ¬ (¬ p1.toInt = 6)) => ?_)
              · refine g_iloadN S0.here hx (hb hby own_d47) rfl 64 rfl ?_
                refine g_bipush S0.here hx (hb hby own_d48) (7 : Int32) (by decide) 66 rfl ?_
                refine g_icmp S0.here hx (hb hby own_d49) p1.toInt 7 rfl (by decide) 73 69 (by decide) (by decide) rfl (fun (hc66 : ¬ p1.toInt = 7) => ?_) (fun (hc66 : ¬ (¬ p1.toInt = 7)) => ?_)
                · refine g_iloadN S0.here hx (hb hby own_d50) rfl 74 rfl ?_
                  refine g_bipush S0.here hx (hb hby own_d51) (8 : Int32) (by decide) 76 rfl ?_
                  refine g_icmp S0.here hx (hb hby own_d52) p1.toInt 8 rfl (by decide) 83 79 (by decide) (by decide) rfl (fun (hc76 : ¬ p1.toInt = 8) => ?_) (fun (hc76 : ¬ (¬ p1.toInt = 8)) => ?_)
                  · refine g_iloadN S0.here hx (hb hby own_d53) rfl 84 rfl ?_
                    refine g_bipush S0.here hx (hb hby own_d54) (9 : Int32) (by decide) 86 rfl ?_
                    refine g_icmp S0.here hx (hb hby own_d55) p1.toInt 9 rfl (by decide) 93 89 (by decide) (by decide) rfl (fun (hc86 : ¬ p1.toInt = 9) => ?_) (fun (hc86 : ¬ (¬ p1.toInt = 9)) => ?_)
                    · refine g_iloadN S0.here hx (hb hby own_d56) rfl 94 rfl ?_
                      refine g_bipush S0.here hx (hb hby own_d57) (10 : Int32) (by decide) 96 rfl ?_
                      refine g_icmp S0.here hx (hb hby own_d58) p1.toInt 10 rfl (by decide) 103 99 (by decide) (by decide) rfl (fun (hc96 : ¬ p1.toInt = 10) => ?_) (fun (hc96 : ¬ (¬ p1.toInt = 10)) => ?_)
                      · refine g_iloadN S0.here hx (hb hby own_d59) rfl 104 rfl ?_
                        refine g_bipush S0.here hx (hb hby own_d60) (11 : Int32) (by decide) 106 rfl ?_
                        refine g_icmp S0.here hx (hb hby own_d61) p1.toInt 11 rfl (by decide) 113 109 (by decide) (by decide) rfl (fun (hc106 : ¬ p1.toInt = 11) => ?_) (fun (hc106 : ¬ (¬ p1.toInt = 11)) => ?_)
                        · refine S0.getS hx (host := "") (Or.inl (own_q127 hw)) Via.refl (s12.ext O.2) (hb hby own_d62) 116 rfl (fun T10 S10 => ?_)
                          exact S10.aret hx hlk hret rfl rfl rfl (hb hby own_d63) ⟨_, rfl, c12.ext O.2, rfl⟩ (by decide) (by decide)
                        · refine S0.getS hx (host := "") (Or.inl (own_q160 hw)) Via.refl (s11.ext O.2) (hb hby own_d64) 112 rfl (fun T11 S11 => ?_)
                          exact S11.aret hx hlk hret rfl rfl rfl (hb hby own_d65) ⟨_, rfl, c11.ext O.2, rfl⟩ (by decide) (by decide)
                      · refine S0.getS hx (host := "") (Or.inl (own_q158 hw)) Via.refl (s10.ext O.2) (hb hby own_d66) 102 rfl (fun T12 S12 => ?_)
                        exact S12.aret hx hlk hret rfl rfl rfl (hb hby own_d67) ⟨_, rfl, c10.ext O.2, rfl⟩ (by decide) (by decide)
                    · refine S0.getS hx (host := "") (Or.inl (own_q154 hw)) Via.refl (s9.ext O.2) (hb hby own_d68) 92 rfl (fun T13 S13 => ?_)
                      exact S13.aret hx hlk hret rfl rfl rfl (hb hby own_d69) ⟨_, rfl, c9.ext O.2, rfl⟩ (by decide) (by decide)
                  · refine S0.getS hx (host := "") (Or.inl (own_q146 hw)) Via.refl (s8.ext O.2) (hb hby own_d70) 82 rfl (fun T14 S14 => ?_)
                    exact S14.aret hx hlk hret rfl rfl rfl (hb hby own_d71) ⟨_, rfl, c8.ext O.2, rfl⟩ (by decide) (by decide)
                · refine S0.getS hx (host := "") (Or.inl (own_q156 hw)) Via.refl (s7.ext O.2) (hb hby own_d72) 72 rfl (fun T15 S15 => ?_)
                  exact S15.aret hx hlk hret rfl rfl rfl (hb hby own_d73) ⟨_, rfl, c7.ext O.2, rfl⟩ (by decide) (by decide)
              · refine S0.getS hx (host := "") (Or.inl (own_q148 hw)) Via.refl (s6.ext O.2) (hb hby own_d74) 62 rfl (fun T16 S16 => ?_)
                exact S16.aret hx hlk hret rfl rfl rfl (hb hby own_d75) ⟨_, rfl, c6.ext O.2, rfl⟩ (by decide) (by decide)
            · refine S0.getS hx (host := "") (Or.inl (own_q150 hw)) Via.refl (s5.ext O.2) (hb hby own_d76) 52 rfl (fun T17 S17 => ?_)
              exact S17.aret hx hlk hret rfl rfl rfl (hb hby own_d77) ⟨_, rfl, c5.ext O.2, rfl⟩ (by decide) (by decide)
          · refine S0.getS hx (host := "") (Or.inl (own_q152 hw)) Via.refl (s4.ext O.2) (hb hby own_d78) 43 rfl (fun T18 S18 => ?_)
            exact S18.aret hx hlk hret rfl rfl rfl (hb hby own_d79) ⟨_, rfl, c4.ext O.2, rfl⟩ (by decide) (by decide)
        · refine S0.getS hx (host := "") (Or.inl (own_q144 hw)) Via.refl (s3.ext O.2) (hb hby own_d80) 34 rfl (fun T19 S19 => ?_)
          exact S19.aret hx hlk hret rfl rfl rfl (hb hby own_d81) ⟨_, rfl, c3.ext O.2, rfl⟩ (by decide) (by decide)
      · refine S0.getS hx (host := "") (Or.inl (own_q131 hw)) Via.refl (s2.ext O.2) (hb hby own_d82) 25 rfl (fun T20 S20 => ?_)
        exact S20.aret hx hlk hret rfl rfl rfl (hb hby own_d83) ⟨_, rfl, c2.ext O.2, rfl⟩ (by decide) (by decide)
    · refine S0.getS hx (host := "") (Or.inl (own_q129 hw)) Via.refl (s1.ext O.2) (hb hby own_d84) 16 rfl (fun T21 S21 => ?_)
      exact S21.aret hx hlk hret rfl rfl rfl (hb hby own_d85) ⟨_, rfl, c1.ext O.2, rfl⟩ (by decide) (by decide)
  · refine S0.getS hx (host := "") (Or.inl (own_q5 hw)) Via.refl (s0.ext O.2) (hb hby own_d86) 7 rfl (fun T22 S22 => ?_)
    exact S22.aret hx hlk hret rfl rfl rfl (hb hby own_d87) ⟨_, rfl, c0.ext O.2, rfl⟩ (by decide) (by decide)
theorem own_ef89 (m : MethodId) (x0 : Int32) : entryFrame m #[(.int x0)] 5 = mkF m 0 #[.val (.int x0), .unset, .unset, .unset, .unset] [] := by first | (simp [entryFrame, mkF, argsToLocals, Value.category]; done) | rfl
theorem own_d90 : decode method_3_code 0 = .ok (.iload_n 0, 1) := by decide +kernel
theorem own_d91 : decode method_3_code 1 = .ok (.bipush 24, 2) := by decide +kernel
theorem own_d92 : decode method_3_code 3 = .ok (.iushr, 1) := by decide +kernel
theorem own_d93 : decode method_3_code 4 = .ok (.iconst 3, 1) := by decide +kernel
theorem own_d94 : decode method_3_code 5 = .ok (.iand, 1) := by decide +kernel
theorem own_d95 : decode method_3_code 6 = .ok (.istore_n 1, 1) := by decide +kernel
theorem own_d96 : decode method_3_code 7 = .ok (.iload_n 0, 1) := by decide +kernel
theorem own_d97 : decode method_3_code 8 = .ok (.sipush 255, 3) := by decide +kernel
theorem own_d98 : decode method_3_code 11 = .ok (.iand, 1) := by decide +kernel
theorem own_d99 : decode method_3_code 12 = .ok (.i2c, 1) := by decide +kernel
theorem own_d100 : decode method_3_code 13 = .ok (.istore_n 2, 1) := by decide +kernel
theorem own_d101 : decode method_3_code 14 = .ok (.iload_n 0, 1) := by decide +kernel
theorem own_d102 : decode method_3_code 15 = .ok (.bipush 8, 2) := by decide +kernel
theorem own_d103 : decode method_3_code 17 = .ok (.iushr, 1) := by decide +kernel
theorem own_d104 : decode method_3_code 18 = .ok (.sipush 255, 3) := by decide +kernel
theorem own_d105 : decode method_3_code 21 = .ok (.iand, 1) := by decide +kernel
theorem own_d106 : decode method_3_code 22 = .ok (.i2c, 1) := by decide +kernel
theorem own_d107 : decode method_3_code 23 = .ok (.istore_n 3, 1) := by decide +kernel
theorem own_d108 : decode method_3_code 24 = .ok (.iload_n 0, 1) := by decide +kernel
theorem own_d109 : decode method_3_code 25 = .ok (.bipush 16, 2) := by decide +kernel
theorem own_d110 : decode method_3_code 27 = .ok (.iushr, 1) := by decide +kernel
theorem own_d111 : decode method_3_code 28 = .ok (.sipush 255, 3) := by decide +kernel
theorem own_d112 : decode method_3_code 31 = .ok (.iand, 1) := by decide +kernel
theorem own_d113 : decode method_3_code 32 = .ok (.i2c, 1) := by decide +kernel
theorem own_d114 : decode method_3_code 33 = .ok (.istore 4, 2) := by decide +kernel
theorem own_d115 : decode method_3_code 35 = .ok (.iload_n 1, 1) := by decide +kernel
theorem own_d116 : decode method_3_code 36 = .ok (.ifCond .ne 14, 3) := by decide +kernel
theorem own_d117 : decode method_3_code 50 = .ok (.iload_n 1, 1) := by decide +kernel
theorem own_d118 : decode method_3_code 51 = .ok (.iconst 1, 1) := by decide +kernel
theorem own_d119 : decode method_3_code 52 = .ok (.if_icmp .ne 18, 3) := by decide +kernel
theorem own_d120 : decode method_3_code 70 = .ok (.iload_n 1, 1) := by decide +kernel
theorem own_d121 : decode method_3_code 71 = .ok (.iconst 2, 1) := by decide +kernel
theorem own_d122 : decode method_3_code 72 = .ok (.if_icmp .ne 22, 3) := by decide +kernel
theorem own_d123 : decode method_3_code 94 = .ok (.new 41, 3) := by decide +kernel
theorem own_d124 : decode method_3_code 97 = .ok (.dup, 1) := by decide +kernel
theorem own_d125 : decode method_3_code 98 = .ok (.iconst 3, 1) := by decide +kernel
theorem own_d126 : decode method_3_code 99 = .ok (.newarray .char, 2) := by decide +kernel
theorem own_d127 : decode method_3_code 101 = .ok (.dup, 1) := by decide +kernel
theorem own_d128 : decode method_3_code 102 = .ok (.iconst 0, 1) := by decide +kernel
theorem own_d129 : decode method_3_code 103 = .ok (.iload_n 2, 1) := by decide +kernel
theorem own_d130 : decode method_3_code 104 = .ok (.castore, 1) := by decide +kernel
theorem own_d131 : decode method_3_code 105 = .ok (.dup, 1) := by decide +kernel
theorem own_d132 : decode method_3_code 106 = .ok (.iconst 1, 1) := by decide +kernel
theorem own_d133 : decode method_3_code 107 = .ok (.iload_n 3, 1) := by decide +kernel
theorem own_d134 : decode method_3_code 108 = .ok (.castore, 1) := by decide +kernel
theorem own_d135 : decode method_3_code 109 = .ok (.dup, 1) := by decide +kernel
theorem own_d136 : decode method_3_code 110 = .ok (.iconst 2, 1) := by decide +kernel
theorem own_d137 : decode method_3_code 111 = .ok (.iload 4, 2) := by decide +kernel
theorem own_d138 : decode method_3_code 113 = .ok (.castore, 1) := by decide +kernel
theorem own_d139 : decode method_3_code 114 = .ok (.invokespecial 49, 3) := by decide +kernel
theorem own_d140 : decode method_3_code 117 = .ok (.areturn, 1) := by decide +kernel
theorem own_d141 : decode method_3_code 75 = .ok (.new 41, 3) := by decide +kernel
theorem own_d142 : decode method_3_code 78 = .ok (.dup, 1) := by decide +kernel
theorem own_d143 : decode method_3_code 79 = .ok (.iconst 2, 1) := by decide +kernel
theorem own_d144 : decode method_3_code 80 = .ok (.newarray .char, 2) := by decide +kernel
theorem own_d145 : decode method_3_code 82 = .ok (.dup, 1) := by decide +kernel
theorem own_d146 : decode method_3_code 83 = .ok (.iconst 0, 1) := by decide +kernel
theorem own_d147 : decode method_3_code 84 = .ok (.iload_n 2, 1) := by decide +kernel
theorem own_d148 : decode method_3_code 85 = .ok (.castore, 1) := by decide +kernel
theorem own_d149 : decode method_3_code 86 = .ok (.dup, 1) := by decide +kernel
theorem own_d150 : decode method_3_code 87 = .ok (.iconst 1, 1) := by decide +kernel
theorem own_d151 : decode method_3_code 88 = .ok (.iload_n 3, 1) := by decide +kernel
theorem own_d152 : decode method_3_code 89 = .ok (.castore, 1) := by decide +kernel
theorem own_d153 : decode method_3_code 90 = .ok (.invokespecial 49, 3) := by decide +kernel
theorem own_d154 : decode method_3_code 93 = .ok (.areturn, 1) := by decide +kernel
theorem own_d155 : decode method_3_code 55 = .ok (.new 41, 3) := by decide +kernel
theorem own_d156 : decode method_3_code 58 = .ok (.dup, 1) := by decide +kernel
theorem own_d157 : decode method_3_code 59 = .ok (.iconst 1, 1) := by decide +kernel
theorem own_d158 : decode method_3_code 60 = .ok (.newarray .char, 2) := by decide +kernel
theorem own_d159 : decode method_3_code 62 = .ok (.dup, 1) := by decide +kernel
theorem own_d160 : decode method_3_code 63 = .ok (.iconst 0, 1) := by decide +kernel
theorem own_d161 : decode method_3_code 64 = .ok (.iload_n 2, 1) := by decide +kernel
theorem own_d162 : decode method_3_code 65 = .ok (.castore, 1) := by decide +kernel
theorem own_d163 : decode method_3_code 66 = .ok (.invokespecial 49, 3) := by decide +kernel
theorem own_d164 : decode method_3_code 69 = .ok (.areturn, 1) := by decide +kernel
theorem own_d165 : decode method_3_code 39 = .ok (.new 41, 3) := by decide +kernel
theorem own_d166 : decode method_3_code 42 = .ok (.dup, 1) := by decide +kernel
theorem own_d167 : decode method_3_code 43 = .ok (.iconst 0, 1) := by decide +kernel
theorem own_d168 : decode method_3_code 44 = .ok (.newarray .char, 2) := by decide +kernel
theorem own_d169 : decode method_3_code 46 = .ok (.invokespecial 49, 3) := by decide +kernel
theorem own_d170 : decode method_3_code 49 = .ok (.areturn, 1) := by decide +kernel
set_option maxRecDepth 65536 in
set_option maxHeartbeats 40000000 in
theorem ctT (l : Launch) (Z : State) (a0 : Array Value) (hw : ∀ d ∈ tables_1, d.before a0 Z = true) (p1 : Int32) (h : Heap) (O : Old Z Z.heap.size h) (G : own_cs Z) :
    Ct 2 l Z consts_1 [] (⟨"com/example/portcullis/portcullis/OAuthExceptionDescribedAsPinLaw", "text", "(I)Ljava/lang/String;"⟩ : MethodName) method_3_code 5 (some (.object "java/lang/String")) ({ frames := 4, cells := 6, slots := 12, locals := 66 } : Room) #[(.int p1)] h (fun v h' => ∃ a : Addr, v = some (.ref a) ∧ Exa Z h' a "java/lang/String" ∧ Ext h h') := by
  refine Ct.intro (plainFor_of_name own_pn88) O (fun q => by cases q) ⟨a0, own_ew hw⟩ ?_
  intro p e s m below meth c T0 hx hby hml hret hnm hlk hsf S0
  refine Goes.cast (own_ef89 m p1) ?_
  refine g_iloadN S0.here hx (hb hby own_d90) rfl 1 rfl ?_
  refine g_bipush S0.here hx (hb hby own_d91) (24 : Int32) (by decide) 3 rfl ?_
  refine g_iushr S0.here hx (hb hby own_d92) 4 rfl ?_
  refine g_iconst S0.here hx (hb hby own_d93) (3 : Int32) (by decide) 5 rfl ?_
  refine g_iand S0.here hx (hb hby own_d94) 6 rfl ?_
  generalize (((p1.toUInt32 >>> ((24 : Int32) &&& 31).toUInt32).toInt32) &&& (3 : Int32)) = n
  refine g_istoreN S0.here hx (hb hby own_d95) #[.val (.int p1), .val (.int n), .unset, .unset, .unset] rfl 7 rfl ?_
  refine g_iloadN S0.here hx (hb hby own_d96) rfl 8 rfl ?_
  refine g_sipush S0.here hx (hb hby own_d97) (255 : Int32) (by decide) 11 rfl ?_
  refine g_iand S0.here hx (hb hby own_d98) 12 rfl ?_
  refine g_i2c S0.here hx (hb hby own_d99) 13 rfl ?_
  have b_c0 := own_b8 (p1)
  generalize (p1 &&& (255 : Int32)).toUInt32.toUInt16.toUInt32.toInt32 = c0 at b_c0 ⊢
  refine g_istoreN S0.here hx (hb hby own_d100) #[.val (.int p1), .val (.int n), .val (.int c0), .unset, .unset] rfl 14 rfl ?_
  refine g_iloadN S0.here hx (hb hby own_d101) rfl 15 rfl ?_
  refine g_bipush S0.here hx (hb hby own_d102) (8 : Int32) (by decide) 17 rfl ?_
  refine g_iushr S0.here hx (hb hby own_d103) 18 rfl ?_
  refine g_sipush S0.here hx (hb hby own_d104) (255 : Int32) (by decide) 21 rfl ?_
  refine g_iand S0.here hx (hb hby own_d105) 22 rfl ?_
  refine g_i2c S0.here hx (hb hby own_d106) 23 rfl ?_
  have b_c1 := own_b8 (((p1.toUInt32 >>> ((8 : Int32) &&& 31).toUInt32).toInt32))
  generalize (((p1.toUInt32 >>> ((8 : Int32) &&& 31).toUInt32).toInt32) &&& (255 : Int32)).toUInt32.toUInt16.toUInt32.toInt32 = c1 at b_c1 ⊢
  refine g_istoreN S0.here hx (hb hby own_d107) #[.val (.int p1), .val (.int n), .val (.int c0), .val (.int c1), .unset] rfl 24 rfl ?_
  refine g_iloadN S0.here hx (hb hby own_d108) rfl 25 rfl ?_
  refine g_bipush S0.here hx (hb hby own_d109) (16 : Int32) (by decide) 27 rfl ?_
  refine g_iushr S0.here hx (hb hby own_d110) 28 rfl ?_
  refine g_sipush S0.here hx (hb hby own_d111) (255 : Int32) (by decide) 31 rfl ?_
  refine g_iand S0.here hx (hb hby own_d112) 32 rfl ?_
  refine g_i2c S0.here hx (hb hby own_d113) 33 rfl ?_
  have b_c2 := own_b8 (((p1.toUInt32 >>> ((16 : Int32) &&& 31).toUInt32).toInt32))
  generalize (((p1.toUInt32 >>> ((16 : Int32) &&& 31).toUInt32).toInt32) &&& (255 : Int32)).toUInt32.toUInt16.toUInt32.toInt32 = c2 at b_c2 ⊢
  refine g_istore S0.here hx (hb hby own_d114) #[.val (.int p1), .val (.int n), .val (.int c0), .val (.int c1), .val (.int c2)] rfl 35 rfl ?_
  refine g_iloadN S0.here hx (hb hby own_d115) rfl 36 rfl ?_
  refine g_if S0.here hx (hb hby own_d116) n.toInt rfl 50 39 (by decide) (by decide) rfl (fun (hc36 : ¬ n.toInt = 0) => ?_) (fun (hc36 : ¬ (¬ n.toInt = 0)) => ?_)
  · refine g_iloadN S0.here hx (hb hby own_d117) rfl 51 rfl ?_
    refine g_iconst S0.here hx (hb hby own_d118) (1 : Int32) (by decide) 52 rfl ?_
    refine g_icmp S0.here hx (hb hby own_d119) n.toInt 1 rfl (by decide) 70 55 (by decide) (by decide) rfl (fun (hc52 : ¬ n.toInt = 1) => ?_) (fun (hc52 : ¬ (¬ n.toInt = 1)) => ?_)
    · refine g_iloadN S0.here hx (hb hby own_d120) rfl 71 rfl ?_
      refine g_iconst S0.here hx (hb hby own_d121) (2 : Int32) (by decide) 72 rfl ?_
      refine g_icmp S0.here hx (hb hby own_d122) n.toInt 2 rfl (by decide) 94 75 (by decide) (by decide) rfl (fun (hc72 : ¬ n.toInt = 2) => ?_) (fun (hc72 : ¬ (¬ n.toInt = 2)) => ?_)
      · refine S0.new hx (own_q11 hw) (own_q12 hw) (own_q13 hw) (hb hby own_d123) (by decide) (by decide) 97 rfl (fun T23 h23 s S23 g23 E23 A23 D23 F23 R23 _ => ?_)
        have r23 : own_raw Z h23 s := ⟨A23, ⟨_, D23 (Or.inr (own_q27 hw)) (ty := .array .byte) (by decide)⟩, _, D23 (Or.inr (own_q28 hw)) (ty := .byte) (by decide)⟩
        have ga23 : Z.heap.size ≤ s := by rw [g23]; exact S0.size
        refine g_dup S23.here hx (hb hby own_d124) rfl 98 rfl ?_
        refine g_iconst S23.here hx (hb hby own_d125) (3 : Int32) (by decide) 99 rfl ?_
        refine S23.newA (aty := .char) hx (own_q14 hw) (n := (3 : Int32)) (by decide) (cap := 3) (by decide) (by decide) (hb hby own_d126) (by decide) (by decide) 101 rfl (fun T24 h24 b24 k24 S24 g24 E24 V24 _ R24 => ?_)
        have ga24 : Z.heap.size ≤ b24 := by rw [g24]; exact S23.size
        have ne24 : s ≠ b24 := Nat.ne_of_lt (by rw [g24]; exact r23.1.lt)
        have F24 := R24.safe r23.1.lt F23
        have r24 := r23.ext E24
        have E24 := own_ext_trans E23 E24
        have gg24 : h.size ≤ b24 := by rw [g24]; exact E23.1
        refine g_dup S24.here hx (hb hby own_d127) rfl 102 rfl ?_
        refine g_iconst S24.here hx (hb hby own_d128) (0 : Int32) (by decide) 103 rfl ?_
        refine g_iloadN S24.here hx (hb hby own_d129) rfl 104 rfl ?_
        refine S24.stC hx V24 0 ⟨by decide, by decide⟩ (by decide) (by simp) ga24 c0 (own_nar (own_b16 b_c0)) (hb hby own_d130) 105 rfl (fun T25 h25 S25 W25 V25 R25 => ?_)
        have F25 := R25.safe r24.1.lt F24
        have r25 := r24.wr W25 ne24
        have E25 := own_ext_wr E24 W25 gg24
        refine g_dup S25.here hx (hb hby own_d131) rfl 106 rfl ?_
        refine g_iconst S25.here hx (hb hby own_d132) (1 : Int32) (by decide) 107 rfl ?_
        refine g_iloadN S25.here hx (hb hby own_d133) rfl 108 rfl ?_
        refine S25.stC hx V25 1 ⟨by decide, by decide⟩ (by decide) (by simp) ga24 c1 (own_nar (own_b16 b_c1)) (hb hby own_d134) 109 rfl (fun T26 h26 S26 W26 V26 R26 => ?_)
        have F26 := R26.safe r25.1.lt F25
        have r26 := r25.wr W26 ne24
        have E26 := own_ext_wr E25 W26 gg24
        refine g_dup S26.here hx (hb hby own_d135) rfl 110 rfl ?_
        refine g_iconst S26.here hx (hb hby own_d136) (2 : Int32) (by decide) 111 rfl ?_
        refine g_iload S26.here hx (hb hby own_d137) rfl 113 rfl ?_
        refine S26.stC hx V26 2 ⟨by decide, by decide⟩ (by decide) (by simp) ga24 c2 (own_nar (own_b16 b_c2)) (hb hby own_d138) 114 rfl (fun T27 h27 S27 W27 V27 R27 => ?_)
        have F27 := R27.safe r26.1.lt F26
        have r27 := r26.wr W27 ne24
        have E27 := own_ext_wr E26 W27 gg24
        refine own_mk S27 hx hw G (W := 1) (cs := [c0, c1, c2]) 3 rfl (own_q15 hw) r27 V27 F27 ga23 (by decide) (by decide) (own_lat_cons b_c0 (own_lat_cons b_c1 (own_lat_cons b_c2 own_lat_nil))) (by decide) (by decide) (by rw [hml]; rfl) [(.ref s)] (Nat.le_refl _) (hb hby own_d139) (by decide) (by decide) 117 rfl (fun T28 h28 S28 f_s K28 R28 => ?_)
        have E28 : Ext h h28 := own_ext_keep E27 K28 (fun x hx => by cases List.mem_singleton.mp hx; exact Nat.le_of_eq g23.symm)
        exact S28.aret hx hlk hret rfl rfl rfl (hb hby own_d140) ⟨_, rfl, f_s.exa, E28⟩ (by decide) (by decide)
      · refine S0.new hx (own_q11 hw) (own_q12 hw) (own_q13 hw) (hb hby own_d141) (by decide) (by decide) 78 rfl (fun T29 h29 s S29 g29 E29 A29 D29 F29 R29 _ => ?_)
        have r29 : own_raw Z h29 s := ⟨A29, ⟨_, D29 (Or.inr (own_q27 hw)) (ty := .array .byte) (by decide)⟩, _, D29 (Or.inr (own_q28 hw)) (ty := .byte) (by decide)⟩
        have ga29 : Z.heap.size ≤ s := by rw [g29]; exact S0.size
        refine g_dup S29.here hx (hb hby own_d142) rfl 79 rfl ?_
        refine g_iconst S29.here hx (hb hby own_d143) (2 : Int32) (by decide) 80 rfl ?_
        refine S29.newA (aty := .char) hx (own_q14 hw) (n := (2 : Int32)) (by decide) (cap := 2) (by decide) (by decide) (hb hby own_d144) (by decide) (by decide) 82 rfl (fun T30 h30 b30 k30 S30 g30 E30 V30 _ R30 => ?_)
        have ga30 : Z.heap.size ≤ b30 := by rw [g30]; exact S29.size
        have ne30 : s ≠ b30 := Nat.ne_of_lt (by rw [g30]; exact r29.1.lt)
        have F30 := R30.safe r29.1.lt F29
        have r30 := r29.ext E30
        have E30 := own_ext_trans E29 E30
        have gg30 : h.size ≤ b30 := by rw [g30]; exact E29.1
        refine g_dup S30.here hx (hb hby own_d145) rfl 83 rfl ?_
        refine g_iconst S30.here hx (hb hby own_d146) (0 : Int32) (by decide) 84 rfl ?_
        refine g_iloadN S30.here hx (hb hby own_d147) rfl 85 rfl ?_
        refine S30.stC hx V30 0 ⟨by decide, by decide⟩ (by decide) (by simp) ga30 c0 (own_nar (own_b16 b_c0)) (hb hby own_d148) 86 rfl (fun T31 h31 S31 W31 V31 R31 => ?_)
        have F31 := R31.safe r30.1.lt F30
        have r31 := r30.wr W31 ne30
        have E31 := own_ext_wr E30 W31 gg30
        refine g_dup S31.here hx (hb hby own_d149) rfl 87 rfl ?_
        refine g_iconst S31.here hx (hb hby own_d150) (1 : Int32) (by decide) 88 rfl ?_
        refine g_iloadN S31.here hx (hb hby own_d151) rfl 89 rfl ?_
        refine S31.stC hx V31 1 ⟨by decide, by decide⟩ (by decide) (by simp) ga30 c1 (own_nar (own_b16 b_c1)) (hb hby own_d152) 90 rfl (fun T32 h32 S32 W32 V32 R32 => ?_)
        have F32 := R32.safe r31.1.lt F31
        have r32 := r31.wr W32 ne30
        have E32 := own_ext_wr E31 W32 gg30
        refine own_mk S32 hx hw G (W := 1) (cs := [c0, c1]) 2 rfl (own_q15 hw) r32 V32 F32 ga29 (by decide) (by decide) (own_lat_cons b_c0 (own_lat_cons b_c1 own_lat_nil)) (by decide) (by decide) (by rw [hml]; rfl) [(.ref s)] (Nat.le_refl _) (hb hby own_d153) (by decide) (by decide) 93 rfl (fun T33 h33 S33 f_s K33 R33 => ?_)
        have E33 : Ext h h33 := own_ext_keep E32 K33 (fun x hx => by cases List.mem_singleton.mp hx; exact Nat.le_of_eq g29.symm)
        exact S33.aret hx hlk hret rfl rfl rfl (hb hby own_d154) ⟨_, rfl, f_s.exa, E33⟩ (by decide) (by decide)
    · refine S0.new hx (own_q11 hw) (own_q12 hw) (own_q13 hw) (hb hby own_d155) (by decide) (by decide) 58 rfl (fun T34 h34 s S34 g34 E34 A34 D34 F34 R34 _ => ?_)
      have r34 : own_raw Z h34 s := ⟨A34, ⟨_, D34 (Or.inr (own_q27 hw)) (ty := .array .byte) (by decide)⟩, _, D34 (Or.inr (own_q28 hw)) (ty := .byte) (by decide)⟩
      have ga34 : Z.heap.size ≤ s := by rw [g34]; exact S0.size
      refine g_dup S34.here hx (hb hby own_d156) rfl 59 rfl ?_
      refine g_iconst S34.here hx (hb hby own_d157) (1 : Int32) (by decide) 60 rfl ?_
      refine S34.newA (aty := .char) hx (own_q14 hw) (n := (1 : Int32)) (by decide) (cap := 1) (by decide) (by decide) (hb hby own_d158) (by decide) (by decide) 62 rfl (fun T35 h35 b35 k35 S35 g35 E35 V35 _ R35 => ?_)
      have ga35 : Z.heap.size ≤ b35 := by rw [g35]; exact S34.size
      have ne35 : s ≠ b35 := Nat.ne_of_lt (by rw [g35]; exact r34.1.lt)
      have F35 := R35.safe r34.1.lt F34
      have r35 := r34.ext E35
      have E35 := own_ext_trans E34 E35
      have gg35 : h.size ≤ b35 := by rw [g35]; exact E34.1
      refine g_dup S35.here hx (hb hby own_d159) rfl 63 rfl ?_
      refine g_iconst S35.here hx (hb hby own_d160) (0 : Int32) (by decide) 64 rfl ?_
      refine g_iloadN S35.here hx (hb hby own_d161) rfl 65 rfl ?_
      refine S35.stC hx V35 0 ⟨by decide, by decide⟩ (by decide) (by simp) ga35 c0 (own_nar (own_b16 b_c0)) (hb hby own_d162) 66 rfl (fun T36 h36 S36 W36 V36 R36 => ?_)
      have F36 := R36.safe r35.1.lt F35
      have r36 := r35.wr W36 ne35
      have E36 := own_ext_wr E35 W36 gg35
      refine own_mk S36 hx hw G (W := 1) (cs := [c0]) 1 rfl (own_q15 hw) r36 V36 F36 ga34 (by decide) (by decide) (own_lat_cons b_c0 own_lat_nil) (by decide) (by decide) (by rw [hml]; rfl) [(.ref s)] (Nat.le_refl _) (hb hby own_d163) (by decide) (by decide) 69 rfl (fun T37 h37 S37 f_s K37 R37 => ?_)
      have E37 : Ext h h37 := own_ext_keep E36 K37 (fun x hx => by cases List.mem_singleton.mp hx; exact Nat.le_of_eq g34.symm)
      exact S37.aret hx hlk hret rfl rfl rfl (hb hby own_d164) ⟨_, rfl, f_s.exa, E37⟩ (by decide) (by decide)
  · refine S0.new hx (own_q11 hw) (own_q12 hw) (own_q13 hw) (hb hby own_d165) (by decide) (by decide) 42 rfl (fun T38 h38 s S38 g38 E38 A38 D38 F38 R38 U38 => ?_)
    have ga38 : Z.heap.size ≤ s := by rw [g38]; exact S0.size
    have r38 : own_raw Z h38 s := ⟨A38, ⟨_, D38 (Or.inr (own_q27 hw)) (ty := .array .byte) (by decide)⟩, _, D38 (Or.inr (own_q28 hw)) (ty := .byte) (by decide)⟩
    refine g_dup S38.here hx (hb hby own_d166) rfl 43 rfl ?_
    refine g_iconst S38.here hx (hb hby own_d167) (0 : Int32) (by decide) 44 rfl ?_
    refine S38.newA (aty := .char) hx (own_q14 hw) (n := (0 : Int32)) (by decide) (cap := 0) (by decide) (by decide) (hb hby own_d168) (by decide) (by decide) 46 rfl (fun T39 h39 b39 k39 S39 g39 E39 V39 _ R39 => ?_)
    have F39 := R39.safe r38.1.lt F38
    have r39 := r38.ext E39
    have E39 := own_ext_trans E38 E39
    refine S39.callI hx (W := 1) (a := s) rfl (own_q15 hw) (own_q16 hw) (own_q17 hw) (by decide) (own_q13 hw) (ctE1 l Z a0 hw s b39 _ _ _ h39 S39.old r39 ga38 V39) (fun x hx => by cases List.mem_singleton.mp hx; exact ⟨r39.1.lt, F39⟩) (by decide) (by decide) (by rw [hml]; rfl) [(.ref b39)] [(.ref s)] (lenOf own_pd0 rfl) rfl rfl (Nat.le_refl _) (hb hby own_d169) (by decide) (by decide) 49 rfl (fun v40 vm40 T40 h40 S40 Q40 R40 => ?_)
    obtain ⟨rfl, f_s, K40⟩ := Q40
    show Goes _ _ _ _ T40 (mkF m 49 #[.val (.int p1), .val (.int n), .val (.int c0), .val (.int c1), .val (.int c2)] [(.ref s)])
    have E40 : Ext h h40 := own_ext_keep E39 K40 (fun x hx => by cases List.mem_singleton.mp hx; exact Nat.le_of_eq g38.symm)
    exact S40.aret hx hlk hret rfl rfl rfl (hb hby own_d170) ⟨_, rfl, f_s.exa, E40⟩ (by decide) (by decide)
theorem own_ef171 (m : MethodId) (x0 : Addr) (x1 : Addr) : entryFrame m #[(.ref x0), (.ref x1)] 3 = mkF m 0 #[.val (.ref x0), .val (.ref x1), .unset] [] := by first | (simp [entryFrame, mkF, argsToLocals, Value.category]; done) | rfl
theorem own_d172 : decode jdk_42_method_66_code 0 = .ok (.aload_n 0, 1) := by decide +kernel
theorem own_d173 : decode jdk_42_method_66_code 1 = .ok (.aload_n 1, 1) := by decide +kernel
theorem own_d174 : decode jdk_42_method_66_code 2 = .ok (.if_acmp .ne 5, 3) := by decide +kernel
theorem own_d175 : decode jdk_42_method_66_code 5 = .ok (.iconst 1, 1) := by decide +kernel
theorem own_d176 : decode jdk_42_method_66_code 6 = .ok (.ireturn, 1) := by decide +kernel
set_option maxRecDepth 65536 in
set_option maxHeartbeats 40000000 in
theorem ctQ (l : Launch) (Z : State) (a0 : Array Value) (hw : ∀ d ∈ tables_1, d.before a0 Z = true) (a : Addr) (h : Heap) (O : Old Z Z.heap.size h) :
    Ct 2 l Z consts_1 [] (⟨"java/lang/String", "equals", "(Ljava/lang/Object;)Z"⟩ : MethodName) jdk_42_method_66_code 3 (some .boolean) ({ frames := 0, cells := 0, slots := 0, locals := 0 } : Room) #[(.ref a), (.ref a)] h (fun v h' => v = some (.int 1) ∧ h = h') := by
  refine Ct.intro (plainFor_of_name own_pn15) O (fun q => by cases q) ⟨a0, own_ew hw⟩ ?_
  intro p e s m below meth c T0 hx hby hml hret hnm hlk hsf S0
  refine Goes.cast (own_ef171 m a a) ?_
  refine g_aloadN S0.here hx (hb hby own_d172) rfl rfl 1 rfl ?_
  refine g_aloadN S0.here hx (hb hby own_d173) rfl rfl 2 rfl ?_
  refine S0.acmp hx (hb hby own_d174) rfl rfl true (decide_eq_true rfl) (by decide) 5 (by decide) ?_
  refine g_iconst S0.here hx (hb hby own_d175) (1 : Int32) (by decide) 6 rfl ?_
  exact S0.iret hx hlk hret (Or.inr (Or.inl rfl)) rfl (hb hby own_d176) ⟨rfl, rfl⟩ (by decide) (by decide)
theorem own_d177 : decode jdk_78_method_2_code 0 = .ok (.aload_n 0, 1) := by decide +kernel
theorem own_d178 : decode jdk_78_method_2_code 1 = .ok (.invokespecial 1, 3) := by decide +kernel
theorem own_d179 : decode jdk_78_method_2_code 4 = .ok (.aload_n 0, 1) := by decide +kernel
theorem own_d180 : decode jdk_78_method_2_code 5 = .ok (.aload_n 0, 1) := by decide +kernel
theorem own_d181 : decode jdk_78_method_2_code 6 = .ok (.putfield 7, 3) := by decide +kernel
theorem own_d182 : decode jdk_78_method_2_code 9 = .ok (.aload_n 0, 1) := by decide +kernel
theorem own_d183 : decode jdk_78_method_2_code 10 = .ok (.getstatic 13, 3) := by decide +kernel
theorem own_d184 : decode jdk_78_method_2_code 13 = .ok (.putfield 17, 3) := by decide +kernel
theorem own_d185 : decode jdk_78_method_2_code 16 = .ok (.aload_n 0, 1) := by decide +kernel
theorem own_d186 : decode jdk_78_method_2_code 17 = .ok (.getstatic 20, 3) := by decide +kernel
theorem own_d187 : decode jdk_78_method_2_code 20 = .ok (.putfield 24, 3) := by decide +kernel
theorem own_d188 : decode jdk_78_method_2_code 23 = .ok (.aload_n 0, 1) := by decide +kernel
theorem own_d189 : decode jdk_78_method_2_code 24 = .ok (.invokevirtual 27, 3) := by decide +kernel
theorem own_d190 : decode jdk_78_method_2_code 27 = .ok (.pop, 1) := by decide +kernel
theorem own_d191 : decode jdk_78_method_2_code 28 = .ok (.aload_n 0, 1) := by decide +kernel
theorem own_d192 : decode jdk_78_method_2_code 29 = .ok (.aload_n 1, 1) := by decide +kernel
theorem own_d193 : decode jdk_78_method_2_code 30 = .ok (.putfield 31, 3) := by decide +kernel
theorem own_d194 : decode jdk_78_method_2_code 33 = .ok (.return_, 1) := by decide +kernel
theorem own_pn195 : plainName "java/lang/Throwable" = true := by first | (simp [plainName, overriddenIn]; done) | decide +kernel
set_option maxRecDepth 65536 in
set_option maxHeartbeats 40000000 in
theorem ctTh (l : Launch) (Z : State) (a0 : Array Value) (hw : ∀ d ∈ tables_1, d.before a0 Z = true) (d ms : Addr) (h : Heap) (O : Old Z Z.heap.size h) (G4 : own_tr l Z a0) (E : Exa Z h d "com/example/portcullis/portcullis/OAuthException") (U : Unt h d) (B1 : Fld Z h d "java/lang/Throwable" "backtrace" "Ljava/lang/Object;" .null) (H0 : own_has Z h d "java/lang/Throwable" "cause" "Ljava/lang/Throwable;") (H1 : own_has Z h d "java/lang/Throwable" "stackTrace" "[Ljava/lang/StackTraceElement;") (H2 : own_has Z h d "java/lang/Throwable" "suppressedExceptions" "Ljava/util/List;") (H3 : own_has Z h d "java/lang/Throwable" "detailMessage" "Ljava/lang/String;") (ga : Z.heap.size ≤ d) :
    Ct 2 l Z consts_1 [] (⟨"java/lang/Throwable", "<init>", "(Ljava/lang/String;)V"⟩ : MethodName) jdk_78_method_2_code 2 none ({ frames := 3, cells := 1, slots := 2752, locals := 42 } : Room) #[(.ref d), (.ref ms)] h (fun v h' => v = none ∧ Exa Z h' d "com/example/portcullis/portcullis/OAuthException" ∧ Fld Z h' d "java/lang/Throwable" "detailMessage" "Ljava/lang/String;" (.ref ms) ∧ Keep h h' [d]) := by
  refine Ct.intro (plainFor_of_name own_pn195) O (fun q => by cases q) ⟨a0, own_ew hw⟩ ?_
  intro p e s m below meth c T0 hx hby hml hret hnm hlk hsf S0
  refine Goes.cast (own_ef16 m d ms) ?_
  obtain ⟨G4, us, ss, sU, sV⟩ := G4
  have K := Keep.refl h [d]
  refine g_aloadN S0.here hx (hb hby own_d177) rfl rfl 1 rfl ?_
  refine S0.initO hx (own_q50 hw) (own_q23 hw) (own_q24 hw) (by rw [hml]; rfl) (W := 0) (by decide) (Nat.le_refl _) (by decide) (hb hby own_d178) 4 rfl (fun T41 S41 => ?_)
  refine g_aloadN S41.here hx (hb hby own_d179) rfl rfl 5 rfl ?_
  refine g_aloadN S41.here hx (hb hby own_d180) rfl rfl 6 rfl ?_
  obtain ⟨o0, H0⟩ := H0
  refine S41.putF hx (host := "") (Or.inl (own_q51 hw)) Via.refl H0 E (Or.inl (own_q52 hw)) (own_q34 hw) (ty := (.object "java/lang/Throwable")) (by decide) rfl rfl (S41.safeE E (by decide) (by decide)) ga (hb hby own_d181) 9 rfl (fun T42 h42 S42 W42 R42 => ?_)
  have E := E.wr W42
  have K := K.wr W42 (Or.inl (List.mem_singleton.mpr rfl))
  have U := U.wr W42
  have H1 := H1.wr W42
  have H2 := H2.wr W42
  have H3 := H3.wr W42
  have B1 := B1.other W42 (Or.inr (slot_ne (Or.inl (own_q83 hw)) (Or.inl (own_q52 hw)) (by decide) (t := (.object "java/lang/Object")) (t' := (.object "java/lang/Throwable")) (by decide) (by decide)))
  refine g_aloadN S42.here hx (hb hby own_d182) rfl rfl 10 rfl ?_
  refine S42.getS hx (host := "") (Or.inl (own_q53 hw)) Via.refl (sU.ext S42.old.2) (hb hby own_d183) 13 rfl (fun T43 S43 => ?_)
  obtain ⟨o1, H1⟩ := H1
  refine S43.putF hx (host := "") (Or.inl (own_q54 hw)) Via.refl H1 E (Or.inl (own_q55 hw)) (own_q34 hw) (ty := (.array (.object "java/lang/StackTraceElement"))) (by decide) rfl rfl (S43.safeE E (by decide) (by decide)) ga (hb hby own_d184) 16 rfl (fun T44 h44 S44 W44 R44 => ?_)
  have E := E.wr W44
  have K := K.wr W44 (Or.inl (List.mem_singleton.mpr rfl))
  have U := U.wr W44
  have H2 := H2.wr W44
  have H3 := H3.wr W44
  have B1 := B1.other W44 (Or.inr (slot_ne (Or.inl (own_q83 hw)) (Or.inl (own_q55 hw)) (by decide) (t := (.object "java/lang/Object")) (t' := (.array (.object "java/lang/StackTraceElement"))) (by decide) (by decide)))
  have fS := H1.same W44
  refine g_aloadN S44.here hx (hb hby own_d185) rfl rfl 17 rfl ?_
  refine S44.getS hx (host := "") (Or.inl (own_q56 hw)) Via.refl (sV.ext S44.old.2) (hb hby own_d186) 20 rfl (fun T45 S45 => ?_)
  obtain ⟨o2, H2⟩ := H2
  refine S45.putF hx (host := "") (Or.inl (own_q57 hw)) Via.refl H2 E (Or.inl (own_q58 hw)) (own_q34 hw) (ty := (.object "java/util/List")) (by decide) rfl rfl (S45.safeE E (by decide) (by decide)) ga (hb hby own_d187) 23 rfl (fun T46 h46 S46 W46 R46 => ?_)
  have E := E.wr W46
  have K := K.wr W46 (Or.inl (List.mem_singleton.mpr rfl))
  have U := U.wr W46
  have H3 := H3.wr W46
  have B1 := B1.other W46 (Or.inr (slot_ne (Or.inl (own_q83 hw)) (Or.inl (own_q58 hw)) (by decide) (t := (.object "java/lang/Object")) (t' := (.object "java/util/List")) (by decide) (by decide)))
  have fS := fS.other W46 (Or.inr (slot_ne (Or.inl (own_q55 hw)) (Or.inl (own_q58 hw)) (by decide) (t := (.array (.object "java/lang/StackTraceElement"))) (t' := (.object "java/util/List")) (by decide) (by decide)))
  refine g_aloadN S46.here hx (hb hby own_d188) rfl rfl 24 rfl ?_
  refine S46.fill hx G4 (rc := "com/example/portcullis/portcullis/OAuthException") (own_thw hw) (own_q59 hw) (own_q61 hw) (own_q60 hw) (own_q62 hw) (own_q34 hw) (own_q63 hw) E U fS B1 (sU.ext S46.old.2) ga (S46.safeE E (by decide) (by decide)) (by rw [hml]; rfl) (hb hby own_d189) (W := 0) (by decide) (Nat.le_refl _) (by decide) (by decide) (by decide) 27 rfl (fun T47 h47 S47 K47 R47 => ?_)
  have E := E.keep K47
  have H3 := H3.keep K47
  have K := K.trans K47 (fun x hx => Or.inl hx)
  refine g_pop S47.here hx (hb hby own_d190) rfl 28 rfl ?_
  refine g_aloadN S47.here hx (hb hby own_d191) rfl rfl 29 rfl ?_
  refine g_aloadN S47.here hx (hb hby own_d192) rfl rfl 30 rfl ?_
  obtain ⟨o3, H3⟩ := H3
  refine S47.putF hx (host := "") (Or.inl (own_q86 hw)) Via.refl H3 E (Or.inl (own_q82 hw)) (own_q34 hw) (ty := (.object "java/lang/String")) (by decide) rfl rfl (S47.safeE E (by decide) (by decide)) ga (hb hby own_d193) 33 rfl (fun T48 h48 S48 W48 R48 => ?_)
  have E := E.wr W48
  have K := K.wr W48 (Or.inl (List.mem_singleton.mpr rfl))
  have M := H3.same W48
  exact S48.vret hx hlk hret (hb hby own_d194) ⟨rfl, E, M, K⟩ (by decide) (by decide)
theorem own_d196 : decode jdk_59_method_2_code 0 = .ok (.aload_n 0, 1) := by decide +kernel
theorem own_d197 : decode jdk_59_method_2_code 1 = .ok (.aload_n 1, 1) := by decide +kernel
theorem own_d198 : decode jdk_59_method_2_code 2 = .ok (.invokespecial 7, 3) := by decide +kernel
theorem own_pd199 : parseMethodDescriptor "(Ljava/lang/String;)V" = some ⟨[(.object "java/lang/String")], none⟩ := by decide +kernel
theorem own_d200 : decode jdk_59_method_2_code 5 = .ok (.return_, 1) := by decide +kernel
theorem own_pn201 : plainName "java/lang/Exception" = true := by first | (simp [plainName, overriddenIn]; done) | decide +kernel
set_option maxRecDepth 65536 in
set_option maxHeartbeats 40000000 in
theorem ctEx (l : Launch) (Z : State) (a0 : Array Value) (hw : ∀ d ∈ tables_1, d.before a0 Z = true) (d ms : Addr) (h : Heap) (O : Old Z Z.heap.size h) (G4 : own_tr l Z a0) (E : Exa Z h d "com/example/portcullis/portcullis/OAuthException") (U : Unt h d) (B1 : Fld Z h d "java/lang/Throwable" "backtrace" "Ljava/lang/Object;" .null) (H0 : own_has Z h d "java/lang/Throwable" "cause" "Ljava/lang/Throwable;") (H1 : own_has Z h d "java/lang/Throwable" "stackTrace" "[Ljava/lang/StackTraceElement;") (H2 : own_has Z h d "java/lang/Throwable" "suppressedExceptions" "Ljava/util/List;") (H3 : own_has Z h d "java/lang/Throwable" "detailMessage" "Ljava/lang/String;") (ga : Z.heap.size ≤ d) :
    Ct 2 l Z consts_1 [] (⟨"java/lang/Exception", "<init>", "(Ljava/lang/String;)V"⟩ : MethodName) jdk_59_method_2_code 2 none ({ frames := 4, cells := 1, slots := 2752, locals := 55 } : Room) #[(.ref d), (.ref ms)] h (fun v h' => v = none ∧ Exa Z h' d "com/example/portcullis/portcullis/OAuthException" ∧ Fld Z h' d "java/lang/Throwable" "detailMessage" "Ljava/lang/String;" (.ref ms) ∧ Keep h h' [d]) := by
  refine Ct.intro (plainFor_of_name own_pn201) O (fun q => by cases q) ⟨a0, own_ew hw⟩ ?_
  intro p e s m below meth c T0 hx hby hml hret hnm hlk hsf S0
  refine Goes.cast (own_ef16 m d ms) ?_
  refine g_aloadN S0.here hx (hb hby own_d196) rfl rfl 1 rfl ?_
  refine g_aloadN S0.here hx (hb hby own_d197) rfl rfl 2 rfl ?_
  refine S0.callI hx (W := 0) (a := d) rfl (own_q44 hw) (own_q45 hw) (own_q49 hw) (by decide) (own_q48 hw) (ctTh l Z a0 hw d ms h O G4 E U B1 H0 H1 H2 H3 ga) nosf (by decide) (by decide) (by rw [hml]; rfl) [(.ref ms)] [] (lenOf own_pd199 rfl) rfl rfl (Nat.le_refl _) (hb hby own_d198) (by decide) (by decide) 5 rfl (fun v49 vm49 T49 h49 S49 Q49 R49 => ?_)
  obtain ⟨rfl, E', M', K'⟩ := Q49
  show Goes _ _ _ _ T49 (mkF m 5 #[.val (.ref d), .val (.ref ms)] [])
  exact S49.vret hx hlk hret (hb hby own_d200) ⟨rfl, E', M', K'⟩ (by decide) (by decide)
theorem own_ef202 (m : MethodId) (x0 : Addr) (x1 : Addr) (x2 : Int32) (x3 : Addr) : entryFrame m #[(.ref x0), (.ref x1), (.int x2), (.ref x3)] 4 = mkF m 0 #[.val (.ref x0), .val (.ref x1), .val (.int x2), .val (.ref x3)] [] := by first | (simp [entryFrame, mkF, argsToLocals, Value.category]; done) | rfl
theorem own_d203 : decode prog_13_method_2_code 0 = .ok (.aload_n 0, 1) := by decide +kernel
theorem own_d204 : decode prog_13_method_2_code 1 = .ok (.aload_n 3, 1) := by decide +kernel
theorem own_d205 : decode prog_13_method_2_code 2 = .ok (.invokespecial 13, 3) := by decide +kernel
theorem own_d206 : decode prog_13_method_2_code 5 = .ok (.aload_n 0, 1) := by decide +kernel
theorem own_d207 : decode prog_13_method_2_code 6 = .ok (.aload_n 1, 1) := by decide +kernel
theorem own_d208 : decode prog_13_method_2_code 7 = .ok (.putfield 18, 3) := by decide +kernel
theorem own_d209 : decode prog_13_method_2_code 10 = .ok (.aload_n 0, 1) := by decide +kernel
theorem own_d210 : decode prog_13_method_2_code 11 = .ok (.iload_n 2, 1) := by decide +kernel
theorem own_d211 : decode prog_13_method_2_code 12 = .ok (.putfield 22, 3) := by decide +kernel
theorem own_d212 : decode prog_13_method_2_code 15 = .ok (.return_, 1) := by decide +kernel
theorem own_pn213 : plainName "com/example/portcullis/portcullis/OAuthException" = true := by first | (simp [plainName, overriddenIn]; done) | decide +kernel
set_option maxRecDepth 65536 in
set_option maxHeartbeats 40000000 in
theorem ctX (l : Launch) (Z : State) (a0 : Array Value) (hw : ∀ d ∈ tables_1, d.before a0 Z = true) (d cd ms : Addr) (st : Int32) (h : Heap) (O : Old Z Z.heap.size h) (G4 : own_tr l Z a0) (E : Exa Z h d "com/example/portcullis/portcullis/OAuthException") (U : Unt h d) (F1 : Fld Z h d "com/example/portcullis/portcullis/OAuthException" "code" "Lcom/example/portcullis/portcullis/ErrorCode;" .null) (F2 : Fld Z h d "com/example/portcullis/portcullis/OAuthException" "status" "I" (.int 0)) (B1 : Fld Z h d "java/lang/Throwable" "backtrace" "Ljava/lang/Object;" .null) (B2 : Fld Z h d "java/lang/Throwable" "detailMessage" "Ljava/lang/String;" .null) (H0 : own_has Z h d "java/lang/Throwable" "cause" "Ljava/lang/Throwable;") (H1 : own_has Z h d "java/lang/Throwable" "stackTrace" "[Ljava/lang/StackTraceElement;") (H2 : own_has Z h d "java/lang/Throwable" "suppressedExceptions" "Ljava/util/List;") (ga : Z.heap.size ≤ d) :
    Ct 2 l Z consts_1 [] (⟨"com/example/portcullis/portcullis/OAuthException", "<init>", "(Lcom/example/portcullis/portcullis/ErrorCode;ILjava/lang/String;)V"⟩ : MethodName) prog_13_method_2_code 4 none ({ frames := 5, cells := 1, slots := 2752, locals := 70 } : Room) #[(.ref d), (.ref cd), (.int st), (.ref ms)] h (fun v h' => v = none ∧ own_ex Z h' d cd st ms ∧ Keep h h' [d]) := by
  refine Ct.intro (plainFor_of_name own_pn213) O (fun q => by cases q) ⟨a0, own_ew hw⟩ ?_
  intro p e s m below meth c T0 hx hby hml hret hnm hlk hsf S0
  refine Goes.cast (own_ef202 m d cd st ms) ?_
  refine g_aloadN S0.here hx (hb hby own_d203) rfl rfl 1 rfl ?_
  refine g_aloadN S0.here hx (hb hby own_d204) rfl rfl 2 rfl ?_
  refine S0.callI hx (W := 0) (a := d) rfl (own_q39 hw) (own_q40 hw) (own_q43 hw) (by decide) (own_q42 hw) (ctEx l Z a0 hw d ms h O G4 E U B1 H0 H1 H2 ⟨_, B2⟩ ga) nosf (by decide) (by decide) (by rw [hml]; rfl) [(.ref ms)] [] (lenOf own_pd199 rfl) rfl rfl (Nat.le_refl _) (hb hby own_d205) (by decide) (by decide) 5 rfl (fun v50 vm50 T50 h50 S50 Q50 R50 => ?_)
  obtain ⟨rfl, E1, M1, K1⟩ := Q50
  show Goes _ _ _ _ T50 (mkF m 5 #[.val (.ref d), .val (.ref cd), .val (.int st), .val (.ref ms)] [])
  obtain ⟨_, C1⟩ := own_has.keep ⟨_, F1⟩ K1
  obtain ⟨_, S1'⟩ := own_has.keep ⟨_, F2⟩ K1
  refine g_aloadN S50.here hx (hb hby own_d206) rfl rfl 6 rfl ?_
  refine g_aloadN S50.here hx (hb hby own_d207) rfl rfl 7 rfl ?_
  refine S50.putF hx (host := "") (Or.inl (own_q87 hw)) Via.refl C1 E1 (Or.inr ⟨(own_q88 hw), rfl, hnm⟩) (own_q34 hw) (ty := (.object "com/example/portcullis/portcullis/ErrorCode")) (by decide) rfl rfl (S50.safeE E1 (by decide) (by decide)) ga (hb hby own_d208) 10 rfl (fun T51 h51 S51 W51 R51 => ?_)
  have E2 := E1.wr W51
  have C2 := C1.same W51
  have S2' := S1'.other W51 (Or.inr (slot_ne (Or.inr (own_q90 hw)) (Or.inr (own_q88 hw)) (by decide) (t := .int) (t' := (.object "com/example/portcullis/portcullis/ErrorCode")) (by decide) (by decide)))
  have M2 := M1.other W51 (Or.inr (slot_ne (Or.inl (own_q82 hw)) (Or.inr (own_q88 hw)) (by decide) (t := (.object "java/lang/String")) (t' := (.object "com/example/portcullis/portcullis/ErrorCode")) (by decide) (by decide)))
  have K2 := K1.wr W51 (Or.inl (List.mem_singleton.mpr rfl))
  refine g_aloadN S51.here hx (hb hby own_d209) rfl rfl 11 rfl ?_
  refine g_iloadN S51.here hx (hb hby own_d210) rfl 12 rfl ?_
  refine S51.putF hx (host := "") (Or.inl (own_q89 hw)) Via.refl S2' E2 (Or.inr ⟨(own_q90 hw), rfl, hnm⟩) (own_q34 hw) (ty := .int) (by decide) rfl rfl (S51.safeE E2 (by decide) (by decide)) ga (hb hby own_d211) 15 rfl (fun T52 h52 S52 W52 R52 => ?_)
  have E3 := E2.wr W52
  have C3 := C2.other W52 (Or.inr (slot_ne (Or.inr (own_q88 hw)) (Or.inr (own_q90 hw)) (by decide) (t := (.object "com/example/portcullis/portcullis/ErrorCode")) (t' := .int) (by decide) (by decide)))
  have S3' := S2'.same W52
  have M3 := M2.other W52 (Or.inr (slot_ne (Or.inl (own_q82 hw)) (Or.inr (own_q90 hw)) (by decide) (t := (.object "java/lang/String")) (t' := .int) (by decide) (by decide)))
  have K3 := K2.wr W52 (Or.inl (List.mem_singleton.mpr rfl))
  exact S52.vret hx hlk hret (hb hby own_d212) ⟨rfl, ⟨E3, C3, S3', M3⟩, K3⟩ (by decide) (by decide)
theorem own_d214 : decode prog_13_method_4_code 0 = .ok (.new 8, 3) := by decide +kernel
theorem own_d215 : decode prog_13_method_4_code 3 = .ok (.dup, 1) := by decide +kernel
theorem own_d216 : decode prog_13_method_4_code 4 = .ok (.aload_n 0, 1) := by decide +kernel
theorem own_d217 : decode prog_13_method_4_code 5 = .ok (.getfield 18, 3) := by decide +kernel
theorem own_d218 : decode prog_13_method_4_code 8 = .ok (.aload_n 0, 1) := by decide +kernel
theorem own_d219 : decode prog_13_method_4_code 9 = .ok (.getfield 22, 3) := by decide +kernel
theorem own_d220 : decode prog_13_method_4_code 12 = .ok (.aload_n 1, 1) := by decide +kernel
theorem own_d221 : decode prog_13_method_4_code 13 = .ok (.invokespecial 7, 3) := by decide +kernel
theorem own_pd222 : parseMethodDescriptor "(Lcom/example/portcullis/portcullis/ErrorCode;ILjava/lang/String;)V" = some ⟨[(.object "com/example/portcullis/portcullis/ErrorCode"), .int, (.object "java/lang/String")], none⟩ := by decide +kernel
theorem own_d223 : decode prog_13_method_4_code 16 = .ok (.areturn, 1) := by decide +kernel
set_option maxRecDepth 65536 in
set_option maxHeartbeats 40000000 in
theorem ctD (l : Launch) (Z : State) (a0 : Array Value) (hw : ∀ d ∈ tables_1, d.before a0 Z = true) (d ms cd m0 : Addr) (st : Int32) (h : Heap) (O : Old Z Z.heap.size h) (G4 : own_tr l Z a0) (X : own_ex Z h d cd st m0) :
    Ct 2 l Z consts_1 [] (⟨"com/example/portcullis/portcullis/OAuthException", "describedAs", "(Ljava/lang/String;)Lcom/example/portcullis/portcullis/OAuthException;"⟩ : MethodName) prog_13_method_4_code 2 (some (.object "com/example/portcullis/portcullis/OAuthException")) ({ frames := 6, cells := 2, slots := 2760, locals := 87 } : Room) #[(.ref d), (.ref ms)] h (fun v h' => ∃ r : Addr, v = some (.ref r) ∧ own_ex Z h' r cd st ms ∧ Ext h h') := by
  refine Ct.intro (plainFor_of_name own_pn213) O (fun q => by cases q) ⟨a0, own_ew hw⟩ ?_
  intro p e s m below meth c T0 hx hby hml hret hnm hlk hsf S0
  refine Goes.cast (own_ef16 m d ms) ?_
  refine S0.new hx (own_q96 hw) (own_q34 hw) (own_q35 hw) (hb hby own_d214) (by decide) (by decide) 3 rfl (fun T53 h53 r S53 g53 E53 A53 D53 F53 R53 U53 => ?_)
  have ga53 : Z.heap.size ≤ r := by rw [g53]; exact S0.size
  have X := X.ext E53
  have f1 := D53 (Or.inr (own_q88 hw)) (ty := (.object "com/example/portcullis/portcullis/ErrorCode")) (by decide)
  have f2 := D53 (Or.inr (own_q90 hw)) (ty := .int) (by decide)
  have b1 := D53 (Or.inl (own_q83 hw)) (ty := .object "java/lang/Object") (by decide)
  have b2 := D53 (Or.inl (own_q82 hw)) (ty := .object "java/lang/String") (by decide)
  have hh0 : own_has Z h53 r "java/lang/Throwable" "cause" "Ljava/lang/Throwable;" := ⟨_, D53 (Or.inl (own_q52 hw)) (ty := (.object "java/lang/Throwable")) (by decide)⟩
  have hh1 : own_has Z h53 r "java/lang/Throwable" "stackTrace" "[Ljava/lang/StackTraceElement;" := ⟨_, D53 (Or.inl (own_q55 hw)) (ty := (.array (.object "java/lang/StackTraceElement"))) (by decide)⟩
  have hh2 : own_has Z h53 r "java/lang/Throwable" "suppressedExceptions" "Ljava/util/List;" := ⟨_, D53 (Or.inl (own_q58 hw)) (ty := (.object "java/util/List")) (by decide)⟩
  
  refine g_dup S53.here hx (hb hby own_d215) rfl 4 rfl ?_
  refine g_aloadN S53.here hx (hb hby own_d216) rfl rfl 5 rfl ?_
  refine S53.getF hx (host := "") (Or.inl (own_q87 hw)) Via.refl X.2.1 (hb hby own_d217) 8 rfl (fun T54 S54 => ?_)
  refine g_aloadN S54.here hx (hb hby own_d218) rfl rfl 9 rfl ?_
  refine S54.getF hx (host := "") (Or.inl (own_q89 hw)) Via.refl X.2.2.1 (hb hby own_d219) 12 rfl (fun T55 S55 => ?_)
  refine g_aloadN S55.here hx (hb hby own_d220) rfl rfl 13 rfl ?_
  refine S55.callI hx (W := 1) (a := r) rfl (own_q97 hw) (own_q37 hw) (own_q38 hw) (by decide) (own_q35 hw) (ctX l Z a0 hw r cd ms st h53 S55.old G4 A53 U53 f1 f2 b1 b2 hh0 hh1 hh2 ga53) nosf (by decide) (by decide) (by rw [hml]; rfl) [(.ref cd), (.int st), (.ref ms)] [(.ref r)] (lenOf own_pd222 rfl) rfl rfl (Nat.le_refl _) (hb hby own_d221) (by decide) (by decide) 16 rfl (fun v56 vm56 T56 h56 S56 Q56 R56 => ?_)
  obtain ⟨rfl, X_r, K56⟩ := Q56
  show Goes _ _ _ _ T56 (mkF m 16 #[.val (.ref d), .val (.ref ms)] [(.ref r)])
  have Q56' : Ext h h56 := own_ext_keep E53 K56 (fun x hx => by cases List.mem_singleton.mp hx; exact Nat.le_of_eq g53.symm)
  exact S56.aret hx hlk hret rfl rfl rfl (hb hby own_d223) ⟨_, rfl, X_r, Q56'⟩ (by decide) (by decide)
theorem own_ef224 (m : MethodId) (x0 : Addr) : entryFrame m #[(.ref x0)] 1 = mkF m 0 #[.val (.ref x0)] [] := by first | (simp [entryFrame, mkF, argsToLocals, Value.category]; done) | rfl
theorem own_d225 : decode prog_11_method_4_code 0 = .ok (.aload_n 0, 1) := by decide +kernel
theorem own_d226 : decode prog_11_method_4_code 1 = .ok (.getfield 62, 3) := by decide +kernel
theorem own_d227 : decode prog_11_method_4_code 4 = .ok (.areturn, 1) := by decide +kernel
theorem own_pn228 : plainName "com/example/portcullis/portcullis/ErrorCode" = true := by first | (simp [plainName, overriddenIn]; done) | decide +kernel
set_option maxRecDepth 65536 in
set_option maxHeartbeats 40000000 in
theorem ctN (l : Launch) (Z : State) (a0 : Array Value) (hw : ∀ d ∈ tables_1, d.before a0 Z = true) (d n : Addr) (h : Heap) (O : Old Z Z.heap.size h) (F : Fld Z h d "com/example/portcullis/portcullis/ErrorCode" "standardName" "Ljava/lang/String;" (.ref n)) :
    Ct 2 l Z consts_1 [] (⟨"com/example/portcullis/portcullis/ErrorCode", "standardName", "()Ljava/lang/String;"⟩ : MethodName) prog_11_method_4_code 1 (some (.object "java/lang/String")) ({ frames := 0, cells := 0, slots := 0, locals := 0 } : Room) #[(.ref d)] h (fun v h' => v = some (.ref n) ∧ h = h') := by
  refine Ct.intro (plainFor_of_name own_pn228) O (fun q => by cases q) ⟨a0, own_ew hw⟩ ?_
  intro p e s m below meth c T0 hx hby hml hret hnm hlk hsf S0
  refine Goes.cast (own_ef224 m d) ?_
  refine g_aloadN S0.here hx (hb hby own_d225) rfl rfl 1 rfl ?_
  refine S0.getF hx (host := "") (Or.inl (own_q103 hw)) Via.refl F (hb hby own_d226) 4 rfl (fun T57 S57 => ?_)
  exact S57.aret hx hlk hret rfl rfl rfl (hb hby own_d227) ⟨rfl, rfl⟩ (by decide) (by decide)
theorem own_d229 : decode prog_13_method_5_code 0 = .ok (.aload_n 0, 1) := by decide +kernel
theorem own_d230 : decode prog_13_method_5_code 1 = .ok (.getfield 22, 3) := by decide +kernel
theorem own_d231 : decode prog_13_method_5_code 4 = .ok (.ireturn, 1) := by decide +kernel
set_option maxRecDepth 65536 in
set_option maxHeartbeats 40000000 in
theorem ctS (l : Launch) (Z : State) (a0 : Array Value) (hw : ∀ d ∈ tables_1, d.before a0 Z = true) (d ms cd : Addr) (st : Int32) (h : Heap) (O : Old Z Z.heap.size h) (X : own_ex Z h d cd st ms) :
    Ct 2 l Z consts_1 [] (⟨"com/example/portcullis/portcullis/OAuthException", "status", "()I"⟩ : MethodName) prog_13_method_5_code 1 (some .int) ({ frames := 0, cells := 0, slots := 0, locals := 0 } : Room) #[(.ref d)] h (fun v h' => v = some (.int st) ∧ h = h') := by
  refine Ct.intro (plainFor_of_name own_pn213) O (fun q => by cases q) ⟨a0, own_ew hw⟩ ?_
  intro p e s m below meth c T0 hx hby hml hret hnm hlk hsf S0
  refine Goes.cast (own_ef224 m d) ?_
  refine g_aloadN S0.here hx (hb hby own_d229) rfl rfl 1 rfl ?_
  refine S0.getF hx (host := "") (Or.inl (own_q89 hw)) Via.refl X.2.2.1 (hb hby own_d230) 4 rfl (fun T58 S58 => ?_)
  exact S58.iret hx hlk hret (Or.inl rfl) rfl (hb hby own_d231) ⟨rfl, rfl⟩ (by decide) (by decide)
theorem own_d232 : decode jdk_78_method_6_code 0 = .ok (.aload_n 0, 1) := by decide +kernel
theorem own_d233 : decode jdk_78_method_6_code 1 = .ok (.getfield 31, 3) := by decide +kernel
theorem own_d234 : decode jdk_78_method_6_code 4 = .ok (.areturn, 1) := by decide +kernel
set_option maxRecDepth 65536 in
set_option maxHeartbeats 40000000 in
theorem ctM (l : Launch) (Z : State) (a0 : Array Value) (hw : ∀ d ∈ tables_1, d.before a0 Z = true) (d ms cd : Addr) (st : Int32) (h : Heap) (O : Old Z Z.heap.size h) (X : own_ex Z h d cd st ms) :
    Ct 2 l Z consts_1 [] (⟨"java/lang/Throwable", "getMessage", "()Ljava/lang/String;"⟩ : MethodName) jdk_78_method_6_code 1 (some (.object "java/lang/String")) ({ frames := 0, cells := 0, slots := 0, locals := 0 } : Room) #[(.ref d)] h (fun v h' => v = some (.ref ms) ∧ h = h') := by
  refine Ct.intro (plainFor_of_name own_pn195) O (fun q => by cases q) ⟨a0, own_ew hw⟩ ?_
  intro p e s m below meth c T0 hx hby hml hret hnm hlk hsf S0
  refine Goes.cast (own_ef224 m d) ?_
  refine g_aloadN S0.here hx (hb hby own_d232) rfl rfl 1 rfl ?_
  refine S0.getF hx (host := "") (Or.inl (own_q86 hw)) Via.refl X.2.2.2 (hb hby own_d233) 4 rfl (fun T59 S59 => ?_)
  exact S59.aret hx hlk hret rfl rfl rfl (hb hby own_d234) ⟨rfl, rfl⟩ (by decide) (by decide)
theorem own_d235 : decode prog_13_method_6_code 0 = .ok (.aload_n 0, 1) := by decide +kernel
theorem own_d236 : decode prog_13_method_6_code 1 = .ok (.getfield 18, 3) := by decide +kernel
theorem own_d237 : decode prog_13_method_6_code 4 = .ok (.invokevirtual 33, 3) := by decide +kernel
theorem own_pd238 : parseMethodDescriptor "()Ljava/lang/String;" = some ⟨[], some (.object "java/lang/String")⟩ := by decide +kernel
theorem own_d239 : decode prog_13_method_6_code 7 = .ok (.areturn, 1) := by decide +kernel
set_option maxRecDepth 65536 in
set_option maxHeartbeats 40000000 in
theorem ctE (l : Launch) (Z : State) (a0 : Array Value) (hw : ∀ d ∈ tables_1, d.before a0 Z = true) (d ms cd n : Addr) (st : Int32) (h : Heap) (O : Old Z Z.heap.size h) (X : own_ex Z h d cd st ms) (E : Exa Z h cd "com/example/portcullis/portcullis/ErrorCode") (F : Fld Z h cd "com/example/portcullis/portcullis/ErrorCode" "standardName" "Ljava/lang/String;" (.ref n)) :
    Ct 2 l Z consts_1 [] (⟨"com/example/portcullis/portcullis/OAuthException", "error", "()Ljava/lang/String;"⟩ : MethodName) prog_13_method_6_code 1 (some (.object "java/lang/String")) ({ frames := 1, cells := 0, slots := 0, locals := 12 } : Room) #[(.ref d)] h (fun v h' => v = some (.ref n) ∧ h = h') := by
  refine Ct.intro (plainFor_of_name own_pn213) O (fun q => by cases q) ⟨a0, own_ew hw⟩ ?_
  intro p e s m below meth c T0 hx hby hml hret hnm hlk hsf S0
  refine Goes.cast (own_ef224 m d) ?_
  refine g_aloadN S0.here hx (hb hby own_d235) rfl rfl 1 rfl ?_
  refine S0.getF hx (host := "") (Or.inl (own_q87 hw)) Via.refl X.2.1 (hb hby own_d236) 4 rfl (fun T60 S60 => ?_)
  refine S60.callV hx (W := 0) (C := "com/example/portcullis/portcullis/ErrorCode") (own_q115 hw) (own_q99 hw) (notFace_of_selects (args := #[]) (mvT S60.warm (own_q101 hw))) (own_q101 hw) (own_q100 hw) (by decide) E (own_q102 hw) (own_q6 hw) (ctN l Z a0 hw cd n h S60.old F) nosf (by decide) (by decide) (by rw [hml]; rfl) [] [] (lenOf own_pd238 rfl) rfl rfl (Nat.le_refl _) (hb hby own_d237) (by decide) (by decide) 7 rfl (fun v61 vm61 T61 h61 S61 Q61 R61 => ?_)
  obtain ⟨rfl, rfl⟩ := Q61
  show Goes _ _ _ _ T61 (mkF m 7 #[.val (.ref d)] [(.ref n)])
  exact S61.aret hx hlk hret rfl rfl rfl (hb hby own_d239) ⟨rfl, rfl⟩ (by decide) (by decide)
theorem own_ef240 (m : MethodId) (x0 : Int32) (x1 : Int32) (x2 : Int32) (x3 : Int32) : entryFrame m #[(.int x0), (.int x1), (.int x2), (.int x3)] maxLocals = mkF m 0 #[.val (.int x0), .val (.int x1), .val (.int x2), .val (.int x3), .unset, .unset, .unset, .unset, .unset, .unset] [] := by first | (simp [entryFrame, mkF, argsToLocals, Value.category, maxLocals]; done) | rfl
theorem own_pd241 : parseMethodDescriptor "(I)Lcom/example/portcullis/portcullis/ErrorCode;" = some ⟨[.int], some (.object "com/example/portcullis/portcullis/ErrorCode")⟩ := by decide +kernel
theorem own_pd242 : parseMethodDescriptor "(I)Ljava/lang/String;" = some ⟨[.int], some (.object "java/lang/String")⟩ := by decide +kernel
theorem own_pd243 : parseMethodDescriptor "(Ljava/lang/String;)Lcom/example/portcullis/portcullis/OAuthException;" = some ⟨[(.object "java/lang/String")], some (.object "com/example/portcullis/portcullis/OAuthException")⟩ := by decide +kernel
theorem own_pd244 : parseMethodDescriptor "()I" = some ⟨[], some .int⟩ := by decide +kernel
theorem own_pd245 : parseMethodDescriptor "(Ljava/lang/Object;)Z" = some ⟨[(.object "java/lang/Object")], some .boolean⟩ := by decide +kernel
set_option maxRecDepth 65536 in
set_option maxHeartbeats 40000000 in
theorem ct0 (l : Launch) (Z : State) (a0 : Array Value) (hw : ∀ d ∈ tables_1, d.before a0 Z = true) (p1 p2 p3 p4 : Int32) (as : List Addr) (h : Heap) (O : Old Z Z.heap.size h) (G : own_cs Z) (G3 : own_en Z as) (G4 : own_tr l Z a0) :
    Ct 2 l Z consts_1 [] x code maxLocals ret room_1 #[(.int p1), (.int p2), (.int p3), (.int p4)] h (fun v h' => v = some (.int 1)) := by
  refine Ct.intro (plainFor_of_name own_pn88) O (fun q => by cases q) ⟨a0, own_ew hw⟩ ?_
  intro p e s m below meth c T0 hx hby hml hret hnm hlk hsf S0
  refine Goes.cast (own_ef240 m p1 p2 p3 p4) ?_
  refine g_iloadN S0.here hx (hb hby at_0) rfl 1 rfl ?_
  refine S0.ldcI hx (own_q0 hw) (hb hby at_1) 3 rfl ?_
  refine g_iand S0.here hx (hb hby at_3) 4 rfl ?_
  refine g_bipush S0.here hx (hb hby at_4) (13 : Int32) (by decide) 6 rfl ?_
  refine g_irem S0.here hx (hb hby at_6) (by decide) 7 rfl ?_
  refine S0.callS hx (W := 0) (own_q1 hw) (own_q2 hw) (own_q3 hw) (own_q4 hw) (by decide) (ctC l Z a0 hw ((p1 &&& (2147483647 : Int32)) % (13 : Int32)) as h S0.old G3) nosf (by decide) (by decide) (by rw [hml]; rfl) [(.int ((p1 &&& (2147483647 : Int32)) % (13 : Int32)))] [] (lenOf own_pd241 rfl) rfl rfl (Nat.le_refl _) (hb hby at_7) (by decide) (by decide) 10 rfl (fun v62 vm62 T62 h62 S62 Q62 R62 => ?_)
  obtain ⟨cd, rfl, C0, rfl⟩ := Q62
  show Goes _ _ _ _ T62 (mkF m 10 #[.val (.int p1), .val (.int p2), .val (.int p3), .val (.int p4), .unset, .unset, .unset, .unset, .unset, .unset] [(.ref cd)])
  refine g_astore S62.here hx (hb hby at_10) rfl #[.val (.int p1), .val (.int p2), .val (.int p3), .val (.int p4), .val (.ref cd), .unset, .unset, .unset, .unset, .unset] rfl 12 rfl ?_
  refine g_iloadN S62.here hx (hb hby at_12) rfl 13 rfl ?_
  refine S62.callS hx (W := 0) (own_q8 hw) (own_q9 hw) (own_q3 hw) (own_q10 hw) (by decide) (ctT l Z a0 hw p3 h S62.old G) nosf (by decide) (by decide) (by rw [hml]; rfl) [(.int p3)] [] (lenOf own_pd242 rfl) rfl rfl (Nat.le_refl _) (hb hby at_13) (by decide) (by decide) 16 rfl (fun v63 vm63 T63 h63 S63 Q63 R63 => ?_)
  obtain ⟨m1, rfl, E_m1, E63⟩ := Q63
  show Goes _ _ _ _ T63 (mkF m 16 #[.val (.int p1), .val (.int p2), .val (.int p3), .val (.int p4), .val (.ref cd), .unset, .unset, .unset, .unset, .unset] [(.ref m1)])
  have C0 := C0.ext E63
  refine g_astore S63.here hx (hb hby at_16) rfl #[.val (.int p1), .val (.int p2), .val (.int p3), .val (.int p4), .val (.ref cd), .val (.ref m1), .unset, .unset, .unset, .unset] rfl 18 rfl ?_
  refine g_iloadN S63.here hx (hb hby at_18) rfl 19 rfl ?_
  refine S63.callS hx (W := 0) (own_q8 hw) (own_q9 hw) (own_q3 hw) (own_q10 hw) (by decide) (ctT l Z a0 hw p4 h63 S63.old G) nosf (by decide) (by decide) (by rw [hml]; rfl) [(.int p4)] [] (lenOf own_pd242 rfl) rfl rfl (Nat.le_refl _) (hb hby at_19) (by decide) (by decide) 22 rfl (fun v64 vm64 T64 h64 S64 Q64 R64 => ?_)
  obtain ⟨m2, rfl, E_m2, E64⟩ := Q64
  show Goes _ _ _ _ T64 (mkF m 22 #[.val (.int p1), .val (.int p2), .val (.int p3), .val (.int p4), .val (.ref cd), .val (.ref m1), .unset, .unset, .unset, .unset] [(.ref m2)])
  have C0 := C0.ext E64
  have E_m1 := E_m1.ext E64
  refine g_astore S64.here hx (hb hby at_22) rfl #[.val (.int p1), .val (.int p2), .val (.int p3), .val (.int p4), .val (.ref cd), .val (.ref m1), .val (.ref m2), .unset, .unset, .unset] rfl 24 rfl ?_
  refine S64.new hx (own_q33 hw) (own_q34 hw) (own_q35 hw) (hb hby at_24) (by decide) (by decide) 27 rfl (fun T65 h65 e1 S65 g65 E65 A65 D65 F65 R65 U65 => ?_)
  have ga65 : Z.heap.size ≤ e1 := by rw [g65]; exact S64.size
  have C0 := C0.ext E65
  have E_m1 := E_m1.ext E65
  have E_m2 := E_m2.ext E65
  have f1 := D65 (Or.inr (own_q88 hw)) (ty := (.object "com/example/portcullis/portcullis/ErrorCode")) (by decide)
  have f2 := D65 (Or.inr (own_q90 hw)) (ty := .int) (by decide)
  have b1 := D65 (Or.inl (own_q83 hw)) (ty := .object "java/lang/Object") (by decide)
  have b2 := D65 (Or.inl (own_q82 hw)) (ty := .object "java/lang/String") (by decide)
  have hh0 : own_has Z h65 e1 "java/lang/Throwable" "cause" "Ljava/lang/Throwable;" := ⟨_, D65 (Or.inl (own_q52 hw)) (ty := (.object "java/lang/Throwable")) (by decide)⟩
  have hh1 : own_has Z h65 e1 "java/lang/Throwable" "stackTrace" "[Ljava/lang/StackTraceElement;" := ⟨_, D65 (Or.inl (own_q55 hw)) (ty := (.array (.object "java/lang/StackTraceElement"))) (by decide)⟩
  have hh2 : own_has Z h65 e1 "java/lang/Throwable" "suppressedExceptions" "Ljava/util/List;" := ⟨_, D65 (Or.inl (own_q58 hw)) (ty := (.object "java/util/List")) (by decide)⟩
  
  refine g_dup S65.here hx (hb hby at_27) rfl 28 rfl ?_
  refine g_aload S65.here hx (hb hby at_28) rfl rfl 30 rfl ?_
  refine g_iloadN S65.here hx (hb hby at_30) rfl 31 rfl ?_
  refine g_aload S65.here hx (hb hby at_31) rfl rfl 33 rfl ?_
  refine S65.callI hx (W := 1) (a := e1) rfl (own_q36 hw) (own_q37 hw) (own_q38 hw) (by decide) (own_q35 hw) (ctX l Z a0 hw e1 cd m1 p2 h65 S65.old G4 A65 U65 f1 f2 b1 b2 hh0 hh1 hh2 ga65) nosf (by decide) (by decide) (by rw [hml]; rfl) [(.ref cd), (.int p2), (.ref m1)] [(.ref e1)] (lenOf own_pd222 rfl) rfl rfl (Nat.le_refl _) (hb hby at_33) (by decide) (by decide) 36 rfl (fun v66 vm66 T66 h66 S66 Q66 R66 => ?_)
  obtain ⟨rfl, X_e1, K66⟩ := Q66
  show Goes _ _ _ _ T66 (mkF m 36 #[.val (.int p1), .val (.int p2), .val (.int p3), .val (.int p4), .val (.ref cd), .val (.ref m1), .val (.ref m2), .unset, .unset, .unset] [(.ref e1)])
  have Q66' : Ext h64 h66 := own_ext_keep E65 K66 (fun x hx => by cases List.mem_singleton.mp hx; exact Nat.le_of_eq g65.symm)
  have ne1 : e1 ∉ ([] : List Addr) := nin0
  have C1 : own_ec Z h66 cd := by obtain ⟨q1, n0, q2, q3⟩ := C0; exact ⟨q1.keep K66, n0, q2.keep K66 (ninS (Exa.ne q1 A65 (by decide)) nin0), q3.keep K66⟩
  have E_m1 := E_m1.keep K66
  have E_m2 := E_m2.keep K66
  refine g_astore S66.here hx (hb hby at_36) rfl #[.val (.int p1), .val (.int p2), .val (.int p3), .val (.int p4), .val (.ref cd), .val (.ref m1), .val (.ref m2), .val (.ref e1), .unset, .unset] rfl 38 rfl ?_
  refine g_aload S66.here hx (hb hby at_38) rfl rfl 40 rfl ?_
  refine g_aload S66.here hx (hb hby at_40) rfl rfl 42 rfl ?_
  refine S66.callV hx (W := 0) (C := "com/example/portcullis/portcullis/OAuthException") (own_q91 hw) (own_q92 hw) (notFace_of_selects (args := #[]) (mvT S66.warm (own_q94 hw))) (own_q94 hw) (own_q93 hw) (by decide) X_e1.1 (own_q95 hw) (own_q35 hw) (ctD l Z a0 hw e1 m2 cd m1 p2 h66 S66.old G4 X_e1) nosf (by decide) (by decide) (by rw [hml]; rfl) [(.ref m2)] [] (lenOf own_pd243 rfl) rfl rfl (Nat.le_refl _) (hb hby at_42) (by decide) (by decide) 45 rfl (fun v67 vm67 T67 h67 S67 Q67 R67 => ?_)
  obtain ⟨r, rfl, X_r, E67⟩ := Q67
  show Goes _ _ _ _ T67 (mkF m 45 #[.val (.int p1), .val (.int p2), .val (.int p3), .val (.int p4), .val (.ref cd), .val (.ref m1), .val (.ref m2), .val (.ref e1), .unset, .unset] [(.ref r)])
  have X_e1 := X_e1.ext E67
  have E_m1 := E_m1.ext E67
  have E_m2 := E_m2.ext E67
  obtain ⟨C2, nn, C3, C4⟩ := C1.ext E67
  refine g_astore S67.here hx (hb hby at_45) rfl #[.val (.int p1), .val (.int p2), .val (.int p3), .val (.int p4), .val (.ref cd), .val (.ref m1), .val (.ref m2), .val (.ref e1), .val (.ref r), .unset] rfl 47 rfl ?_
  refine g_aload S67.here hx (hb hby at_47) rfl rfl 49 rfl ?_
  refine g_ifnonnullT S67.here hx (hb hby at_49) 54 (by decide) (by decide) ?_
  refine g_aload S67.here hx (hb hby at_54) rfl rfl 56 rfl ?_
  refine S67.callV hx (W := 0) (C := "com/example/portcullis/portcullis/ErrorCode") (own_q98 hw) (own_q99 hw) (notFace_of_selects (args := #[]) (mvT S67.warm (own_q101 hw))) (own_q101 hw) (own_q100 hw) (by decide) C2 (own_q102 hw) (own_q6 hw) (ctN l Z a0 hw cd nn h67 S67.old C3) nosf (by decide) (by decide) (by rw [hml]; rfl) [] [] (lenOf own_pd238 rfl) rfl rfl (Nat.le_refl _) (hb hby at_56) (by decide) (by decide) 59 rfl (fun v68 vm68 T68 h68 S68 Q68 R68 => ?_)
  obtain ⟨rfl, rfl⟩ := Q68
  show Goes _ _ _ _ T68 (mkF m 59 #[.val (.int p1), .val (.int p2), .val (.int p3), .val (.int p4), .val (.ref cd), .val (.ref m1), .val (.ref m2), .val (.ref e1), .val (.ref r), .unset] [(.ref nn)])
  refine g_astore S68.here hx (hb hby at_59) rfl #[.val (.int p1), .val (.int p2), .val (.int p3), .val (.int p4), .val (.ref cd), .val (.ref m1), .val (.ref m2), .val (.ref e1), .val (.ref r), .val (.ref nn)] rfl 61 rfl ?_
  refine g_aload S68.here hx (hb hby at_61) rfl rfl 63 rfl ?_
  refine S68.callV hx (W := 0) (C := "com/example/portcullis/portcullis/OAuthException") (own_q105 hw) (own_q106 hw) (notFace_of_selects (args := #[]) (mvT S68.warm (own_q108 hw))) (own_q108 hw) (own_q107 hw) (by decide) X_r.1 (own_q109 hw) (own_q35 hw) (ctS l Z a0 hw r m2 cd p2 h67 S68.old X_r) nosf (by decide) (by decide) (by rw [hml]; rfl) [] [] (lenOf own_pd244 rfl) rfl rfl (Nat.le_refl _) (hb hby at_63) (by decide) (by decide) 66 rfl (fun v69 vm69 T69 h69 S69 Q69 R69 => ?_)
  obtain ⟨rfl, rfl⟩ := Q69
  show Goes _ _ _ _ T69 (mkF m 66 #[.val (.int p1), .val (.int p2), .val (.int p3), .val (.int p4), .val (.ref cd), .val (.ref m1), .val (.ref m2), .val (.ref e1), .val (.ref r), .val (.ref nn)] [(.int p2)])
  refine g_iloadN S69.here hx (hb hby at_66) rfl 67 rfl ?_
  refine g_icmpF S69.here hx (hb hby at_67) p2.toInt p2.toInt rfl rfl (show ¬ (¬ p2.toInt = p2.toInt) from fun q => q rfl) 70 rfl ?_
  refine g_aload S69.here hx (hb hby at_70) rfl rfl 72 rfl ?_
  refine g_aload S69.here hx (hb hby at_72) rfl rfl 74 rfl ?_
  refine S69.callV hx (W := 1) (C := "com/example/portcullis/portcullis/OAuthException") (own_q110 hw) (own_q111 hw) (notFace_of_selects (args := #[]) (mvT S69.warm (own_q113 hw))) (own_q113 hw) (own_q112 hw) (by decide) X_r.1 (own_q114 hw) (own_q35 hw) (ctE l Z a0 hw r m2 cd nn p2 h67 S69.old X_r C2 C3) nosf (by decide) (by decide) (by rw [hml]; rfl) [] [(.ref nn)] (lenOf own_pd238 rfl) rfl rfl (Nat.le_refl _) (hb hby at_74) (by decide) (by decide) 77 rfl (fun v70 vm70 T70 h70 S70 Q70 R70 => ?_)
  obtain ⟨rfl, rfl⟩ := Q70
  show Goes _ _ _ _ T70 (mkF m 77 #[.val (.int p1), .val (.int p2), .val (.int p3), .val (.int p4), .val (.ref cd), .val (.ref m1), .val (.ref m2), .val (.ref e1), .val (.ref r), .val (.ref nn)] [(.ref nn), (.ref nn)])
  refine S70.callV hx (W := 0) (C := "java/lang/String") (own_q116 hw) (own_q117 hw) (notFace_of_selects (args := #[]) (mvT S70.warm (own_q119 hw))) (own_q119 hw) (own_q118 hw) (by decide) C4 (own_q120 hw) (own_q13 hw) (ctQ l Z a0 hw nn h67 S70.old) nosf (by decide) (by decide) (by rw [hml]; rfl) [(.ref nn)] [] (lenOf own_pd245 rfl) rfl rfl (Nat.le_refl _) (hb hby at_77) (by decide) (by decide) 80 rfl (fun v71 vm71 T71 h71 S71 Q71 R71 => ?_)
  obtain ⟨rfl, rfl⟩ := Q71
  show Goes _ _ _ _ T71 (mkF m 80 #[.val (.int p1), .val (.int p2), .val (.int p3), .val (.int p4), .val (.ref cd), .val (.ref m1), .val (.ref m2), .val (.ref e1), .val (.ref r), .val (.ref nn)] [(.int (1 : Int32))])
  refine g_ifF S71.here hx (hb hby at_80) 1 (by decide) (by show ¬ (1 = 0); decide) 83 rfl ?_
  refine g_aload S71.here hx (hb hby at_83) rfl rfl 85 rfl ?_
  refine g_aload S71.here hx (hb hby at_85) rfl rfl 87 rfl ?_
  refine S71.callU hx (W := 1) (C := "com/example/portcullis/portcullis/OAuthException") (owner := "java/lang/Throwable") (own_q121 hw) (own_q122 hw) (own_q123 hw) (own_q125 hw) (own_q124 hw) (by decide) X_r.1 (own_q126 hw) (own_q48 hw) (ctM l Z a0 hw r m2 cd p2 h67 S71.old X_r) nosf (by decide) (by decide) (by rw [hml]; rfl) [] [(.ref m2)] (lenOf own_pd238 rfl) rfl rfl (Nat.le_refl _) (hb hby at_87) (by decide) (by decide) 90 rfl (fun v72 vm72 T72 h72 S72 Q72 R72 => ?_)
  obtain ⟨rfl, rfl⟩ := Q72
  show Goes _ _ _ _ T72 (mkF m 90 #[.val (.int p1), .val (.int p2), .val (.int p3), .val (.int p4), .val (.ref cd), .val (.ref m1), .val (.ref m2), .val (.ref e1), .val (.ref r), .val (.ref nn)] [(.ref m2), (.ref m2)])
  refine S72.callV hx (W := 0) (C := "java/lang/String") (own_q116 hw) (own_q117 hw) (notFace_of_selects (args := #[]) (mvT S72.warm (own_q119 hw))) (own_q119 hw) (own_q118 hw) (by decide) E_m2 (own_q120 hw) (own_q13 hw) (ctQ l Z a0 hw m2 h67 S72.old) nosf (by decide) (by decide) (by rw [hml]; rfl) [(.ref m2)] [] (lenOf own_pd245 rfl) rfl rfl (Nat.le_refl _) (hb hby at_90) (by decide) (by decide) 93 rfl (fun v73 vm73 T73 h73 S73 Q73 R73 => ?_)
  obtain ⟨rfl, rfl⟩ := Q73
  show Goes _ _ _ _ T73 (mkF m 93 #[.val (.int p1), .val (.int p2), .val (.int p3), .val (.int p4), .val (.ref cd), .val (.ref m1), .val (.ref m2), .val (.ref e1), .val (.ref r), .val (.ref nn)] [(.int (1 : Int32))])
  refine g_ifF S73.here hx (hb hby at_93) 1 (by decide) (by show ¬ (1 = 0); decide) 96 rfl ?_
  refine g_aload S73.here hx (hb hby at_96) rfl rfl 98 rfl ?_
  refine S73.callV hx (W := 0) (C := "com/example/portcullis/portcullis/OAuthException") (own_q105 hw) (own_q106 hw) (notFace_of_selects (args := #[]) (mvT S73.warm (own_q108 hw))) (own_q108 hw) (own_q107 hw) (by decide) X_e1.1 (own_q109 hw) (own_q35 hw) (ctS l Z a0 hw e1 m1 cd p2 h67 S73.old X_e1) nosf (by decide) (by decide) (by rw [hml]; rfl) [] [] (lenOf own_pd244 rfl) rfl rfl (Nat.le_refl _) (hb hby at_98) (by decide) (by decide) 101 rfl (fun v74 vm74 T74 h74 S74 Q74 R74 => ?_)
  obtain ⟨rfl, rfl⟩ := Q74
  show Goes _ _ _ _ T74 (mkF m 101 #[.val (.int p1), .val (.int p2), .val (.int p3), .val (.int p4), .val (.ref cd), .val (.ref m1), .val (.ref m2), .val (.ref e1), .val (.ref r), .val (.ref nn)] [(.int p2)])
  refine g_iloadN S74.here hx (hb hby at_101) rfl 102 rfl ?_
  refine g_icmpF S74.here hx (hb hby at_102) p2.toInt p2.toInt rfl rfl (show ¬ (¬ p2.toInt = p2.toInt) from fun q => q rfl) 105 rfl ?_
  refine g_aload S74.here hx (hb hby at_105) rfl rfl 107 rfl ?_
  refine g_aload S74.here hx (hb hby at_107) rfl rfl 109 rfl ?_
  refine S74.callV hx (W := 1) (C := "com/example/portcullis/portcullis/OAuthException") (own_q110 hw) (own_q111 hw) (notFace_of_selects (args := #[]) (mvT S74.warm (own_q113 hw))) (own_q113 hw) (own_q112 hw) (by decide) X_e1.1 (own_q114 hw) (own_q35 hw) (ctE l Z a0 hw e1 m1 cd nn p2 h67 S74.old X_e1 C2 C3) nosf (by decide) (by decide) (by rw [hml]; rfl) [] [(.ref nn)] (lenOf own_pd238 rfl) rfl rfl (Nat.le_refl _) (hb hby at_109) (by decide) (by decide) 112 rfl (fun v75 vm75 T75 h75 S75 Q75 R75 => ?_)
  obtain ⟨rfl, rfl⟩ := Q75
  show Goes _ _ _ _ T75 (mkF m 112 #[.val (.int p1), .val (.int p2), .val (.int p3), .val (.int p4), .val (.ref cd), .val (.ref m1), .val (.ref m2), .val (.ref e1), .val (.ref r), .val (.ref nn)] [(.ref nn), (.ref nn)])
  refine S75.callV hx (W := 0) (C := "java/lang/String") (own_q116 hw) (own_q117 hw) (notFace_of_selects (args := #[]) (mvT S75.warm (own_q119 hw))) (own_q119 hw) (own_q118 hw) (by decide) C4 (own_q120 hw) (own_q13 hw) (ctQ l Z a0 hw nn h67 S75.old) nosf (by decide) (by decide) (by rw [hml]; rfl) [(.ref nn)] [] (lenOf own_pd245 rfl) rfl rfl (Nat.le_refl _) (hb hby at_112) (by decide) (by decide) 115 rfl (fun v76 vm76 T76 h76 S76 Q76 R76 => ?_)
  obtain ⟨rfl, rfl⟩ := Q76
  show Goes _ _ _ _ T76 (mkF m 115 #[.val (.int p1), .val (.int p2), .val (.int p3), .val (.int p4), .val (.ref cd), .val (.ref m1), .val (.ref m2), .val (.ref e1), .val (.ref r), .val (.ref nn)] [(.int (1 : Int32))])
  refine g_ifF S76.here hx (hb hby at_115) 1 (by decide) (by show ¬ (1 = 0); decide) 118 rfl ?_
  refine g_aload S76.here hx (hb hby at_118) rfl rfl 120 rfl ?_
  refine g_aload S76.here hx (hb hby at_120) rfl rfl 122 rfl ?_
  refine S76.callU hx (W := 1) (C := "com/example/portcullis/portcullis/OAuthException") (owner := "java/lang/Throwable") (own_q121 hw) (own_q122 hw) (own_q123 hw) (own_q125 hw) (own_q124 hw) (by decide) X_e1.1 (own_q126 hw) (own_q48 hw) (ctM l Z a0 hw e1 m1 cd p2 h67 S76.old X_e1) nosf (by decide) (by decide) (by rw [hml]; rfl) [] [(.ref m1)] (lenOf own_pd238 rfl) rfl rfl (Nat.le_refl _) (hb hby at_122) (by decide) (by decide) 125 rfl (fun v77 vm77 T77 h77 S77 Q77 R77 => ?_)
  obtain ⟨rfl, rfl⟩ := Q77
  show Goes _ _ _ _ T77 (mkF m 125 #[.val (.int p1), .val (.int p2), .val (.int p3), .val (.int p4), .val (.ref cd), .val (.ref m1), .val (.ref m2), .val (.ref e1), .val (.ref r), .val (.ref nn)] [(.ref m1), (.ref m1)])
  refine S77.callV hx (W := 0) (C := "java/lang/String") (own_q116 hw) (own_q117 hw) (notFace_of_selects (args := #[]) (mvT S77.warm (own_q119 hw))) (own_q119 hw) (own_q118 hw) (by decide) E_m1 (own_q120 hw) (own_q13 hw) (ctQ l Z a0 hw m1 h67 S77.old) nosf (by decide) (by decide) (by rw [hml]; rfl) [(.ref m1)] [] (lenOf own_pd245 rfl) rfl rfl (Nat.le_refl _) (hb hby at_125) (by decide) (by decide) 128 rfl (fun v78 vm78 T78 h78 S78 Q78 R78 => ?_)
  obtain ⟨rfl, rfl⟩ := Q78
  show Goes _ _ _ _ T78 (mkF m 128 #[.val (.int p1), .val (.int p2), .val (.int p3), .val (.int p4), .val (.ref cd), .val (.ref m1), .val (.ref m2), .val (.ref e1), .val (.ref r), .val (.ref nn)] [(.int (1 : Int32))])
  refine g_ifF S78.here hx (hb hby at_128) 1 (by decide) (by show ¬ (1 = 0); decide) 131 rfl ?_
  refine g_iconst S78.here hx (hb hby at_131) (1 : Int32) (by decide) 132 rfl ?_
  refine g_goto S78.here hx (hb hby at_132) 136 (by decide) (by decide) ?_
  exact S78.iret hx hlk hret (Or.inr (Or.inl rfl)) rfl (hb hby at_136) rfl (by decide) (by decide)
set_option maxRecDepth 65536 in
set_option maxHeartbeats 40000000 in
theorem comes_1 {Post : Tables → Env → Array Value → State → Outcome → State → Prop} (hpost : ∀ tb e args s v u, (limb_1_1.after args s (.returned v) u = true ∧ limb_1_2.after args s (.returned v) u = true ∧ True) → ReturnedEndW s (.returned v) u (Jvm.fieldLocs frame_1_writes args s ++ Jvm.arrayLocs frame_1_arrays args s ++ Jvm.staticLocs frame_1_statics s) 32 12224 → Post tb e args s (.returned v) u) :
    ArmFor flags0 classFile x code maxLocals ret World_1 tables_1 room_1 Calls_1 rest_1 Pre_1 Post := by
  intro l hfl _ _ p e ha hc hk s m args below hf hA hF happ hP
  obtain ⟨hcalls, hrest, hpre⟩ := hP
  obtain ⟨-, -, -, hnamed, -, -, -, hat⟩ := (Spec.applies_iff hf).mp happ
  obtain ⟨hg, hn⟩ := and_e (Cond.before_iff.mp (show (Jvm.Cond.and given_1 narrow_1).before args s = true from hpre))
  obtain ⟨gc, gr⟩ := and_e hg
  obtain ⟨g0, gr0⟩ := and_e gr
  obtain ⟨g1, gr1⟩ := and_e gr0
  obtain ⟨g2, gr2⟩ := and_e gr1
  have g3 := gr2
  obtain ⟨w0, w1, w2, w3, rfl⟩ : ∃ w0 w1 w2 w3 : Value, args = #[w0, w1, w2, w3] := by
    have hs : args.size = 4 := by simpa [Cond.value, given_1] using gc
    obtain ⟨L⟩ := args
    match L, hs with
    | [w0, w1, w2, w3], _ => exact ⟨w0, w1, w2, w3, rfl⟩
  have hw := fun d (hd : d ∈ tables_1) => atoms_spec (ws := Jvm.Cond.code x code maxLocals ret :: tables_1) hat d (List.mem_cons_of_mem _ hd)
  have hfit : Fit s := fun {y c} hc i hi => by
    obtain ⟨ha, rfl⟩ := Array.getElem?_eq_some_iff.mp hc
    have q := List.all_eq_true.mp ((Array.all_eq_true_iff_forall_mem.mp hF) _ (Array.getElem_mem ha)) i (List.mem_range.mpr hi)
    simpa [Array.getElem?_eq_getElem hi] using q
  obtain ⟨i0, e0⟩ := is_v g0
  obtain rfl : w0 = (.int i0) := Option.some.inj e0
  obtain ⟨i1, e1⟩ := is_v g1
  obtain rfl : w1 = (.int i1) := Option.some.inj e1
  obtain ⟨i2, e2⟩ := is_v g2
  obtain rfl : w2 = (.int i2) := Option.some.inj e2
  obtain ⟨i3, e3⟩ := is_v g3
  obtain rfl : w3 = (.int i3) := Option.some.inj e3
  obtain ⟨hsets, hown0⟩ := atoms_of _ (rest_1_c_eq ▸ (show rest_1_c.before _ s = true from hrest))
  have n5 := not_v (Cond.before_iff.mp (hsets _ (List.mem_of_getElem? (i := 22) rfl)))
  obtain ⟨z, ez⟩ := is_v (Cond.before_iff.mp (hsets _ (List.mem_of_getElem? (i := 21) rfl)))
  have G : own_cs s := ⟨z, Sta.start ez (Or.inl (hsets _ (List.mem_of_getElem? (i := 20) rfl))), gotF (Cond.eq_ints ez (Term.int_eval (0))) n5⟩
  obtain ⟨n0, nr0⟩ := and_e hn
  obtain ⟨n1, nr1⟩ := and_e nr0
  obtain ⟨n2, nr2⟩ := and_e nr1
  obtain ⟨n3, nr3⟩ := and_e nr2
  obtain ⟨n4, nr4⟩ := and_e nr3
  obtain ⟨n5, nr5⟩ := and_e nr4
  obtain ⟨n6, nr6⟩ := and_e nr5
  obtain ⟨n7, nr7⟩ := and_e nr6
  obtain ⟨n8, nr8⟩ := and_e nr7
  obtain ⟨n9, nr9⟩ := and_e nr8
  obtain ⟨n10, nr10⟩ := and_e nr9
  obtain ⟨n11, nr11⟩ := and_e nr10
  obtain ⟨n12, nr12⟩ := and_e nr11
  obtain ⟨n13, nr13⟩ := and_e nr12
  obtain ⟨n14, nr14⟩ := and_e nr13
  obtain ⟨n15, nr15⟩ := and_e nr14
  obtain ⟨n16, nr16⟩ := and_e nr15
  obtain ⟨n17, nr17⟩ := and_e nr16
  obtain ⟨n18, nr18⟩ := and_e nr17
  obtain ⟨n19, nr19⟩ := and_e nr18
  obtain ⟨n20, nr20⟩ := and_e nr19
  obtain ⟨n21, nr21⟩ := and_e nr20
  obtain ⟨n22, nr22⟩ := and_e nr21
  obtain ⟨n23, nr23⟩ := and_e nr22
  obtain ⟨n24, nr24⟩ := and_e nr23
  have n25 := nr24
  obtain ⟨a0, ea0⟩ := exa_v n0
  obtain ⟨b0, eb0⟩ := exa_v n1
  obtain ⟨a1, ea1⟩ := exa_v n4
  obtain ⟨b1, eb1⟩ := exa_v n5
  obtain ⟨a2, ea2⟩ := exa_v n6
  obtain ⟨b2, eb2⟩ := exa_v n7
  obtain ⟨a3, ea3⟩ := exa_v n8
  obtain ⟨b3, eb3⟩ := exa_v n9
  obtain ⟨a4, ea4⟩ := exa_v n16
  obtain ⟨b4, eb4⟩ := exa_v n17
  obtain ⟨a5, ea5⟩ := exa_v n14
  obtain ⟨b5, eb5⟩ := exa_v n15
  obtain ⟨a6, ea6⟩ := exa_v n12
  obtain ⟨b6, eb6⟩ := exa_v n13
  obtain ⟨a7, ea7⟩ := exa_v n20
  obtain ⟨b7, eb7⟩ := exa_v n21
  obtain ⟨a8, ea8⟩ := exa_v n10
  obtain ⟨b8, eb8⟩ := exa_v n11
  obtain ⟨a9, ea9⟩ := exa_v n18
  obtain ⟨b9, eb9⟩ := exa_v n19
  obtain ⟨a10, ea10⟩ := exa_v n22
  obtain ⟨b10, eb10⟩ := exa_v n23
  obtain ⟨a11, ea11⟩ := exa_v n24
  obtain ⟨b11, eb11⟩ := exa_v n25
  obtain ⟨a12, ea12⟩ := exa_v n2
  obtain ⟨b12, eb12⟩ := exa_v n3
  have G3 : own_en s [a0, a1, a2, a3, a4, a5, a6, a7, a8, a9, a10, a11, a12] := ⟨a0, a1, a2, a3, a4, a5, a6, a7, a8, a9, a10, a11, a12, rfl, Sta.start ea0 (Or.inr ⟨(own_q6 hw), (own_q7 hw)⟩), ⟨Exa.start ea0 n0, b0, Fld.start ((fld_at ea0).symm.trans eb0), Exa.start eb0 n1⟩, Sta.start ea1 (Or.inr ⟨(own_q6 hw), (own_q130 hw)⟩), ⟨Exa.start ea1 n4, b1, Fld.start ((fld_at ea1).symm.trans eb1), Exa.start eb1 n5⟩, Sta.start ea2 (Or.inr ⟨(own_q6 hw), (own_q132 hw)⟩), ⟨Exa.start ea2 n6, b2, Fld.start ((fld_at ea2).symm.trans eb2), Exa.start eb2 n7⟩, Sta.start ea3 (Or.inr ⟨(own_q6 hw), (own_q145 hw)⟩), ⟨Exa.start ea3 n8, b3, Fld.start ((fld_at ea3).symm.trans eb3), Exa.start eb3 n9⟩, Sta.start ea4 (Or.inr ⟨(own_q6 hw), (own_q153 hw)⟩), ⟨Exa.start ea4 n16, b4, Fld.start ((fld_at ea4).symm.trans eb4), Exa.start eb4 n17⟩, Sta.start ea5 (Or.inr ⟨(own_q6 hw), (own_q151 hw)⟩), ⟨Exa.start ea5 n14, b5, Fld.start ((fld_at ea5).symm.trans eb5), Exa.start eb5 n15⟩, Sta.start ea6 (Or.inr ⟨(own_q6 hw), (own_q149 hw)⟩), ⟨Exa.start ea6 n12, b6, Fld.start ((fld_at ea6).symm.trans eb6), Exa.start eb6 n13⟩, Sta.start ea7 (Or.inr ⟨(own_q6 hw), (own_q157 hw)⟩), ⟨Exa.start ea7 n20, b7, Fld.start ((fld_at ea7).symm.trans eb7), Exa.start eb7 n21⟩, Sta.start ea8 (Or.inr ⟨(own_q6 hw), (own_q147 hw)⟩), ⟨Exa.start ea8 n10, b8, Fld.start ((fld_at ea8).symm.trans eb8), Exa.start eb8 n11⟩, Sta.start ea9 (Or.inr ⟨(own_q6 hw), (own_q155 hw)⟩), ⟨Exa.start ea9 n18, b9, Fld.start ((fld_at ea9).symm.trans eb9), Exa.start eb9 n19⟩, Sta.start ea10 (Or.inr ⟨(own_q6 hw), (own_q159 hw)⟩), ⟨Exa.start ea10 n22, b10, Fld.start ((fld_at ea10).symm.trans eb10), Exa.start eb10 n23⟩, Sta.start ea11 (Or.inr ⟨(own_q6 hw), (own_q161 hw)⟩), ⟨Exa.start ea11 n24, b11, Fld.start ((fld_at ea11).symm.trans eb11), Exa.start eb11 n25⟩, Sta.start ea12 (Or.inr ⟨(own_q6 hw), (own_q128 hw)⟩), ⟨Exa.start ea12 n2, b12, Fld.start ((fld_at ea12).symm.trans eb12), Exa.start eb12 n3⟩⟩
  obtain ⟨us, eus⟩ := arr_v (Cond.before_iff.mp (hsets _ (List.mem_of_getElem? (i := 8) rfl)))
  obtain ⟨ss, ess⟩ := exa_v (Cond.before_iff.mp (hsets _ (List.mem_of_getElem? (i := 13) rfl)))
  have G4 : own_tr l s #[.int i0, .int i1, .int i2, .int i3] := ⟨by unfold Launch.stackTraces; rw [hfl]; decide, us, ss, Sta.start eus (Or.inl (hsets _ (List.mem_of_getElem? (i := 6) rfl))), Sta.start ess (Or.inl (hsets _ (List.mem_of_getElem? (i := 11) rfl)))⟩
  have hC := CHv.start (own_ew hw) (fun q hq => hcalls.2.2.1 q hq) (hsets _ (List.mem_of_getElem? (i := 22) rfl)) (own_wS hw _ (by simp [Bundle.stringAtoms])) (own_wS hw _ (by simp [Bundle.stringAtoms, Bundle.sN]))
  obtain ⟨n, o, h1, h2, h3, v, L, rfl, ⟨rfl, N, -⟩, -, hq⟩ := ct0 l s _ hw i0 i1 i2 i3 _ s.heap (Old.start s) G G3 G4 tables_1 p e ha hc hk s m _ below hf ((Spec.applies_iff_loose hf).mp happ).1 ⟨rfl, State.Warmed39.refl s, rfl, hC, fun _ q => nomatch q⟩ (fun _ => ⟨MethodsKnown_of_tablesKnown hcalls.2.1, FramesKnown_of_framesKnown hcalls.1 hf⟩)
  have hq := hq.2 (by decide)
  refine ⟨n, _, h1, h2, h3, hpost _ _ _ _ _ _ ⟨Cond.after_iff.mpr rfl, Cond.after_iff.mpr (eq_i res_at (Term.int_eval (1)) rfl), trivial⟩ ⟨hq.1, hq.2.1, hq.2.2.1, (hq.2.2.2.sift fun y hy => Or.inr (N y hy)).mono (by decide) (by decide)⟩⟩
theorem main_1_1 : Claimed_1_1 := comes_1 fun _ _ _ _ _ _ h hF => ⟨h.1, hF⟩
theorem main_1_2 : Claimed_1_2 := comes_1 fun _ _ _ _ _ _ h hF => ⟨h.2.1, hF⟩
end Jvm.Pilot.@@N@@
namespace Jvm.Pilot.@@N@@
open Jvm Jvm.ClassFile Sem Op Lib Jvm.Free Jvm.Stand Jvm.Pilot.@@N@@.Jvm.D
/-! MADE BY PROGRAM (witnessworld.py) out of the Statement's table words and the real class files: 38 classes; the members and pool entries that the words name. The judged class is class 1, her method 1. -/
namespace start1
open Jvm.ClassFile
def u (s : String) : CpInfo := .utf8 (stringToUtf16 s)
/-- a pool by its gaps: so many unusable entries, then the entry; so many at the end -/
def gap : Nat → List CpInfo → List CpInfo
  | 0, r => r
  | n + 1, r => .unusable :: gap n r
def poolList (es : List (Nat × CpInfo)) (last : Nat) : List CpInfo := es.foldr (fun e r => gap e.1 (e.2 :: r)) (gap last [])
def pool (es : List (Nat × CpInfo)) (last : Nat) : Array CpInfo := ⟨poolList es last⟩
def fileOf (pool : Array CpInfo) (this : Nat) (attrs : Array Attribute := #[]) (ms : Array MethodInfo := #[]) (fl : Nat := 33) (sup : Nat := 0) (ifs : Array Nat := #[]) (fds : Array FieldInfo := #[]) : ClassFile where
  minorVersion := 0
  majorVersion := 65
  constantPool := pool
  accessFlags := fl
  thisClass := this
  superClass := sup
  interfaces := ifs
  fields := fds
  methods := ms
  attributes := attrs
def plain (name : String) (sup : Option ClassId) : Class where
  name := name
  kind := .ordinary
  loader := none
  accessFlags := 33
  super := sup
  interfaces := #[]
  cf := none
  fields := #[]
  methods := #[]
  instanceTypes := #[]
  staticTypes := #[]
  resolved := #[]
  callSites := []
  init := .initialized
  statics := none
  mirror := none

def pool0 : Array CpInfo := pool [(5, u "<init>"), (0, u "()V"), (1, .class_ 10), (1, u "java/lang/Object")] 113

def k0c0 : Code := { maxStack := 0, maxLocals := 1, code := object_method_1_code, exceptionTable := #[], attributes := #[] }
def k0m0 : Method := { name := "<init>", desc := "()V", sig := { parameters := [], returnType := none }, accessFlags := 1, code := some k0c0 }
/-- java/lang/Object -/
def k0 : Class := { plain "java/lang/Object" none with
  accessFlags := 33
  interfaces := #[]
  cf := some (fileOf pool0 8 #[] #[{ accessFlags := 1, nameIndex := 5, descriptorIndex := 6, attributes := #[] }] 33 0 #[] #[])
  fields := #[]
  methods := #[k0m0]
  instanceTypes := #[]
  staticTypes := #[]
  resolved := Array.replicate 124 none
  statics := none }

def pool1 : Array CpInfo := pool [(2, .class_ 4), (1, u "java/lang/Object"), (0, u "<init>"), (0, u "()V"), (0, .integer 2147483647), (0, .methodref 9 10), (0, .class_ 11), (0, .nameAndType 12 13), (0, u "com/example/portcullis/portcullis/OAuthExceptionDescribedAsPinLaw"), (0, u "code"), (0, u "(I)Lcom/example/portcullis/portcullis/ErrorCode;"), (0, .methodref 9 15), (0, .nameAndType 16 17), (0, u "text"), (0, u "(I)Ljava/lang/String;"), (0, .class_ 19), (0, u "com/example/portcullis/portcullis/OAuthException"), (0, .methodref 18 21), (0, .nameAndType 5 22), (0, u "(Lcom/example/portcullis/portcullis/ErrorCode;ILjava/lang/String;)V"), (0, .methodref 18 24), (0, .nameAndType 25 26), (0, u "describedAs"), (0, u "(Ljava/lang/String;)Lcom/example/portcullis/portcullis/OAuthException;"), (0, .methodref 28 29), (0, .class_ 30), (0, .nameAndType 31 32), (0, u "com/example/portcullis/portcullis/ErrorCode"), (0, u "standardName"), (0, u "()Ljava/lang/String;"), (0, .methodref 18 34), (0, .nameAndType 35 36), (0, u "status"), (0, u "()I"), (0, .methodref 18 38), (0, .nameAndType 39 32), (0, u "error"), (0, .methodref 41 42), (0, .class_ 43), (0, .nameAndType 44 45), (0, u "java/lang/String"), (0, u "equals"), (0, u "(Ljava/lang/Object;)Z"), (0, .methodref 18 47), (0, .nameAndType 48 32), (0, u "getMessage"), (0, .methodref 41 50), (0, .nameAndType 5 51), (0, u "([C)V"), (0, .fieldref 28 53), (0, .nameAndType 54 55), (0, u "INVALID_REQUEST"), (0, u "Lcom/example/portcullis/portcullis/ErrorCode;"), (0, .fieldref 28 57), (0, .nameAndType 58 55), (0, u "INVALID_CLIENT"), (0, .fieldref 28 60), (0, .nameAndType 61 55), (0, u "INVALID_GRANT"), (0, .fieldref 28 63), (0, .nameAndType 64 55), (0, u "UNAUTHORIZED_CLIENT"), (0, .fieldref 28 66), (0, .nameAndType 67 55), (0, u "UNSUPPORTED_GRANT_TYPE"), (0, .fieldref 28 69), (0, .nameAndType 70 55), (0, u "INVALID_SCOPE"), (0, .fieldref 28 72), (0, .nameAndType 73 55), (0, u "UNSUPPORTED_RESPONSE_TYPE"), (0, .fieldref 28 75), (0, .nameAndType 76 55), (0, u "SERVER_ERROR"), (0, .fieldref 28 78), (0, .nameAndType 79 55), (0, u "INVALID_TOKEN"), (0, .fieldref 28 81), (0, .nameAndType 82 55), (0, u "INSUFFICIENT_SCOPE"), (0, .fieldref 28 84), (0, .nameAndType 85 55), (0, u "LOGIN_REQUIRED"), (0, .fieldref 28 87), (0, .nameAndType 88 55), (0, u "REQUEST_NOT_SUPPORTED"), (0, .fieldref 28 90), (0, .nameAndType 91 55), (0, u "REQUEST_URI_NOT_SUPPORTED"), (2, u "law"), (0, u "(IIII)Z")] 3

def k1m0 : Method := { name := "<init>", desc := "()V", sig := { parameters := [], returnType := none }, accessFlags := 1, code := none }
def k1c1 : Code := { maxStack := 5, maxLocals := 10, code := code, exceptionTable := #[], attributes := #[] }
def k1m1 : Method := { name := "law", desc := "(IIII)Z", sig := { parameters := [.int, .int, .int, .int], returnType := some .boolean }, accessFlags := 9, code := some k1c1 }
def k1c2 : Code := { maxStack := 6, maxLocals := 5, code := method_3_code, exceptionTable := #[], attributes := #[] }
def k1m2 : Method := { name := "text", desc := "(I)Ljava/lang/String;", sig := { parameters := [.int], returnType := some (.object "java/lang/String") }, accessFlags := 10, code := some k1c2 }
def k1c3 : Code := { maxStack := 2, maxLocals := 1, code := method_4_code, exceptionTable := #[], attributes := #[] }
def k1m3 : Method := { name := "code", desc := "(I)Lcom/example/portcullis/portcullis/ErrorCode;", sig := { parameters := [.int], returnType := some (.object "com/example/portcullis/portcullis/ErrorCode") }, accessFlags := 10, code := some k1c3 }
/-- com/example/portcullis/portcullis/OAuthExceptionDescribedAsPinLaw -/
def k1 : Class := { plain "com/example/portcullis/portcullis/OAuthExceptionDescribedAsPinLaw" (some 0) with
  accessFlags := 49
  interfaces := #[]
  cf := some (fileOf pool1 9 #[] #[{ accessFlags := 1, nameIndex := 5, descriptorIndex := 6, attributes := #[] }, { accessFlags := 9, nameIndex := 94, descriptorIndex := 95, attributes := #[] }, { accessFlags := 10, nameIndex := 16, descriptorIndex := 17, attributes := #[] }, { accessFlags := 10, nameIndex := 12, descriptorIndex := 13, attributes := #[] }] 49 2 #[] #[])
  fields := #[]
  methods := #[k1m0, k1m1, k1m2, k1m3]
  instanceTypes := #[]
  staticTypes := #[]
  resolved := Array.replicate 99 none
  statics := none }

def pool2 : Array CpInfo := pool [(1, .class_ 2), (0, u "java/lang/constant/Constable"), (0, .class_ 4), (0, u "java/lang/Object")] 6

/-- java/lang/constant/Constable -/
def k2 : Class := { plain "java/lang/constant/Constable" (some 0) with
  accessFlags := 1537
  interfaces := #[]
  cf := some (fileOf pool2 1 #[] #[] 1537 3 #[] #[])
  fields := #[]
  methods := #[]
  instanceTypes := #[]
  staticTypes := #[]
  resolved := Array.replicate 11 none
  statics := none }

def pool3 : Array CpInfo := pool [(1, .class_ 2), (0, u "java/lang/Comparable"), (0, .class_ 4), (0, u "java/lang/Object")] 7

/-- java/lang/Comparable -/
def k3 : Class := { plain "java/lang/Comparable" (some 0) with
  accessFlags := 1537
  interfaces := #[]
  cf := some (fileOf pool3 1 #[] #[] 1537 3 #[] #[])
  fields := #[]
  methods := #[]
  instanceTypes := #[]
  staticTypes := #[]
  resolved := Array.replicate 12 none
  statics := none }

def pool4 : Array CpInfo := pool [(1, .class_ 2), (0, u "java/io/Serializable"), (0, .class_ 4), (0, u "java/lang/Object")] 2

/-- java/io/Serializable -/
def k4 : Class := { plain "java/io/Serializable" (some 0) with
  accessFlags := 1537
  interfaces := #[]
  cf := some (fileOf pool4 1 #[] #[] 1537 3 #[] #[])
  fields := #[]
  methods := #[]
  instanceTypes := #[]
  staticTypes := #[]
  resolved := Array.replicate 7 none
  statics := none }

def pool5 : Array CpInfo := pool [(2, .class_ 4), (1, u "java/lang/Enum"), (0, u "name"), (0, u "Ljava/lang/String;"), (2, u "ordinal"), (0, u "I"), (1, .class_ 14), (1, u "java/lang/Object"), (4, u "hash"), (86, .class_ 108), (1, u "java/lang/Enum$EnumDesc"), (2, .class_ 112), (0, u "java/lang/constant/Constable"), (0, .class_ 114), (0, u "java/lang/Comparable"), (0, .class_ 116), (0, u "java/io/Serializable")] 87

/-- java/lang/Enum -/
def k5 : Class := { plain "java/lang/Enum" (some 0) with
  accessFlags := 1057
  interfaces := #[2, 3, 4]
  cf := some (fileOf pool5 2 #[.nestMembers #[106]] #[] 1057 12 #[111, 113, 115] #[{ accessFlags := 18, nameIndex := 5, descriptorIndex := 6, attributes := #[] }, { accessFlags := 18, nameIndex := 9, descriptorIndex := 10, attributes := #[] }, { accessFlags := 2, nameIndex := 19, descriptorIndex := 10, attributes := #[] }])
  fields := #[{ name := "name", type := (.object "java/lang/String"), accessFlags := 18, slot := 0, constantValue := 0 }, { name := "ordinal", type := .int, accessFlags := 18, slot := 1, constantValue := 0 }, { name := "hash", type := .int, accessFlags := 2, slot := 2, constantValue := 0 }]
  methods := #[]
  instanceTypes := #[(.object "java/lang/String"), .int, .int]
  staticTypes := #[]
  resolved := Array.replicate 204 none
  statics := none }

def pool6 : Array CpInfo := pool [(9, .class_ 10), (0, u "com/example/portcullis/portcullis/StandardName"), (20, .class_ 32), (0, u "java/lang/Object")] 9

/-- com/example/portcullis/portcullis/StandardName -/
def k6 : Class := { plain "com/example/portcullis/portcullis/StandardName" (some 0) with
  accessFlags := 1536
  interfaces := #[]
  cf := some (fileOf pool6 9 #[] #[] 1536 31 #[] #[])
  fields := #[]
  methods := #[]
  instanceTypes := #[]
  staticTypes := #[]
  resolved := Array.replicate 42 none
  statics := none }

def pool7 : Array CpInfo := pool [(1, .class_ 2), (0, u "com/example/portcullis/portcullis/ErrorCode"), (2, u "INVALID_REQUEST"), (0, u "Lcom/example/portcullis/portcullis/ErrorCode;"), (2, u "INVALID_CLIENT"), (2, u "INVALID_GRANT"), (2, u "UNAUTHORIZED_CLIENT"), (2, u "UNSUPPORTED_GRANT_TYPE"), (2, u "INVALID_SCOPE"), (2, u "UNSUPPORTED_RESPONSE_TYPE"), (2, u "SERVER_ERROR"), (2, u "INVALID_TOKEN"), (2, u "INSUFFICIENT_SCOPE"), (2, u "LOGIN_REQUIRED"), (2, u "REQUEST_NOT_SUPPORTED"), (2, u "REQUEST_URI_NOT_SUPPORTED"), (2, u "$VALUES"), (0, u "[Lcom/example/portcullis/portcullis/ErrorCode;"), (6, .class_ 55), (1, u "java/lang/Enum"), (6, .fieldref 1 63), (0, .nameAndType 64 65), (0, u "standardName"), (0, u "Ljava/lang/String;"), (2, u "status"), (0, u "I"), (46, .class_ 117), (0, u "com/example/portcullis/portcullis/StandardName"), (6, u "()Ljava/lang/String;")] 6

def k7c0 : Code := { maxStack := 1, maxLocals := 1, code := prog_11_method_4_code, exceptionTable := #[], attributes := #[] }
def k7m0 : Method := { name := "standardName", desc := "()Ljava/lang/String;", sig := { parameters := [], returnType := some (.object "java/lang/String") }, accessFlags := 1, code := some k7c0 }
/-- com/example/portcullis/portcullis/ErrorCode -/
def k7 : Class := { plain "com/example/portcullis/portcullis/ErrorCode" (some 5) with
  accessFlags := 16432
  interfaces := #[6]
  cf := some (fileOf pool7 1 #[] #[{ accessFlags := 1, nameIndex := 64, descriptorIndex := 124, attributes := #[] }] 16432 53 #[116] #[{ accessFlags := 16409, nameIndex := 5, descriptorIndex := 6, attributes := #[] }, { accessFlags := 16409, nameIndex := 9, descriptorIndex := 6, attributes := #[] }, { accessFlags := 16409, nameIndex := 12, descriptorIndex := 6, attributes := #[] }, { accessFlags := 16409, nameIndex := 15, descriptorIndex := 6, attributes := #[] }, { accessFlags := 16409, nameIndex := 18, descriptorIndex := 6, attributes := #[] }, { accessFlags := 16409, nameIndex := 21, descriptorIndex := 6, attributes := #[] }, { accessFlags := 16409, nameIndex := 24, descriptorIndex := 6, attributes := #[] }, { accessFlags := 16409, nameIndex := 27, descriptorIndex := 6, attributes := #[] }, { accessFlags := 16409, nameIndex := 30, descriptorIndex := 6, attributes := #[] }, { accessFlags := 16409, nameIndex := 33, descriptorIndex := 6, attributes := #[] }, { accessFlags := 16409, nameIndex := 36, descriptorIndex := 6, attributes := #[] }, { accessFlags := 16409, nameIndex := 39, descriptorIndex := 6, attributes := #[] }, { accessFlags := 16409, nameIndex := 42, descriptorIndex := 6, attributes := #[] }, { accessFlags := 18, nameIndex := 64, descriptorIndex := 65, attributes := #[] }, { accessFlags := 18, nameIndex := 68, descriptorIndex := 69, attributes := #[] }, { accessFlags := 4122, nameIndex := 45, descriptorIndex := 46, attributes := #[] }])
  fields := #[{ name := "INVALID_REQUEST", type := (.object "com/example/portcullis/portcullis/ErrorCode"), accessFlags := 16409, slot := 0, constantValue := 0 }, { name := "INVALID_CLIENT", type := (.object "com/example/portcullis/portcullis/ErrorCode"), accessFlags := 16409, slot := 1, constantValue := 0 }, { name := "INVALID_GRANT", type := (.object "com/example/portcullis/portcullis/ErrorCode"), accessFlags := 16409, slot := 2, constantValue := 0 }, { name := "UNAUTHORIZED_CLIENT", type := (.object "com/example/portcullis/portcullis/ErrorCode"), accessFlags := 16409, slot := 3, constantValue := 0 }, { name := "UNSUPPORTED_GRANT_TYPE", type := (.object "com/example/portcullis/portcullis/ErrorCode"), accessFlags := 16409, slot := 4, constantValue := 0 }, { name := "INVALID_SCOPE", type := (.object "com/example/portcullis/portcullis/ErrorCode"), accessFlags := 16409, slot := 5, constantValue := 0 }, { name := "UNSUPPORTED_RESPONSE_TYPE", type := (.object "com/example/portcullis/portcullis/ErrorCode"), accessFlags := 16409, slot := 6, constantValue := 0 }, { name := "SERVER_ERROR", type := (.object "com/example/portcullis/portcullis/ErrorCode"), accessFlags := 16409, slot := 7, constantValue := 0 }, { name := "INVALID_TOKEN", type := (.object "com/example/portcullis/portcullis/ErrorCode"), accessFlags := 16409, slot := 8, constantValue := 0 }, { name := "INSUFFICIENT_SCOPE", type := (.object "com/example/portcullis/portcullis/ErrorCode"), accessFlags := 16409, slot := 9, constantValue := 0 }, { name := "LOGIN_REQUIRED", type := (.object "com/example/portcullis/portcullis/ErrorCode"), accessFlags := 16409, slot := 10, constantValue := 0 }, { name := "REQUEST_NOT_SUPPORTED", type := (.object "com/example/portcullis/portcullis/ErrorCode"), accessFlags := 16409, slot := 11, constantValue := 0 }, { name := "REQUEST_URI_NOT_SUPPORTED", type := (.object "com/example/portcullis/portcullis/ErrorCode"), accessFlags := 16409, slot := 12, constantValue := 0 }, { name := "standardName", type := (.object "java/lang/String"), accessFlags := 18, slot := 3, constantValue := 0 }, { name := "status", type := .int, accessFlags := 18, slot := 4, constantValue := 0 }, { name := "$VALUES", type := (.array (.object "com/example/portcullis/portcullis/ErrorCode")), accessFlags := 4122, slot := 13, constantValue := 0 }]
  methods := #[k7m0]
  instanceTypes := #[(.object "java/lang/String"), .int, .int, (.object "java/lang/String"), .int]
  staticTypes := #[(.object "com/example/portcullis/portcullis/ErrorCode"), (.object "com/example/portcullis/portcullis/ErrorCode"), (.object "com/example/portcullis/portcullis/ErrorCode"), (.object "com/example/portcullis/portcullis/ErrorCode"), (.object "com/example/portcullis/portcullis/ErrorCode"), (.object "com/example/portcullis/portcullis/ErrorCode"), (.object "com/example/portcullis/portcullis/ErrorCode"), (.object "com/example/portcullis/portcullis/ErrorCode"), (.object "com/example/portcullis/portcullis/ErrorCode"), (.object "com/example/portcullis/portcullis/ErrorCode"), (.object "com/example/portcullis/portcullis/ErrorCode"), (.object "com/example/portcullis/portcullis/ErrorCode"), (.object "com/example/portcullis/portcullis/ErrorCode"), (.array (.object "com/example/portcullis/portcullis/ErrorCode"))]
  resolved := Array.replicate 131 none
  statics := some 0 }

def pool8 : Array CpInfo := pool [(2, .class_ 4), (1, u "java/lang/CharSequence"), (42, .class_ 48), (0, u "java/lang/CharSequence$1CodePointIterator"), (10, .class_ 60), (0, u "java/lang/CharSequence$1CharIterator"), (5, .class_ 67), (0, u "java/lang/Object")] 63

/-- java/lang/CharSequence -/
def k8 : Class := { plain "java/lang/CharSequence" (some 0) with
  accessFlags := 1537
  interfaces := #[]
  cf := some (fileOf pool8 2 #[.nestMembers #[47, 59]] #[] 1537 66 #[] #[])
  fields := #[]
  methods := #[]
  instanceTypes := #[]
  staticTypes := #[]
  resolved := Array.replicate 131 none
  statics := none }

def pool9 : Array CpInfo := pool [(1, .class_ 2), (0, u "java/lang/constant/ConstantDesc"), (0, .class_ 4), (0, u "java/lang/Object")] 32

/-- java/lang/constant/ConstantDesc -/
def k9 : Class := { plain "java/lang/constant/ConstantDesc" (some 0) with
  accessFlags := 1537
  interfaces := #[]
  cf := some (fileOf pool9 1 #[] #[] 1537 3 #[] #[])
  fields := #[]
  methods := #[]
  instanceTypes := #[]
  staticTypes := #[]
  resolved := Array.replicate 37 none
  statics := none }

def pool10 : Array CpInfo := pool [(1, .methodref 2 3), (0, .class_ 4), (0, .nameAndType 5 6), (0, u "java/lang/Object"), (0, u "<init>"), (0, u "()V"), (0, .string 8), (0, u ""), (0, .fieldref 10 11), (0, .class_ 12), (0, .nameAndType 13 14), (0, u "java/lang/String"), (0, u "value"), (0, u "[B"), (0, .fieldref 10 16), (0, .nameAndType 17 18), (0, u "coder"), (0, u "B"), (2, u "hash"), (0, u "I"), (2, u "hashIsZero"), (0, u "Z"), (0, .methodref 10 28), (0, .nameAndType 5 29), (0, u "([CIILjava/lang/Void;)V"), (8, .fieldref 10 39), (0, .nameAndType 40 26), (0, u "COMPACT_STRINGS"), (1, .class_ 44), (1, u "java/lang/StringUTF16"), (0, u "compress"), (1, .methodref 42 48), (0, .nameAndType 49 50), (0, u "coderFromArrayLen"), (0, u "([BI)B"), (126, .methodref 42 178), (0, .nameAndType 45 179), (0, u "([CII)[B"), (363, u "equals"), (29, u "(Ljava/lang/Object;)Z"), (1, .class_ 576), (0, u "java/lang/CharSequence"), (22, u "CASE_INSENSITIVE_ORDER"), (0, u "Ljava/util/Comparator;"), (409, u "([C)V"), (90, u "serialPersistentFields"), (0, u "[Ljava/io/ObjectStreamField;"), (0, .class_ 1104), (0, u "java/lang/String$CaseInsensitiveComparator"), (1, .class_ 1107), (0, u "java/io/Serializable"), (0, .class_ 1109), (0, u "java/lang/Comparable"), (0, .class_ 1111), (0, u "java/lang/constant/Constable"), (0, .class_ 1113), (0, u "java/lang/constant/ConstantDesc"), (2, u "serialVersionUID"), (0, u "J"), (3, u "REPL"), (0, u "C"), (2, u "LATIN1"), (1, u "UTF16")] 323

def k10m0 : Method := { name := "<init>", desc := "()V", sig := { parameters := [], returnType := none }, accessFlags := 1, code := none }
def k10c1 : Code := { maxStack := 5, maxLocals := 2, code := jdk_42_method_3_code, exceptionTable := #[], attributes := #[] }
def k10m1 : Method := { name := "<init>", desc := "([C)V", sig := { parameters := [(.array .char)], returnType := none }, accessFlags := 1, code := some k10c1 }
def k10c2 : Code := { maxStack := 2, maxLocals := 3, code := jdk_42_method_66_code, exceptionTable := #[], attributes := #[] }
def k10m2 : Method := { name := "equals", desc := "(Ljava/lang/Object;)Z", sig := { parameters := [(.object "java/lang/Object")], returnType := some .boolean }, accessFlags := 1, code := some k10c2 }
def k10c3 : Code := { maxStack := 4, maxLocals := 6, code := jdk_42_method_149_code, exceptionTable := #[], attributes := #[] }
def k10m3 : Method := { name := "<init>", desc := "([CIILjava/lang/Void;)V", sig := { parameters := [(.array .char), .int, .int, (.object "java/lang/Void")], returnType := none }, accessFlags := 2, code := some k10c3 }
/-- java/lang/String -/
def k10 : Class := { plain "java/lang/String" (some 0) with
  accessFlags := 49
  interfaces := #[4, 3, 8, 2, 9]
  cf := some (fileOf pool10 10 #[.nestMembers #[1103]] #[{ accessFlags := 1, nameIndex := 5, descriptorIndex := 6, attributes := #[] }, { accessFlags := 1, nameIndex := 5, descriptorIndex := 1010, attributes := #[] }, { accessFlags := 1, nameIndex := 543, descriptorIndex := 573, attributes := #[] }, { accessFlags := 2, nameIndex := 5, descriptorIndex := 29, attributes := #[] }] 49 2 #[1106, 1108, 575, 1110, 1112] #[{ accessFlags := 18, nameIndex := 13, descriptorIndex := 14, attributes := #[] }, { accessFlags := 18, nameIndex := 17, descriptorIndex := 18, attributes := #[] }, { accessFlags := 2, nameIndex := 21, descriptorIndex := 22, attributes := #[] }, { accessFlags := 2, nameIndex := 25, descriptorIndex := 26, attributes := #[] }, { accessFlags := 26, nameIndex := 1116, descriptorIndex := 1117, attributes := #[] }, { accessFlags := 24, nameIndex := 40, descriptorIndex := 26, attributes := #[] }, { accessFlags := 26, nameIndex := 1101, descriptorIndex := 1102, attributes := #[] }, { accessFlags := 26, nameIndex := 1121, descriptorIndex := 1122, attributes := #[] }, { accessFlags := 25, nameIndex := 599, descriptorIndex := 600, attributes := #[] }, { accessFlags := 24, nameIndex := 1125, descriptorIndex := 18, attributes := #[] }, { accessFlags := 24, nameIndex := 1127, descriptorIndex := 18, attributes := #[] }])
  fields := #[{ name := "value", type := (.array .byte), accessFlags := 18, slot := 0, constantValue := 0 }, { name := "coder", type := .byte, accessFlags := 18, slot := 1, constantValue := 0 }, { name := "hash", type := .int, accessFlags := 2, slot := 2, constantValue := 0 }, { name := "hashIsZero", type := .boolean, accessFlags := 2, slot := 3, constantValue := 0 }, { name := "serialVersionUID", type := .long, accessFlags := 26, slot := 0, constantValue := 0 }, { name := "COMPACT_STRINGS", type := .boolean, accessFlags := 24, slot := 1, constantValue := 0 }, { name := "serialPersistentFields", type := (.array (.object "java/io/ObjectStreamField")), accessFlags := 26, slot := 2, constantValue := 0 }, { name := "REPL", type := .char, accessFlags := 26, slot := 3, constantValue := 0 }, { name := "CASE_INSENSITIVE_ORDER", type := (.object "java/util/Comparator"), accessFlags := 25, slot := 4, constantValue := 0 }, { name := "LATIN1", type := .byte, accessFlags := 24, slot := 5, constantValue := 0 }, { name := "UTF16", type := .byte, accessFlags := 24, slot := 6, constantValue := 0 }]
  methods := #[k10m0, k10m1, k10m2, k10m3]
  instanceTypes := #[(.array .byte), .byte, .int, .boolean]
  staticTypes := #[.long, .boolean, (.array (.object "java/io/ObjectStreamField")), .char, (.object "java/util/Comparator"), .byte, .byte]
  resolved := Array.replicate 1451 none
  statics := some 1 }

def pool11 : Array CpInfo := pool [(1, .methodref 2 3), (0, .class_ 4), (0, .nameAndType 5 6), (0, u "java/lang/Object"), (0, u "<init>"), (0, u "()V"), (0, .fieldref 8 9), (0, .class_ 10), (0, .nameAndType 11 12), (0, u "java/lang/Throwable"), (0, u "cause"), (0, u "Ljava/lang/Throwable;"), (0, .fieldref 8 14), (0, .nameAndType 15 16), (0, u "UNASSIGNED_STACK"), (0, u "[Ljava/lang/StackTraceElement;"), (0, .fieldref 8 18), (0, .nameAndType 19 16), (0, u "stackTrace"), (0, .fieldref 8 21), (0, .nameAndType 22 23), (0, u "SUPPRESSED_SENTINEL"), (0, u "Ljava/util/List;"), (0, .fieldref 8 25), (0, .nameAndType 26 23), (0, u "suppressedExceptions"), (0, .methodref 8 28), (0, .nameAndType 29 30), (0, u "fillInStackTrace"), (0, u "()Ljava/lang/Throwable;"), (0, .fieldref 8 32), (0, .nameAndType 33 34), (0, u "detailMessage"), (0, u "Ljava/lang/String;"), (3, u "()Ljava/lang/String;"), (2, u "getMessage"), (51, .class_ 94), (0, u "java/lang/Throwable$WrappedPrintStream"), (6, .class_ 103), (1, u "java/lang/Throwable$PrintStreamOrWriter"), (61, u "$assertionsDisabled"), (0, u "Z"), (26, .class_ 194), (0, u "java/lang/Throwable$WrappedPrintWriter"), (3, .fieldref 8 199), (0, .nameAndType 200 201), (0, u "backtrace"), (0, u "Ljava/lang/Object;"), (0, .methodref 8 203), (0, .nameAndType 29 204), (0, u "(I)Ljava/lang/Throwable;"), (6, u "depth"), (0, u "I"), (10, u "(Ljava/lang/String;)V"), (45, .class_ 271), (1, u "java/lang/Throwable$SentinelHolder"), (32, u "EMPTY_THROWABLE_ARRAY"), (0, u "[Ljava/lang/Throwable;"), (12, .class_ 319), (0, u "java/io/Serializable"), (0, u "serialVersionUID"), (0, u "J"), (5, u "NULL_CAUSE_MESSAGE"), (0, u "SELF_SUPPRESSION_MESSAGE"), (0, u "CAUSE_CAPTION"), (0, u "SUPPRESSED_CAPTION")] 73

def k11c0 : Code := { maxStack := 2, maxLocals := 1, code := jdk_78_method_1_code, exceptionTable := #[], attributes := #[] }
def k11m0 : Method := { name := "<init>", desc := "()V", sig := { parameters := [], returnType := none }, accessFlags := 1, code := some k11c0 }
def k11c1 : Code := { maxStack := 2, maxLocals := 2, code := jdk_78_method_2_code, exceptionTable := #[], attributes := #[] }
def k11m1 : Method := { name := "<init>", desc := "(Ljava/lang/String;)V", sig := { parameters := [(.object "java/lang/String")], returnType := none }, accessFlags := 1, code := some k11c1 }
def k11c2 : Code := { maxStack := 1, maxLocals := 1, code := jdk_78_method_6_code, exceptionTable := #[], attributes := #[] }
def k11m2 : Method := { name := "getMessage", desc := "()Ljava/lang/String;", sig := { parameters := [], returnType := some (.object "java/lang/String") }, accessFlags := 1, code := some k11c2 }
def k11c3 : Code := { maxStack := 2, maxLocals := 1, code := ⟨#[0x2a, 0xb4, 0x00, 0x11, 0xc7, 0x00, 0x0a, 0x2a, 0xb4, 0x00, 0xc6, 0xc6, 0x00, 0x10, 0x2a, 0x03, 0xb6, 0x00, 0xca, 0x57, 0x2a, 0xb2, 0x00, 0x0d, 0xb5, 0x00, 0x11, 0x2a, 0xb0]⟩, exceptionTable := #[], attributes := #[] }
def k11m3 : Method := { name := "fillInStackTrace", desc := "()Ljava/lang/Throwable;", sig := { parameters := [], returnType := some (.object "java/lang/Throwable") }, accessFlags := 33, code := some k11c3 }
def k11m4 : Method := { name := "fillInStackTrace", desc := "(I)Ljava/lang/Throwable;", sig := { parameters := [.int], returnType := some (.object "java/lang/Throwable") }, accessFlags := 258, code := none }
/-- java/lang/Throwable -/
def k11 : Class := { plain "java/lang/Throwable" (some 0) with
  accessFlags := 33
  interfaces := #[4]
  cf := some (fileOf pool11 8 #[.nestMembers #[193, 93, 101, 269]] #[{ accessFlags := 1, nameIndex := 5, descriptorIndex := 6, attributes := #[] }, { accessFlags := 1, nameIndex := 5, descriptorIndex := 223, attributes := #[] }, { accessFlags := 1, nameIndex := 41, descriptorIndex := 38, attributes := #[] }, { accessFlags := 33, nameIndex := 29, descriptorIndex := 30, attributes := #[] }, { accessFlags := 258, nameIndex := 29, descriptorIndex := 204, attributes := #[] }] 33 2 #[318] #[{ accessFlags := 26, nameIndex := 320, descriptorIndex := 321, attributes := #[] }, { accessFlags := 130, nameIndex := 200, descriptorIndex := 201, attributes := #[] }, { accessFlags := 2, nameIndex := 33, descriptorIndex := 34, attributes := #[] }, { accessFlags := 26, nameIndex := 15, descriptorIndex := 16, attributes := #[] }, { accessFlags := 2, nameIndex := 11, descriptorIndex := 12, attributes := #[] }, { accessFlags := 2, nameIndex := 19, descriptorIndex := 16, attributes := #[] }, { accessFlags := 130, nameIndex := 211, descriptorIndex := 212, attributes := #[] }, { accessFlags := 26, nameIndex := 22, descriptorIndex := 23, attributes := #[] }, { accessFlags := 2, nameIndex := 26, descriptorIndex := 23, attributes := #[] }, { accessFlags := 26, nameIndex := 327, descriptorIndex := 34, attributes := #[] }, { accessFlags := 26, nameIndex := 328, descriptorIndex := 34, attributes := #[] }, { accessFlags := 26, nameIndex := 329, descriptorIndex := 34, attributes := #[] }, { accessFlags := 26, nameIndex := 330, descriptorIndex := 34, attributes := #[] }, { accessFlags := 26, nameIndex := 304, descriptorIndex := 305, attributes := #[] }, { accessFlags := 4120, nameIndex := 165, descriptorIndex := 166, attributes := #[] }])
  fields := #[{ name := "serialVersionUID", type := .long, accessFlags := 26, slot := 0, constantValue := 0 }, { name := "backtrace", type := (.object "java/lang/Object"), accessFlags := 130, slot := 0, constantValue := 0 }, { name := "detailMessage", type := (.object "java/lang/String"), accessFlags := 2, slot := 1, constantValue := 0 }, { name := "UNASSIGNED_STACK", type := (.array (.object "java/lang/StackTraceElement")), accessFlags := 26, slot := 1, constantValue := 0 }, { name := "cause", type := (.object "java/lang/Throwable"), accessFlags := 2, slot := 2, constantValue := 0 }, { name := "stackTrace", type := (.array (.object "java/lang/StackTraceElement")), accessFlags := 2, slot := 3, constantValue := 0 }, { name := "depth", type := .int, accessFlags := 130, slot := 4, constantValue := 0 }, { name := "SUPPRESSED_SENTINEL", type := (.object "java/util/List"), accessFlags := 26, slot := 2, constantValue := 0 }, { name := "suppressedExceptions", type := (.object "java/util/List"), accessFlags := 2, slot := 5, constantValue := 0 }, { name := "NULL_CAUSE_MESSAGE", type := (.object "java/lang/String"), accessFlags := 26, slot := 3, constantValue := 0 }, { name := "SELF_SUPPRESSION_MESSAGE", type := (.object "java/lang/String"), accessFlags := 26, slot := 4, constantValue := 0 }, { name := "CAUSE_CAPTION", type := (.object "java/lang/String"), accessFlags := 26, slot := 5, constantValue := 0 }, { name := "SUPPRESSED_CAPTION", type := (.object "java/lang/String"), accessFlags := 26, slot := 6, constantValue := 0 }, { name := "EMPTY_THROWABLE_ARRAY", type := (.array (.object "java/lang/Throwable")), accessFlags := 26, slot := 7, constantValue := 0 }, { name := "$assertionsDisabled", type := .boolean, accessFlags := 4120, slot := 8, constantValue := 0 }]
  methods := #[k11m0, k11m1, k11m2, k11m3, k11m4]
  instanceTypes := #[(.object "java/lang/Object"), (.object "java/lang/String"), (.object "java/lang/Throwable"), (.array (.object "java/lang/StackTraceElement")), .int, (.object "java/util/List")]
  staticTypes := #[.long, (.array (.object "java/lang/StackTraceElement")), (.object "java/util/List"), (.object "java/lang/String"), (.object "java/lang/String"), (.object "java/lang/String"), (.object "java/lang/String"), (.array (.object "java/lang/Throwable")), .boolean]
  resolved := Array.replicate 404 none
  statics := some 2 }

def pool12 : Array CpInfo := pool [(2, .class_ 4), (1, u "java/lang/Throwable"), (0, u "<init>"), (0, u "()V"), (0, .methodref 2 8), (0, .nameAndType 5 9), (0, u "(Ljava/lang/String;)V"), (9, .class_ 20), (0, u "java/lang/Exception"), (0, u "serialVersionUID"), (0, u "J")] 17

def k12m0 : Method := { name := "<init>", desc := "()V", sig := { parameters := [], returnType := none }, accessFlags := 1, code := none }
def k12c1 : Code := { maxStack := 2, maxLocals := 2, code := jdk_59_method_2_code, exceptionTable := #[], attributes := #[] }
def k12m1 : Method := { name := "<init>", desc := "(Ljava/lang/String;)V", sig := { parameters := [(.object "java/lang/String")], returnType := none }, accessFlags := 1, code := some k12c1 }
/-- java/lang/Exception -/
def k12 : Class := { plain "java/lang/Exception" (some 11) with
  accessFlags := 33
  interfaces := #[]
  cf := some (fileOf pool12 19 #[] #[{ accessFlags := 1, nameIndex := 5, descriptorIndex := 6, attributes := #[] }, { accessFlags := 1, nameIndex := 5, descriptorIndex := 9, attributes := #[] }] 33 2 #[] #[{ accessFlags := 24, nameIndex := 21, descriptorIndex := 22, attributes := #[] }])
  fields := #[{ name := "serialVersionUID", type := .long, accessFlags := 24, slot := 0, constantValue := 0 }]
  methods := #[k12m0, k12m1]
  instanceTypes := #[(.object "java/lang/Object"), (.object "java/lang/String"), (.object "java/lang/Throwable"), (.array (.object "java/lang/StackTraceElement")), .int, (.object "java/util/List")]
  staticTypes := #[.long]
  resolved := Array.replicate 40 none
  statics := none }

def pool13 : Array CpInfo := pool [(2, .class_ 4), (1, u "com/example/portcullis/portcullis/ErrorCode"), (0, u "status"), (0, u "()I"), (0, .methodref 8 9), (0, .class_ 10), (0, .nameAndType 11 12), (0, u "com/example/portcullis/portcullis/OAuthException"), (0, u "<init>"), (0, u "(Lcom/example/portcullis/portcullis/ErrorCode;ILjava/lang/String;)V"), (0, .methodref 14 15), (0, .class_ 16), (0, .nameAndType 11 17), (0, u "java/lang/Exception"), (0, u "(Ljava/lang/String;)V"), (0, .fieldref 8 19), (0, .nameAndType 20 21), (0, u "code"), (0, u "Lcom/example/portcullis/portcullis/ErrorCode;"), (0, .fieldref 8 23), (0, .nameAndType 5 24), (0, u "I"), (8, .methodref 2 34), (0, .nameAndType 35 36), (0, u "standardName"), (0, u "()Ljava/lang/String;"), (0, u "serialVersionUID"), (0, u "J"), (7, u "describedAs"), (0, u "(Ljava/lang/String;)Lcom/example/portcullis/portcullis/OAuthException;"), (0, u "error")] 2

def k13c0 : Code := { maxStack := 2, maxLocals := 4, code := prog_13_method_2_code, exceptionTable := #[], attributes := #[] }
def k13m0 : Method := { name := "<init>", desc := "(Lcom/example/portcullis/portcullis/ErrorCode;ILjava/lang/String;)V", sig := { parameters := [(.object "com/example/portcullis/portcullis/ErrorCode"), .int, (.object "java/lang/String")], returnType := none }, accessFlags := 0, code := some k13c0 }
def k13c1 : Code := { maxStack := 5, maxLocals := 2, code := prog_13_method_4_code, exceptionTable := #[], attributes := #[] }
def k13m1 : Method := { name := "describedAs", desc := "(Ljava/lang/String;)Lcom/example/portcullis/portcullis/OAuthException;", sig := { parameters := [(.object "java/lang/String")], returnType := some (.object "com/example/portcullis/portcullis/OAuthException") }, accessFlags := 0, code := some k13c1 }
def k13c2 : Code := { maxStack := 1, maxLocals := 1, code := prog_13_method_5_code, exceptionTable := #[], attributes := #[] }
def k13m2 : Method := { name := "status", desc := "()I", sig := { parameters := [], returnType := some .int }, accessFlags := 0, code := some k13c2 }
def k13c3 : Code := { maxStack := 1, maxLocals := 1, code := prog_13_method_6_code, exceptionTable := #[], attributes := #[] }
def k13m3 : Method := { name := "error", desc := "()Ljava/lang/String;", sig := { parameters := [], returnType := some (.object "java/lang/String") }, accessFlags := 0, code := some k13c3 }
/-- com/example/portcullis/portcullis/OAuthException -/
def k13 : Class := { plain "com/example/portcullis/portcullis/OAuthException" (some 12) with
  accessFlags := 48
  interfaces := #[]
  cf := some (fileOf pool13 8 #[] #[{ accessFlags := 0, nameIndex := 11, descriptorIndex := 12, attributes := #[] }, { accessFlags := 0, nameIndex := 46, descriptorIndex := 47, attributes := #[] }, { accessFlags := 0, nameIndex := 5, descriptorIndex := 6, attributes := #[] }, { accessFlags := 0, nameIndex := 48, descriptorIndex := 36, attributes := #[] }] 48 14 #[] #[{ accessFlags := 26, nameIndex := 37, descriptorIndex := 38, attributes := #[] }, { accessFlags := 18, nameIndex := 20, descriptorIndex := 21, attributes := #[] }, { accessFlags := 18, nameIndex := 5, descriptorIndex := 24, attributes := #[] }])
  fields := #[{ name := "serialVersionUID", type := .long, accessFlags := 26, slot := 0, constantValue := 0 }, { name := "code", type := (.object "com/example/portcullis/portcullis/ErrorCode"), accessFlags := 18, slot := 6, constantValue := 0 }, { name := "status", type := .int, accessFlags := 18, slot := 7, constantValue := 0 }]
  methods := #[k13m0, k13m1, k13m2, k13m3]
  instanceTypes := #[(.object "java/lang/Object"), (.object "java/lang/String"), (.object "java/lang/Throwable"), (.array (.object "java/lang/StackTraceElement")), .int, (.object "java/util/List"), (.object "com/example/portcullis/portcullis/ErrorCode"), .int]
  staticTypes := #[.long]
  resolved := Array.replicate 51 none
  statics := none }

def pool14 : Array CpInfo := pool [(6, .class_ 8), (1, u "java/lang/Object"), (0, u "<init>"), (0, u "()V"), (1, .class_ 14), (1, u "java/lang/StringUTF16"), (31, u "$assertionsDisabled"), (0, u "Z"), (13, u "HI_BYTE_SHIFT"), (0, u "I"), (2, u "LO_BYTE_SHIFT"), (49, .methodref 12 116), (0, .nameAndType 117 118), (0, u "compress"), (0, u "([CI[BII)I"), (3, u "([CII)[B"), (138, u "coderFromArrayLen"), (0, u "([BI)B"), (106, .class_ 371), (1, u "java/lang/StringUTF16$LinesSpliterator"), (58, u "MAX_LENGTH"), (196, .class_ 628), (0, u "java/lang/StringUTF16$CodePointsSpliterator"), (0, .class_ 630), (0, u "java/lang/StringUTF16$CharsSpliterator")] 4

def k14m0 : Method := { name := "<init>", desc := "()V", sig := { parameters := [], returnType := none }, accessFlags := 0, code := none }
def k14c1 : Code := { maxStack := 2, maxLocals := 2, code := jdk_52_method_15_code, exceptionTable := #[], attributes := #[] }
def k14m1 : Method := { name := "coderFromArrayLen", desc := "([BI)B", sig := { parameters := [(.array .byte), .int], returnType := some .byte }, accessFlags := 8, code := some k14c1 }
def k14c2 : Code := { maxStack := 5, maxLocals := 6, code := jdk_52_method_16_code, exceptionTable := #[], attributes := #[] }
def k14m2 : Method := { name := "compress", desc := "([CII)[B", sig := { parameters := [(.array .char), .int, .int], returnType := some (.array .byte) }, accessFlags := 9, code := some k14c2 }
def k14c3 : Code := { maxStack := 3, maxLocals := 7, code := jdk_52_method_21_code, exceptionTable := #[], attributes := #[] }
def k14m3 : Method := { name := "compress", desc := "([CI[BII)I", sig := { parameters := [(.array .char), .int, (.array .byte), .int, .int], returnType := some .int }, accessFlags := 9, code := some k14c3 }
/-- java/lang/StringUTF16 -/
def k14 : Class := { plain "java/lang/StringUTF16" (some 0) with
  accessFlags := 48
  interfaces := #[]
  cf := some (fileOf pool14 12 #[.nestMembers #[627, 629, 369]] #[{ accessFlags := 0, nameIndex := 9, descriptorIndex := 10, attributes := #[] }, { accessFlags := 8, nameIndex := 261, descriptorIndex := 262, attributes := #[] }, { accessFlags := 9, nameIndex := 117, descriptorIndex := 122, attributes := #[] }, { accessFlags := 9, nameIndex := 117, descriptorIndex := 118, attributes := #[] }] 48 6 #[] #[{ accessFlags := 26, nameIndex := 61, descriptorIndex := 62, attributes := #[] }, { accessFlags := 26, nameIndex := 65, descriptorIndex := 62, attributes := #[] }, { accessFlags := 24, nameIndex := 430, descriptorIndex := 62, attributes := #[] }, { accessFlags := 4120, nameIndex := 46, descriptorIndex := 47, attributes := #[] }])
  fields := #[{ name := "HI_BYTE_SHIFT", type := .int, accessFlags := 26, slot := 0, constantValue := 0 }, { name := "LO_BYTE_SHIFT", type := .int, accessFlags := 26, slot := 1, constantValue := 0 }, { name := "MAX_LENGTH", type := .int, accessFlags := 24, slot := 2, constantValue := 0 }, { name := "$assertionsDisabled", type := .boolean, accessFlags := 4120, slot := 3, constantValue := 0 }]
  methods := #[k14m0, k14m1, k14m2, k14m3]
  instanceTypes := #[]
  staticTypes := #[.int, .int, .int, .boolean]
  resolved := Array.replicate 635 none
  statics := none }

def pool15 : Array CpInfo := pool [(2, .class_ 4), (1, u "java/lang/Object"), (0, u "<init>"), (0, u "()V"), (12, .class_ 20), (0, u "java/util/Collections"), (63, u "r"), (0, u "Ljava/util/Random;"), (80, .class_ 167), (0, u "java/util/Collections$UnmodifiableCollection"), (6, .class_ 175), (0, u "java/util/Collections$UnmodifiableSequencedCollection"), (6, .class_ 183), (0, u "java/util/Collections$UnmodifiableSet"), (6, .class_ 191), (0, u "java/util/Collections$UnmodifiableSequencedSet"), (6, .class_ 199), (0, u "java/util/Collections$UnmodifiableSortedSet"), (6, .class_ 207), (0, u "java/util/Collections$UnmodifiableNavigableSet"), (4, .class_ 213), (0, u "java/util/Collections$UnmodifiableList"), (1, .class_ 216), (0, u "java/util/Collections$UnmodifiableRandomAccessList"), (6, .class_ 224), (0, u "java/util/Collections$UnmodifiableMap"), (6, .class_ 232), (0, u "java/util/Collections$UnmodifiableSequencedMap"), (4, .class_ 238), (0, u "java/util/Collections$UnmodifiableSortedMap"), (6, .class_ 246), (0, u "java/util/Collections$UnmodifiableNavigableMap"), (3, .class_ 251), (0, u "java/util/Collections$SynchronizedCollection"), (4, .class_ 257), (0, u "java/util/Collections$SynchronizedSet"), (4, .class_ 263), (0, u "java/util/Collections$SynchronizedSortedSet"), (1, .class_ 266), (0, u "java/util/Collections$SynchronizedNavigableSet"), (1, .class_ 269), (0, u "java/util/Collections$SynchronizedRandomAccessList"), (1, .class_ 272), (0, u "java/util/Collections$SynchronizedList"), (5, .class_ 279), (0, u "java/util/Collections$SynchronizedMap"), (1, .class_ 282), (0, u "java/util/Collections$SynchronizedSortedMap"), (1, .class_ 285), (0, u "java/util/Collections$SynchronizedNavigableMap"), (1, .class_ 288), (0, u "java/util/Collections$CheckedCollection"), (11, .class_ 301), (0, u "java/util/Collections$CheckedQueue"), (3, .class_ 306), (0, u "java/util/Collections$CheckedSet"), (3, .class_ 311), (0, u "java/util/Collections$CheckedSortedSet"), (3, .class_ 316), (0, u "java/util/Collections$CheckedNavigableSet"), (3, .class_ 321), (0, u "java/util/Collections$CheckedRandomAccessList"), (3, .class_ 326), (0, u "java/util/Collections$CheckedList"), (1, .class_ 329), (0, u "java/util/Collections$CheckedMap"), (3, .class_ 334), (0, u "java/util/Collections$CheckedSortedMap"), (3, .class_ 339), (0, u "java/util/Collections$CheckedNavigableMap"), (4, .class_ 346), (1, u "java/util/Collections$EmptyIterator"), (3, .class_ 352), (1, u "java/util/Collections$EmptyListIterator"), (2, .class_ 357), (1, u "java/util/Collections$EmptyEnumeration"), (4, u "EMPTY_SET"), (0, u "Ljava/util/Set;"), (6, u "EMPTY_LIST"), (0, u "Ljava/util/List;"), (2, u "EMPTY_MAP"), (0, u "Ljava/util/Map;"), (4, .class_ 381), (0, u "java/util/Collections$SingletonSet"), (2, .class_ 385), (0, u "java/util/Collections$1"), (1, .class_ 388), (0, u "java/util/Collections$2"), (1, .class_ 391), (0, u "java/util/Collections$SingletonList"), (1, .class_ 394), (0, u "java/util/Collections$SingletonMap"), (22, .class_ 418), (0, u "java/util/Collections$CopiesList"), (4, .class_ 425), (1, u "java/util/Collections$ReverseComparator"), (8, .class_ 435), (0, u "java/util/Collections$ReverseComparator2"), (6, .class_ 443), (0, u "java/util/Collections$3"), (25, .class_ 470), (0, u "java/util/Collections$SetFromMap"), (2, .class_ 474), (0, u "java/util/Collections$SequencedSetFromMap"), (3, .class_ 479), (0, u "java/util/Collections$AsLIFOQueue"), (11, .class_ 492), (0, u "java/util/Collections$EmptySet"), (1, .class_ 495), (0, u "java/util/Collections$EmptyList"), (1, .class_ 498), (0, u "java/util/Collections$EmptyMap"), (1, u "BINARYSEARCH_THRESHOLD"), (0, u "I"), (2, u "REVERSE_THRESHOLD"), (1, u "SHUFFLE_THRESHOLD"), (1, u "FILL_THRESHOLD"), (1, u "ROTATE_THRESHOLD"), (1, u "COPY_THRESHOLD"), (1, u "REPLACEALL_THRESHOLD"), (1, u "INDEXOFSUBLIST_THRESHOLD"), (333, .class_ 851), (0, u "java/util/Collections$CheckedMap$CheckedEntrySet"), (0, .class_ 853), (0, u "java/util/Collections$CheckedMap$CheckedEntrySet$CheckedEntry"), (0, .class_ 855), (0, u "java/util/Collections$CheckedMap$CheckedEntrySet$1"), (0, .class_ 857), (0, u "java/util/Collections$CheckedList$1"), (0, .class_ 859), (0, u "java/util/Collections$CheckedCollection$1"), (0, .class_ 861), (0, u "java/util/Collections$UnmodifiableNavigableMap$EmptyNavigableMap"), (0, .class_ 863), (0, u "java/util/Collections$UnmodifiableMap$UnmodifiableEntrySet"), (0, .class_ 865), (0, u "java/util/Collections$UnmodifiableMap$UnmodifiableEntrySet$UnmodifiableEntry"), (0, .class_ 867), (0, u "java/util/Collections$UnmodifiableMap$UnmodifiableEntrySet$UnmodifiableEntrySetSpliterator"), (0, .class_ 869), (0, u "java/util/Collections$UnmodifiableMap$UnmodifiableEntrySet$1"), (0, .class_ 871), (0, u "java/util/Collections$UnmodifiableList$1"), (0, .class_ 873), (0, u "java/util/Collections$UnmodifiableNavigableSet$EmptyNavigableSet"), (0, .class_ 875), (0, u "java/util/Collections$UnmodifiableCollection$1")] 57

def k15m0 : Method := { name := "<init>", desc := "()V", sig := { parameters := [], returnType := none }, accessFlags := 2, code := none }
/-- java/util/Collections -/
def k15 : Class := { plain "java/util/Collections" (some 0) with
  accessFlags := 33
  interfaces := #[]
  cf := some (fileOf pool15 19 #[.nestMembers #[478, 473, 469, 434, 423, 417, 393, 390, 380, 497, 494, 491, 355, 350, 344, 338, 333, 328, 850, 852, 854, 320, 325, 856, 315, 310, 305, 300, 287, 858, 284, 281, 278, 268, 271, 265, 262, 256, 250, 245, 860, 237, 231, 223, 862, 864, 866, 868, 215, 212, 870, 206, 872, 198, 190, 182, 174, 166, 874, 442, 387, 384]] #[{ accessFlags := 2, nameIndex := 5, descriptorIndex := 6, attributes := #[] }] 33 2 #[] #[{ accessFlags := 26, nameIndex := 500, descriptorIndex := 501, attributes := #[] }, { accessFlags := 26, nameIndex := 504, descriptorIndex := 501, attributes := #[] }, { accessFlags := 26, nameIndex := 506, descriptorIndex := 501, attributes := #[] }, { accessFlags := 26, nameIndex := 508, descriptorIndex := 501, attributes := #[] }, { accessFlags := 26, nameIndex := 510, descriptorIndex := 501, attributes := #[] }, { accessFlags := 26, nameIndex := 512, descriptorIndex := 501, attributes := #[] }, { accessFlags := 26, nameIndex := 514, descriptorIndex := 501, attributes := #[] }, { accessFlags := 26, nameIndex := 516, descriptorIndex := 501, attributes := #[] }, { accessFlags := 10, nameIndex := 84, descriptorIndex := 85, attributes := #[] }, { accessFlags := 25, nameIndex := 362, descriptorIndex := 363, attributes := #[] }, { accessFlags := 25, nameIndex := 370, descriptorIndex := 371, attributes := #[] }, { accessFlags := 25, nameIndex := 374, descriptorIndex := 375, attributes := #[] }])
  fields := #[{ name := "BINARYSEARCH_THRESHOLD", type := .int, accessFlags := 26, slot := 0, constantValue := 0 }, { name := "REVERSE_THRESHOLD", type := .int, accessFlags := 26, slot := 1, constantValue := 0 }, { name := "SHUFFLE_THRESHOLD", type := .int, accessFlags := 26, slot := 2, constantValue := 0 }, { name := "FILL_THRESHOLD", type := .int, accessFlags := 26, slot := 3, constantValue := 0 }, { name := "ROTATE_THRESHOLD", type := .int, accessFlags := 26, slot := 4, constantValue := 0 }, { name := "COPY_THRESHOLD", type := .int, accessFlags := 26, slot := 5, constantValue := 0 }, { name := "REPLACEALL_THRESHOLD", type := .int, accessFlags := 26, slot := 6, constantValue := 0 }, { name := "INDEXOFSUBLIST_THRESHOLD", type := .int, accessFlags := 26, slot := 7, constantValue := 0 }, { name := "r", type := (.object "java/util/Random"), accessFlags := 10, slot := 8, constantValue := 0 }, { name := "EMPTY_SET", type := (.object "java/util/Set"), accessFlags := 25, slot := 9, constantValue := 0 }, { name := "EMPTY_LIST", type := (.object "java/util/List"), accessFlags := 25, slot := 10, constantValue := 0 }, { name := "EMPTY_MAP", type := (.object "java/util/Map"), accessFlags := 25, slot := 11, constantValue := 0 }]
  methods := #[k15m0]
  instanceTypes := #[]
  staticTypes := #[.int, .int, .int, .int, .int, .int, .int, .int, (.object "java/util/Random"), (.object "java/util/Set"), (.object "java/util/List"), (.object "java/util/Map")]
  resolved := Array.replicate 933 none
  statics := some 3 }

def pool16 : Array CpInfo := pool [(4, .class_ 6), (1, u "java/lang/Object"), (0, u "<init>"), (0, u "()V"), (5, .class_ 16), (1, u "java/lang/StringLatin1"), (104, u "$assertionsDisabled"), (0, u "Z"), (98, .class_ 223), (1, u "java/lang/StringLatin1$LinesSpliterator"), (166, .class_ 391), (0, u "java/lang/StringLatin1$CharsSpliterator")] 3

def k16m0 : Method := { name := "<init>", desc := "()V", sig := { parameters := [], returnType := none }, accessFlags := 0, code := none }
/-- java/lang/StringLatin1 -/
def k16 : Class := { plain "java/lang/StringLatin1" (some 0) with
  accessFlags := 48
  interfaces := #[]
  cf := some (fileOf pool16 14 #[.nestMembers #[390, 221]] #[{ accessFlags := 0, nameIndex := 7, descriptorIndex := 8, attributes := #[] }] 48 4 #[] #[{ accessFlags := 4120, nameIndex := 121, descriptorIndex := 122, attributes := #[] }])
  fields := #[{ name := "$assertionsDisabled", type := .boolean, accessFlags := 4120, slot := 0, constantValue := 0 }]
  methods := #[k16m0]
  instanceTypes := #[]
  staticTypes := #[.boolean]
  resolved := Array.replicate 395 none
  statics := none }

def pool17 : Array CpInfo := pool [(2, .class_ 4), (1, u "java/lang/Object"), (0, u "<init>"), (0, u "()V"), (17, .class_ 26), (1, u "jdk/internal/util/Preconditions"), (28, .class_ 56), (0, u "jdk/internal/util/Preconditions$4"), (57, .class_ 115), (0, u "jdk/internal/util/Preconditions$1"), (7, u "SIOOBE_FORMATTER"), (0, u "Ljava/util/function/BiFunction;"), (0, .class_ 126), (0, u "jdk/internal/util/Preconditions$2"), (3, u "AIOOBE_FORMATTER"), (0, .class_ 132), (0, u "jdk/internal/util/Preconditions$3"), (3, u "IOOBE_FORMATTER")] 57

def k17m0 : Method := { name := "<init>", desc := "()V", sig := { parameters := [], returnType := none }, accessFlags := 1, code := none }
/-- jdk/internal/util/Preconditions -/
def k17 : Class := { plain "jdk/internal/util/Preconditions" (some 0) with
  accessFlags := 33
  interfaces := #[]
  cf := some (fileOf pool17 24 #[.nestMembers #[55, 131, 125, 114]] #[{ accessFlags := 1, nameIndex := 5, descriptorIndex := 6, attributes := #[] }] 33 2 #[] #[{ accessFlags := 25, nameIndex := 123, descriptorIndex := 124, attributes := #[] }, { accessFlags := 25, nameIndex := 130, descriptorIndex := 124, attributes := #[] }, { accessFlags := 25, nameIndex := 136, descriptorIndex := 124, attributes := #[] }])
  fields := #[{ name := "SIOOBE_FORMATTER", type := (.object "java/util/function/BiFunction"), accessFlags := 25, slot := 0, constantValue := 0 }, { name := "AIOOBE_FORMATTER", type := (.object "java/util/function/BiFunction"), accessFlags := 25, slot := 1, constantValue := 0 }, { name := "IOOBE_FORMATTER", type := (.object "java/util/function/BiFunction"), accessFlags := 25, slot := 2, constantValue := 0 }]
  methods := #[k17m0]
  instanceTypes := #[]
  staticTypes := #[(.object "java/util/function/BiFunction"), (.object "java/util/function/BiFunction"), (.object "java/util/function/BiFunction")]
  resolved := Array.replicate 194 none
  statics := some 4 }

def pool18 : Array CpInfo := pool [(9, u "<init>"), (6, .class_ 18), (1, u "java/lang/Object"), (0, u "()V"), (1, .class_ 23), (1, u "jdk/internal/util/ArraysSupport"), (0, u "LOG2_ARRAY_LONG_INDEX_SCALE"), (0, u "I"), (2, u "U"), (0, u "Ljdk/internal/misc/Unsafe;"), (8, u "BIG_ENDIAN"), (0, u "Z"), (8, u "LOG2_BYTE_BIT_SIZE"), (4, u "LOG2_ARRAY_INT_INDEX_SCALE"), (54, u "JLA"), (0, u "Ljdk/internal/access/JavaLangAccess;"), (11, u "LOG2_ARRAY_BOOLEAN_INDEX_SCALE"), (9, u "LOG2_ARRAY_BYTE_INDEX_SCALE"), (5, u "LOG2_ARRAY_CHAR_INDEX_SCALE"), (5, u "LOG2_ARRAY_SHORT_INDEX_SCALE"), (18, u "LOG2_ARRAY_FLOAT_INDEX_SCALE"), (24, u "LOG2_ARRAY_DOUBLE_INDEX_SCALE"), (89, u "T_BOOLEAN"), (2, u "T_CHAR"), (1, u "T_FLOAT"), (1, u "T_DOUBLE"), (1, u "T_BYTE"), (1, u "T_SHORT"), (1, u "T_INT"), (1, u "T_LONG"), (1, u "SOFT_MAX_ARRAY_LENGTH")] 83

def k18m0 : Method := { name := "<init>", desc := "()V", sig := { parameters := [], returnType := none }, accessFlags := 2, code := none }
/-- jdk/internal/util/ArraysSupport -/
def k18 : Class := { plain "jdk/internal/util/ArraysSupport" (some 0) with
  accessFlags := 33
  interfaces := #[]
  cf := some (fileOf pool18 21 #[] #[{ accessFlags := 2, nameIndex := 9, descriptorIndex := 19, attributes := #[] }] 33 16 #[] #[{ accessFlags := 24, nameIndex := 28, descriptorIndex := 29, attributes := #[] }, { accessFlags := 26, nameIndex := 38, descriptorIndex := 39, attributes := #[] }, { accessFlags := 25, nameIndex := 121, descriptorIndex := 25, attributes := #[] }, { accessFlags := 25, nameIndex := 131, descriptorIndex := 25, attributes := #[] }, { accessFlags := 25, nameIndex := 137, descriptorIndex := 25, attributes := #[] }, { accessFlags := 25, nameIndex := 143, descriptorIndex := 25, attributes := #[] }, { accessFlags := 25, nameIndex := 53, descriptorIndex := 25, attributes := #[] }, { accessFlags := 25, nameIndex := 24, descriptorIndex := 25, attributes := #[] }, { accessFlags := 25, nameIndex := 162, descriptorIndex := 25, attributes := #[] }, { accessFlags := 25, nameIndex := 187, descriptorIndex := 25, attributes := #[] }, { accessFlags := 26, nameIndex := 48, descriptorIndex := 25, attributes := #[] }, { accessFlags := 25, nameIndex := 277, descriptorIndex := 25, attributes := #[] }, { accessFlags := 25, nameIndex := 280, descriptorIndex := 25, attributes := #[] }, { accessFlags := 25, nameIndex := 282, descriptorIndex := 25, attributes := #[] }, { accessFlags := 25, nameIndex := 284, descriptorIndex := 25, attributes := #[] }, { accessFlags := 25, nameIndex := 286, descriptorIndex := 25, attributes := #[] }, { accessFlags := 25, nameIndex := 288, descriptorIndex := 25, attributes := #[] }, { accessFlags := 25, nameIndex := 290, descriptorIndex := 25, attributes := #[] }, { accessFlags := 25, nameIndex := 292, descriptorIndex := 25, attributes := #[] }, { accessFlags := 26, nameIndex := 108, descriptorIndex := 109, attributes := #[] }, { accessFlags := 25, nameIndex := 294, descriptorIndex := 25, attributes := #[] }])
  fields := #[{ name := "U", type := (.object "jdk/internal/misc/Unsafe"), accessFlags := 24, slot := 0, constantValue := 0 }, { name := "BIG_ENDIAN", type := .boolean, accessFlags := 26, slot := 1, constantValue := 0 }, { name := "LOG2_ARRAY_BOOLEAN_INDEX_SCALE", type := .int, accessFlags := 25, slot := 2, constantValue := 0 }, { name := "LOG2_ARRAY_BYTE_INDEX_SCALE", type := .int, accessFlags := 25, slot := 3, constantValue := 0 }, { name := "LOG2_ARRAY_CHAR_INDEX_SCALE", type := .int, accessFlags := 25, slot := 4, constantValue := 0 }, { name := "LOG2_ARRAY_SHORT_INDEX_SCALE", type := .int, accessFlags := 25, slot := 5, constantValue := 0 }, { name := "LOG2_ARRAY_INT_INDEX_SCALE", type := .int, accessFlags := 25, slot := 6, constantValue := 0 }, { name := "LOG2_ARRAY_LONG_INDEX_SCALE", type := .int, accessFlags := 25, slot := 7, constantValue := 0 }, { name := "LOG2_ARRAY_FLOAT_INDEX_SCALE", type := .int, accessFlags := 25, slot := 8, constantValue := 0 }, { name := "LOG2_ARRAY_DOUBLE_INDEX_SCALE", type := .int, accessFlags := 25, slot := 9, constantValue := 0 }, { name := "LOG2_BYTE_BIT_SIZE", type := .int, accessFlags := 26, slot := 10, constantValue := 0 }, { name := "T_BOOLEAN", type := .int, accessFlags := 25, slot := 11, constantValue := 0 }, { name := "T_CHAR", type := .int, accessFlags := 25, slot := 12, constantValue := 0 }, { name := "T_FLOAT", type := .int, accessFlags := 25, slot := 13, constantValue := 0 }, { name := "T_DOUBLE", type := .int, accessFlags := 25, slot := 14, constantValue := 0 }, { name := "T_BYTE", type := .int, accessFlags := 25, slot := 15, constantValue := 0 }, { name := "T_SHORT", type := .int, accessFlags := 25, slot := 16, constantValue := 0 }, { name := "T_INT", type := .int, accessFlags := 25, slot := 17, constantValue := 0 }, { name := "T_LONG", type := .int, accessFlags := 25, slot := 18, constantValue := 0 }, { name := "JLA", type := (.object "jdk/internal/access/JavaLangAccess"), accessFlags := 26, slot := 19, constantValue := 0 }, { name := "SOFT_MAX_ARRAY_LENGTH", type := .int, accessFlags := 25, slot := 20, constantValue := 0 }]
  methods := #[k18m0]
  instanceTypes := #[]
  staticTypes := #[(.object "jdk/internal/misc/Unsafe"), .boolean, .int, .int, .int, .int, .int, .int, .int, .int, .int, .int, .int, .int, .int, .int, .int, .int, .int, (.object "jdk/internal/access/JavaLangAccess"), .int]
  resolved := Array.replicate 378 none
  statics := none }

def pool19 : Array CpInfo := pool [(8, .class_ 10), (1, u "java/lang/Iterable"), (24, .class_ 36), (0, u "java/lang/Object")] 25

/-- java/lang/Iterable -/
def k19 : Class := { plain "java/lang/Iterable" (some 0) with
  accessFlags := 1537
  interfaces := #[]
  cf := some (fileOf pool19 8 #[] #[] 1537 35 #[] #[])
  fields := #[]
  methods := #[]
  instanceTypes := #[]
  staticTypes := #[]
  resolved := Array.replicate 62 none
  statics := none }

def pool20 : Array CpInfo := pool [(10, .class_ 12), (1, u "java/util/Collection"), (47, .class_ 61), (0, u "java/lang/Object"), (0, .class_ 63), (0, u "java/lang/Iterable")] 51

/-- java/util/Collection -/
def k20 : Class := { plain "java/util/Collection" (some 0) with
  accessFlags := 1537
  interfaces := #[19]
  cf := some (fileOf pool20 10 #[] #[] 1537 60 #[62] #[])
  fields := #[]
  methods := #[]
  instanceTypes := #[]
  staticTypes := #[]
  resolved := Array.replicate 115 none
  statics := none }

def pool21 : Array CpInfo := pool [(2, .class_ 4), (1, u "java/lang/Object"), (0, u "<init>"), (0, u "()V"), (1, .class_ 10), (1, u "java/util/AbstractCollection"), (66, .class_ 78), (0, u "java/util/Collection")] 81

def k21m0 : Method := { name := "<init>", desc := "()V", sig := { parameters := [], returnType := none }, accessFlags := 4, code := none }
/-- java/util/AbstractCollection -/
def k21 : Class := { plain "java/util/AbstractCollection" (some 0) with
  accessFlags := 1057
  interfaces := #[20]
  cf := some (fileOf pool21 8 #[] #[{ accessFlags := 4, nameIndex := 5, descriptorIndex := 6, attributes := #[] }] 1057 2 #[77] #[])
  fields := #[]
  methods := #[k21m0]
  instanceTypes := #[]
  staticTypes := #[]
  resolved := Array.replicate 160 none
  statics := none }

def pool22 : Array CpInfo := pool [(8, .class_ 10), (1, u "java/util/SequencedCollection"), (15, .class_ 27), (0, u "java/lang/Object"), (0, .class_ 29), (0, u "java/util/Collection")] 27

/-- java/util/SequencedCollection -/
def k22 : Class := { plain "java/util/SequencedCollection" (some 0) with
  accessFlags := 1537
  interfaces := #[20]
  cf := some (fileOf pool22 8 #[] #[] 1537 26 #[28] #[])
  fields := #[]
  methods := #[]
  instanceTypes := #[]
  staticTypes := #[]
  resolved := Array.replicate 57 none
  statics := none }

def pool23 : Array CpInfo := pool [(8, .class_ 10), (1, u "java/util/List"), (92, .class_ 104), (0, u "java/lang/Object"), (15, .class_ 121), (0, u "java/util/SequencedCollection")] 129

/-- java/util/List -/
def k23 : Class := { plain "java/util/List" (some 0) with
  accessFlags := 1537
  interfaces := #[22]
  cf := some (fileOf pool23 8 #[] #[] 1537 103 #[120] #[])
  fields := #[]
  methods := #[]
  instanceTypes := #[]
  staticTypes := #[]
  resolved := Array.replicate 251 none
  statics := none }

def pool24 : Array CpInfo := pool [(2, .class_ 4), (1, u "java/util/AbstractCollection"), (0, u "<init>"), (0, u "()V"), (1, .class_ 10), (1, u "java/util/AbstractList"), (0, u "modCount"), (0, u "I"), (64, .class_ 78), (0, u "java/util/AbstractList$Itr"), (3, .class_ 83), (0, u "java/util/AbstractList$ListItr"), (9, .class_ 94), (0, u "java/util/AbstractList$RandomAccessSubList"), (3, .class_ 99), (0, u "java/util/AbstractList$SubList"), (33, .class_ 134), (0, u "java/util/List"), (73, .class_ 209), (0, u "java/util/AbstractList$SubList$1"), (0, .class_ 211), (0, u "java/util/AbstractList$RandomAccessSpliterator")] 6

def k24m0 : Method := { name := "<init>", desc := "()V", sig := { parameters := [], returnType := none }, accessFlags := 4, code := none }
/-- java/util/AbstractList -/
def k24 : Class := { plain "java/util/AbstractList" (some 21) with
  accessFlags := 1057
  interfaces := #[23]
  cf := some (fileOf pool24 8 #[.nestMembers #[93, 98, 208, 210, 82, 77]] #[{ accessFlags := 4, nameIndex := 5, descriptorIndex := 6, attributes := #[] }] 1057 2 #[133] #[{ accessFlags := 132, nameIndex := 11, descriptorIndex := 12, attributes := #[] }])
  fields := #[{ name := "modCount", type := .int, accessFlags := 132, slot := 0, constantValue := 0 }]
  methods := #[k24m0]
  instanceTypes := #[.int]
  staticTypes := #[]
  resolved := Array.replicate 218 none
  statics := none }

def pool25 : Array CpInfo := pool [(1, .class_ 2), (0, u "java/util/RandomAccess"), (0, .class_ 4), (0, u "java/lang/Object")] 2

/-- java/util/RandomAccess -/
def k25 : Class := { plain "java/util/RandomAccess" (some 0) with
  accessFlags := 1537
  interfaces := #[]
  cf := some (fileOf pool25 1 #[] #[] 1537 3 #[] #[])
  fields := #[]
  methods := #[]
  instanceTypes := #[]
  staticTypes := #[]
  resolved := Array.replicate 7 none
  statics := none }

def pool26 : Array CpInfo := pool [(2, .class_ 4), (1, u "java/util/AbstractList"), (0, u "<init>"), (0, u "()V"), (1, .class_ 10), (1, u "java/util/Collections"), (54, .class_ 66), (0, u "java/util/Collections$EmptyList"), (0, .class_ 68), (0, u "java/util/RandomAccess"), (0, .class_ 70), (0, u "java/io/Serializable"), (0, u "serialVersionUID"), (0, u "J")] 77

def k26m0 : Method := { name := "<init>", desc := "()V", sig := { parameters := [], returnType := none }, accessFlags := 2, code := none }
/-- java/util/Collections$EmptyList -/
def k26 : Class := { plain "java/util/Collections$EmptyList" (some 24) with
  accessFlags := 32
  interfaces := #[25, 4]
  cf := some (fileOf pool26 65 #[.nestHost 8] #[{ accessFlags := 2, nameIndex := 5, descriptorIndex := 6, attributes := #[] }] 32 2 #[67, 69] #[{ accessFlags := 26, nameIndex := 71, descriptorIndex := 72, attributes := #[] }])
  fields := #[{ name := "serialVersionUID", type := .long, accessFlags := 26, slot := 0, constantValue := 0 }]
  methods := #[k26m0]
  instanceTypes := #[.int]
  staticTypes := #[.long]
  resolved := Array.replicate 150 none
  statics := none }

def pool27 : Array CpInfo := pool [(2, .class_ 4), (1, u "java/lang/StackTraceElement"), (0, u "<init>"), (2, .class_ 10), (1, u "java/lang/Object"), (0, u "()V"), (2, u "format"), (0, u "B"), (2, u "classLoaderName"), (0, u "Ljava/lang/String;"), (2, u "moduleName"), (2, u "moduleVersion"), (12, u "declaringClass"), (4, u "methodName"), (2, u "fileName"), (2, u "lineNumber"), (0, u "I"), (65, u "declaringClassObject"), (0, u "Ljava/lang/Class;"), (33, .class_ 153), (1, u "java/lang/StackTraceElement$HashedModules"), (17, .class_ 172), (0, u "java/io/Serializable"), (0, u "NATIVE_METHOD"), (1, u "UNKNOWN_SOURCE"), (2, u "BUILTIN_CLASS_LOADER"), (1, u "JDK_NON_UPGRADEABLE_MODULE"), (1, u "serialVersionUID"), (0, u "J")] 51

def k27m0 : Method := { name := "<init>", desc := "()V", sig := { parameters := [], returnType := none }, accessFlags := 2, code := none }
/-- java/lang/StackTraceElement -/
def k27 : Class := { plain "java/lang/StackTraceElement" (some 0) with
  accessFlags := 49
  interfaces := #[4]
  cf := some (fileOf pool27 2 #[.nestMembers #[151]] #[{ accessFlags := 2, nameIndex := 5, descriptorIndex := 11, attributes := #[] }] 49 8 #[171] #[{ accessFlags := 26, nameIndex := 173, descriptorIndex := 19, attributes := #[] }, { accessFlags := 26, nameIndex := 175, descriptorIndex := 19, attributes := #[] }, { accessFlags := 130, nameIndex := 116, descriptorIndex := 117, attributes := #[] }, { accessFlags := 2, nameIndex := 18, descriptorIndex := 19, attributes := #[] }, { accessFlags := 2, nameIndex := 22, descriptorIndex := 19, attributes := #[] }, { accessFlags := 2, nameIndex := 25, descriptorIndex := 19, attributes := #[] }, { accessFlags := 2, nameIndex := 38, descriptorIndex := 19, attributes := #[] }, { accessFlags := 2, nameIndex := 43, descriptorIndex := 19, attributes := #[] }, { accessFlags := 2, nameIndex := 46, descriptorIndex := 19, attributes := #[] }, { accessFlags := 2, nameIndex := 49, descriptorIndex := 50, attributes := #[] }, { accessFlags := 2, nameIndex := 14, descriptorIndex := 15, attributes := #[] }, { accessFlags := 26, nameIndex := 178, descriptorIndex := 15, attributes := #[] }, { accessFlags := 26, nameIndex := 180, descriptorIndex := 15, attributes := #[] }, { accessFlags := 26, nameIndex := 182, descriptorIndex := 183, attributes := #[] }])
  fields := #[{ name := "NATIVE_METHOD", type := (.object "java/lang/String"), accessFlags := 26, slot := 0, constantValue := 0 }, { name := "UNKNOWN_SOURCE", type := (.object "java/lang/String"), accessFlags := 26, slot := 1, constantValue := 0 }, { name := "declaringClassObject", type := (.object "java/lang/Class"), accessFlags := 130, slot := 0, constantValue := 0 }, { name := "classLoaderName", type := (.object "java/lang/String"), accessFlags := 2, slot := 1, constantValue := 0 }, { name := "moduleName", type := (.object "java/lang/String"), accessFlags := 2, slot := 2, constantValue := 0 }, { name := "moduleVersion", type := (.object "java/lang/String"), accessFlags := 2, slot := 3, constantValue := 0 }, { name := "declaringClass", type := (.object "java/lang/String"), accessFlags := 2, slot := 4, constantValue := 0 }, { name := "methodName", type := (.object "java/lang/String"), accessFlags := 2, slot := 5, constantValue := 0 }, { name := "fileName", type := (.object "java/lang/String"), accessFlags := 2, slot := 6, constantValue := 0 }, { name := "lineNumber", type := .int, accessFlags := 2, slot := 7, constantValue := 0 }, { name := "format", type := .byte, accessFlags := 2, slot := 8, constantValue := 0 }, { name := "BUILTIN_CLASS_LOADER", type := .byte, accessFlags := 26, slot := 2, constantValue := 0 }, { name := "JDK_NON_UPGRADEABLE_MODULE", type := .byte, accessFlags := 26, slot := 3, constantValue := 0 }, { name := "serialVersionUID", type := .long, accessFlags := 26, slot := 4, constantValue := 0 }]
  methods := #[k27m0]
  instanceTypes := #[(.object "java/lang/Class"), (.object "java/lang/String"), (.object "java/lang/String"), (.object "java/lang/String"), (.object "java/lang/String"), (.object "java/lang/String"), (.object "java/lang/String"), .int, .byte]
  staticTypes := #[(.object "java/lang/String"), (.object "java/lang/String"), .byte, .byte, .long]
  resolved := Array.replicate 235 none
  statics := none }

def pool28 : Array CpInfo := pool [(1, u "java/lang/Cloneable"), (0, .class_ 1), (0, u "java/lang/Object"), (0, .class_ 3)] 3

/-- java/lang/Cloneable -/
def k28 : Class := { plain "java/lang/Cloneable" (some 0) with
  accessFlags := 1537
  interfaces := #[]
  cf := some (fileOf pool28 2 #[] #[] 1537 4 #[] #[])
  fields := #[]
  methods := #[]
  instanceTypes := #[]
  staticTypes := #[]
  resolved := Array.replicate 8 none
  statics := none }

/-- the primitive byte -/
def k29 : Class := { plain "byte" none with kind := .primitive 'B', accessFlags := 0x411 }
/-- [B -/
def k30 : Class := { plain "[B" (some 0) with kind := .array 29 .byte, interfaces := #[28, 4], accessFlags := 1041 }

/-- the primitive char -/
def k31 : Class := { plain "char" none with kind := .primitive 'C', accessFlags := 0x411 }
/-- [C -/
def k32 : Class := { plain "[C" (some 0) with kind := .array 31 .char, interfaces := #[28, 4], accessFlags := 1041 }

/-- the primitive int -/
def k33 : Class := { plain "int" none with kind := .primitive 'I', accessFlags := 0x411 }
/-- [I -/
def k34 : Class := { plain "[I" (some 0) with kind := .array 33 .int, interfaces := #[28, 4], accessFlags := 1041 }

/-- [Ljava/lang/Object; -/
def k35 : Class := { plain "[Ljava/lang/Object;" (some 0) with kind := .array 0 (.object "java/lang/Object"), interfaces := #[28, 4], accessFlags := 1041 }

/-- [Ljava/lang/StackTraceElement; -/
def k36 : Class := { plain "[Ljava/lang/StackTraceElement;" (some 0) with kind := .array 27 (.object "java/lang/StackTraceElement"), interfaces := #[28, 4], accessFlags := 1041 }

/-- [Ljava/lang/Throwable; -/
def k37 : Class := { plain "[Ljava/lang/Throwable;" (some 0) with kind := .array 11 (.object "java/lang/Throwable"), interfaces := #[28, 4], accessFlags := 1041 }

def heap : Heap := #[{ cls := 7, slots := #[.ref 5, .ref 5, .ref 5, .ref 5, .ref 5, .ref 5, .ref 5, .ref 5, .ref 5, .ref 5, .ref 5, .ref 5, .ref 5, .null], vm := .statics 7 },
  { cls := 10, slots := #[.long 0, .int 1, .null, .int 0, .null, .int 0, .int 0], vm := .statics 10 },
  { cls := 11, slots := #[.long 0, .ref 8, .ref 9, .null, .null, .null, .null, .ref 10, .int 1], vm := .statics 11 },
  { cls := 15, slots := #[.int 0, .int 0, .int 0, .int 0, .int 0, .int 0, .int 0, .int 0, .null, .null, .ref 9, .null], vm := .statics 15 },
  { cls := 17, slots := #[.null, .null, .null], vm := .statics 17 },
  { cls := 7, slots := #[.null, .int 0, .int 0, .ref 6, .int 400], vm := .none },
  { cls := 10, slots := #[.ref 7, .int 0, .int 0, .int 0], vm := .none },
  { cls := 30, slots := #[.int 48], vm := .none },
  { cls := 36, slots := #[], vm := .none },
  { cls := 26, slots := #[.int 0], vm := .none },
  { cls := 37, slots := #[], vm := .none }]
def classes : Array Class := #[k0, k1, k2, k3, k4, k5, k6, k7, k8, k9, k10, k11, k12, k13, k14, k15, k16, k17, k18, k19, k20, k21, k22, k23, k24, k25, k26, k27, k28, k29, k30, k31, k32, k33, k34, k35, k36, k37]
def interned : List (Array UInt16 × Addr) := []
def slotsUsed : Nat := 56
def theMethod : MethodId := ⟨1, 1⟩
def args0 : Array Value := #[.int 5, .int 5, .int 5, .int 5]
def aboutOver (below : List Frame) : State where
  vm := { classes := classes, interned := interned.toArray }
  heap := heap
  slotsUsed := slotsUsed
  threads := #[{ frames := .invoking theMethod args0 :: below }]
def below0 : List Frame := [.native { method := ⟨0, 0⟩, args := #[] }]
def about1 : State := aboutOver below0
def p0 : Program := .bare "" "" ""
def e0 : Env := launch0.env 0 0 0
theorem w_frames : about1.frames = Frame.invoking theMethod args0 :: below0 := rfl
set_option maxRecDepth 65536 in
theorem w_args : argsFit about1.vm theMethod args0 = true := by decide +kernel
set_option maxRecDepth 65536 in
theorem w_heap : heapFits about1 = true := by decide +kernel
set_option maxRecDepth 65536 in
theorem w_runnable : about1.curStatus? = some .runnable := by decide +kernel
set_option maxRecDepth 65536 in
theorem w_alone : about1.alone = true := by decide +kernel
set_option maxRecDepth 65536 in
theorem w_named : about1.methodNamed? x = some theMethod := by decide +kernel
set_option maxRecDepth 65536 in
theorem w_hears : about1.hears theMethod below0 = true := by decide +kernel
set_option maxRecDepth 65536 in
theorem w_ripe : about1.ripe theMethod args0 below0 = true := by decide +kernel
theorem w_running : about1.status = .running := rfl
set_option maxRecDepth 65536 in
theorem w_room : about1.hasRoom e0.platform room_1 = true :=
  launch0.hasRoom_least _ room_1 (by decide +kernel) (by decide +kernel) (by decide +kernel) (by decide +kernel) (by decide +kernel) (by decide +kernel)
theorem allAtoms_all (ts : List Jvm.Cond) (a : Array Jvm.Value) (st : Jvm.State) : (allAtoms ts).before a st = ts.all (fun c => c.before a st) := by
  induction ts with
  | nil => rfl
  | cons c t ih =>
    show (Jvm.Cond.and c (allAtoms t)).before a st = _
    rw [Jvm.Cond.before_and, ih, List.all_cons]
def words1 : List Jvm.Cond := Jvm.Cond.code x code maxLocals ret :: tables_1
/-- a 'code' word, met by the world's own term for the bytes: nothing is compared byte by byte -/
theorem code_word {y : MethodName} {bytes : ByteArray} {mx : Nat} {rt : Option FieldType} {a : Array Value} {s : State} {m : MethodId} {meth : Method} {c : Code} (h1 : s.methodNamed? y = some m) (h2 : s.vm.method? m = some meth) (h3 : meth.code = some c) (h4 : c.code = bytes)
    (h5 : (c.maxLocals == mx && c.exceptionTable.isEmpty && decide (c.maxStack ≤ mostOperands) && decide (meth.sig.returnType = rt) && !meth.locks && decide (parseMethodDescriptor y.desc = some meth.sig)) = true) : (Jvm.Cond.code y bytes mx rt).before a s = true := by
  simp only [Bool.and_eq_true, beq_iff_eq, Bool.not_eq_true', decide_eq_true_eq] at h5
  obtain ⟨⟨⟨⟨⟨g1, g2⟩, g3⟩, g4⟩, g5⟩, g6⟩ := h5
  simp [Cond.before, Cond.holds, Cond.value, h1, h2, h3, h4, g1, g2, g3, g4, g5, g6]
def isCode : Jvm.Cond → Bool
  | .code _ _ _ _ => true
  | _ => false
theorem all_split {L : List Jvm.Cond} {P : Jvm.Cond → Bool} (h1 : L.all (fun c => isCode c || P c) = true) (h2 : ∀ c ∈ L.filter isCode, P c = true) : L.all P = true := by
  refine List.all_eq_true.mpr fun c hc => ?_
  have h := List.all_eq_true.mp h1 c hc
  rcases Bool.eq_false_or_eq_true (isCode c) with hi | hi
  · exact h2 c (List.mem_filter.mpr ⟨hc, hi⟩)
  · simpa [hi] using h
set_option maxRecDepth 65536 in
theorem w_c0 : (Jvm.Cond.code x code maxLocals ret).before args0 about1 = true := code_word (m := ⟨1, 1⟩) (meth := k1m1) (c := k1c1) (by decide +kernel) rfl rfl rfl (by decide +kernel)
set_option maxRecDepth 65536 in
theorem w_c1 : (Jvm.Cond.code ({ cls := "com/example/portcullis/portcullis/OAuthExceptionDescribedAsPinLaw", name := "code", desc := "(I)Lcom/example/portcullis/portcullis/ErrorCode;" } : Jvm.MethodName) method_4_code (1 : Nat) (Option.some (Jvm.ClassFile.FieldType.object "com/example/portcullis/portcullis/ErrorCode"))).before args0 about1 = true := code_word (m := ⟨1, 3⟩) (meth := k1m3) (c := k1c3) (by decide +kernel) rfl rfl rfl (by decide +kernel)
set_option maxRecDepth 65536 in
theorem w_c2 : (Jvm.Cond.code ({ cls := "com/example/portcullis/portcullis/OAuthExceptionDescribedAsPinLaw", name := "text", desc := "(I)Ljava/lang/String;" } : Jvm.MethodName) method_3_code (5 : Nat) (Option.some (Jvm.ClassFile.FieldType.object "java/lang/String"))).before args0 about1 = true := code_word (m := ⟨1, 2⟩) (meth := k1m2) (c := k1c2) (by decide +kernel) rfl rfl rfl (by decide +kernel)
set_option maxRecDepth 65536 in
theorem w_c3 : (Jvm.Cond.code ({ cls := "java/lang/String", name := "<init>", desc := "([C)V" } : Jvm.MethodName) jdk_42_method_3_code (2 : Nat) (Option.none : Option Jvm.ClassFile.FieldType)).before args0 about1 = true := code_word (m := ⟨10, 1⟩) (meth := k10m1) (c := k10c1) (by decide +kernel) rfl rfl rfl (by decide +kernel)
set_option maxRecDepth 65536 in
theorem w_c4 : (Jvm.Cond.code ({ cls := "java/lang/String", name := "<init>", desc := "([CIILjava/lang/Void;)V" } : Jvm.MethodName) jdk_42_method_149_code (6 : Nat) (Option.none : Option Jvm.ClassFile.FieldType)).before args0 about1 = true := code_word (m := ⟨10, 3⟩) (meth := k10m3) (c := k10c3) (by decide +kernel) rfl rfl rfl (by decide +kernel)
set_option maxRecDepth 65536 in
theorem w_c5 : (Jvm.Cond.code ({ cls := "java/lang/Object", name := "<init>", desc := "()V" } : Jvm.MethodName) object_method_1_code (1 : Nat) (Option.none : Option Jvm.ClassFile.FieldType)).before args0 about1 = true := code_word (m := ⟨0, 0⟩) (meth := k0m0) (c := k0c0) (by decide +kernel) rfl rfl rfl (by decide +kernel)
set_option maxRecDepth 65536 in
theorem w_c6 : (Jvm.Cond.code ({ cls := "com/example/portcullis/portcullis/OAuthException", name := "<init>", desc := "(Lcom/example/portcullis/portcullis/ErrorCode;ILjava/lang/String;)V" } : Jvm.MethodName) prog_13_method_2_code (4 : Nat) (Option.none : Option Jvm.ClassFile.FieldType)).before args0 about1 = true := code_word (m := ⟨13, 0⟩) (meth := k13m0) (c := k13c0) (by decide +kernel) rfl rfl rfl (by decide +kernel)
set_option maxRecDepth 65536 in
theorem w_c7 : (Jvm.Cond.code ({ cls := "java/lang/Exception", name := "<init>", desc := "(Ljava/lang/String;)V" } : Jvm.MethodName) jdk_59_method_2_code (2 : Nat) (Option.none : Option Jvm.ClassFile.FieldType)).before args0 about1 = true := code_word (m := ⟨12, 1⟩) (meth := k12m1) (c := k12c1) (by decide +kernel) rfl rfl rfl (by decide +kernel)
set_option maxRecDepth 65536 in
theorem w_c8 : (Jvm.Cond.code ({ cls := "java/lang/Throwable", name := "<init>", desc := "(Ljava/lang/String;)V" } : Jvm.MethodName) jdk_78_method_2_code (2 : Nat) (Option.none : Option Jvm.ClassFile.FieldType)).before args0 about1 = true := code_word (m := ⟨11, 1⟩) (meth := k11m1) (c := k11c1) (by decide +kernel) rfl rfl rfl (by decide +kernel)
set_option maxRecDepth 65536 in
theorem w_c9 : (Jvm.Cond.code ({ cls := "java/lang/Throwable", name := "<init>", desc := "()V" } : Jvm.MethodName) jdk_78_method_1_code (1 : Nat) (Option.none : Option Jvm.ClassFile.FieldType)).before args0 about1 = true := code_word (m := ⟨11, 0⟩) (meth := k11m0) (c := k11c0) (by decide +kernel) rfl rfl rfl (by decide +kernel)
set_option maxRecDepth 65536 in
theorem w_c10 : (Jvm.Cond.code ({ cls := "com/example/portcullis/portcullis/OAuthException", name := "describedAs", desc := "(Ljava/lang/String;)Lcom/example/portcullis/portcullis/OAuthException;" } : Jvm.MethodName) prog_13_method_4_code (2 : Nat) (Option.some (Jvm.ClassFile.FieldType.object "com/example/portcullis/portcullis/OAuthException"))).before args0 about1 = true := code_word (m := ⟨13, 1⟩) (meth := k13m1) (c := k13c1) (by decide +kernel) rfl rfl rfl (by decide +kernel)
set_option maxRecDepth 65536 in
theorem w_c11 : (Jvm.Cond.code ({ cls := "com/example/portcullis/portcullis/ErrorCode", name := "standardName", desc := "()Ljava/lang/String;" } : Jvm.MethodName) prog_11_method_4_code (1 : Nat) (Option.some (Jvm.ClassFile.FieldType.object "java/lang/String"))).before args0 about1 = true := code_word (m := ⟨7, 0⟩) (meth := k7m0) (c := k7c0) (by decide +kernel) rfl rfl rfl (by decide +kernel)
set_option maxRecDepth 65536 in
theorem w_c12 : (Jvm.Cond.code ({ cls := "com/example/portcullis/portcullis/OAuthException", name := "status", desc := "()I" } : Jvm.MethodName) prog_13_method_5_code (1 : Nat) (Option.some Jvm.ClassFile.FieldType.int)).before args0 about1 = true := code_word (m := ⟨13, 2⟩) (meth := k13m2) (c := k13c2) (by decide +kernel) rfl rfl rfl (by decide +kernel)
set_option maxRecDepth 65536 in
theorem w_c13 : (Jvm.Cond.code ({ cls := "com/example/portcullis/portcullis/OAuthException", name := "error", desc := "()Ljava/lang/String;" } : Jvm.MethodName) prog_13_method_6_code (1 : Nat) (Option.some (Jvm.ClassFile.FieldType.object "java/lang/String"))).before args0 about1 = true := code_word (m := ⟨13, 3⟩) (meth := k13m3) (c := k13c3) (by decide +kernel) rfl rfl rfl (by decide +kernel)
set_option maxRecDepth 65536 in
theorem w_c14 : (Jvm.Cond.code ({ cls := "java/lang/String", name := "equals", desc := "(Ljava/lang/Object;)Z" } : Jvm.MethodName) jdk_42_method_66_code (3 : Nat) (Option.some Jvm.ClassFile.FieldType.boolean)).before args0 about1 = true := code_word (m := ⟨10, 2⟩) (meth := k10m2) (c := k10c2) (by decide +kernel) rfl rfl rfl (by decide +kernel)
set_option maxRecDepth 65536 in
theorem w_c15 : (Jvm.Cond.code ({ cls := "java/lang/Throwable", name := "getMessage", desc := "()Ljava/lang/String;" } : Jvm.MethodName) jdk_78_method_6_code (1 : Nat) (Option.some (Jvm.ClassFile.FieldType.object "java/lang/String"))).before args0 about1 = true := code_word (m := ⟨11, 2⟩) (meth := k11m2) (c := k11c2) (by decide +kernel) rfl rfl rfl (by decide +kernel)
set_option maxRecDepth 65536 in
theorem w_c16 : (Jvm.Cond.code ({ cls := "java/lang/StringUTF16", name := "compress", desc := "([CII)[B" } : Jvm.MethodName) jdk_52_method_16_code (6 : Nat) (Option.some (Jvm.ClassFile.FieldType.array Jvm.ClassFile.FieldType.byte))).before args0 about1 = true := code_word (m := ⟨14, 2⟩) (meth := k14m2) (c := k14c2) (by decide +kernel) rfl rfl rfl (by decide +kernel)
set_option maxRecDepth 65536 in
theorem w_c17 : (Jvm.Cond.code ({ cls := "java/lang/StringUTF16", name := "compress", desc := "([CI[BII)I" } : Jvm.MethodName) jdk_52_method_21_code (7 : Nat) (Option.some Jvm.ClassFile.FieldType.int)).before args0 about1 = true := code_word (m := ⟨14, 3⟩) (meth := k14m3) (c := k14c3) (by decide +kernel) rfl rfl rfl (by decide +kernel)
set_option maxRecDepth 65536 in
theorem w_c18 : (Jvm.Cond.code ({ cls := "java/lang/StringUTF16", name := "coderFromArrayLen", desc := "([BI)B" } : Jvm.MethodName) jdk_52_method_15_code (2 : Nat) (Option.some Jvm.ClassFile.FieldType.byte)).before args0 about1 = true := code_word (m := ⟨14, 1⟩) (meth := k14m1) (c := k14c1) (by decide +kernel) rfl rfl rfl (by decide +kernel)
def codes1 : List Jvm.Cond := [Jvm.Cond.code x code maxLocals ret, Jvm.Cond.code ({ cls := "com/example/portcullis/portcullis/OAuthExceptionDescribedAsPinLaw", name := "code", desc := "(I)Lcom/example/portcullis/portcullis/ErrorCode;" } : Jvm.MethodName) method_4_code (1 : Nat) (Option.some (Jvm.ClassFile.FieldType.object "com/example/portcullis/portcullis/ErrorCode")), Jvm.Cond.code ({ cls := "com/example/portcullis/portcullis/OAuthExceptionDescribedAsPinLaw", name := "text", desc := "(I)Ljava/lang/String;" } : Jvm.MethodName) method_3_code (5 : Nat) (Option.some (Jvm.ClassFile.FieldType.object "java/lang/String")), Jvm.Cond.code ({ cls := "java/lang/String", name := "<init>", desc := "([C)V" } : Jvm.MethodName) jdk_42_method_3_code (2 : Nat) (Option.none : Option Jvm.ClassFile.FieldType), Jvm.Cond.code ({ cls := "java/lang/String", name := "<init>", desc := "([CIILjava/lang/Void;)V" } : Jvm.MethodName) jdk_42_method_149_code (6 : Nat) (Option.none : Option Jvm.ClassFile.FieldType), Jvm.Cond.code ({ cls := "java/lang/Object", name := "<init>", desc := "()V" } : Jvm.MethodName) object_method_1_code (1 : Nat) (Option.none : Option Jvm.ClassFile.FieldType), Jvm.Cond.code ({ cls := "com/example/portcullis/portcullis/OAuthException", name := "<init>", desc := "(Lcom/example/portcullis/portcullis/ErrorCode;ILjava/lang/String;)V" } : Jvm.MethodName) prog_13_method_2_code (4 : Nat) (Option.none : Option Jvm.ClassFile.FieldType), Jvm.Cond.code ({ cls := "java/lang/Exception", name := "<init>", desc := "(Ljava/lang/String;)V" } : Jvm.MethodName) jdk_59_method_2_code (2 : Nat) (Option.none : Option Jvm.ClassFile.FieldType), Jvm.Cond.code ({ cls := "java/lang/Throwable", name := "<init>", desc := "(Ljava/lang/String;)V" } : Jvm.MethodName) jdk_78_method_2_code (2 : Nat) (Option.none : Option Jvm.ClassFile.FieldType), Jvm.Cond.code ({ cls := "java/lang/Throwable", name := "<init>", desc := "()V" } : Jvm.MethodName) jdk_78_method_1_code (1 : Nat) (Option.none : Option Jvm.ClassFile.FieldType), Jvm.Cond.code ({ cls := "com/example/portcullis/portcullis/OAuthException", name := "describedAs", desc := "(Ljava/lang/String;)Lcom/example/portcullis/portcullis/OAuthException;" } : Jvm.MethodName) prog_13_method_4_code (2 : Nat) (Option.some (Jvm.ClassFile.FieldType.object "com/example/portcullis/portcullis/OAuthException")), Jvm.Cond.code ({ cls := "com/example/portcullis/portcullis/ErrorCode", name := "standardName", desc := "()Ljava/lang/String;" } : Jvm.MethodName) prog_11_method_4_code (1 : Nat) (Option.some (Jvm.ClassFile.FieldType.object "java/lang/String")), Jvm.Cond.code ({ cls := "com/example/portcullis/portcullis/OAuthException", name := "status", desc := "()I" } : Jvm.MethodName) prog_13_method_5_code (1 : Nat) (Option.some Jvm.ClassFile.FieldType.int), Jvm.Cond.code ({ cls := "com/example/portcullis/portcullis/OAuthException", name := "error", desc := "()Ljava/lang/String;" } : Jvm.MethodName) prog_13_method_6_code (1 : Nat) (Option.some (Jvm.ClassFile.FieldType.object "java/lang/String")), Jvm.Cond.code ({ cls := "java/lang/String", name := "equals", desc := "(Ljava/lang/Object;)Z" } : Jvm.MethodName) jdk_42_method_66_code (3 : Nat) (Option.some Jvm.ClassFile.FieldType.boolean), Jvm.Cond.code ({ cls := "java/lang/Throwable", name := "getMessage", desc := "()Ljava/lang/String;" } : Jvm.MethodName) jdk_78_method_6_code (1 : Nat) (Option.some (Jvm.ClassFile.FieldType.object "java/lang/String")), Jvm.Cond.code ({ cls := "java/lang/StringUTF16", name := "compress", desc := "([CII)[B" } : Jvm.MethodName) jdk_52_method_16_code (6 : Nat) (Option.some (Jvm.ClassFile.FieldType.array Jvm.ClassFile.FieldType.byte)), Jvm.Cond.code ({ cls := "java/lang/StringUTF16", name := "compress", desc := "([CI[BII)I" } : Jvm.MethodName) jdk_52_method_21_code (7 : Nat) (Option.some Jvm.ClassFile.FieldType.int), Jvm.Cond.code ({ cls := "java/lang/StringUTF16", name := "coderFromArrayLen", desc := "([BI)B" } : Jvm.MethodName) jdk_52_method_15_code (2 : Nat) (Option.some Jvm.ClassFile.FieldType.byte)]
set_option maxRecDepth 65536 in
theorem codes_eq : words1.filter isCode = codes1 := rfl
theorem w_codes : ∀ c ∈ words1.filter isCode, c.before args0 about1 = true := by
  rw [codes_eq]
  intro c hc
  simp only [codes1, List.mem_cons, List.not_mem_nil, or_false] at hc
  rcases hc with rfl | rfl | rfl | rfl | rfl | rfl | rfl | rfl | rfl | rfl | rfl | rfl | rfl | rfl | rfl | rfl | rfl | rfl | rfl
  · exact w_c0
  · exact w_c1
  · exact w_c2
  · exact w_c3
  · exact w_c4
  · exact w_c5
  · exact w_c6
  · exact w_c7
  · exact w_c8
  · exact w_c9
  · exact w_c10
  · exact w_c11
  · exact w_c12
  · exact w_c13
  · exact w_c14
  · exact w_c15
  · exact w_c16
  · exact w_c17
  · exact w_c18
set_option maxRecDepth 65536 in
theorem w_t1 : (words1.take 24).all (fun c => isCode c || c.before args0 about1) = true := by decide +kernel
set_option maxRecDepth 65536 in
theorem w_t2 : ((words1.drop 24).take 24).all (fun c => isCode c || c.before args0 about1) = true := by decide +kernel
set_option maxRecDepth 65536 in
theorem w_t3 : (((words1.drop 24).drop 24).take 24).all (fun c => isCode c || c.before args0 about1) = true := by decide +kernel
set_option maxRecDepth 65536 in
theorem w_t4 : ((((words1.drop 24).drop 24).drop 24).take 24).all (fun c => isCode c || c.before args0 about1) = true := by decide +kernel
set_option maxRecDepth 65536 in
theorem w_t5 : (((((words1.drop 24).drop 24).drop 24).drop 24).take 24).all (fun c => isCode c || c.before args0 about1) = true := by decide +kernel
set_option maxRecDepth 65536 in
theorem w_t6 : ((((((words1.drop 24).drop 24).drop 24).drop 24).drop 24).take 24).all (fun c => isCode c || c.before args0 about1) = true := by decide +kernel
set_option maxRecDepth 65536 in
theorem w_t7 : ((((((words1.drop 24).drop 24).drop 24).drop 24).drop 24).drop 24).all (fun c => isCode c || c.before args0 about1) = true := by decide +kernel
theorem w_tables : (allAtoms (Jvm.Cond.code x code maxLocals ret :: tables_1)).before args0 about1 = true := by
  rw [allAtoms_all]
  show words1.all (fun c => c.before args0 about1) = true
  refine all_split ?_ w_codes
  rw [← List.take_append_drop 24 words1, List.all_append, w_t1, ← List.take_append_drop 24 (words1.drop 24), List.all_append, w_t2, ← List.take_append_drop 24 ((words1.drop 24).drop 24), List.all_append, w_t3, ← List.take_append_drop 24 (((words1.drop 24).drop 24).drop 24), List.all_append, w_t4, ← List.take_append_drop 24 ((((words1.drop 24).drop 24).drop 24).drop 24), List.all_append, w_t5, ← List.take_append_drop 24 (((((words1.drop 24).drop 24).drop 24).drop 24).drop 24), List.all_append, w_t6, w_t7]
  rfl
set_option maxRecDepth 65536 in
theorem w_rest : rest_1_c.before args0 about1 = true := by decide +kernel
set_option maxRecDepth 65536 in
theorem w_case : (Jvm.Cond.and given_1 narrow_1).before args0 about1 = true := by decide +kernel
set_option maxRecDepth 65536 in
theorem w_consts : constsHeld consts_1 about1 := Jvm.Lit.constsHeldB_iff.mp (by decide +kernel)
theorem w_applies : (headSpec (Jvm.Cond.code x code maxLocals ret :: tables_1) room_1).applies x e0.platform about1 = true :=
  (Spec.applies_iff w_frames).mpr ⟨w_running, w_runnable, w_alone, w_named, w_hears, w_ripe, w_room, w_tables⟩
theorem atStart : AtStart classFile x code maxLocals ret World_1 tables_1 room_1 Calls_1 rest_1 Pre_1 launch0 p0 e0 about1 theMethod args0 below0 :=
  ⟨lists_1, trivial, launch0.admits_env _ _ _, launch0.least_env, fairChoices_fair.cas, fairChoices_fair.clock, w_frames, w_args, w_heap, w_applies, ⟨(by decide +kernel : framesKnown about1 = true), ⟨(by decide +kernel : tablesKnown about1 = true), ⟨w_consts, trivial⟩⟩⟩, w_rest, w_case⟩
end start1
theorem witness_1 : WitnessClaimed_1 := ⟨start1.p0, start1.e0, start1.about1, start1.theMethod, start1.args0, start1.below0, start1.atStart⟩
end Jvm.Pilot.@@N@@
